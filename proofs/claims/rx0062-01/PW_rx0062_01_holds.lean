import PyProof.Rows.All
import Wide.All
import OpenK.AllK
import Wide.FinOn
import Lean
import PySem.Challenge.RW_rx0062_01
open PySem PySem.Calls PyProof.Rows PySem.W PySem.W.X
set_option Elab.async false
set_option linter.all false
set_option maxRecDepth 100000
set_option maxHeartbeats 8000000
namespace Mine
local macro_rules | `(tactic| omega) => `(tactic| first | lia | omega +splitDisjunctions)
/-- the statements of the text that the head keeps in view -/
noncomputable def vw : Program := view PySem.Challenge.pw_rx0062_01 [0, 1, 4, 6, 7, 9, 10, 12, 13, 15, 17, 19, 20, 22, 24, 26, 27, 28, 29, 31, 32, 33, 34, 35, 36, 37, 38, 39, 40, 41]
theorem ws : PySem.Challenge.rw_rx0062_01.wellSaid = true := (congrFun PySem.W.Fast.te9446332074065402090 PySem.Challenge.rw_rx0062_01).trans (by kernel_rfl)
set_option hygiene false
local macro_rules | `(tactic| o_law) => `(tactic| refine holds_law Mine.ws fun said => ?_)
local macro_rules | `(tactic| o_head $H) => `(tactic|
  refine (fun hw (h : _ ∧ _) => holds_open (q := Mine.vw) (loose := [Str.ofString "_deduplicate", Str.ofString "_twin_re_1", Str.ofString "_special_chars_map"]) (Xt := fun s => xlAt Mine.vw [] s && recOk (RowW.records _) s) (XP := XL Mine.vw []) (Yf := Hook.obs $H) (Ya := Hook.val $H) (YP := Hook.says $H) (N := 5630) h.1 (Hook.of $H) (Hook.keeps $H) (fun s e => xl_of s (Bool.and_eq_true_iff.mp e).1) XL.keeps (by rfl) (by rfl) (by rfl) (fun s e => recFacts_of (Bool.and_eq_true_iff.mp e).2) (by rfl) (by first | assumption | decide +kernel) (by decide +kernel) ⟨rfl, rfl, rfl, rfl, rfl, by decide +kernel⟩ hw h.2) ?hw ?hc)
set_option hygiene true
open_top hd for PySem.Challenge.rw_rx0062_01
/-- what is looked up behind the top -/
noncomputable def hk : Hook := kmHook hd.heap_1 [2, 3, 32, 34, 35, 37, 38, 39, 40, 42, 43, 45, 46, 47, 49, 50, 52, 53, 57, 58, 59, 61, 62, 64, 65, 67, 71, 73, 74, 76, 77, 78, 80, 81, 83, 84, 85, 87, 88, 90, 91, 92, 94, 95, 97, 98, 99, 106, 108, 109, 111, 112, 113, 114, 115, 118, 125, 127, 128, 130, 131, 132, 134, 135, 137, 138, 139, 141, 142, 144, 145, 146, 147, 148, 151, 153, 154, 156, 157, 158, 160, 161, 163, 164, 165, 167, 168, 170, 171, 172, 174, 175, 177, 178, 179, 181, 182, 184, 185, 186, 188, 189, 191, 192, 193, 195, 196, 198, 199, 200, 202, 203, 205, 206, 207, 209, 210, 212, 213, 214, 217, 218, 219, 222, 223, 224, 227, 228, 229, 231, 232, 234, 235, 236, 238, 239, 241, 242, 243, 245, 246, 248, 249, 250, 253, 254, 255, 258, 259, 260, 263, 264] (fun _ => by kernel_rfl) [244, 79]
/-- the top, run in a world that answers its two questions so -/
noncomputable def Leaf (a b : Bool) : Prop := ∀ w : World, (openEnds treeTable PySem.Challenge.rw_rx0062_01.row.prog ((w.withFollow "special-get-raises" b).withFollow "comprehension-iter-twice" a) 5630).map (fun s => (openSeen vw [Str.ofString "_deduplicate", Str.ofString "_twin_re_1", Str.ofString "_special_chars_map"] (importedModules PySem.Challenge.rw_rx0062_01.row.prog.main.body) (fun s => xlAt vw [] s && recOk (RowW.records PySem.Challenge.rw_rx0062_01.row.toRowW) s) true s, hk.obs s)) =
  some (openGood vw [Str.ofString "_deduplicate", Str.ofString "_twin_re_1", Str.ofString "_special_chars_map"], hk.val ((w.withFollow "special-get-raises" b).withFollow "comprehension-iter-twice" a))
theorem leaf_ff : Leaf false false := fun w => by
  unfold openEnds fencedOpening topFrom
  rewrite [PySem.W.Fast.te14364793385576792824, PySem.W.Fast.te4187177175401517315, PySem.W.Fast.te14082659384304107361, PySem.W.Fast.te10274390034422433532, PySem.W.Fast.te14289696077712309145, PySem.W.Fast.te1435165496053646825, PySem.W.Fast.te5923862056798008813]
  kernel_rfl
theorem leaf_ft : Leaf false true := fun w => by
  unfold openEnds fencedOpening topFrom
  rewrite [PySem.W.Fast.te14364793385576792824, PySem.W.Fast.te4187177175401517315, PySem.W.Fast.te14082659384304107361, PySem.W.Fast.te10274390034422433532, PySem.W.Fast.te14289696077712309145, PySem.W.Fast.te1435165496053646825, PySem.W.Fast.te5923862056798008813]
  kernel_rfl
theorem leaf_tf : Leaf true false := fun w => by
  unfold openEnds fencedOpening topFrom
  rewrite [PySem.W.Fast.te14364793385576792824, PySem.W.Fast.te4187177175401517315, PySem.W.Fast.te14082659384304107361, PySem.W.Fast.te10274390034422433532, PySem.W.Fast.te14289696077712309145, PySem.W.Fast.te1435165496053646825, PySem.W.Fast.te5923862056798008813]
  kernel_rfl
theorem leaf_tt : Leaf true true := fun w => by
  unfold openEnds fencedOpening topFrom
  rewrite [PySem.W.Fast.te14364793385576792824, PySem.W.Fast.te4187177175401517315, PySem.W.Fast.te14082659384304107361, PySem.W.Fast.te10274390034422433532, PySem.W.Fast.te14289696077712309145, PySem.W.Fast.te1435165496053646825, PySem.W.Fast.te5923862056798008813]
  kernel_rfl
theorem leaves : LeftO PySem.Challenge.rw_rx0062_01.row.prog vw [Str.ofString "_deduplicate", Str.ofString "_twin_re_1", Str.ofString "_special_chars_map"] (fun s => xlAt vw [] s && recOk (RowW.records PySem.Challenge.rw_rx0062_01.row.toRowW) s) hk.obs hk.val 5630 :=
  byRow2 "comprehension-iter-twice" (byRow2 "special-get-raises" leaf_ff leaf_ft) (byRow2 "special-get-raises" leaf_tf leaf_tt)
/-- a value less its token -/
noncomputable def nv : Value → Value
  | .int i _ => .int i 0
  | .float b _ => .float b 0
  | .str s _ => .str s 0
  | .bytes b _ => .bytes b 0
  | v => v
noncomputable abbrev I (i : Int) : Value := .int i 0
noncomputable abbrev S (x : Str) : Value := .str x 0

theorem nv_int {v : Value} {i : Int} (h : nv v = .int i 0) : ∃ t, v = .int i t := by cases v <;> simp [nv] at h; exact ⟨_, by rw [h]⟩
theorem nv_str {v : Value} {x : Str} (h : nv v = .str x 0) : ∃ t, v = .str x t := by cases v <;> simp [nv] at h; exact ⟨_, by rw [h]⟩
theorem nv_bool {v : Value} {b : Bool} (h : nv v = .bool b) : v = .bool b := by cases v <;> simp [nv] at h; rw [h]
theorem nv_none {v : Value} (h : nv v = .none) : v = .none := by cases v <;> simp [nv] at h; rfl
theorem nv_ref {v : Value} {a : Addr} (h : nv v = .ref a) : v = .ref a := by cases v <;> simp [nv] at h; rw [h]
theorem nv_builtin {v : Value} {a : String} (h : nv v = .builtin a) : v = .builtin a := by cases v <;> simp [nv] at h; rw [h]
theorem nv_type {v : Value} {a : String} (h : nv v = .type a) : v = .type a := by cases v <;> simp [nv] at h; rw [h]
/-- what an object holds -/
inductive O where
  | list (ds : List Value)
  | tuple (ds : List Value)
  | cell (d : Option Value)
  | dict (es : List (Str × Value))
  | raw (o : Obj)

noncomputable def Holds (P : Program × World) (h : Heap) (a : Addr) : O → Prop
  | .list ds => ∃ vs : List Value, h.PlainList a vs.toArray ∧ vs.map nv = ds
  | .tuple ds => ∃ vs : List Value, h.IsTuple a vs.toArray ∧ vs.map nv = ds
  | .cell d => ∃ v, h.IsCell a v ∧ v.map nv = d
  | .dict es => ∃ kvs : List (Str × Value), h.DictOf (PySem.strKind P.1 P.2) a kvs ∧ kvs.map (fun x => (x.1, nv x.2)) = es ∧ (a == sysModules) = false
  | .raw o => h.get? a = some o

theorem Holds.at {P : Program × World} {h h' : Heap} {a : Addr} {o : O} (x : Holds P h a o) (k : ∀ ob, h.get? a = some ob → h'.get? a = some ob) : Holds P h' a o := by
  cases o with
  | list ds => obtain ⟨vs, hl, e⟩ := x; exact ⟨vs, hl.at k, e⟩
  | tuple ds => obtain ⟨vs, ⟨o, ho, hc, n, hd⟩, e⟩ := x; exact ⟨vs, ⟨o, k o ho, hc, n, hd⟩, e⟩
  | cell d => obtain ⟨v, ⟨o, ho, hd⟩, e⟩ := x; exact ⟨v, ⟨o, k o ho, hd⟩, e⟩
  | dict es => obtain ⟨l, ⟨o, es', ep, ho, r⟩, e, lo⟩ := x; exact ⟨l, ⟨o, es', ep, k _ ho, r⟩, e, lo⟩
  | raw o => exact k _ x

theorem Holds.live {P : Program × World} {h : Heap} {a : Addr} {o : O} (x : Holds P h a o) : ∃ ob, h.get? a = some ob := by
  cases o with
  | list ds => obtain ⟨vs, ⟨n, e⟩, _⟩ := x; exact ⟨_, e⟩
  | tuple ds => obtain ⟨vs, ⟨o, ho, _⟩, _⟩ := x; exact ⟨_, ho⟩
  | cell d => obtain ⟨v, ⟨o, ho, _⟩, _⟩ := x; exact ⟨_, ho⟩
  | dict es => obtain ⟨l, ⟨o, es', ep, ho, r⟩, _⟩ := x; exact ⟨_, ho⟩
  | raw o => exact ⟨o, x⟩
/-- locals, own objects (they may be changed), known objects (they stay) -/
structure St where
  m : List (Str × Value)
  own : List (Addr × O)
  kn : List (Addr × O)

noncomputable abbrev St.put (a : Addr) (ob : O) : St → St
  | ⟨m, o, k⟩ => ⟨m, (a, ob) :: o, k⟩
noncomputable abbrev St.setm (x : Str) (d : Value) : St → St
  | ⟨m, o, k⟩ => ⟨(x, d) :: m, o, k⟩
noncomputable abbrev St.seto (i : Nat) (p : Addr × O) : St → St
  | ⟨m, o, k⟩ => ⟨m, o.set i p, k⟩
noncomputable abbrev St.enter (ms : List (Str × Value)) (ow : List (Addr × O)) : St → St
  | ⟨_, o, k⟩ => ⟨ms, ow, o ++ k⟩
noncomputable abbrev St.leave : St → St → St
  | ⟨m, o, k⟩, ⟨_, o', _⟩ => ⟨m, o' ++ o, k⟩

/-- the ground of a law: the heap at its start; the tables of code that may grow -/
structure Gd where
  prog : Program
  w : World
  h₀ : Heap
  Tb : List Addr

structure Sat (G : Gd) (L : Addr) (σ : St) (s : Shared) : Prop where
  base : ∀ b o, G.h₀.get? b = some o → b ∉ G.Tb → s.heap.get? b = some o
  tabs : ∀ P ∈ G.Tb, ∃ vs more, G.h₀.get? P = some (tableObj vs) ∧ s.heap.get? P = some (tableObj (vs ++ more))
  loc : ∃ m, s.heap.Ns L m ∧ ∀ x d, σ.m.lookup x = some d → ∃ v, m x = some v ∧ nv v = d
  locNew : G.h₀.get? L = none
  own : ∀ p ∈ σ.own, Holds (G.prog, G.w) s.heap p.1 p.2 ∧ p.1 ≠ L ∧ G.h₀.get? p.1 = none
  kn : ∀ p ∈ σ.kn, Holds (G.prog, G.w) s.heap p.1 p.2 ∧ p.1 ≠ L ∧ p.1 ∉ G.Tb ∧ p.1 ∉ σ.own.map (·.1)
  nd : (σ.own.map (·.1)).Nodup

structure Step (G : Gd) (L : Addr) (σ : St) (s : Shared) (σ' : St) (s' : Shared) : Prop where
  same : ∃ h g t, s' = { s with heap := h, gens := g, toks := t }
  bare : AllBare s.gens → AllBare s'.gens
  keep : ∀ b o, s.heap.get? b = some o → b ≠ L → b ∉ σ.own.map (·.1) → b ∉ G.Tb → s'.heap.get? b = some o
  live : ∀ b o, s.heap.get? b = some o → ∃ o', s'.heap.get? b = some o'
  new : ∀ a ∈ σ'.own.map (·.1), a ∈ σ.own.map (·.1) ∨ s.heap.get? a = none
  newK : ∀ a ∈ σ'.kn.map (·.1), a ∈ σ.own.map (·.1) ∨ a ∈ σ.kn.map (·.1) ∨ s.heap.get? a = none ∨ G.h₀.get? a ≠ none

section
variable {G : Gd} {L : Addr} {σ σ₁ σ₂ : St} {s s₁ s₂ : Shared}
theorem Step.rfl' : Step G L σ s σ s := ⟨⟨_, _, _, rfl⟩, id, fun _ _ e _ _ _ => e, fun _ o e => ⟨o, e⟩, fun _ h => .inl h, fun _ h => .inr (.inl h)⟩
theorem Step.live_none (a : Step G L σ s σ₁ s₁) {q : Addr} (h : s₁.heap.get? q = none) : s.heap.get? q = none := by
  cases e : s.heap.get? q with
  | none => rfl
  | some o => obtain ⟨o1, e1⟩ := a.live q o e; rw [e1] at h; cases h
theorem Step.trans (a : Step G L σ s σ₁ s₁) (b : Step G L σ₁ s₁ σ₂ s₂) : Step G L σ s σ₂ s₂ := by
  refine ⟨?_, fun x => b.bare (a.bare x), fun q o e hL ho ht => ?_, fun q o e => ?_, fun q hq => ?_, fun q hq => ?_⟩
  · obtain ⟨h, g, t, rfl⟩ := a.same
    obtain ⟨h', g', t', rfl⟩ := b.same
    exact ⟨_, _, _, rfl⟩
  · have e1 := a.keep q o e hL ho ht
    refine b.keep q o e1 hL (fun hm => ?_) ht
    rcases a.new q hm with h1 | h1
    · exact ho h1
    · rw [e] at h1; cases h1
  · obtain ⟨o1, e1⟩ := a.live q o e
    exact b.live q o1 e1
  · rcases b.new q hq with h1 | h1
    · exact a.new q h1
    · exact .inr (a.live_none h1)
  · rcases b.newK q hq with h1 | h1 | h1 | h1
    · rcases a.new q h1 with h2 | h2
      · exact .inl h2
      · exact .inr (.inr (.inl h2))
    · exact a.newK q h1
    · exact .inr (.inr (.inl (a.live_none h1)))
    · exact .inr (.inr (.inr h1))

/-- nothing that is told of turns -/
theorem Sat.keeps (x : Sat G L σ s) {h : Heap} {t : Nat} {g : Array GenState} (k : ∀ b o, s.heap.get? b = some o → h.get? b = some o) : Sat G L σ { s with heap := h, gens := g, toks := t } where
  base := fun b o e ht => k _ _ (x.base b o e ht)
  tabs := fun P hP => let ⟨vs, more, e1, e2⟩ := x.tabs P hP; ⟨vs, more, e1, k _ _ e2⟩
  loc := let ⟨m, hn, hm⟩ := x.loc; ⟨m, hn.keeps k, hm⟩
  locNew := x.locNew
  own := fun p hp => ⟨(x.own p hp).1.at fun _ e => k _ _ e, (x.own p hp).2⟩
  kn := fun p hp => ⟨(x.kn p hp).1.at fun _ e => k _ _ e, (x.kn p hp).2⟩
  nd := x.nd
theorem Step.keeps {h : Heap} {t : Nat} (k : ∀ b o, s.heap.get? b = some o → h.get? b = some o) : Step G L σ s σ { s with heap := h, toks := t } :=
  ⟨⟨_, _, _, rfl⟩, id, fun b o e _ _ _ => k b o e, fun b o e => ⟨o, k b o e⟩, fun _ h => .inl h, fun _ h => .inr (.inl h)⟩
theorem Sat.tok (x : Sat G L σ s) (t : Nat) : Sat G L σ { s with toks := t } := x.keeps (h := s.heap) (g := s.gens) fun _ _ e => e
theorem Step.tok (t : Nat) : Step G L σ s σ { s with toks := t } := Step.keeps (h := s.heap) fun _ _ e => e

theorem Sat.lt (x : Sat G L σ s) {b : Addr} {o : Obj} (e : G.h₀.get? b = some o) : ∃ o', s.heap.get? b = some o' := by
  by_cases ht : b ∈ G.Tb
  · obtain ⟨vs, more, e1, e2⟩ := x.tabs b ht
    exact ⟨_, e2⟩
  · exact ⟨o, x.base b o e ht⟩
/-- a new object, told of as own -/
theorem Sat.add (x : Sat G L σ s) {h : Heap} {t : Nat} {a : Addr} {o : O} (k : ∀ b o, s.heap.get? b = some o → h.get? b = some o) (hn : s.heap.get? a = none) (ho : Holds (G.prog, G.w) h a o) :
    Sat G L { σ with own := (a, o) :: σ.own } { s with heap := h, toks := t } := by
  have y := x.keeps (t := t) (g := s.gens) k
  have h0 : G.h₀.get? a = none := by
    cases e : G.h₀.get? a with
    | none => rfl
    | some ob => obtain ⟨o', e'⟩ := x.lt e; rw [hn] at e'; cases e'
  have hL : a ≠ L := by
    rintro rfl
    obtain ⟨m, ⟨ob, _, _, e, _⟩, _⟩ := x.loc
    rw [hn] at e; cases e
  refine ⟨y.base, y.tabs, y.loc, y.locNew, fun p hp => ?_, fun p hp => ?_, ?_⟩
  · rcases List.mem_cons.mp hp with rfl | hp
    · exact ⟨ho, hL, h0⟩
    · exact y.own p hp
  · refine ⟨(y.kn p hp).1, (y.kn p hp).2.1, (y.kn p hp).2.2.1, fun hm => ?_⟩
    rcases List.mem_cons.mp hm with e | hm
    · obtain ⟨ob, e'⟩ := (x.kn p hp).1.live
      rw [e, hn] at e'; cases e'
    · exact (y.kn p hp).2.2.2 hm
  · refine List.nodup_cons.mpr ⟨fun hm => ?_, x.nd⟩
    obtain ⟨p, hp, e⟩ := List.mem_map.mp hm
    obtain ⟨ob, e'⟩ := (x.own p hp).1.live
    rw [e, hn] at e'; cases e'
theorem Step.add {h : Heap} {t : Nat} {a : Addr} {o : O} (k : ∀ b o, s.heap.get? b = some o → h.get? b = some o) (hn : s.heap.get? a = none) : Step G L σ s { σ with own := (a, o) :: σ.own } { s with heap := h, toks := t } :=
  ⟨⟨_, _, _, rfl⟩, id, fun b o e _ _ _ => k b o e, fun b o e => ⟨o, k b o e⟩, fun b hb => by
    rcases List.mem_cons.mp hb with rfl | hb
    · exact .inr hn
    · exact .inl hb, fun _ h => .inr (.inl h)⟩

theorem set_fst {l : List (Addr × O)} {i : Nat} {a : Addr} {o o' : O} (hi : l[i]? = some (a, o)) : (l.set i (a, o')).map (·.1) = l.map (·.1) := by
  rw [List.map_set]
  have h2 : (l.map (·.1))[i]? = some a := by rw [List.getElem?_map, hi]; rfl
  obtain ⟨l1, e1⟩ := List.getElem?_eq_some_iff.mp h2
  conv => lhs; rw [show ((a, o').1) = (l.map (·.1))[i] from e1.symm]
  exact List.set_getElem_self l1
theorem key_at {l : List (Addr × O)} (nd : (l.map (·.1)).Nodup) {i : Nat} {a : Addr} {o : O} (hi : l[i]? = some (a, o)) {j : Nat} {p : Addr × O} (hj : l[j]? = some p) (e : p.1 = a) : j = i := by
  have h1 : (l.map (·.1))[i]? = some a := by rw [List.getElem?_map, hi]; rfl
  have h2 : (l.map (·.1))[j]? = some a := by rw [List.getElem?_map, hj, ← e]; rfl
  exact (List.getElem?_inj (List.getElem?_eq_some_iff.mp h2).1 nd).mp (h2.trans h1.symm)

/-- an own object turned -/
theorem Sat.upd (x : Sat G L σ s) {h : Heap} {t : Nat} {i : Nat} {a : Addr} {o o' : O} (hi : σ.own[i]? = some (a, o)) (hs : Heap.SameBut a s.heap h) (ho : Holds (G.prog, G.w) h a o') :
    Sat G L { σ with own := σ.own.set i (a, o') } { s with heap := h, toks := t } := by
  have hm : (a, o) ∈ σ.own := List.mem_of_getElem? hi
  obtain ⟨_, haL, ha0⟩ := x.own _ hm
  have keep : ∀ b ob, b ≠ a → s.heap.get? b = some ob → h.get? b = some ob := fun b ob hb e => (hs.2 b hb).trans e
  have na : ∀ b ob, G.h₀.get? b = some ob → b ≠ a := fun b ob e => by rintro rfl; rw [ha0] at e; cases e
  refine ⟨fun b ob e ht => keep b ob (na b ob e) (x.base b ob e ht), fun P hP => ?_, ?_, x.locNew, fun p hp => ?_, fun p hp => ?_, ?_⟩
  · obtain ⟨vs, more, e1, e2⟩ := x.tabs P hP
    exact ⟨vs, more, e1, keep P _ (na P _ e1) e2⟩
  · obtain ⟨m, hn, hm'⟩ := x.loc
    exact ⟨m, hn.sameBut hs haL.symm, hm'⟩
  · obtain ⟨j, hj, ej⟩ := List.mem_iff_getElem.mp hp
    have hj' : (σ.own.set i (a, o'))[j]? = some p := by rw [List.getElem?_eq_getElem hj, ej]
    rw [List.getElem?_set] at hj'
    split at hj'
    · split at hj'
      · cases hj'; exact ⟨ho, haL, ha0⟩
      · cases hj'
    · rename_i hne
      have hpm := List.mem_of_getElem? hj'
      have hpa : p.1 ≠ a := fun e => hne (key_at x.nd hi hj' e).symm
      exact ⟨(x.own p hpm).1.at fun ob e => keep _ _ hpa e, (x.own p hpm).2⟩
  · have hpa : p.1 ≠ a := fun e => (x.kn p hp).2.2.2 (e ▸ List.mem_map.mpr ⟨_, hm, rfl⟩)
    exact ⟨(x.kn p hp).1.at fun ob e => keep _ _ hpa e, (x.kn p hp).2.1, (x.kn p hp).2.2.1, by rw [set_fst hi]; exact (x.kn p hp).2.2.2⟩
  · rw [set_fst hi]; exact x.nd
theorem Step.upd {h : Heap} {t : Nat} {i : Nat} {a : Addr} {o o' : O} (hi : σ.own[i]? = some (a, o)) (hs : Heap.SameBut a s.heap h) (hl : ∃ ob, h.get? a = some ob) :
    Step G L σ s { σ with own := σ.own.set i (a, o') } { s with heap := h, toks := t } := by
  have hm : a ∈ σ.own.map (·.1) := List.mem_map.mpr ⟨_, List.mem_of_getElem? hi, rfl⟩
  refine ⟨⟨_, _, _, rfl⟩, id, fun b ob e _ hb _ => (hs.2 b fun q => hb (q ▸ hm)).trans e, fun b ob e => ?_, fun b hb => .inl (by rw [set_fst hi] at hb; exact hb), fun _ h => .inr (.inl h)⟩
  by_cases q : b = a
  · subst q; exact hl
  · exact ⟨ob, (hs.2 b q).trans e⟩

/-- a local stored -/
theorem Sat.setL (x : Sat G L σ s) {h : Heap} {t : Nat} {y : Str} {v : Value} {m : Str → Option Value} (hn : h.Ns L (fun z => if z = y then some v else m z)) (hm : ∀ z d, σ.m.lookup z = some d → ∃ v, m z = some v ∧ nv v = d)
    (hs : Heap.SameBut L s.heap h) : Sat G L { σ with m := (y, nv v) :: σ.m } { s with heap := h, toks := t } := by
  have keep : ∀ b ob, b ≠ L → s.heap.get? b = some ob → h.get? b = some ob := fun b ob hb e => (hs.2 b hb).trans e
  have na : ∀ b ob, G.h₀.get? b = some ob → b ≠ L := fun b ob e => by rintro rfl; rw [x.locNew] at e; cases e
  refine ⟨fun b ob e ht => keep b ob (na b ob e) (x.base b ob e ht), fun P hP => ?_, ⟨_, hn, fun z d hz => ?_⟩, x.locNew, fun p hp => ?_, fun p hp => ?_, x.nd⟩
  · obtain ⟨vs, more, e1, e2⟩ := x.tabs P hP
    exact ⟨vs, more, e1, keep P _ (na P _ e1) e2⟩
  · rw [List.lookup_cons] at hz
    by_cases q : z = y
    · subst q
      simp at hz
      exact ⟨v, by simp, hz⟩
    · have q' : (z == y) = false := by simp [q]
      rw [q'] at hz
      obtain ⟨u, e1, e2⟩ := hm z d hz
      exact ⟨u, by simp [q, e1], e2⟩
  · exact ⟨(x.own p hp).1.at fun ob e => keep _ _ (x.own p hp).2.1 e, (x.own p hp).2⟩
  · exact ⟨(x.kn p hp).1.at fun ob e => keep _ _ (x.kn p hp).2.1 e, (x.kn p hp).2⟩
theorem Step.setL {h : Heap} {t : Nat} {m' : List (Str × Value)} (hs : Heap.SameBut L s.heap h) (hl : ∃ ob, h.get? L = some ob) : Step G L σ s { σ with m := m' } { s with heap := h, toks := t } :=
  ⟨⟨_, _, _, rfl⟩, id, fun b ob e hb _ _ => (hs.2 b hb).trans e, fun b ob e => by
    by_cases q : b = L
    · subst q; exact hl
    · exact ⟨ob, (hs.2 b q).trans e⟩, fun _ h => .inl h, fun _ h => .inr (.inl h)⟩
end

/-- from every state as told, the tree ends in a state as told -/
noncomputable def T (G : Gd) (A : Around) (L : Addr) {α : Type} (σ : St) (t : Sem α) (K : α → St → Prop) : Prop :=
  ∀ s, Sat G L σ s → wpAny (model G.prog G.w) A t (fun a s' => ∃ σ', Sat G L σ' s' ∧ Step G L σ s σ' s' ∧ K a σ') (fun _ _ => False) s

section
variable {G : Gd} {A : Around} {L : Addr} {α β : Type} {σ : St}
theorem T.pure {a : α} {K : α → St → Prop} (h : K a σ) : T G A L σ (Pure.pure a : Sem α) K := fun _ x => wpAny_pure ⟨σ, x, .rfl', h⟩
theorem T.mono {t : Sem α} {K K' : α → St → Prop} (h : T G A L σ t K) (hk : ∀ a σ', K a σ' → K' a σ') : T G A L σ t K' := fun s x =>
  wpAny_mono (h s x) (fun _ _ ⟨σ₁, x₁, y₁, k₁⟩ => ⟨σ₁, x₁, y₁, hk _ σ₁ k₁⟩) fun _ _ e => e
/-- the state told of may be told of otherwise, where every state that is as told is so -/
theorem T.conv {σ' : St} {t : Sem α} {K : α → St → Prop} (hs : ∀ s, Sat G L σ s → Sat G L σ' s) (ho : ∀ a ∈ σ'.own.map (·.1), a ∈ σ.own.map (·.1))
    (hk : ∀ a ∈ σ'.kn.map (·.1), a ∈ σ.own.map (·.1) ∨ a ∈ σ.kn.map (·.1) ∨ G.h₀.get? a ≠ none) (h : T G A L σ' t K) : T G A L σ t K := fun s x =>
  wpAny_mono (h s (hs s x)) (fun _ _ ⟨σ₂, x₂, y₂, k₂⟩ => ⟨σ₂, x₂, ⟨y₂.same, y₂.bare, fun b o e hL hb ht => y₂.keep b o e hL (fun hm => hb (ho b hm)) ht, y₂.live, fun a ha => (y₂.new a ha).imp (ho a) id, fun a ha => by
    rcases y₂.newK a ha with h1 | h1 | h1 | h1
    · exact .inl (ho a h1)
    · rcases hk a h1 with h2 | h2 | h2
      · exact .inl h2
      · exact .inr (.inl h2)
      · exact .inr (.inr (.inr h2))
    · exact .inr (.inr (.inl h1))
    · exact .inr (.inr (.inr h1))⟩, k₂⟩) fun _ _ e => e
end
/-- the wanted end, seen from a state -/
noncomputable abbrev Post (G : Gd) (L : Addr) {α : Type} (σ : St) (s : Shared) (K : α → St → Prop) : α → Shared → Prop :=
  fun a s' => ∃ σ', Sat G L σ' s' ∧ Step G L σ s σ' s' ∧ K a σ'

section
variable {G : Gd} {A : Around} {L : Addr} {α β γ δ : Type} {σ : St}
theorem Post.lift {σ₁ : St} {s s₁ : Shared} {K : α → St → Prop} (y : Step G L σ s σ₁ s₁) : ∀ a s', Post G L σ₁ s₁ K a s' → Post G L σ s K a s' :=
  fun _ _ ⟨σ₂, x₂, y₂, k₂⟩ => ⟨σ₂, x₂, y.trans y₂, k₂⟩
theorem T.at {t : Sem α} {K : α → St → Prop} {σ₁ : St} {s s₁ : Shared} (h : T G A L σ₁ t K) (x : Sat G L σ₁ s₁) (y : Step G L σ s σ₁ s₁) :
    wpAny (model G.prog G.w) A t (Post G L σ s K) (fun _ _ => False) s₁ := wpAny_mono (h s₁ x) (Post.lift y) fun _ _ e => e
theorem T.seq {m : Sem α} {f : α → Sem β} {K : β → St → Prop} (h : T G A L σ m fun a σ₁ => T G A L σ₁ (f a) K) {s : Shared} (x : Sat G L σ s) :
    wpAny (model G.prog G.w) A m (fun a s₁ => wpAny (model G.prog G.w) A (f a) (Post G L σ s K) (fun _ _ => False) s₁) (fun _ _ => False) s :=
  wpAny_mono (h s x) (fun _ _ ⟨_, x₁, y₁, k₁⟩ => k₁.at x₁ y₁) fun _ _ e => e
theorem T.seq2 {m : Sem α} {f : α → Sem β} {g : α → β → Sem γ} {K : γ → St → Prop} (h : T G A L σ m fun a σ₁ => T G A L σ₁ (f a) fun b σ₂ => T G A L σ₂ (g a b) K) {s : Shared} (x : Sat G L σ s) :
    wpAny (model G.prog G.w) A m (fun a s₁ => wpAny (model G.prog G.w) A (f a) (fun b s₂ => wpAny (model G.prog G.w) A (g a b) (Post G L σ s K) (fun _ _ => False) s₂) (fun _ _ => False) s₁) (fun _ _ => False) s :=
  wpAny_mono (h s x) (fun a s₁ ⟨σ₁, x₁, y₁, k₁⟩ => wpAny_mono (k₁ s₁ x₁) (fun _ _ ⟨_, x₂, y₂, k₂⟩ => k₂.at x₂ (y₁.trans y₂)) fun _ _ e => e) fun _ _ e => e
theorem T.seq3 {m : Sem α} {f : α → Sem β} {g : α → β → Sem γ} {r : α → β → γ → Sem δ} {K : δ → St → Prop} (h : T G A L σ m fun a σ₁ => T G A L σ₁ (f a) fun b σ₂ => T G A L σ₂ (g a b) fun c σ₃ => T G A L σ₃ (r a b c) K) {s : Shared} (x : Sat G L σ s) :
    wpAny (model G.prog G.w) A m (fun a s₁ => wpAny (model G.prog G.w) A (f a) (fun b s₂ => wpAny (model G.prog G.w) A (g a b) (fun c s₃ => wpAny (model G.prog G.w) A (r a b c) (Post G L σ s K) (fun _ _ => False) s₃) (fun _ _ => False) s₂) (fun _ _ => False) s₁) (fun _ _ => False) s :=
  wpAny_mono (h s x) (fun a s₁ ⟨σ₁, x₁, y₁, k₁⟩ => wpAny_mono (k₁ s₁ x₁) (fun b s₂ ⟨σ₂, x₂, y₂, k₂⟩ => wpAny_mono (k₂ s₂ x₂) (fun _ _ ⟨_, x₃, y₃, k₃⟩ => k₃.at x₃ ((y₁.trans y₂).trans y₃)) fun _ _ e => e) fun _ _ e => e) fun _ _ e => e
/-- a rule of the kit's whose end stands at the same state -/
theorem Post.here {K : α → St → Prop} {s : Shared} {a : α} (x : Sat G L σ s) (h : K a σ) : Post G L σ s K a s := ⟨σ, x, .rfl', h⟩
theorem Post.tok {K : α → St → Prop} {s : Shared} {a : α} {t : Nat} (x : Sat G L σ s) (h : K a σ) : Post G L σ s K a { s with toks := t } := ⟨σ, x.tok t, .tok t, h⟩
end

noncomputable def nf : Flow → Flow
  | .ret v => .ret (nv v)
  | f => f

noncomputable def Ev (G : Gd) (A : Around) (env : Env) (σ : St) (e : Expr) (K : Value → St → Prop) : Prop := T G A env.locals σ (eval e env) fun v => K (nv v)
noncomputable def Evo (G : Gd) (A : Around) (env : Env) (σ : St) (e : Option Expr) (K : Value → St → Prop) : Prop := T G A env.locals σ (evalPart e env) fun v => K (nv v)
noncomputable def Evs (G : Gd) (A : Around) (env : Env) (pos : Pos) (σ : St) (es : List Expr) (K : List Value → St → Prop) : Prop := T G A env.locals σ (spliced (backTo pos (starEach es env))) fun vs => K (vs.map nv)
noncomputable def Tr (G : Gd) (A : Around) (env : Env) (σ : St) (e : Expr) (K : Bool → St → Prop) : Prop := T G A env.locals σ (isTrue e env (eval e env)) K
noncomputable def Trs (G : Gd) (A : Around) (env : Env) (op : BoolOp) (σ : St) (es : List Expr) (K : Bool → St → Prop) : Prop := T G A env.locals σ (allTrue op es env) K
noncomputable def Ex1 (G : Gd) (A : Around) (env : Env) (σ : St) (st : Stmt) (K : Flow → St → Prop) : Prop := T G A env.locals σ (exec st env) fun f => K (nf f)
noncomputable def Ex (G : Gd) (A : Around) (env : Env) (σ : St) (b : List Stmt) (K : Flow → St → Prop) : Prop := T G A env.locals σ (execs b env) fun f => K (nf f)
/-- steps upon values -/
noncomputable def Op2 (G : Gd) (A : Around) (L : Addr) (σ : St) (op : Operator) (a b : Value) (K : Value → St → Prop) : Prop := ∀ va vb, nv va = a → nv vb = b → T G A L σ (binaryOp op va vb) fun v => K (nv v)
noncomputable def Iop (G : Gd) (A : Around) (L : Addr) (σ : St) (op : Operator) (a b : Value) (K : Value → St → Prop) : Prop := ∀ va vb, nv va = a → nv vb = b → T G A L σ (inplaceOp op va vb) fun v => K (nv v)
noncomputable def Cmp (G : Gd) (A : Around) (L : Addr) (σ : St) (op : CmpOp) (a b : Value) (K : Value → St → Prop) : Prop := ∀ va vb, nv va = a → nv vb = b → T G A L σ (compareOp op va vb) fun v => K (nv v)
noncomputable def Unop (G : Gd) (A : Around) (L : Addr) (σ : St) (op : UnaryOp) (a : Value) (K : Value → St → Prop) : Prop := ∀ va, nv va = a → T G A L σ (unaryOp op va) fun v => K (nv v)
noncomputable def Tru (G : Gd) (A : Around) (L : Addr) (σ : St) (a : Value) (K : Bool → St → Prop) : Prop := ∀ va, nv va = a → T G A L σ (truthy va) K
noncomputable def Itm (G : Gd) (A : Around) (L : Addr) (σ : St) (a b : Value) (K : Value → St → Prop) : Prop :=
  ∀ va vb, nv va = a → nv vb = b → ∀ value slice, (∀ o i, subscripted slice false o i = operate [o, i] (getItem o i)) → T G A L σ (subscriptTail value slice va vb) fun v => K (nv v)
noncomputable def Slc (G : Gd) (A : Around) (L : Addr) (σ : St) (a l u : Value) (K : Value → St → Prop) : Prop :=
  ∀ va vl vu, nv va = a → nv vl = l → nv vu = u → ∀ s h i, Sat G L σ s → s.heap.get? i = none → (∀ b o, s.heap.get? b = some o → h.get? b = some o) → h.get? i = some { cls := .type "slice", data := .fields #[vl, vu, .none] } →
    ∃ T id, typeLookup (.type T) "__getitem__" = pure (some (.builtin id)) ∧ ({ s with heap := h } : Shared).TypeIs va T ∧ wpAny (model G.prog G.w) A (getItem va (.ref i)) (Post G L σ { s with heap := h } fun v => K (nv v)) (fun _ _ => False) { s with heap := h }
noncomputable def Call (G : Gd) (A : Around) (L : Addr) (σ : St) (f : Value) (as : List Value) (K : Value → St → Prop) : Prop := ∀ vs, vs.map nv = as → T G A L σ (call f vs) fun v => K (nv v)
noncomputable def Asg (G : Gd) (A : Around) (env : Env) (σ : St) (t : Expr) (d : Value) (K : St → Prop) : Prop := ∀ v, nv v = d → T G A env.locals σ (assign t env v) fun _ => K
noncomputable def Sto (G : Gd) (A : Around) (env : Env) (σ : St) (x : Str) (d : Value) (K : St → Prop) : Prop := ∀ v, nv v = d → T G A env.locals σ (storeName env x v) fun _ => K

section
variable {G : Gd} {A : Around} {env : Env} {σ : St} {K : Value → St → Prop} {KB : Bool → St → Prop} {KF : Flow → St → Prop} {KS : St → Prop}

theorem ev_int {i : Int} {k : Nat} {p : Pos} (h : K (I i) σ) : Ev G A env σ (.Constant (.int i) k p) K := fun _ x => wpAny_Constant_int (Post.tok x h)
theorem ev_str {i : Str} {k : Nat} {p : Pos} (h : K (S i) σ) : Ev G A env σ (.Constant (.str i) k p) K := fun _ x => Constant_str (Post.tok x h)
theorem ev_bool {b : Bool} {k : Nat} {p : Pos} (h : K (.bool b) σ) : Ev G A env σ (.Constant (.bool b) k p) K := fun _ x => wpAny_Constant_bool (Post.here x h)
theorem evo_none (h : K .none σ) : Evo G A env σ none K := fun _ x => wpAny_pure (Post.here x h)
theorem evo_some {e : Expr} (h : Ev G A env σ e K) : Evo G A env σ (some e) K := h
theorem evs_nil {pos : Pos} {KL : List Value → St → Prop} (h : KL [] σ) : Evs G A env pos σ [] KL := fun _ x => args_nil (Post.here x h)
theorem evs_cons {pos : Pos} {e : Expr} {r : List Expr} {KL : List Value → St → Prop} (h : Ev G A env σ e fun v σ₁ => Evs G A env pos σ₁ r fun vs σ₂ => KL (v :: vs) σ₂) (he : starEach (e :: r) env = (false, eval e env) :: starEach r env := by rfl) :
    Evs G A env pos σ (e :: r) KL := fun s x => args_cons (wpAny_mono (h s x) (fun _ _ ⟨_, x₁, y₁, k₁⟩ => T.at k₁ x₁ y₁) fun _ _ e => e) he

theorem ev_binop {l r : Expr} {op : Operator} {p : Pos} (h : Ev G A env σ l fun a σ₁ => Ev G A env σ₁ r fun b σ₂ => Op2 G A env.locals σ₂ op a b K) : Ev G A env σ (.BinOp l op r p) K := fun s x =>
  wpAny_BinOp (T.seq2 (h.mono fun _ _ k => k.mono fun _ _ k => k _ _ rfl rfl) x)
theorem ev_cmp {l r : Expr} {op : CmpOp} {p : Pos} (h : Ev G A env σ l fun a σ₁ => Ev G A env σ₁ r fun b σ₂ => Cmp G A env.locals σ₂ op a b K) (hm : behindInMarks op r = false := by with_unfolding_all rfl) : Ev G A env σ (.Compare l [op] [r] p) K := fun s x =>
  wpAny_Compare1 (T.seq2 (h.mono fun _ _ k => k.mono fun _ _ k => k _ _ rfl rfl) x) hm
theorem tr_cmp {l r : Expr} {op : CmpOp} {p : Pos} (h : Ev G A env σ l fun a σ₁ => Ev G A env σ₁ r fun b σ₂ => Cmp G A env.locals σ₂ op a b fun c σ₃ => Tru G A env.locals σ₃ c KB) (hm : behindInMarks op r = false := by with_unfolding_all rfl) : Tr G A env σ (.Compare l [op] [r] p) KB := fun s x =>
  wpAny_isTrue_Compare1 (T.seq3 (h.mono fun _ _ k => k.mono fun _ _ k => (k _ _ rfl rfl).mono fun _ _ k => k _ rfl) x) hm
theorem ev_unop {e : Expr} {op : UnaryOp} {p : Pos} (h : Ev G A env σ e fun a σ₁ => Unop G A env.locals σ₁ op a K) : Ev G A env σ (.UnaryOp op e p) K := fun s x =>
  wpAny_UnaryOp (T.seq (h.mono fun _ _ k => k _ rfl) x)
theorem tr_not {e : Expr} {p : Pos} (h : Tr G A env σ e fun b σ₁ => KB (!b) σ₁) : Tr G A env σ (.UnaryOp .Not e p) KB := fun s x =>
  wpAny_isTrue_Not (wpAny_mono (h s x) (fun _ _ q => q) fun _ _ e => e)
theorem tr_val {e : Expr} (h : Ev G A env σ e fun a σ₁ => Tru G A env.locals σ₁ a KB) (he : isTrue e env (eval e env) = (do let v ← eval e env; standAt e.pos; holding [v] (truthy v)) := by rfl) : Tr G A env σ e KB := fun s x =>
  wpAny_isTrue_value (T.seq (h.mono fun _ _ k => k _ rfl) x) he
theorem tr_bool {op : BoolOp} {es : List Expr} {p : Pos} (h : Trs G A env op σ es KB) : Tr G A env σ (.BoolOp op es p) KB := fun s x => wpAny_isTrue_BoolOp (h s x)
theorem trs_and_nil (h : KB true σ) : Trs G A env .And σ [] KB := fun s x => wpAny_allTrue_And_nil (Post.here x h)
theorem trs_or_nil (h : KB false σ) : Trs G A env .Or σ [] KB := fun s x => wpAny_allTrue_Or_nil (Post.here x h)
theorem trs_and {e : Expr} {r : List Expr} (h : Tr G A env σ e fun b σ₁ => if b = true then Trs G A env .And σ₁ r KB else KB false σ₁) : Trs G A env .And σ (e :: r) KB := fun s x =>
  wpAny_allTrue_And_cons (wpAny_mono (h s x) (fun b _ ⟨_, x₁, y₁, k₁⟩ => by
    cases b with
    | true => exact T.at (K := KB) k₁ x₁ y₁
    | false => exact ⟨_, x₁, y₁, k₁⟩) fun _ _ e => e)
theorem trs_or {e : Expr} {r : List Expr} (h : Tr G A env σ e fun b σ₁ => if b = true then KB true σ₁ else Trs G A env .Or σ₁ r KB) : Trs G A env .Or σ (e :: r) KB := fun s x =>
  wpAny_allTrue_Or_cons (wpAny_mono (h s x) (fun b _ ⟨_, x₁, y₁, k₁⟩ => by
    cases b with
    | false => exact T.at (K := KB) k₁ x₁ y₁
    | true => exact ⟨_, x₁, y₁, k₁⟩) fun _ _ e => e)
theorem ev_ifexp {t b o : Expr} {p : Pos} (h : Tr G A env σ t fun c σ₁ => if c = true then Ev G A env σ₁ b K else Ev G A env σ₁ o K) : Ev G A env σ (.IfExp t b o p) K := fun s x =>
  wpAny_IfExp (wpAny_mono (h s x) (fun c _ ⟨_, x₁, y₁, k₁⟩ => by cases c <;> exact T.at k₁ x₁ y₁) fun _ _ e => e)
theorem ev_and {a b : Expr} {p : Pos} (h : Ev G A env σ a fun v σ₁ => Tru G A env.locals σ₁ v fun t σ₂ => if t = true then Ev G A env σ₂ b K else K v σ₂) : Ev G A env σ (.BoolOp .And [a, b] p) K := fun s x =>
  wpAny_And2 (wpAny_mono (h s x) (fun v s₁ ⟨_, x₁, y₁, k₁⟩ => wpAny_mono (k₁ v rfl s₁ x₁) (fun t _ ⟨_, x₂, y₂, k₂⟩ => by
    cases t with
    | true => exact T.at k₂ x₂ (y₁.trans y₂)
    | false => exact ⟨_, x₂, y₁.trans y₂, k₂⟩) fun _ _ e => e) fun _ _ e => e)
theorem ev_or {a b : Expr} {p : Pos} (h : Ev G A env σ a fun v σ₁ => Tru G A env.locals σ₁ v fun t σ₂ => if t = true then K v σ₂ else Ev G A env σ₂ b K) : Ev G A env σ (.BoolOp .Or [a, b] p) K := fun s x =>
  wpAny_Or2 (wpAny_mono (h s x) (fun v s₁ ⟨_, x₁, y₁, k₁⟩ => wpAny_mono (k₁ v rfl s₁ x₁) (fun t _ ⟨_, x₂, y₂, k₂⟩ => by
    cases t with
    | false => exact T.at k₂ x₂ (y₁.trans y₂)
    | true => exact ⟨_, x₂, y₁.trans y₂, k₂⟩) fun _ _ e => e) fun _ _ e => e)

theorem ev_list {es : List Expr} {p : Pos} (h : Evs G A env p σ es fun ds σ₁ => ds.length ≤ 1000 ∧ ∀ a, K (.ref a) (σ₁.put a (.list ds))) : Ev G A env σ (.List es p) K := fun s x =>
  List_ (wpAny_mono (h s x) (fun vs s₁ ⟨σ₁, x₁, y₁, hz, k₁⟩ => wpAny_newObj_type (by
    have hn : s₁.heap.get? s₁.heap.objs.size = none := by
      cases e : s₁.heap.get? s₁.heap.objs.size with
      | none => rfl
      | some o => exact absurd (Heap.lt_size e) (Nat.lt_irrefl _)
    exact ⟨_, x₁.add (t := s₁.toks) (a := s₁.heap.objs.size) (o := .list (vs.map nv)) (fun b o e => Heap.get?_push_of_some _ e) hn ⟨vs, ⟨_, Heap.get?_push_size _ rfl⟩, rfl⟩, y₁.trans (.add (fun b o e => Heap.get?_push_of_some _ e) hn), k₁ _⟩) (by
      show vs.toArray.size ≤ sizeLine
      rw [List.size_toArray]
      rw [List.length_map] at hz
      exact Nat.le_trans hz (by decide))) fun _ _ e => e)
theorem ev_tuple {es : List Expr} {k : Nat} {p : Pos} (h : Evs G A env p σ es fun ds σ₁ => ds.length ≤ 1000 ∧ ∀ a, K (.ref a) (σ₁.put a (.tuple ds))) : Ev G A env σ (.Tuple es k p) K := fun s x =>
  Tuple_ (wpAny_mono (h s x) (fun vs s₁ ⟨σ₁, x₁, y₁, hz, k₁⟩ => wpAny_newObj_type (by
    have hn : s₁.heap.get? s₁.heap.objs.size = none := by
      cases e : s₁.heap.get? s₁.heap.objs.size with
      | none => rfl
      | some o => exact absurd (Heap.lt_size e) (Nat.lt_irrefl _)
    exact ⟨_, x₁.add (t := s₁.toks) (a := s₁.heap.objs.size) (o := .tuple (vs.map nv)) (fun b o e => Heap.get?_push_of_some _ e) hn ⟨vs, ⟨_, Heap.get?_push_size _ rfl, rfl, _, rfl⟩, rfl⟩, y₁.trans (.add (fun b o e => Heap.get?_push_of_some _ e) hn), k₁ _⟩) (by
      show vs.toArray.size ≤ sizeLine
      rw [List.size_toArray]
      rw [List.length_map] at hz
      exact Nat.le_trans hz (by decide))) fun _ _ e => e)

theorem ev_sub {v i : Expr} {p : Pos} (h : Ev G A env σ v fun a σ₁ => Ev G A env σ₁ i fun b σ₂ => Itm G A env.locals σ₂ a b K) (hs : ∀ o j, subscripted i false o j = operate [o, j] (getItem o j) := by intro o j; rfl) : Ev G A env σ (.Subscript v i p) K := fun s x =>
  Subscript_ (T.seq2 (h.mono fun _ _ k => k.mono fun _ _ k => k _ _ rfl rfl _ _ hs) x)
theorem ev_slice {v : Expr} {l u : Option Expr} {q p : Pos} (h : Ev G A env σ v fun a σ₁ => Evo G A env σ₁ l fun b σ₂ => Evo G A env σ₂ u fun c σ₃ => Slc G A env.locals σ₃ a b c K) : Ev G A env σ (.Subscript v (.Slice l u none q) p) K := fun s x =>
  Subscript_ (wpAny_mono (h s x) (fun va s₁ ⟨σ₁, x₁, y₁, k₁⟩ => wpAny_Slice (wpAny_mono (k₁ s₁ x₁) (fun vl s₂ ⟨σ₂, x₂, y₂, k₂⟩ => wpAny_mono (k₂ s₂ x₂) (fun vu s₃ ⟨σ₃, x₃, y₃, k₃⟩ => wpAny_pure (by
    have hn : s₃.heap.get? s₃.heap.objs.size = none := by
      cases e : s₃.heap.get? s₃.heap.objs.size with
      | none => rfl
      | some o => exact absurd (Heap.lt_size e) (Nat.lt_irrefl _)
    obtain ⟨T, id, hl, hT, hg⟩ := k₃ va vl vu rfl rfl rfl s₃ _ s₃.heap.objs.size x₃ hn (fun b o e => Heap.get?_push_of_some { cls := .type "slice", data := .fields #[vl, vu, .none] } e) (Heap.get?_push_size _ rfl)
    refine tail_any (T := T) (id := id) (ops := [Value.ref s₃.heap.objs.size, va]) hT hl ?_ rfl
    exact wpAny_mono hg (Post.lift (((y₁.trans y₂).trans y₃).trans (Step.keeps (t := s₃.toks) fun b o e => Heap.get?_push_of_some _ e))) fun _ _ e => e)) fun _ _ e => e) fun _ _ e => e)) fun _ _ e => e)

end
/-- the ground: the names of the module and of the builtins -/
structure Gnd (G : Gd) (mg mb : Str → Option Value) : Prop where
  g : G.h₀.Ns mainGlobals mg
  b : G.h₀.Ns builtinsNs mb
  nolimit : G.h₀.NoLimit
  offG : mainGlobals ∉ G.Tb
  offB : builtinsNs ∉ G.Tb
  offS : cStatics ∉ G.Tb

section
variable {G : Gd} {L : Addr} {σ : St} {s : Shared} {mg mb : Str → Option Value}
theorem Sat.nsG (x : Sat G L σ s) (Γ : Gnd G mg mb) : s.heap.Ns mainGlobals mg := Γ.g.at' fun o e => x.base _ _ e Γ.offG
theorem Sat.nsB (x : Sat G L σ s) (Γ : Gnd G mg mb) : s.heap.Ns builtinsNs mb := Γ.b.at' fun o e => x.base _ _ e Γ.offB
theorem Sat.noLimit (x : Sat G L σ s) (Γ : Gnd G mg mb) : s.heap.NoLimit := let ⟨mc, a, b⟩ := Γ.nolimit; ⟨mc, a.at' fun o e => x.base _ _ e Γ.offS, b⟩
theorem fresh_size (h : Heap) : h.get? h.objs.size = none := by
  cases e : h.get? h.objs.size with
  | none => rfl
  | some o => exact absurd (Heap.lt_size e) (Nat.lt_irrefl _)
theorem Sat.held (x : Sat G L σ s) {a : Addr} {o : O} (h : (a, o) ∈ σ.own ∨ (a, o) ∈ σ.kn) : Holds (G.prog, G.w) s.heap a o := h.elim (fun h => (x.own _ h).1) fun h => (x.kn _ h).1
end
/-- the object is told of -/
noncomputable abbrev St.has (σ : St) (a : Addr) (o : O) : Prop := (a, o) ∈ σ.own ∨ (a, o) ∈ σ.kn

theorem loadName_global {M : Model} {A : Around} {E : Value → Shared → Prop} {s : Shared} {env : Env} {x : Str} {Q : Value → Shared → Prop} (hk : env.scope.kind = .function) (hx : env.kindOf x = some .globalImplicit) (h : wpAny M A (loadGlobal env x) Q E s) : wpAny M A (loadName env x) Q E s := by
  unfold loadName
  simp only [Env.blockKind, hk, hx, ScopeKind.isAnnotationScope, Bool.false_and, Bool.false_eq_true, if_false]
  exact h
section
variable {G : Gd} {A : Around} {env : Env} {σ : St} {K : Value → St → Prop} {KB : Bool → St → Prop} {KF : Flow → St → Prop} {KS : St → Prop} {mg mb : Str → Option Value}

/-- a name read -/
noncomputable def Lod (G : Gd) (A : Around) (env : Env) (σ : St) (x : Str) (K : Value → St → Prop) : Prop := T G A env.locals σ (loadName env x) fun v => K (nv v)
theorem ev_name {x : Str} {p : Pos} (h : Lod G A env σ x K) (hd : (x == ("__debug__" : Str)) = false := by decide) : Ev G A env σ (.Name x p) K := fun s q => wpAny_Name (h s q) hd
theorem lod_local {x : Str} {d : Value} (hm : σ.m.lookup x = some d) (h : K d σ) (hk : env.scope.kind = .function := by rfl) (hl : env.kindOf x = some .local := by rfl) :
    Lod G A env σ x K := fun s q => by
  obtain ⟨m, hn, hm'⟩ := q.loc
  obtain ⟨v, e, e'⟩ := hm' x d hm
  exact wpAny_loadName_local hk hl hn e (Post.here q (by subst e'; exact h))
theorem lod_cell {x : Str} {c : Addr} {d : Value} (hc : env.cells.lookup x = some c) (hm : σ.has c (.cell (some d))) (h : K d σ) (hk : env.scope.kind = .function := by rfl) (hl : env.kindOf x = some .cell := by rfl) :
    Lod G A env σ x K := fun s q => by
  obtain ⟨v, hv, e⟩ := q.held hm
  obtain ⟨u, rfl⟩ : ∃ u, v = some u := by cases v with | none => cases e | some u => exact ⟨u, rfl⟩
  simp only [Option.map_some, Option.some.injEq] at e
  exact wpAny_loadName_cell hk hl hc hv (Post.here q (by subst e; exact h))
theorem lod_free {x : Str} {c : Addr} {d : Value} (hc : env.cells.lookup x = some c) (hm : σ.has c (.cell (some d))) (h : K d σ) (hk : env.scope.kind = .function := by rfl) (hl : env.kindOf x = some .free := by rfl)
    (hn : (x == ("__classdict__" : Str)) = false := by decide) : Lod G A env σ x K := fun s q => by
  obtain ⟨v, hv, e⟩ := q.held hm
  obtain ⟨u, rfl⟩ : ∃ u, v = some u := by cases v with | none => cases e | some u => exact ⟨u, rfl⟩
  simp only [Option.map_some, Option.some.injEq] at e
  exact wpAny_loadName_free hk hl hc hv (Post.here q (by subst e; exact h)) hn
theorem lod_glob (Γ : Gnd G mg mb) {x : Str} {v : Value} (hv : mg x = some v) (h : K (nv v) σ) (hg : env.globals = mainGlobals := by rfl) (hk : env.scope.kind = .function := by rfl) (hx : env.kindOf x = some .globalImplicit := by rfl) :
    Lod G A env σ x K := fun s q =>
  loadName_global hk hx (loadGlobal_global (env := env) (by rw [hg]; exact q.nsG Γ) hv (Post.here q h))
theorem lod_built (Γ : Gnd G mg mb) {x : Str} {v : Value} (hn : mg x = none) (hv : mb x = some v) (h : K (nv v) σ) (hg : env.globals = mainGlobals := by rfl) (hb : env.builtins = builtinsNs := by rfl) (hk : env.scope.kind = .function := by rfl) (hx : env.kindOf x = some .globalImplicit := by rfl) :
    Lod G A env σ x K := fun s q =>
  loadName_global hk hx (loadGlobal_builtin (env := env) (by rw [hg]; exact q.nsG Γ) hn (by rw [hb]; exact q.nsB Γ) hv (Post.here q h))

theorem sto_local {x : Str} {d : Value} (h : KS (σ.setm x d)) (hk : env.scope.kind = .function := by rfl) (hl : env.kindOf x = some .local := by rfl) : Sto G A env σ x d KS := fun v hv s q => by
  obtain ⟨m, hn, hm'⟩ := q.loc
  subst hv
  exact wpAny_storeName_local hl hn (fun h' hn' hs => ⟨_, q.setL hn' hm' hs, .setL hs (by obtain ⟨o, _, _, e, _⟩ := hn'; exact ⟨o, e⟩), h⟩) (by rw [hk]; rfl)
theorem sto_cell {x : Str} {d : Value} {c : Addr} {d₀ : Option Value} (i : Nat) (hc : env.cells.lookup x = some c) (hi : σ.own[i]? = some (c, .cell d₀)) (h : KS (σ.seto i (c, .cell (some d)))) (hk : env.scope.kind = .function := by rfl) (hl : env.kindOf x = some .cell := by rfl) :
    Sto G A env σ x d KS := fun v hv s q => by
  obtain ⟨u, hu, e⟩ := (q.own _ (List.mem_of_getElem? hi)).1
  refine wpAny_storeName_cell hk hl hc hu fun h' hcell hs => ?_
  have hH : Holds (G.prog, G.w) h' c (.cell (some d)) := ⟨some v, hcell, by rw [← hv]; rfl⟩
  exact ⟨_, q.upd (t := s.toks) hi hs hH, .upd hi hs hH.live, h⟩
theorem asg_name {x : Str} {p : Pos} {d : Value} (h : Sto G A env σ x d KS) : Asg G A env σ (.Name x p) d KS := fun v hv s q => wpAny_assign_Name (h v hv s q)

theorem ex_nil (h : KF .next σ) : Ex G A env σ [] KF := fun s q => wpAny_execs_nil (Post.here q h)
/-- what comes behind a statement -/
noncomputable def Nx (G : Gd) (A : Around) (env : Env) (r : List Stmt) (KF : Flow → St → Prop) : Flow → St → Prop
  | .next, σ => Ex G A env σ r KF
  | f, σ => KF f σ
theorem nx_next {r : List Stmt} (h : Ex G A env σ r KF) : Nx G A env r KF .next σ := h
theorem nx_ret {r : List Stmt} {v : Value} (h : KF (.ret v) σ) : Nx G A env r KF (.ret v) σ := h
theorem nx_brk {r : List Stmt} (h : KF .brk σ) : Nx G A env r KF .brk σ := h
theorem nx_cont {r : List Stmt} (h : KF .cont σ) : Nx G A env r KF .cont σ := h
theorem ex_cons {st : Stmt} {r : List Stmt} (h : Ex1 G A env σ st (Nx G A env r KF)) : Ex G A env σ (st :: r) KF := fun s q =>
  wpAny_execs_cons (wpAny_mono (h s q) (fun f _ ⟨_, x₁, y₁, k₁⟩ => by
    cases f with
    | next => exact T.at (K := fun f => KF (nf f)) k₁ x₁ y₁
    | brk => exact ⟨_, x₁, y₁, k₁⟩
    | cont => exact ⟨_, x₁, y₁, k₁⟩
    | ret v => exact ⟨_, x₁, y₁, k₁⟩) fun _ _ e => e)
theorem ex_assign {x : Str} {p' p : Pos} {value : Expr} (h : Ev G A env σ value fun d σ₁ => Sto G A env σ₁ x d fun σ₂ => KF .next σ₂) (hs : swapsWith value (some (.Name x p')) p.line env = pure false := by rfl) : Ex1 G A env σ (.Assign [.Name x p'] value p) KF := fun s q =>
  wpAny_Assign_Name (wpAny_mono (h s q) (fun v _ ⟨_, x₁, y₁, k₁⟩ => wpAny_mono (k₁ v rfl _ x₁) (fun _ _ ⟨_, x₂, y₂, k₂⟩ => ⟨_, x₂, y₁.trans y₂, k₂⟩) fun _ _ e => e) fun _ _ e => e) hs
theorem ex_aug {x : Str} {p' p : Pos} {op : Operator} {value : Expr} (h : Lod G A env σ x fun a σ₁ => Ev G A env σ₁ value fun b σ₂ => Iop G A env.locals σ₂ op a b fun c σ₃ => Sto G A env σ₃ x c fun σ₄ => KF .next σ₄) :
    Ex1 G A env σ (.AugAssign (.Name x p') op value p) KF := fun s q =>
  wpAny_AugAssign_Name (wpAny_mono (h s q) (fun a s₁ ⟨_, x₁, y₁, k₁⟩ => wpAny_mono (k₁ s₁ x₁) (fun b s₂ ⟨_, x₂, y₂, k₂⟩ => wpAny_mono (k₂ a b rfl rfl s₂ x₂) (fun c s₃ ⟨_, x₃, y₃, k₃⟩ =>
    wpAny_mono (k₃ c rfl s₃ x₃) (fun _ _ ⟨_, x₄, y₄, k₄⟩ => ⟨_, x₄, ((y₁.trans y₂).trans y₃).trans y₄, k₄⟩) fun _ _ e => e) fun _ _ e => e) fun _ _ e => e) fun _ _ e => e)
theorem ex_expr {e : Expr} {p : Pos} (h : Ev G A env σ e fun _ σ₁ => KF .next σ₁) (hi : interactive env = false := by rfl) (hs : swapsWith e none p.line env = pure false := by rfl) : Ex1 G A env σ (.Expr e p) KF := fun s q =>
  wpAny_Expr_any (wpAny_mono (h s q) (fun _ _ z => z) fun _ _ e => e) hi hs
theorem ex_if {t : Expr} {b o : List Stmt} {p : Pos} (h : Tr G A env σ t fun c σ₁ => if c = true then Ex G A env σ₁ b KF else Ex G A env σ₁ o KF) : Ex1 G A env σ (.If t b o p) KF := fun s q =>
  wpAny_If (wpAny_mono (h s q) (fun c _ ⟨_, x₁, y₁, k₁⟩ => by cases c <;> exact T.at (K := fun f => KF (nf f)) k₁ x₁ y₁) fun _ _ e => e)
theorem ex_return {e : Expr} {p : Pos} (h : Ev G A env σ e fun d σ₁ => KF (.ret d) σ₁) : Ex1 G A env σ (.Return (some e) p) KF := fun s q => wpAny_Return_some (wpAny_mono (h s q) (fun _ _ z => z) fun _ _ e => e)
theorem ex_assert {t : Expr} {m : Option Expr} {p : Pos} (h : Tr G A env σ t fun c σ₁ => c = true ∧ KF .next σ₁) : Ex1 G A env σ (.Assert t m p) KF := fun s q =>
  wpAny_Assert_holds (wpAny_mono (h s q) (fun c _ ⟨σ₁, x₁, y₁, k₁, k₂⟩ => ⟨k₁, σ₁, x₁, y₁, k₂⟩) fun _ _ e => e)
theorem ex_break {p : Pos} (h : KF .brk σ) : Ex1 G A env σ (.Break p) KF := fun s q => wpAny_Break (Post.here q h)
theorem ex_continue {p : Pos} (h : KF .cont σ) : Ex1 G A env σ (.Continue p) KF := fun s q => wpAny_Continue (Post.here q h)
/-- a try whose body does not raise -/
theorem ex_try {b : List Stmt} {hs : List ExceptHandler} {p : Pos} (h : Ex G A env σ b KF) : Ex1 G A env σ (.Try b hs [] [] p) KF := fun s q => by
  show wpAny _ _ (do standAt p; tryStmt false (execs b env) hs (execs [] env) [] env) _ _ _
  refine wpAny_bind (wpAny_standAt ?_)
  unfold tryStmt
  dsimp only [List.isEmpty_nil]
  simp only [if_true]
  refine wpAny_bind (wpAny_attempt (wpAny_mono (h s q) (fun f s₁ z => ?_) fun _ _ e => e.elim))
  cases f with
  | next => exact wpAny_pure z
  | brk => exact wpAny_pure z
  | cont => exact wpAny_pure z
  | ret v => exact wpAny_pure z

/-- several targets, in their order -/
noncomputable def Asgs (G : Gd) (A : Around) (env : Env) : St → List Expr → List Value → (St → Prop) → Prop
  | σ, t :: ts, d :: ds, KS => Asg G A env σ t d fun σ₁ => Asgs G A env σ₁ ts ds KS
  | σ, _, _, KS => KS σ
noncomputable def Stos (G : Gd) (A : Around) (env : Env) : St → List Str → List Value → (St → Prop) → Prop
  | σ, t :: ts, d :: ds, KS => Sto G A env σ t d fun σ₁ => Stos G A env σ₁ ts ds KS
  | σ, _, _, KS => KS σ
theorem asgs_run : ∀ {ts : List Expr} {vs : List Value} {σ : St}, (∀ t ∈ ts, ∀ e p, t ≠ .Starred e p) → Asgs G A env σ ts (vs.map nv) KS → T G A env.locals σ (assignInOrder ((assignEach ts env).map (·.2)) vs) fun _ => KS
  | [], _, _, _, h => T.pure (a := ()) (by simpa [Asgs] using h)
  | t :: ts, [], _, hn, h => fun s q => by
    have e : assignEach (t :: ts) env = (false, assign t env) :: assignEach ts env := by
      cases t <;> first | rfl | exact absurd rfl (hn _ (.head _) _ _)
    rw [e]
    exact T.pure (a := ()) (K := fun _ => KS) (by simpa [Asgs] using h) s q
  | t :: ts, v :: vs, σ, hn, h => fun s q => by
    have e : assignEach (t :: ts) env = (false, assign t env) :: assignEach ts env := by
      cases t <;> first | rfl | exact absurd rfl (hn _ (.head _) _ _)
    rw [e]
    show wpAny _ _ (do holding vs (assign t env v); assignInOrder ((assignEach ts env).map (·.2)) vs) _ _ s
    have h' : Asg G A env σ t (nv v) fun σ₁ => Asgs G A env σ₁ ts (vs.map nv) KS := h
    exact wpAny_bind (wpAny_holding (wpAny_mono (h' v rfl s q) (fun _ s₁ ⟨_, x₁, y₁, k₁⟩ => T.at (asgs_run (fun t ht => hn t (.tail _ ht)) k₁) x₁ y₁) fun _ _ e => e))
theorem stos_run : ∀ {ts : List Str} {vs : List Value} {σ : St}, Stos G A env σ ts (vs.map nv) KS → T G A env.locals σ (assignInOrder (ts.map fun n => bindName env n) vs) fun _ => KS
  | [], _, _, h => T.pure (a := ()) (by simpa [Stos] using h)
  | t :: ts, [], _, h => T.pure (a := ()) (K := fun _ => KS) (by simpa [Stos] using h)
  | t :: ts, v :: vs, σ, h => fun s q => by
    show wpAny _ _ (do holding vs (bindName env t v); assignInOrder (ts.map fun n => bindName env n) vs) _ _ s
    have h' : Sto G A env σ t (nv v) fun σ₁ => Stos G A env σ₁ ts (vs.map nv) KS := h
    exact wpAny_bind (wpAny_holding (wpAny_bindName (wpAny_mono (h' v rfl s q) (fun _ s₁ ⟨_, x₁, y₁, k₁⟩ => T.at (stos_run k₁) x₁ y₁) fun _ _ e => e)))

/-- the items of a made tuple or list -/
inductive Items (σ : St) (a : Addr) (ds : List Value) : Prop
  | tup : σ.has a (.tuple ds) → Items σ a ds
  | lst : σ.has a (.list ds) → Items σ a ds
theorem items_run {a : Addr} {ds : List Value} {s : Shared} (hA : A.handled = none) (h : Items σ a ds) (x : Sat G env.locals σ s) {n : Nat} (hn : n = ds.length) {Q : List Value → Shared → Prop}
    (hq : ∀ (vs : List Value) h', vs.map nv = ds → (∀ b o, s.heap.get? b = some o → h'.get? b = some o) → Q vs { s with heap := h' }) :
    wpAny (model G.prog G.w) A (unpackItems (.ref a) n none) Q (fun _ _ => False) s := by
  have up : ∀ {h' : Heap}, Heap.ExtBut s.heap.objs.size s.heap h' → ∀ b o, s.heap.get? b = some o → h'.get? b = some o := fun k b o e => k b o (Nat.ne_of_lt (Heap.lt_size e)) e
  cases h with
  | tup h =>
    obtain ⟨vs, ht, e⟩ := x.held h
    have := wpAny_unpackItems_tuple (prog := G.prog) (w := G.w) (E := fun _ _ => False) (Q := Q) hA ht fun h' k => by simpa using hq vs h' e (up k)
    rw [hn, ← e, List.length_map]
    simpa using this
  | lst h =>
    obtain ⟨vs, ht, e⟩ := x.held h
    have := kun_itemsOf (prog := G.prog) (w := G.w) (E := fun _ _ => False) (Q := Q) hA ht.isList fun h' k => by simpa using hq vs h' e (up k)
    rw [hn, ← e, List.length_map]
    simpa using this
theorem assignEach_plain : ∀ (es : List Expr), (∀ t ∈ es, ∀ e p, t ≠ .Starred e p) → (assignEach es env).findIdx? (·.1) = none ∧ (assignEach es env).length = es.length
  | [], _ => ⟨rfl, rfl⟩
  | t :: ts, hn => by
    have e : assignEach (t :: ts) env = (false, assign t env) :: assignEach ts env := by
      cases t <;> first | rfl | exact absurd rfl (hn _ (.head _) _ _)
    obtain ⟨h1, h2⟩ := assignEach_plain ts fun t ht => hn t (.tail _ ht)
    rw [e]
    exact ⟨by simp [List.findIdx?_cons, h1], by simp [h2]⟩
/-- a tuple of targets -/
theorem asg_tuple {es : List Expr} {k : Nat} {p : Pos} {a : Addr} {ds : List Value} (hA : A.handled = none) (hi : Items σ a ds) (hn : es.length = ds.length) (h : Asgs G A env σ es ds KS) (hs : (es.all fun t => match t with | .Starred .. => false | _ => true) = true := by rfl) :
    Asg G A env σ (.Tuple es k p) (.ref a) KS := fun v hv s q => by
  have := nv_ref hv
  subst this
  have hns : ∀ t ∈ es, ∀ e p, t ≠ .Starred e p := fun t ht e p hh => by
    have := List.all_eq_true.mp hs t ht
    rw [hh] at this; cases this
  obtain ⟨h1, h2⟩ := assignEach_plain (env := env) es hns
  rw [arm_assign_Tuple]
  refine wpAny_bind (wpAny_standAt ?_)
  unfold unpack
  rw [h1, h2, hn]
  refine wpAny_bind (wpAny_holding (items_run hA hi q rfl fun vs h' e kk => ?_))
  refine T.at (asgs_run hns (by rw [e]; exact h)) (q.keeps (t := s.toks) (g := s.gens) kk) (.keeps (t := s.toks) kk)
theorem ex_unpack {es : List Expr} {k : Nat} {p' p : Pos} {value : Expr} (h : Ev G A env σ value fun d σ₁ => Asg G A env σ₁ (.Tuple es k p') d fun σ₂ => KF .next σ₂)
    (hs : swapsWithSole [.Tuple es k p'] value p.line env = pure false := by rfl) (hw : swappedStores [.Tuple es k p'] value env = pure none := by rfl) : Ex1 G A env σ (.Assign [.Tuple es k p'] value p) KF := fun s q =>
  Assign_Tuple (wpAny_mono (h s q) (fun v _ ⟨_, x₁, y₁, k₁⟩ => wpAny_mono (k₁ v rfl _ x₁) (fun _ _ ⟨_, x₂, y₂, k₂⟩ => ⟨_, x₂, y₁.trans y₂, k₂⟩) fun _ _ e => e) fun _ _ e => e) hs hw
theorem ex_swap {es : List Expr} {k : Nat} {p' p : Pos} {value : Expr} (names : List Str) (hA : A.handled = none) (h : Ev G A env σ value fun d σ₁ => ∃ a ds, d = .ref a ∧ Items σ₁ a ds ∧ names.length = ds.length ∧ Stos G A env σ₁ names.reverse ds.reverse fun σ₂ => KF .next σ₂)
    (hw : swappedStores [.Tuple es k p'] value env = pure (some names) := by rfl) (hs : swapsWithSole [.Tuple es k p'] value p.line env = pure false := by rfl) : Ex1 G A env σ (.Assign [.Tuple es k p'] value p) KF := fun s q => by
  refine Assign_Tuple_swapped (wpAny_mono (h s q) (fun v s₁ ⟨σ₁, x₁, y₁, a, ds, e1, hi, hn, k₁⟩ => ?_) fun _ _ e => e) hs hw
  have := nv_ref e1
  subst this
  refine items_run hA hi x₁ hn fun vs h' e kk => ?_
  have k2 : Stos G A env σ₁ names.reverse (vs.reverse.map nv) fun σ₂ => KF .next σ₂ := by rw [List.map_reverse, e]; exact k₁
  exact wpAny_mono (T.at (stos_run k2) (x₁.keeps (t := s₁.toks) (g := s₁.gens) kk) (y₁.trans (.keeps (t := s₁.toks) kk))) (fun _ _ z => z) fun _ _ e => e
end
section
variable {G : Gd} {A : Around} {L : Addr} {σ σ₁ : St} {s s₁ : Shared}
/-- an object that nothing tells of turns -/
theorem Sat.off (x : Sat G L σ s) {b : Addr} {h : Heap} {t : Nat} (k : ∀ c o, c ≠ b → s.heap.get? c = some o → h.get? c = some o) (h0 : G.h₀.get? b = none) (hL : b ≠ L) (ho : b ∉ σ.own.map (·.1)) (hk : b ∉ σ.kn.map (·.1)) :
    Sat G L σ { s with heap := h, toks := t } := by
  have ne : ∀ c o, G.h₀.get? c = some o → c ≠ b := fun c o e => by rintro rfl; rw [h0] at e; cases e
  refine ⟨fun c o e ht => k c o (ne c o e) (x.base c o e ht), fun P hP => ?_, ?_, x.locNew, fun p hp => ?_, fun p hp => ?_, x.nd⟩
  · obtain ⟨vs, more, e1, e2⟩ := x.tabs P hP
    exact ⟨vs, more, e1, k P _ (ne P _ e1) e2⟩
  · obtain ⟨m, ⟨o, es, ep, e, r⟩, hm⟩ := x.loc
    exact ⟨m, ⟨o, es, ep, k L o (Ne.symm hL) e, r⟩, hm⟩
  · exact ⟨(x.own p hp).1.at fun ob e => k _ _ (fun q => ho (q ▸ List.mem_map.mpr ⟨p, hp, rfl⟩)) e, (x.own p hp).2⟩
  · exact ⟨(x.kn p hp).1.at fun ob e => k _ _ (fun q => hk (q ▸ List.mem_map.mpr ⟨p, hp, rfl⟩)) e, (x.kn p hp).2⟩
theorem Step.off (y : Step G L σ s σ₁ s₁) {b : Addr} {h : Heap} {t : Nat} (k : ∀ c o, c ≠ b → s₁.heap.get? c = some o → h.get? c = some o) (hb : s.heap.get? b = none) : Step G L σ s σ₁ { s₁ with heap := h, toks := t } := by
  have ne : ∀ c o, s.heap.get? c = some o → c ≠ b := fun c o e => by rintro rfl; rw [hb] at e; cases e
  obtain ⟨h', g', t', rfl⟩ := y.same
  exact ⟨⟨_, _, _, rfl⟩, y.bare, fun c o e hL ho ht => k c o (ne c o e) (y.keep c o e hL ho ht), fun c o e => let ⟨o', e'⟩ := y.live c o e; ⟨o', k c o' (ne c o e) e'⟩, y.new, y.newK⟩
theorem Sat.ne_L (x : Sat G L σ s) {b : Addr} (hb : s.heap.get? b = none) : b ≠ L := by
  rintro rfl
  obtain ⟨m, ⟨o, _, _, e, _⟩, _⟩ := x.loc
  rw [hb] at e; cases e
theorem Sat.not_own (x : Sat G L σ s) {b : Addr} (hb : s.heap.get? b = none) : b ∉ σ.own.map (·.1) := fun hm => by
  obtain ⟨p, hp, e⟩ := List.mem_map.mp hm
  obtain ⟨o, e'⟩ := (x.own p hp).1.live
  rw [e, hb] at e'; cases e'
theorem Sat.not_kn (x : Sat G L σ s) {b : Addr} (hb : s.heap.get? b = none) : b ∉ σ.kn.map (·.1) := fun hm => by
  obtain ⟨p, hp, e⟩ := List.mem_map.mp hm
  obtain ⟨o, e'⟩ := (x.kn p hp).1.live
  rw [e, hb] at e'; cases e'
theorem Sat.not_h₀ (x : Sat G L σ s) {b : Addr} (hb : s.heap.get? b = none) : G.h₀.get? b = none := by
  cases e : G.h₀.get? b with
  | none => rfl
  | some o => obtain ⟨o', e'⟩ := x.lt e; rw [hb] at e'; cases e'
theorem Sat.not_Tb (x : Sat G L σ s) {b : Addr} (h0 : G.h₀.get? b = none) : b ∉ G.Tb := fun hm => by
  obtain ⟨vs, more, e1, _⟩ := x.tabs b hm
  rw [h0] at e1; cases e1
end

/-- an iterator that hands out ds -/
structure IterAt (G : Gd) (A : Around) (L : Addr) (σ : St) (ds : List Value) (I : Addr) (fp : List Addr) (Z : Nat → Heap → Prop) : Prop where
  walks : Walks G.prog G.w A I fp [I] ds.length (fun i v => ds[i]? = some (nv v)) Z
  fpo : ∀ b ∈ fp, b ∉ σ.own.map (·.1) ∧ b ≠ L ∧ b ∉ G.Tb
  Io : I ∉ σ.own.map (·.1)
  Ik : I ∉ σ.kn.map (·.1)
  IL : I ≠ L
  I0 : G.h₀.get? I = none
  zl : ∀ i h, Z i h → ∃ o, h.get? I = some o
  lot : ∀ i t v (s : Shared) (Q : Unit → Shared → Prop), Z i s.heap → Q () s → wpAny (model G.prog G.w) A (letOwnedTupleGo t (.ref I) v) Q (fun _ _ => False) s

/-- a value that is iterated, its items -/
noncomputable def Itr (G : Gd) (A : Around) (L : Addr) (σ : St) (d : Value) (ds : List Value) : Prop := ∀ v, nv v = d → ∀ s, Sat G L σ s →
  wpAny (model G.prog G.w) A (pyIter v) (fun it s₂ => ∃ I fp Z, it = .ref I ∧ IterAt G A L σ ds I fp Z ∧ Z 0 s₂.heap ∧ s.heap.get? I = none ∧ (∀ b ∈ fp, ∃ o, s₂.heap.get? b = some o) ∧ ∃ h t, s₂ = { s with heap := h, toks := t } ∧ ∀ b o, s.heap.get? b = some o → h.get? b = some o) (fun _ _ => False) s

theorem lot_of {M : Model} {A : Around} {v : Value} {e : Expr} {I : Addr} {s : Shared} {o : Obj} {n : String} {Q : Unit → Shared → Prop} (ho : s.heap.get? I = some o) (hc : o.cls = .type n)
    (hn : (["enumerate", "zip", "dict_itemiterator", "dict_reverseitemiterator", "odict_iterator", "itertools.zip_longest", "itertools.pairwise"] : List String).contains n = false) (hq : Q () s) : wpAny M A (letOwnedTupleGo e (.ref I) v) Q (fun _ _ => False) s := by
  unfold letOwnedTupleGo
  split
  all_goals first | exact wpAny_pure hq | skip
  all_goals
    cases v with
    | ref a =>
      refine wpAny_bind (wpAny_load ho ?_)
      rw [hc]
      generalize o.data = dt
      cases dt <;> first
        | exact wpAny_pure hq
        | (dsimp only; rw [hn]; exact wpAny_pure hq)
    | _ => exact wpAny_pure hq

section
variable {G : Gd} {A : Around} {L : Addr} {σ : St}
theorem itr_list {a : Addr} {ds : List Value} (hA : A.handled = none) (h : (a, O.list ds) ∈ σ.kn) : Itr G A L σ (.ref a) ds := fun v hv s q => by
  have := nv_ref hv
  subst this
  obtain ⟨⟨vs, hl, e⟩, hL, hT, ho⟩ := q.kn _ h
  have hne : a ≠ s.heap.objs.size := Nat.ne_of_lt (Heap.lt_size hl.choose_spec)
  have hf := fresh_size s.heap
  refine wpAny_pyIter_list hl.isList ?_
  refine ⟨_, [s.heap.objs.size, a], fun i h => h.IsListIter s.heap.objs.size a i ∧ h.IsList a vs.toArray, rfl, ⟨?_, ?_, q.not_own hf, q.not_kn hf, q.ne_L hf, q.not_h₀ hf, fun i h hz => let ⟨⟨o, ho, _⟩, _⟩ := hz; ⟨o, ho⟩, ?_⟩, ⟨⟨_, Heap.get?_push_size _ rfl, rfl, rfl⟩, hl.isList.at fun o e => Heap.get?_push_of_some _ e⟩, hf, ?_, _, s.toks, rfl, fun b o e => Heap.get?_push_of_some _ e⟩
  · have W := Walks.list (prog := G.prog) (w := G.w) hA s.heap.objs.size a hne vs.toArray
    have en : vs.toArray.size = ds.length := by rw [← e]; simp
    rw [en] at W
    refine ⟨W.sub, W.frame, fun i s Q E hi st hQ => W.item i s Q E hi st fun v h' tk hp => hQ v h' tk ?_, W.done, W.self⟩
    rw [← e, List.getElem?_map]
    have hp' : vs[i]? = some v := by simpa using hp
    rw [hp']; rfl
  · intro b hb
    rcases List.mem_cons.mp hb with rfl | hb
    · exact ⟨q.not_own hf, q.ne_L hf, q.not_Tb (q.not_h₀ hf)⟩
    · rw [List.mem_singleton.mp hb]; exact ⟨ho, hL, hT⟩
  · intro i t v s Q hz hq
    obtain ⟨⟨o, ho, hc, _⟩, _⟩ := hz
    exact lot_of ho hc (by decide) hq
  · intro b hb
    rcases List.mem_cons.mp hb with rfl | hb
    · exact ⟨_, Heap.get?_push_size _ rfl⟩
    · rw [List.mem_singleton.mp hb]; exact ⟨_, Heap.get?_push_of_some _ hl.choose_spec⟩
theorem itr_tuple {a : Addr} {ds : List Value} (hA : A.handled = none) (h : (a, O.tuple ds) ∈ σ.kn) : Itr G A L σ (.ref a) ds := fun v hv s q => by
  have := nv_ref hv
  subst this
  obtain ⟨⟨vs, hl, e⟩, hL, hT, ho⟩ := q.kn _ h
  have hne : a ≠ s.heap.objs.size := by obtain ⟨o, ho, _⟩ := hl; exact Nat.ne_of_lt (Heap.lt_size ho)
  have hf := fresh_size s.heap
  refine wpAny_pyIter_tuple hl ?_
  refine ⟨_, [s.heap.objs.size, a], fun i h => h.IsTupleIter s.heap.objs.size a i ∧ h.IsTuple a vs.toArray, rfl, ⟨?_, ?_, q.not_own hf, q.not_kn hf, q.ne_L hf, q.not_h₀ hf, fun i h hz => let ⟨⟨o, ho, _⟩, _⟩ := hz; ⟨o, ho⟩, ?_⟩, ⟨⟨_, Heap.get?_push_size _ rfl, rfl, rfl⟩, hl.at fun o e => Heap.get?_push_of_some _ e⟩, hf, ?_, _, s.toks, rfl, fun b o e => Heap.get?_push_of_some _ e⟩
  · have W := Walks.tuple (prog := G.prog) (w := G.w) hA s.heap.objs.size a hne vs.toArray
    have en : vs.toArray.size = ds.length := by rw [← e]; simp
    rw [en] at W
    refine ⟨W.sub, W.frame, fun i s Q E hi st hQ => W.item i s Q E hi st fun v h' tk hp => hQ v h' tk ?_, W.done, W.self⟩
    rw [← e, List.getElem?_map]
    have hp' : vs[i]? = some v := by simpa using hp
    rw [hp']; rfl
  · intro b hb
    rcases List.mem_cons.mp hb with rfl | hb
    · exact ⟨q.not_own hf, q.ne_L hf, q.not_Tb (q.not_h₀ hf)⟩
    · rw [List.mem_singleton.mp hb]; exact ⟨ho, hL, hT⟩
  · intro i t v s Q hz hq
    obtain ⟨⟨o, ho, hc, _⟩, _⟩ := hz
    exact lot_of ho hc (by decide) hq
  · intro b hb
    rcases List.mem_cons.mp hb with rfl | hb
    · exact ⟨_, Heap.get?_push_size _ rfl⟩
    · rw [List.mem_singleton.mp hb]; obtain ⟨o, ho, _⟩ := hl; exact ⟨_, Heap.get?_push_of_some _ ho⟩
theorem itr_str {x : List Nat} (hA : A.handled = none) : Itr G A L σ (S ⟨x.toArray⟩) (x.map fun c => S ⟨#[c]⟩) := fun v hv s q => by
  obtain ⟨t, rfl⟩ := nv_str hv
  have hf := fresh_size s.heap
  have fin : ∀ (o : Obj) (Z : Nat → Heap → Prop), Walks G.prog G.w A s.heap.objs.size [s.heap.objs.size] [s.heap.objs.size] x.toArray.size (SignAt ⟨x.toArray⟩) Z → Z 0 (s.heap.push o) → o.isFreed = false →
      (∀ i h, Z i h → ∃ o n, h.get? s.heap.objs.size = some o ∧ o.cls = .type n ∧ (["enumerate", "zip", "dict_itemiterator", "dict_reverseitemiterator", "odict_iterator", "itertools.zip_longest", "itertools.pairwise"] : List String).contains n = false) →
      ∃ I fp Z, (Value.ref s.heap.objs.size) = .ref I ∧ IterAt G A L σ (x.map fun c => S ⟨#[c]⟩) I fp Z ∧ Z 0 (s.heap.push o) ∧ s.heap.get? I = none ∧ (∀ b ∈ fp, ∃ ob, (s.heap.push o).get? b = some ob) ∧ ∃ h t, ({ s with heap := s.heap.push o } : Shared) = { s with heap := h, toks := t } ∧ ∀ b o, s.heap.get? b = some o → h.get? b = some o := by
    intro o Z W hz hfr hcl
    refine ⟨_, [s.heap.objs.size], Z, rfl, ⟨?_, ?_, q.not_own hf, q.not_kn hf, q.ne_L hf, q.not_h₀ hf, fun i h hz => let ⟨o, _, ho, _⟩ := hcl i h hz; ⟨o, ho⟩, ?_⟩, hz, hf, ?_, _, s.toks, rfl, fun b o e => Heap.get?_push_of_some _ e⟩
    · have en : x.toArray.size = (x.map fun c => S ⟨#[c]⟩).length := by simp
      rw [en] at W
      refine ⟨W.sub, W.frame, fun i s Q E hi st hQ => W.item i s Q E hi st fun v h' tk hp => hQ v h' tk ?_, W.done, W.self⟩
      obtain ⟨c, u, h1, rfl⟩ := hp
      have h1' : x[i]? = some c := by simpa using h1
      rw [List.getElem?_map, h1']; rfl
    · intro b hb
      rw [List.mem_singleton.mp hb]
      exact ⟨q.not_own hf, q.ne_L hf, q.not_Tb (q.not_h₀ hf)⟩
    · intro i t v s Q hz hq
      obtain ⟨o, n, h1, h2, h3⟩ := hcl i _ hz
      exact lot_of h1 h2 h3 hq
    · intro b hb
      rw [List.mem_singleton.mp hb]
      exact ⟨_, Heap.get?_push_size _ hfr⟩
  cases ha : (⟨x.toArray⟩ : Str).cps.all (· < 128)
  · refine wpAny_pyIter_wide ha ?_
    refine fin _ _ (Walks.strWide hA _ _ t) ⟨_, Heap.get?_push_size _ rfl, rfl, rfl⟩ rfl fun i h hz => ?_
    obtain ⟨o, h1, h2, _⟩ := hz
    exact ⟨o, _, h1, h2, by decide⟩
  · refine wpAny_pyIter_ascii ha ?_
    refine fin _ _ (Walks.strAscii hA _ _ t) ⟨_, Heap.get?_push_size _ rfl, rfl, rfl⟩ rfl fun i h hz => ?_
    obtain ⟨o, h1, h2, _⟩ := hz
    exact ⟨o, _, h1, h2, by decide⟩
end

/-- a loop over the items -/
noncomputable def ForT (G : Gd) (A : Around) (env : Env) (t : Expr) (b : List Stmt) : List Value → St → (Flow → St → Prop) → Prop
  | [], σ, KF => KF .next σ
  | d :: ds, σ, KF => Asg G A env σ t d fun σ₁ => Ex G A env σ₁ b fun f σ₂ => match f with
    | .next | .cont => ForT G A env t b ds σ₂ KF
    | .brk => KF .next σ₂
    | .ret v => KF (.ret v) σ₂

section
variable {G : Gd} {A : Around} {env : Env} {σ : St} {K : Value → St → Prop} {KF : Flow → St → Prop}

theorem IterAt.step {L : Addr} {σ₁ : St} {ds : List Value} {I : Addr} {fp : List Addr} {Z : Nat → Heap → Prop} {s s₁ : Shared} (x : IterAt G A L σ ds I fp Z) (y : Step G L σ s σ₁ s₁) (hI : ∃ o, s.heap.get? I = some o) (hf : ∀ b ∈ fp, ∃ o, s.heap.get? b = some o) : IterAt G A L σ₁ ds I fp Z where
  walks := x.walks
  fpo := fun b hb => ⟨fun hm => by
    rcases y.new b hm with h | h
    · exact (x.fpo b hb).1 h
    · exact (by obtain ⟨o, e⟩ := hf b hb; rw [e] at h; cases h), (x.fpo b hb).2⟩
  Io := fun hm => by
    rcases y.new I hm with h | h
    · exact x.Io h
    · obtain ⟨o, e⟩ := hI; rw [e] at h; cases h
  Ik := fun hm => by
    rcases y.newK I hm with h | h | h | h
    · exact x.Io h
    · exact x.Ik h
    · obtain ⟨o, e⟩ := hI; rw [e] at h; cases h
    · exact h x.I0
  IL := x.IL
  I0 := x.I0
  zl := x.zl
  lot := x.lot

theorem for_run {t : Expr} {b : List Stmt} {all : List Value} {I : Addr} {fp : List Addr} {Z : Nat → Heap → Prop} {σ₀ : St} {s₀ : Shared} (hI0 : s₀.heap.get? I = none) (hIf : I ∈ fp) {R : Result → Shared → Prop}
    (hR : ∀ f s', (∃ σ', Sat G env.locals σ' s' ∧ Step G env.locals σ₀ s₀ σ' s' ∧ KF (nf f) σ') → R (.ok f) s') :
    ∀ (ds : List Value) (k : Nat) (σ : St) (s : Shared), all.drop k = ds → k ≤ all.length → ForT G A env t b ds σ KF → Sat G env.locals σ s → Step G env.locals σ₀ s₀ σ s → IterAt G A env.locals σ all I fp Z → Z k s.heap → (∀ b ∈ fp, ∃ o, s.heap.get? b = some o) →
      codeAny (model G.prog G.w) A (.forLoop t (.ref I) b [] env) R s := by
  intro ds
  induction ds with
  | nil =>
    intro k σ s hk hkl hf x y it hz hlive
    have hkn : k = all.length := Nat.le_antisymm hkl (List.drop_eq_nil_iff.mp hk)
    refine codeAny_of_tree ?_
    show wpAny _ A ((forTurn t (.ref I) b [] env).onRaise (fun x => do noteFrame x env; theTreesLotGoes x)) _ _ s
    refine wpAny_noted ?_
    simp only [forTurn]
    refine wpAny_bind (wpAny_standAt (wpAny_bind (wpAny_onRaise (wpAny_mono (it.walks.done s _ (fun _ _ => False) (hkn ▸ hz) fun h' tk kk => ?_) (fun _ _ z => z) fun _ _ e => e.elim))))
    have kk' : ∀ c o, c ≠ I → s.heap.get? c = some o → h'.get? c = some o := fun c o hc e => kk c o (by simpa using hc) e
    have x' := x.off (t := tk) kk' it.I0 it.IL it.Io it.Ik
    have y' := y.off (t := tk) kk' hI0
    refine wpAny_pure ⟨rfl, codeAny_block (wpAny_execs_nil (hR _ _ ⟨σ, x', y', hf⟩))⟩
  | cons d ds ih =>
    intro k σ s hk hkl hf x y it hz hlive
    have hlt : k < all.length := by
      have := congrArg List.length hk
      rw [List.length_drop, List.length_cons] at this; omega
    have hget : all[k]? = some d := by
      have := congrArg List.head? hk
      rw [List.head?_drop] at this; simpa using this
    have hdrop : all.drop (k + 1) = ds := by
      have := congrArg List.tail hk
      rw [List.tail_drop] at this; simpa using this
    refine codeAny_of_tree ?_
    show wpAny _ A ((forTurn t (.ref I) b [] env).onRaise (fun x => do noteFrame x env; theTreesLotGoes x)) _ _ s
    refine wpAny_noted ?_
    simp only [forTurn]
    refine wpAny_bind (wpAny_standAt (wpAny_bind (wpAny_onRaise (wpAny_mono (it.walks.item k s _ (fun _ _ => False) hlt hz fun v h' tk hv hz' kk => ?_) (fun _ _ z => z) fun _ _ e => e.elim))))
    have kk' : ∀ c o, c ≠ I → s.heap.get? c = some o → h'.get? c = some o := fun c o hc e => kk c o (by simpa using hc) e
    have hvd : nv v = d := by rw [hget] at hv; exact (Option.some.inj hv).symm
    have x' := x.off (t := tk) kk' it.I0 it.IL it.Io it.Ik
    have y' := y.off (t := tk) kk' hI0
    have live' : ∀ b ∈ fp, ∃ o, h'.get? b = some o := fun c hc => by
      by_cases q : c = I
      · subst q; exact it.zl _ _ hz'
      · obtain ⟨o, e⟩ := hlive c hc; exact ⟨o, kk' c o q e⟩
    refine wpAny_bind (wpAny_mono (it.lot (k + 1) t v _ _ hz' ?_) (fun _ _ z => z) fun _ _ e => e.elim)
    refine wpAny_bind (wpAny_mono (hf v hvd _ x') (fun _ s₂ ⟨σ₁, x₁, y₁, k₁⟩ => wpAny_bind (wpAny_mono (k₁ s₂ x₁) (fun f s₃ ⟨σ₂, x₂, y₂, k₂⟩ => ?_) fun _ _ e => e.elim)) fun _ _ e => e.elim)
    have yb := y₁.trans y₂
    have y3 := y'.trans yb
    have go : ForT G A env t b ds σ₂ KF → codeAny (model G.prog G.w) A (.forLoop t (.ref I) b [] env) R s₃ := fun hf' =>
      ih (k + 1) σ₂ s₃ hdrop hlt hf' x₂ y3 (it.step yb (live' I hIf) live') (it.walks.frame _ _ _ hz' fun c hc o e => yb.keep c o e (it.fpo c hc).2.1 (it.fpo c hc).1 (it.fpo c hc).2.2) fun c hc => let ⟨o, e⟩ := live' c hc; yb.live c o e
    cases f with
    | next => exact wpAny_pure ⟨rfl, go k₂⟩
    | cont => exact wpAny_pure ⟨rfl, go k₂⟩
    | brk => exact wpAny_pure (hR _ _ ⟨σ₂, x₂, y3, k₂⟩)
    | ret v => exact wpAny_pure (hR _ _ ⟨σ₂, x₂, y3, k₂⟩)
theorem ex_for {t iter : Expr} {b : List Stmt} {p : Pos} (h : Ev G A env σ iter fun d σ₁ => ∃ ds, Itr G A env.locals σ₁ d ds ∧ ForT G A env t b ds σ₁ KF) (hs : ∀ x, foldedSetIterable iter env x = pure x := by intro _; rfl) :
    Ex1 G A env σ (.For t iter b [] p) KF := fun s q =>
  wpAny_For (wpAny_mono (h s q) (fun v s₁ ⟨σ₁, x₁, y₁, ds, hi, hf⟩ => wpAny_mono (hi v rfl s₁ x₁) (fun it s₂ hz => by
    obtain ⟨I, fp, Z, rfl, hit, hz0, hI, hlive, h', t', rfl, kk⟩ := hz
    have hIf : I ∈ fp := hit.walks.sub I (by simp)
    refine for_run (σ₀ := σ) (s₀ := s) (y₁.live_none hI) hIf (R := _) (fun f s' hz => hz) ds 0 σ₁ _ (by simp) (Nat.zero_le _) hf (x₁.keeps (g := s₁.gens) kk) (y₁.trans (.keeps kk)) hit hz0 hlive) fun _ _ e => e.elim) fun _ _ e => e.elim) hs
end

/-- the tests of a comprehension -/
noncomputable def Tsts (G : Gd) (A : Around) (env : Env) (σ : St) : List Expr → (Bool → St → Prop) → Prop
  | [], KB => KB true σ
  | [c], KB => Tr G A env σ c KB
  | _, _ => False
/-- a comprehension over the items -/
noncomputable def CompT (G : Gd) (A : Around) (env : Env) (t : Expr) (ifs : List Expr) (elt : Expr) : List Value → List Value → St → (List Value → St → Prop) → Prop
  | [], acc, σ, KL => KL acc σ
  | d :: ds, acc, σ, KL => Asg G A env σ t d fun σ₁ => Tsts G A env σ₁ ifs fun b σ₂ =>
      if b = true then Ev G A env σ₂ elt fun y σ₃ => CompT G A env t ifs elt ds (acc ++ [y]) σ₃ KL else CompT G A env t ifs elt ds acc σ₂ KL

section
variable {G : Gd} {A : Around} {env : Env} {σ : St} {K : Value → St → Prop} {KF : Flow → St → Prop} {KL : List Value → St → Prop} {KB : Bool → St → Prop}
theorem tsts_run {ifs : List Expr} (h : Tsts G A env σ ifs KB) : T G A env.locals σ (forIn ifs true fun c r => if r = true then do let ok ← isTrue c env (eval c env); pure (ForInStep.yield ok) else pure (ForInStep.yield r)) KB := fun s q => by
  match ifs, h with
  | [], h => exact wpAny_tests_nil (Post.here q h)
  | [c], h => exact wpAny_tests_one (h s q)
  | _ :: _ :: _, h => exact h.elim

theorem comp_run {elt t iter : Expr} {ifs : List Expr} {scope : Scope} {pos : Pos} {all : List Value} {I D : Addr} {fp : List Addr} {Z : Nat → Heap → Prop} {σ₀ : St} {s₀ : Shared} (hI0 : s₀.heap.get? I = none) (hD0 : s₀.heap.get? D = none) (hIf : I ∈ fp) (hDf : D ∉ fp) (hDL : D ≠ env.locals) (hDh : G.h₀.get? D = none)
    (hall : all.length ≤ 1000000) (ht : ∀ v, letOwnedTupleGo t (.ref I) v = pure ()) {R : Result → Shared → Prop}
    (hR : ∀ s', (∃ (σ' : St) (ys : List Value), Sat G env.locals σ' s' ∧ Step G env.locals σ₀ s₀ σ' s' ∧ D ∉ σ'.own.map (·.1) ∧ s'.heap.PlainList D ys.toArray ∧ KL (ys.map nv) σ') → R (.ok .next) s') :
    ∀ (ds : List Value) (k : Nat) (σ : St) (s : Shared) (ys : List Value), all.drop k = ds → k ≤ all.length → ys.length ≤ k → CompT G A env t ifs elt ds (ys.map nv) σ KL → Sat G env.locals σ s → Step G env.locals σ₀ s₀ σ s → IterAt G A env.locals σ all I fp Z → Z k s.heap → (∀ b ∈ fp, ∃ o, s.heap.get? b = some o) →
      s.heap.PlainList D ys.toArray → D ∉ σ.own.map (·.1) → D ∉ σ.kn.map (·.1) →
      codeAny (model G.prog G.w) A (.compLoop (.ListComp elt [⟨t, iter, ifs, 0⟩] scope pos) 0 (.ref I) (.ref D) env) R s := by
  intro ds
  have hDT : ∀ {σ s}, Sat G env.locals σ s → D ∉ G.Tb := fun x => x.not_Tb hDh
  induction ds with
  | nil =>
    intro k σ s ys hk hkl hyk hf x y it hz hlive hD hDo hDk
    have hkn : k = all.length := Nat.le_antisymm hkl (List.drop_eq_nil_iff.mp hk)
    refine codeAny_of_tree ?_
    show wpAny _ A ((compTurn (.ListComp elt [⟨t, iter, ifs, 0⟩] scope pos) 0 (.ref I) (.ref D) env).onRaise (fun x => do noteFrame x env; theTreesLotGoes x)) _ _ s
    refine wpAny_noted ?_
    rw [compTurn_list]
    refine wpAny_bind (wpAny_standAt (wpAny_bind (wpAny_mono (it.walks.done s _ (fun _ _ => False) (hkn ▸ hz) fun h' tk kk => ?_) (fun _ _ z => z) fun _ _ e => e.elim)))
    have kk' : ∀ c o, c ≠ I → s.heap.get? c = some o → h'.get? c = some o := fun c o hc e => kk c o (by simpa using hc) e
    have x' := x.off (t := tk) kk' it.I0 it.IL it.Io it.Ik
    have y' := y.off (t := tk) kk' hI0
    exact wpAny_pure (hR _ ⟨σ, ys, x', y', hDo, hD.at fun o e => kk' _ o (fun q => hDf (q ▸ hIf)) e, hf⟩)
  | cons d ds ih =>
    intro k σ s ys hk hkl hyk hf x y it hz hlive hD hDo hDk
    have hlt : k < all.length := by
      have := congrArg List.length hk
      rw [List.length_drop, List.length_cons] at this; omega
    have hget : all[k]? = some d := by
      have := congrArg List.head? hk
      rw [List.head?_drop] at this; simpa using this
    have hdrop : all.drop (k + 1) = ds := by
      have := congrArg List.tail hk
      rw [List.tail_drop] at this; simpa using this
    refine codeAny_of_tree ?_
    show wpAny _ A ((compTurn (.ListComp elt [⟨t, iter, ifs, 0⟩] scope pos) 0 (.ref I) (.ref D) env).onRaise (fun x => do noteFrame x env; theTreesLotGoes x)) _ _ s
    refine wpAny_noted ?_
    rw [compTurn_list]
    refine wpAny_bind (wpAny_standAt (wpAny_bind (wpAny_mono (it.walks.item k s _ (fun _ _ => False) hlt hz fun v h' tk hv hz' kk => ?_) (fun _ _ z => z) fun _ _ e => e.elim)))
    have kk' : ∀ c o, c ≠ I → s.heap.get? c = some o → h'.get? c = some o := fun c o hc e => kk c o (by simpa using hc) e
    have hDI : D ≠ I := fun q => hDf (q ▸ hIf)
    have hvd : nv v = d := by rw [hget] at hv; exact (Option.some.inj hv).symm
    have x' := x.off (t := tk) kk' it.I0 it.IL it.Io it.Ik
    have y' := y.off (t := tk) kk' hI0
    have hD' : h'.PlainList D ys.toArray := hD.at fun o e => kk' _ o hDI e
    have live' : ∀ b ∈ fp, ∃ o, h'.get? b = some o := fun c hc => by
      by_cases q : c = I
      · subst q; exact it.zl _ _ hz'
      · obtain ⟨o, e⟩ := hlive c hc; exact ⟨o, kk' c o q e⟩
    refine wpAny_bind (wpAny_of_eq (ht v) ?_)
    refine wpAny_bind (wpAny_mono (hf v hvd _ x') (fun _ s₂ ⟨σ₁, x₁, y₁, k₁⟩ => wpAny_bind (wpAny_mono (tsts_run k₁ s₂ x₁) (fun ok s₃ ⟨σ₂, x₂, y₂, k₂⟩ => ?_) fun _ _ e => e.elim)) fun _ _ e => e.elim)
    have yb := y₁.trans y₂
    have y3 := y'.trans yb
    have hDn : D ∉ σ₂.own.map (·.1) := fun hm => by
      rcases yb.new D hm with h | h
      · exact hDo h
      · obtain ⟨n, e⟩ := hD'; rw [e] at h; cases h
    have hDkn : ∀ {σ₂ : St} {s₃ : Shared}, Step G env.locals σ { s with heap := h', toks := tk } σ₂ s₃ → D ∉ σ₂.kn.map (·.1) := fun yb hm => by
      rcases yb.newK D hm with h | h | h | h
      · exact hDo h
      · exact hDk h
      · obtain ⟨n, e⟩ := hD'; rw [e] at h; cases h
      · exact h hDh
    have hfpD : ∀ c ∈ fp, c ≠ D := fun c hc q => hDf (q ▸ hc)
    cases ok with
    | false =>
      have k2 : CompT G A env t ifs elt ds (ys.map nv) σ₂ KL := k₂
      exact wpAny_pure ⟨rfl, ih (k + 1) σ₂ s₃ ys hdrop hlt (Nat.le_succ_of_le hyk) k2 x₂ y3 (it.step yb (live' I hIf) live') (it.walks.frame _ _ _ hz' fun c hc o e => yb.keep c o e (it.fpo c hc).2.1 (it.fpo c hc).1 (it.fpo c hc).2.2)
        (fun c hc => let ⟨o, e⟩ := live' c hc; yb.live c o e) (hD'.at fun o e => yb.keep D o e hDL hDo (hDT x)) hDn (hDkn yb)⟩
    | true =>
      have k2 : Ev G A env σ₂ elt fun y σ₃ => CompT G A env t ifs elt ds (ys.map nv ++ [y]) σ₃ KL := k₂
      refine wpAny_bind (wpAny_bind (wpAny_mono (k2 s₃ x₂) (fun u s₄ ⟨σ₃, x₃, y₃, k₃⟩ => ?_) fun _ _ e => e.elim))
      have yc := yb.trans y₃
      have y4 := y'.trans yc
      have hDn3 : D ∉ σ₃.own.map (·.1) := fun hm => by
        rcases yc.new D hm with h | h
        · exact hDo h
        · obtain ⟨n, e⟩ := hD'; rw [e] at h; cases h
      have hD4 : s₄.heap.PlainList D ys.toArray := hD'.at fun o e => yc.keep D o e hDL hDo (hDT x)
      refine wpAny_bind (wpAny_list_append_plain (hsz := by rw [List.size_toArray]; exact Nat.le_trans hyk (Nat.le_trans hkl (Nat.le_trans hall (by decide)))) hD4 fun h₅ hl₅ hs₅ => ?_)
      have x5 := x₃.off (t := s₄.toks) (fun c o hc e => (hs₅.2 c hc).trans e) hDh hDL hDn3 (hDkn yc)
      have y5 := y4.off (t := s₄.toks) (fun c o hc e => (hs₅.2 c hc).trans e) hD0
      have hys : (ys.toArray.push u) = (ys ++ [u]).toArray := by simp
      rw [hys] at hl₅
      refine wpAny_pure (wpAny_pure ⟨rfl, ih (k + 1) σ₃ _ (ys ++ [u]) hdrop hlt (by rw [List.length_append, List.length_singleton]; omega) (by simpa using k₃) x5 y5 (it.step yc (live' I hIf) live') ?_ ?_ hl₅ hDn3 (hDkn yc)⟩)
      · refine it.walks.frame _ _ _ hz' fun c hc o e => ?_
        exact (hs₅.2 c (hfpD c hc)).trans (yc.keep c o e (it.fpo c hc).2.1 (it.fpo c hc).1 (it.fpo c hc).2.2)
      · intro c hc
        obtain ⟨o, e⟩ := live' c hc
        obtain ⟨o', e'⟩ := yc.live c o e
        exact ⟨o', (hs₅.2 c (hfpD c hc)).trans e'⟩
end

section
variable {G : Gd} {L L' : Addr} {σ σ' : St} {s s' : Shared}
/-- an own object told of besides -/
theorem Sat.adopt (x : Sat G L σ s) {a : Addr} {o : O} (ho : Holds (G.prog, G.w) s.heap a o) (h1 : a ∉ σ.own.map (·.1)) (h2 : a ∉ σ.kn.map (·.1)) (h3 : a ≠ L) (h4 : G.h₀.get? a = none) : Sat G L { σ with own := (a, o) :: σ.own } s := by
  refine ⟨x.base, x.tabs, x.loc, x.locNew, fun p hp => ?_, fun p hp => ?_, List.nodup_cons.mpr ⟨h1, x.nd⟩⟩
  · rcases List.mem_cons.mp hp with rfl | hp
    · exact ⟨ho, h3, h4⟩
    · exact x.own p hp
  · refine ⟨(x.kn p hp).1, (x.kn p hp).2.1, (x.kn p hp).2.2.1, fun hm => ?_⟩
    rcases List.mem_cons.mp hm with e | hm
    · exact h2 (List.mem_map.mpr ⟨p, hp, e⟩)
    · exact (x.kn p hp).2.2.2 hm
/-- back from an inner frame that owned nothing at its start -/
theorem Sat.back (x : Sat G L σ s) (x' : Sat G L' σ' s') {m₀ : List (Str × Value)} {k₀ : List (Addr × O)} (y : Step G L' ⟨m₀, [], k₀⟩ s σ' s') (hL' : s.heap.get? L' = none) :
    Sat G L { σ with own := σ'.own ++ σ.own } s' ∧ Step G L σ s { σ with own := σ'.own ++ σ.own } s' := by
  have keep : ∀ b o, s.heap.get? b = some o → b ∉ G.Tb → s'.heap.get? b = some o := fun b o e ht => y.keep b o e (fun q => by rw [q, hL'] at e; cases e) (by simp) ht
  have fr : ∀ a ∈ σ'.own.map (·.1), s.heap.get? a = none := fun a ha => (y.new a ha).resolve_left (by simp)
  have hLT : L ∉ G.Tb := x.not_Tb x.locNew
  refine ⟨⟨x'.base, x'.tabs, ?_, x.locNew, fun p hp => ?_, fun p hp => ?_, ?_⟩, ⟨y.same, y.bare, fun b o e _ _ ht => keep b o e ht, y.live, fun a ha => ?_, fun a ha => .inr (.inl ha)⟩⟩
  · obtain ⟨m, ⟨o, es, ep, e, r⟩, hm⟩ := x.loc
    exact ⟨m, ⟨o, es, ep, keep L o e hLT, r⟩, hm⟩
  · rcases List.mem_append.mp hp with hp | hp
    · refine ⟨(x'.own p hp).1, ?_, (x'.own p hp).2.2⟩
      exact x.ne_L (fr _ (List.mem_map.mpr ⟨p, hp, rfl⟩))
    · refine ⟨(x.own p hp).1.at fun ob e => keep _ _ e (x.not_Tb (x.own p hp).2.2), (x.own p hp).2⟩
  · refine ⟨(x.kn p hp).1.at fun ob e => keep _ _ e (x.kn p hp).2.2.1, (x.kn p hp).2.1, (x.kn p hp).2.2.1, fun hm => ?_⟩
    rw [List.map_append] at hm
    rcases List.mem_append.mp hm with hm | hm
    · obtain ⟨o, e⟩ := (x.kn p hp).1.live
      rw [fr _ hm] at e; cases e
    · exact (x.kn p hp).2.2.2 hm
  · rw [List.map_append]
    refine List.nodup_append.mpr ⟨x'.nd, x.nd, fun a ha b hb e => ?_⟩
    subst e
    exact x.not_own (fr a ha) hb
  · rw [List.map_append] at ha
    rcases List.mem_append.mp ha with ha | ha
    · exact .inr (fr a ha)
    · exact .inl ha
/-- into an inner frame: all that is told stays -/
theorem Sat.into (x : Sat G L σ s) {h : Heap} {t : Nat} {m' : Str → Option Value} {ms : List (Str × Value)} (k : ∀ b o, s.heap.get? b = some o → h.get? b = some o) (hL' : s.heap.get? L' = none) (hn : h.Ns L' m') (hm : ∀ x d, ms.lookup x = some d → ∃ v, m' x = some v ∧ nv v = d) :
    Sat G L' ⟨ms, [], σ.own ++ σ.kn⟩ { s with heap := h, toks := t } := by
  have y := x.keeps (t := t) (g := s.gens) k
  have ne : ∀ {a : Addr} {o : O}, Holds (G.prog, G.w) s.heap a o → a ≠ L' := fun hh e => by
    obtain ⟨ob, e'⟩ := hh.live
    rw [e, hL'] at e'; cases e'
  refine ⟨y.base, y.tabs, ⟨m', hn, hm⟩, x.not_h₀ hL', fun p hp => (by simp at hp), fun p hp => ?_, List.nodup_nil⟩
  rcases List.mem_append.mp hp with hp | hp
  · exact ⟨(y.own p hp).1, ne (x.own p hp).1, x.not_Tb (x.own p hp).2.2, by simp⟩
  · exact ⟨(y.kn p hp).1, ne (x.kn p hp).1, (y.kn p hp).2.2.1, by simp⟩
/-- all that is told is frozen -/
noncomputable def St.froze (σ : St) : St := ⟨σ.m, [], σ.own ++ σ.kn⟩
theorem Sat.froze (x : Sat G L σ s) : Sat G L σ.froze s := by
  refine ⟨x.base, x.tabs, x.loc, x.locNew, fun p hp => (by simp [St.froze] at hp), fun p hp => ?_, List.nodup_nil⟩
  rcases List.mem_append.mp hp with hp | hp
  · exact ⟨(x.own p hp).1, (x.own p hp).2.1, x.not_Tb (x.own p hp).2.2, by simp [St.froze]⟩
  · exact ⟨(x.kn p hp).1, (x.kn p hp).2.1, (x.kn p hp).2.2.1, by simp [St.froze]⟩
end

section
variable {G : Gd} {A : Around} {env : Env} {σ : St} {K : Value → St → Prop} {KF : Flow → St → Prop}
theorem ev_comp {elt t iter : Expr} {ifs : List Expr} {scope : Scope} {pos : Pos} {cl : List (Str × Addr)}
    (h : Ev G A env σ iter fun d σ₁ => ∃ ds, Itr G A env.locals σ₁.froze d ds ∧ ds.length ≤ 1000000 ∧ ∀ C, CompT G A (compEnvC scope cl C env) t ifs elt ds [] (σ₁.enter [] []) fun acc σ' => ∀ D, K (.ref D) ((σ₁.leave σ').put D (.list acc)))
    (hclos : closureFor scope env = pure cl := by with_unfolding_all rfl) (hcell : ∀ y ∈ scope.names, y.2 ≠ .cell := by decide) (hkind : scope.kind = .function := by rfl)
    (hnames : ∀ y ∈ scope.names, y.2 = .local → scope.names.lookup y.1 = some .local := by decide)
    (ht : ∀ I v, letOwnedTupleGo t (.ref I) v = pure () := by intro _ _; rfl) (hs : ∀ x, foldedSetIterable iter env x = pure x := by intro _; rfl) :
    Ev G A env σ (.ListComp elt [⟨t, iter, ifs, 0⟩] scope pos) K := fun s q => by
  rw [eval_ListComp]
  refine wpAny_comprehension_free (use := none) rfl hs hclos hkind hnames (wpAny_mono (h s q) (fun xv s₁ hz => ?_) fun _ _ e => e.elim)
  obtain ⟨σ₁, x₁, y₁, ds, hi, hall, hc⟩ := hz
  refine wpAny_mono (hi xv rfl s₁ x₁.froze) (fun it s₂ hz => ?_) fun _ _ e => e.elim
  obtain ⟨I, fp, Z, rfl, hit, hz0, hI, hlive, h', t', rfl, kk⟩ := hz
  refine wpAny_newObj_type (wpAny_newFunctionEnv hcell (by intro y hy; simp at hy) (fun h₁ hns₁ hsb₁ => ?_) hkind)
  dsimp only at hns₁ hsb₁ ⊢
  generalize hH2 : h'.push { cls := .type "list", dict := none, data := .seq ([] : List Value).toArray } = H2 at hns₁ hsb₁ ⊢
  have hC : H2.objs.size = h'.objs.size + 1 := by rw [← hH2, Heap.size_push]
  have hDC : h'.objs.size ≠ H2.objs.size := by rw [hC]; exact Nat.ne_of_lt (Nat.lt_succ_self _)
  have below : ∀ b, b < h'.objs.size → b ≠ H2.objs.size := fun b hb => by rw [hC]; exact Nat.ne_of_lt (Nat.lt_succ_of_lt hb)
  have old : ∀ b o, h'.get? b = some o → h₁.get? b = some o := fun b o e => hsb₁.extBut b o (below b (Heap.lt_size e)) (Heap.get?_push_of_some _ (hH2 ▸ Heap.get?_push_of_some _ e))
  have up : ∀ b o, s₁.heap.get? b = some o → h₁.get? b = some o := fun b o e => old b o (kk b o e)
  have none_of : ∀ {a}, h'.get? a = none → s₁.heap.get? a = none := fun {a} e => by
    cases e' : s₁.heap.get? a with
    | none => rfl
    | some o => rw [kk a o e'] at e; cases e
  have hCn : s₁.heap.get? H2.objs.size = none := none_of (by
    cases e : h'.get? H2.objs.size with
    | none => rfl
    | some o => exact absurd (Heap.lt_size e) (by rw [hC]; exact Nat.not_lt.mpr (Nat.le_succ _)))
  have hDn : s₁.heap.get? h'.objs.size = none := none_of (fresh_size h')
  have hplain : h₁.PlainList h'.objs.size ([] : List Value).toArray := ⟨_, hsb₁.extBut _ _ hDC (Heap.get?_push_of_some _ (hH2 ▸ Heap.get?_push_size _ rfl))⟩
  have hfpC : ∀ b ∈ fp, b ≠ H2.objs.size := fun b hb => let ⟨o, e⟩ := hlive b hb; below b (Heap.lt_size e)
  have hfpD : h'.objs.size ∉ fp := fun hm => let ⟨o, e⟩ := hlive _ hm; Nat.lt_irrefl _ (Heap.lt_size e)
  have hIf : I ∈ fp := hit.walks.sub I (by simp)
  have xin := x₁.into (L' := H2.objs.size) (ms := []) (t := t' + ([] : List (Str × Value)).length) up hCn hns₁ (fun x d e => by simp at e)
  have yin : Step G H2.objs.size ⟨[], [], σ₁.own ++ σ₁.kn⟩ s₁ ⟨[], [], σ₁.own ++ σ₁.kn⟩ { s₁ with heap := h₁, toks := t' + ([] : List (Str × Value)).length } := Step.keeps up
  have hit' : IterAt G A (compEnvC scope cl H2.objs.size env).locals ⟨[], [], σ₁.own ++ σ₁.kn⟩ ds I fp Z :=
    ⟨hit.walks, fun b hb => ⟨by simp, hfpC b hb, (hit.fpo b hb).2.2⟩, by simp, hit.Ik, hfpC I hIf, hit.I0, hit.zl, hit.lot⟩
  have fin : ∀ s₃ : Shared, s₃ = { s₁ with heap := h₁, toks := t' + ([] : List (Str × Value)).length } → codeAny (model G.prog G.w) A (.compLoop (.ListComp elt [⟨t, iter, ifs, 0⟩] scope pos) 0 (.ref I) (.ref h'.objs.size) (compEnvC scope cl H2.objs.size env))
      (compPost (model G.prog G.w) A (fun _ _ => False) none (Post G env.locals σ s fun v => K (nv v)) (.ref h'.objs.size) H2.objs.size) s₃ := by
    rintro s₃ rfl
    refine comp_run (env := compEnvC scope cl H2.objs.size env) (s₀ := s₁) (σ₀ := ⟨[], [], σ₁.own ++ σ₁.kn⟩) hI hDn hIf hfpD hDC (x₁.not_h₀ hDn) hall (ht I) (fun s' hz => ?_) ds 0 _ _ [] (by simp) (Nat.zero_le _) (by simp) (hc _) xin yin hit' (hit'.walks.frame _ _ _ hz0 fun b hb o e => old b o e) (fun b hb => let ⟨o, e⟩ := hlive b hb; ⟨o, old b o e⟩) hplain (by simp) (by
        have := x₁.not_own hDn
        have := x₁.not_kn hDn
        simp only [List.map_append, List.mem_append, not_or]
        exact ⟨‹_›, ‹_›⟩)
    obtain ⟨σ', ys, x', y', hDo, hD', hK⟩ := hz
    obtain ⟨xb, yb⟩ := x₁.back x' y' hCn
    obtain ⟨m', hn', _⟩ := x'.loc
    refine ⟨m', hn', fun h'' hs'' => ?_⟩
    have hCo : H2.objs.size ∉ (σ'.own ++ σ₁.own).map (·.1) := fun hm => by
      rw [List.map_append] at hm
      rcases List.mem_append.mp hm with hm | hm
      · obtain ⟨p, hp, e⟩ := List.mem_map.mp hm
        exact (x'.own p hp).2.1 e
      · exact x₁.not_own hCn hm
    have x2 := xb.off (t := s'.toks) (h := h'') (b := H2.objs.size) (fun c o hc e => (hs''.2 c hc).trans e) (x₁.not_h₀ hCn) (x₁.ne_L hCn) hCo (x₁.not_kn hCn)
    have y2 := yb.off (t := s'.toks) (h := h'') (b := H2.objs.size) (fun c o hc e => (hs''.2 c hc).trans e) hCn
    have hD2 : h''.PlainList h'.objs.size ys.toArray := hD'.at fun o e => (hs''.2 _ hDC).trans e
    have hDo2 : h'.objs.size ∉ (σ'.own ++ σ₁.own).map (·.1) := fun hm => by
      rw [List.map_append] at hm
      rcases List.mem_append.mp hm with hm | hm
      · exact hDo hm
      · exact x₁.not_own hDn hm
    have x3 := x2.adopt (o := .list (ys.map nv)) ⟨ys, hD2, rfl⟩ hDo2 (x₁.not_kn hDn) (x₁.ne_L hDn) (x₁.not_h₀ hDn)
    refine ⟨_, x3, y₁.trans ⟨y2.same, y2.bare, y2.keep, y2.live, fun a ha => ?_, y2.newK⟩, hK _⟩
    rcases List.mem_cons.mp ha with rfl | ha
    · exact .inr hDn
    · exact y2.new a ha
  exact codeAny_compStart_list (fin _ rfl) (hit.walks.self 0 _ _ _ (hit.walks.frame _ _ _ hz0 fun b hb o e => old b o e) (fin _ rfl))
theorem ex_assign_comp {x : Str} {p' p : Pos} {elt t iter : Expr} {ifs : List Expr} {scope : Scope} {pos : Pos} {cl : List (Str × Addr)}
    (h : Ev G A env σ iter fun d σ₁ => ∃ ds, Itr G A env.locals σ₁.froze d ds ∧ ds.length ≤ 1000000 ∧ ∀ C, CompT G A (compEnvC scope cl C env) t ifs elt ds [] (σ₁.enter [] []) fun acc σ' => ∀ D, Sto G A env ((σ₁.leave σ').put D (.list acc)) x (.ref D) fun σ₂ => KF .next σ₂)
    (hsw : swapsWith (.ListComp elt [⟨t, iter, ifs, 0⟩] scope pos) (some (.Name x p')) p.line env = pure true := by with_unfolding_all rfl)
    (hclos : closureFor scope env = pure cl := by with_unfolding_all rfl) (hcell : ∀ y ∈ scope.names, y.2 ≠ .cell := by decide) (hkind : scope.kind = .function := by rfl)
    (hnames : ∀ y ∈ scope.names, y.2 = .local → scope.names.lookup y.1 = some .local := by decide)
    (ht : ∀ I v, letOwnedTupleGo t (.ref I) v = pure () := by intro _ _; rfl) (hs : ∀ x, foldedSetIterable iter env x = pure x := by intro _; rfl) :
    Ex1 G A env σ (.Assign [.Name x p'] (.ListComp elt [⟨t, iter, ifs, 0⟩] scope pos) p) KF := fun s q => by
  rw [exec_Assign_Name_used x p' _ p hsw]
  refine wpAny_bind (wpAny_standAt (wpAny_bind ?_))
  show wpAny _ A (do let _ ← comprehension (.ListComp elt [⟨t, iter, ifs, 0⟩] scope pos) scope env _ (newList []) false (eval iter env) (some (assign (.Name x p') env))) _ _ s
  refine wpAny_bind (wpAny_mono (wpAny_comprehension_free (use := some (assign (.Name x p') env)) (Q := fun _ s' => Post G env.locals σ s (fun f => KF (nf f)) .next s') rfl hs hclos hkind hnames (wpAny_mono (h s q) (fun xv s₁ hz => ?_) fun _ _ e => e))
    (fun _ s' hq => wpAny_pure (wpAny_pure hq)) fun _ _ e => e)
  obtain ⟨σ₁, x₁, y₁, ds, hi, hall, hc⟩ := hz
  refine wpAny_mono (hi xv rfl s₁ x₁.froze) (fun it s₂ hz => ?_) fun _ _ e => e.elim
  obtain ⟨I, fp, Z, rfl, hit, hz0, hI, hlive, h', t', rfl, kk⟩ := hz
  refine wpAny_newObj_type (wpAny_newFunctionEnv hcell (by intro y hy; simp at hy) (fun h₁ hns₁ hsb₁ => ?_) hkind)
  dsimp only at hns₁ hsb₁ ⊢
  generalize hH2 : h'.push { cls := .type "list", dict := none, data := .seq ([] : List Value).toArray } = H2 at hns₁ hsb₁ ⊢
  have hC : H2.objs.size = h'.objs.size + 1 := by rw [← hH2, Heap.size_push]
  have hDC : h'.objs.size ≠ H2.objs.size := by rw [hC]; exact Nat.ne_of_lt (Nat.lt_succ_self _)
  have below : ∀ b, b < h'.objs.size → b ≠ H2.objs.size := fun b hb => by rw [hC]; exact Nat.ne_of_lt (Nat.lt_succ_of_lt hb)
  have old : ∀ b o, h'.get? b = some o → h₁.get? b = some o := fun b o e => hsb₁.extBut b o (below b (Heap.lt_size e)) (Heap.get?_push_of_some _ (hH2 ▸ Heap.get?_push_of_some _ e))
  have up : ∀ b o, s₁.heap.get? b = some o → h₁.get? b = some o := fun b o e => old b o (kk b o e)
  have none_of : ∀ {a}, h'.get? a = none → s₁.heap.get? a = none := fun {a} e => by
    cases e' : s₁.heap.get? a with
    | none => rfl
    | some o => rw [kk a o e'] at e; cases e
  have hCn : s₁.heap.get? H2.objs.size = none := none_of (by
    cases e : h'.get? H2.objs.size with
    | none => rfl
    | some o => exact absurd (Heap.lt_size e) (by rw [hC]; exact Nat.not_lt.mpr (Nat.le_succ _)))
  have hDn : s₁.heap.get? h'.objs.size = none := none_of (fresh_size h')
  have hplain : h₁.PlainList h'.objs.size ([] : List Value).toArray := ⟨_, hsb₁.extBut _ _ hDC (Heap.get?_push_of_some _ (hH2 ▸ Heap.get?_push_size _ rfl))⟩
  have hfpC : ∀ b ∈ fp, b ≠ H2.objs.size := fun b hb => let ⟨o, e⟩ := hlive b hb; below b (Heap.lt_size e)
  have hfpD : h'.objs.size ∉ fp := fun hm => let ⟨o, e⟩ := hlive _ hm; Nat.lt_irrefl _ (Heap.lt_size e)
  have hIf : I ∈ fp := hit.walks.sub I (by simp)
  have xin := x₁.into (L' := H2.objs.size) (ms := []) (t := t' + ([] : List (Str × Value)).length) up hCn hns₁ (fun x d e => by simp at e)
  have yin : Step G H2.objs.size ⟨[], [], σ₁.own ++ σ₁.kn⟩ s₁ ⟨[], [], σ₁.own ++ σ₁.kn⟩ { s₁ with heap := h₁, toks := t' + ([] : List (Str × Value)).length } := Step.keeps up
  have hit' : IterAt G A (compEnvC scope cl H2.objs.size env).locals ⟨[], [], σ₁.own ++ σ₁.kn⟩ ds I fp Z :=
    ⟨hit.walks, fun b hb => ⟨by simp, hfpC b hb, (hit.fpo b hb).2.2⟩, by simp, hit.Ik, hfpC I hIf, hit.I0, hit.zl, hit.lot⟩
  have fin : ∀ s₃ : Shared, s₃ = { s₁ with heap := h₁, toks := t' + ([] : List (Str × Value)).length } → codeAny (model G.prog G.w) A (.compLoop (.ListComp elt [⟨t, iter, ifs, 0⟩] scope pos) 0 (.ref I) (.ref h'.objs.size) (compEnvC scope cl H2.objs.size env))
      (compPost (model G.prog G.w) A (fun _ _ => False) (some (assign (.Name x p') env)) (fun _ s' => Post G env.locals σ s (fun f => KF (nf f)) .next s') (.ref h'.objs.size) H2.objs.size) s₃ := by
    rintro s₃ rfl
    refine comp_run (env := compEnvC scope cl H2.objs.size env) (s₀ := s₁) (σ₀ := ⟨[], [], σ₁.own ++ σ₁.kn⟩) hI hDn hIf hfpD hDC (x₁.not_h₀ hDn) hall (ht I) (fun s' hz => ?_) ds 0 _ _ [] (by simp) (Nat.zero_le _) (by simp) (hc _) xin yin hit' (hit'.walks.frame _ _ _ hz0 fun b hb o e => old b o e) (fun b hb => let ⟨o, e⟩ := hlive b hb; ⟨o, old b o e⟩) hplain (by simp) (by
        have := x₁.not_own hDn
        have := x₁.not_kn hDn
        simp only [List.map_append, List.mem_append, not_or]
        exact ⟨‹_›, ‹_›⟩)
    obtain ⟨σ', ys, x', y', hDo, hD', hK⟩ := hz
    obtain ⟨xb, yb⟩ := x₁.back x' y' hCn
    obtain ⟨m', hn', _⟩ := x'.loc
    have hCo : H2.objs.size ∉ (σ'.own ++ σ₁.own).map (·.1) := fun hm => by
      rw [List.map_append] at hm
      rcases List.mem_append.mp hm with hm | hm
      · obtain ⟨p, hp, e⟩ := List.mem_map.mp hm
        exact (x'.own p hp).2.1 e
      · exact x₁.not_own hCn hm
    have hDo2 : h'.objs.size ∉ (σ'.own ++ σ₁.own).map (·.1) := fun hm => by
      rw [List.map_append] at hm
      rcases List.mem_append.mp hm with hm | hm
      · exact hDo hm
      · exact x₁.not_own hDn hm
    have x3 := xb.adopt (o := .list (ys.map nv)) ⟨ys, hD', rfl⟩ hDo2 (x₁.not_kn hDn) (x₁.ne_L hDn) (x₁.not_h₀ hDn)
    have y3 : Step G env.locals σ₁ s₁ { σ₁ with own := (h'.objs.size, .list (ys.map nv)) :: (σ'.own ++ σ₁.own) } s' := ⟨yb.same, yb.bare, yb.keep, yb.live, fun a ha => by
      rcases List.mem_cons.mp ha with rfl | ha
      · exact .inr hDn
      · exact yb.new a ha, yb.newK⟩
    have hCo3 : H2.objs.size ∉ ((h'.objs.size, O.list (ys.map nv)) :: (σ'.own ++ σ₁.own)).map (·.1) := fun hm => by
      rcases List.mem_cons.mp hm with e | hm
      · exact hDC e.symm
      · exact hCo hm
    refine wpAny_assign_Name (wpAny_mono (hK _ _ rfl s' x3) (fun _ s'' hz => ?_) fun _ _ e => e.elim)
    obtain ⟨σ₄, x4, y4, k4⟩ := hz
    have hCL := x₁.ne_L hCn
    have hC0 := x₁.not_h₀ hCn
    have hn4 : s''.heap.Ns H2.objs.size m' := hn'.at' fun o e => y4.keep _ o e hCL hCo3 (x₁.not_Tb hC0)
    obtain ⟨oC, eC⟩ : ∃ oC, s'.heap.get? H2.objs.size = some oC := let ⟨oC, _, _, eC, _⟩ := hn'; ⟨oC, eC⟩
    have hCo4 : H2.objs.size ∉ σ₄.own.map (·.1) := fun hm => by
      rcases y4.new _ hm with h | h
      · exact hCo3 h
      · rw [eC] at h; cases h
    have hCk4 : H2.objs.size ∉ σ₄.kn.map (·.1) := fun hm => by
      rcases y4.newK _ hm with h | h | h | h
      · exact hCo3 h
      · exact x₁.not_kn hCn h
      · rw [eC] at h; cases h
      · exact h hC0
    refine ⟨m', hn4, fun h'' hs'' => ?_⟩
    have x5 := x4.off (t := s''.toks) (h := h'') (b := H2.objs.size) (fun c o hc e => (hs''.2 c hc).trans e) hC0 hCL hCo4 hCk4
    have y5 := ((y₁.trans y3).trans y4).off (t := s''.toks) (h := h'') (b := H2.objs.size) (fun c o hc e => (hs''.2 c hc).trans e) (y₁.live_none hCn)
    exact ⟨_, x5, y5, k4⟩
  exact codeAny_compStart_list (fin _ rfl) (hit.walks.self 0 _ _ _ (hit.walks.frame _ _ _ hz0 fun b hb o e => old b o e) (fin _ rfl))
end
/-- what a flow hands back -/
noncomputable def retv : Flow → Value
  | .ret v => v
  | _ => .none
noncomputable def nb (l : List (Str × Value)) : List (Str × Value) := l.map fun x => (x.1, nv x.2)
theorem lookup_nb : ∀ {l : List (Str × Value)} {x : Str} {d : Value}, (nb l).lookup x = some d → ∃ v, l.lookup x = some v ∧ nv v = d
  | (y, v) :: r, x, d, h => by
    have h' : List.lookup x ((y, nv v) :: nb r) = some d := h
    rw [List.lookup_cons] at h' ⊢
    cases q : x == y with
    | true => rw [q] at h'; exact ⟨v, rfl, Option.some.inj h'⟩
    | false => rw [q] at h'; exact lookup_nb h'
theorem nb_reverse (l : List (Str × Value)) : nb l.reverse = (nb l).reverse := List.map_reverse
theorem nb_zip : ∀ (names : List Str) (vs : List Value), nb (names.zip vs) = names.zip (vs.map nv)
  | [], _ => by simp [nb]
  | _ :: _, [] => by simp [nb]
  | n :: ns, v :: vs => by
    have := nb_zip ns vs
    simp only [nb] at this
    simp [nb, this]

noncomputable def msL (kind : Str → Option NameKind) : List (Str × Value) → List (Str × Value) → List (Str × Value)
  | [], acc => acc
  | (n, v) :: r, acc => msL kind r (if kind n = some .local then (n, v) :: acc else acc)
theorem msL_ok (kind : Str → Option NameKind) : ∀ (l : List (Str × Value)) (acc : List (Str × Value)) (m : Str → Option Value), (∀ x d, acc.lookup x = some d → ∃ v, m x = some v ∧ nv v = d) →
    ∀ x d, (msL kind (nb l) acc).lookup x = some d → ∃ v, bindL kind l m x = some v ∧ nv v = d
  | [], acc, m, h => h
  | (n, v) :: r, acc, m, h => by
    show ∀ x d, (msL kind (nb r) (if kind n = some .local then (n, nv v) :: acc else acc)).lookup x = some d → ∃ u, bindL kind r (if kind n = some .local then fun y => if y = n then some v else m y else m) x = some u ∧ nv u = d
    by_cases hk : kind n = some .local
    · rw [if_pos hk, if_pos hk]
      refine msL_ok kind r _ _ fun x d e => ?_
      rw [List.lookup_cons] at e
      by_cases q : x = n
      · subst q
        simp at e
        exact ⟨v, by simp, e⟩
      · have q' : (x == n) = false := by simp [q]
        rw [q'] at e
        obtain ⟨u, e1, e2⟩ := h x d e
        exact ⟨u, by simp [q, e1], e2⟩
    · rw [if_neg hk, if_neg hk]
      exact msL_ok kind r _ _ h
theorem bindC_nb (kind : Str → Option NameKind) : ∀ (l : List (Str × Value)) (m : Str → Option Value) (x : Str), (bindC kind l m x).map nv = bindC kind (nb l) (fun y => (m y).map nv) x
  | [], m, x => rfl
  | (n, v) :: r, m, x => by
    show (bindC kind r (if kind n = some .local then m else fun y => if y = n then some v else m y) x).map nv = bindC kind (nb r) (if kind n = some .local then fun y => (m y).map nv else fun y => if y = n then some (nv v) else (m y).map nv) x
    rw [bindC_nb kind r]
    congr 1
    by_cases hk : kind n = some .local
    · rw [if_pos hk, if_pos hk]
    · rw [if_neg hk, if_neg hk]
      funext y
      by_cases q : y = n <;> simp [q]

section
variable {G : Gd} {A : Around} {L : Addr} {σ : St} {K : Value → St → Prop} {mg mb : Str → Option Value}

/-- a def of the text, called: no cells -/
theorem call_def {f : Addr} {fo : Obj} {fd : FuncData} {body : List Stmt} {as : List Value} (names : List Str) (ms : List (Str × Value)) (Γ : Gnd G mg mb) (ho : G.h₀.get? f = some fo) (hT : f ∉ G.Tb) (hd : fo.data = .func fd) (hbody : fd.body = .stmts body) (hcd : G.h₀.CodeRec fd.code fd.qualname) (hcT : ∀ c, fd.code = .ref c → c ∉ G.Tb)
    (hroom : A.depth < recursionLimit) (hn : names.length = as.length) (hb : ∀ vs : List Value, vs.length = names.length → bindArgs fd ⟨vs, []⟩ = pure (names.zip vs)) (hloc : ∀ x ∈ names, fd.scope.names.lookup x = some .local)
    (hms : (names.zip as).reverse = ms) (h : ∀ L', let env := callEnv fd L' f; Ex G (A.deeper env) env (σ.enter ms []) body fun fl σ' => K (retv fl) (σ.leave σ'))
    (hcell : ∀ x ∈ fd.scope.names, x.2 ≠ .cell) (hco : fd.scope.isCoroutine = false) (hgen : fd.scope.isGenerator = false) (hk : fd.scope.kind = .function) : Call G A L σ (.ref f) as K := fun vs hvs s q => by
  subst hms
  have ho' : s.heap.get? f = some fo := q.base _ _ ho hT
  have hcd' : s.heap.CodeRec fd.code fd.qualname := by
    obtain ⟨c, o, us, t, e, g, r⟩ := hcd
    exact ⟨c, o, us, t, e, q.base _ _ g (hcT c e), r⟩
  refine wpAny_call (codeAny_call_function hroom ho' hd hco hgen hbody hcd' ?_)
  have hlen : vs.length = names.length := by rw [hn, ← hvs, List.length_map]
  rw [hb vs hlen]
  refine wpAny_pure (wpAny_newFunctionEnv hcell (fun x hx => hloc _ (List.of_mem_zip hx).1) (fun h₁ hns₁ hsb₁ => ⟨(q.noLimit Γ).fresh _ hsb₁, codeAny_func ?_⟩) hk)
  have hLn := fresh_size s.heap
  have up : ∀ b o, s.heap.get? b = some o → h₁.get? b = some o := fun b o e => hsb₁.extBut b o (Nat.ne_of_lt (Heap.lt_size e)) (Heap.get?_push_of_some _ e)
  have xin := q.into (L' := s.heap.objs.size) (ms := (names.zip as).reverse) (t := s.toks + (names.zip vs).length) up hLn hns₁ (fun x d e => by
    rw [← hvs, ← nb_zip, ← nb_reverse] at e
    exact lookup_nb e)
  refine wpAny_mono (h s.heap.objs.size _ xin) (fun fl s' hz => ?_) fun _ _ e => e.elim
  obtain ⟨σ', x', y', k'⟩ := hz
  have y2 : Step G s.heap.objs.size ⟨(names.zip as).reverse, [], σ.own ++ σ.kn⟩ s ⟨(names.zip as).reverse, [], σ.own ++ σ.kn⟩ { s with heap := h₁, toks := s.toks + (names.zip vs).length } := Step.keeps up
  obtain ⟨xb, yb⟩ := q.back x' (y2.trans y') hLn
  exact ⟨_, xb, yb, by cases fl <;> exact k'⟩

/-- a def of the text, called: with cells -/
theorem call_defC {f : Addr} {fo : Obj} {fd : FuncData} {body : List Stmt} {as : List Value} (names : List Str) (ms : List (Str × Value)) (ow : Addr → List (Addr × O)) (Γ : Gnd G mg mb) (ho : G.h₀.get? f = some fo) (hT : f ∉ G.Tb) (hd : fo.data = .func fd) (hbody : fd.body = .stmts body) (hcd : G.h₀.CodeRec fd.code fd.qualname) (hcT : ∀ c, fd.code = .ref c → c ∉ G.Tb)
    (hroom : A.depth < recursionLimit) (hn : names.length = as.length) (hb : ∀ vs : List Value, vs.length = names.length → bindArgs fd ⟨vs, []⟩ = pure (names.zip vs)) (hclo : fd.closure = [])
    (hkind : ∀ n, ∀ x ∈ names, fd.scope.names.lookup x = some .local ∨ (fd.scope.names.lookup x = some .cell ∧ ((cellsFrom n fd.scope.names []).lookup x).isSome = true))
    (hnd : ∀ n, ((cellsFrom n fd.scope.names []).map (·.1)).Nodup)
    (hms : msL (fun n => fd.scope.names.lookup n) (names.zip as) [] = ms)
    (how : ∀ L', (cellsFrom (L' + 1) fd.scope.names []).map (fun x => (x.2, O.cell (bindC (fun n => fd.scope.names.lookup n) (names.zip as) (fun _ => none) x.1))) = ow L')
    (h : ∀ L', let env := callEnvC fd L' f; Ex G (A.deeper env) env (σ.enter ms (ow L')) body fun fl σ' => K (retv fl) (σ.leave σ'))
    (hco : fd.scope.isCoroutine = false) (hgen : fd.scope.isGenerator = false) (hk : fd.scope.kind = .function) : Call G A L σ (.ref f) as K := fun vs hvs s q => by
  have ho' : s.heap.get? f = some fo := q.base _ _ ho hT
  have hcd' : s.heap.CodeRec fd.code fd.qualname := by
    obtain ⟨c, o, us, t, e, g, r⟩ := hcd
    exact ⟨c, o, us, t, e, q.base _ _ g (hcT c e), r⟩
  refine wpAny_call (codeAny_call_function hroom ho' hd hco hgen hbody hcd' ?_)
  have hlen : vs.length = names.length := by rw [hn, ← hvs, List.length_map]
  rw [hb vs hlen, hclo]
  refine wpAny_pure (wpAny_newFunctionEnv_cells hk (fun x hx => hkind _ _ (List.of_mem_zip hx).1) fun env he s₁ x => ?_)
  subst he
  refine ⟨(q.noLimit Γ).keeps x.toInCall.keep, codeAny_func ?_⟩
  have hLn := fresh_size s.heap
  obtain ⟨h₁, tk, rfl, up⟩ := x.done
  have hns₁ := x.toInCall.ns
  have hzip : nb (names.zip vs) = names.zip as := by rw [nb_zip, hvs]
  have xin0 := q.into (L' := s.heap.objs.size) (ms := ms) (t := tk) up hLn hns₁ (fun x d e => by
    rw [← hms, ← hzip] at e
    exact msL_ok _ _ _ _ (fun x d e => by simp at e) x d e)
  -- the cells
  have hcellsIn : ∀ p ∈ ow s.heap.objs.size, Holds (G.prog, G.w) h₁ p.1 p.2 ∧ s.heap.objs.size < p.1 := fun p hp => by
    rw [← how] at hp
    obtain ⟨y, hy, rfl⟩ := List.mem_map.mp hp
    have hl : (cellsFrom (s.heap.objs.size + 1) fd.scope.names []).lookup y.1 = some y.2 := lookup_of_mem_nodup (hnd _) hy
    refine ⟨⟨_, x.cell y.1 y.2 hl, ?_⟩, x.above y.1 y.2 hy⟩
    rw [← hzip]
    exact bindC_nb _ _ _ _
  have hnone : ∀ {a : Addr}, s.heap.objs.size < a → s.heap.get? a = none := fun {a} ha => by
    cases e : s.heap.get? a with
    | none => rfl
    | some o => exact absurd (Heap.lt_size e) (Nat.not_lt.mpr (Nat.le_of_lt ha))
  have hapart : ((ow s.heap.objs.size).map (·.1)).Nodup := by
    rw [← how, List.map_map]
    have := x.apart
    show List.Pairwise _ _
    rw [List.pairwise_map]
    exact this
  have xin : Sat G s.heap.objs.size ⟨ms, ow s.heap.objs.size, σ.own ++ σ.kn⟩ { s with heap := h₁, toks := tk } := by
    refine ⟨xin0.base, xin0.tabs, xin0.loc, xin0.locNew, fun p hp => ?_, fun p hp => ?_, hapart⟩
    · obtain ⟨a, b⟩ := hcellsIn p hp
      exact ⟨a, Nat.ne_of_gt b, q.not_h₀ (hnone b)⟩
    · obtain ⟨a, b, c, _⟩ := xin0.kn p hp
      refine ⟨a, b, c, fun hm => ?_⟩
      obtain ⟨r, hr, e⟩ := List.mem_map.mp hm
      have hr' := hnone (hcellsIn r hr).2
      rcases List.mem_append.mp hp with hp | hp
      · obtain ⟨o, e'⟩ := (q.own p hp).1.live; rw [← e, hr'] at e'; cases e'
      · obtain ⟨o, e'⟩ := (q.kn p hp).1.live; rw [← e, hr'] at e'; cases e'
  have y2 : Step G s.heap.objs.size ⟨ms, [], σ.own ++ σ.kn⟩ s ⟨ms, ow s.heap.objs.size, σ.own ++ σ.kn⟩ { s with heap := h₁, toks := tk } :=
    ⟨⟨_, _, _, rfl⟩, id, fun b o e _ _ _ => up b o e, fun b o e => ⟨o, up b o e⟩, fun a ha => by
      obtain ⟨r, hr, e⟩ := List.mem_map.mp ha
      exact .inr (e ▸ hnone (hcellsIn r hr).2), fun a ha => .inr (.inl ha)⟩
  refine wpAny_mono (h s.heap.objs.size _ xin) (fun fl s' hz => ?_) fun _ _ e => e.elim
  obtain ⟨σ', x', y', k'⟩ := hz
  obtain ⟨xb, yb⟩ := q.back x' (y2.trans y') hLn
  exact ⟨_, xb, yb, by cases fl <;> exact k'⟩
end

/-- a value's type, as the machine sees it -/
noncomputable def IsT (G : Gd) (L : Addr) (σ : St) (d : Value) (T : String) : Prop := ∀ v, nv v = d → ∀ s, Sat G L σ s → s.TypeIs v T ∧ ∀ a, v = .ref a → ∃ ob, s.heap.get? a = some ob ∧ ob.dict = none

section
variable {G : Gd} {A : Around} {env : Env} {L : Addr} {σ : St} {K : Value → St → Prop} {KL : List Value → St → Prop} {mg mb : Str → Option Value}
theorem isT_str {x : Str} : IsT G L σ (.str x 0) "str" := fun v hv s q => by
  obtain ⟨t, rfl⟩ := nv_str hv
  exact ⟨typeIs_str _ _ _, fun a e => nomatch e⟩
theorem isT_list {a : Addr} {ds : List Value} (h : σ.has a (.list ds)) : IsT G L σ (.ref a) "list" := fun v hv s q => by
  have := nv_ref hv
  subst this
  obtain ⟨vs, ⟨n, e⟩, _⟩ := q.held h
  exact ⟨⟨_, e, rfl⟩, fun b hb => by cases hb; exact ⟨_, e, rfl⟩⟩

theorem evs_ne {pos : Pos} {es : List Expr} (h : Evs G A env pos σ es KL) {s : Shared} (q : Sat G env.locals σ s) {f : Value} {Q : Args → Shared → Prop} (hs : es.all (fun e => match e with | .Starred .. => false | _ => true) = true)
    (hq : ∀ vs s', (∃ σ', Sat G env.locals σ' s' ∧ Step G env.locals σ s σ' s' ∧ KL (vs.map nv) σ') → Q ⟨vs, []⟩ s') : wpAny (model G.prog G.w) A (evalArgs f true (backTo pos (starEach es env)) []) Q (fun _ _ => False) s := by
  cases es with
  | nil =>
    have this := h s q
    unfold evalArgs
    show wpAny _ _ (spliced (backTo pos (starEach [] env)) >>= _) _ _ _
    refine wpAny_bind (wpAny_mono this (fun vs s' z => ?_) fun _ _ e => e)
    refine wpAny_bind (wpAny_pure ?_)
    refine wpAny_holding ?_
    exact wpAny_bind (wpAny_pure (wpAny_bind (wpAny_pure (wpAny_pure (hq vs s' z)))))
  | cons e r =>
    have he : starEach (e :: r) env = (false, eval e env) :: starEach r env := by
      cases e <;> first | rfl | simp at hs
    have := h s q
    rw [he] at this ⊢
    exact evalArgs_plain (wpAny_mono this (fun vs s' z => hq vs s' z) fun _ _ e => e)
theorem starEach_plain : ∀ {es : List Expr}, es.all (fun e => match e with | .Starred .. => false | _ => true) = true → (backTo pos (starEach es env)).any (·.1) = false ∧ (backTo pos (starEach es env)).all (fun x => !x.1) = true ∧ (starEach es env).length = es.length
  | [], _ => ⟨rfl, rfl, rfl⟩
  | e :: r, h => by
    have h2 : r.all (fun e => match e with | .Starred .. => false | _ => true) = true := by
      rw [List.all_cons, Bool.and_eq_true] at h; exact h.2
    have he : starEach (e :: r) env = (false, eval e env) :: starEach r env := by
      cases e <;> first | rfl | simp at h
    obtain ⟨a, b, c⟩ := starEach_plain (pos := pos) h2
    rw [he]
    exact ⟨by simpa [backTo] using a, by simpa [backTo] using b, by simp [c]⟩

theorem ev_calldef {x : Str} {q p : Pos} {es : List Expr} {f : Addr} {fo : Obj} {fd : FuncData} (Γ : Gnd G mg mb) (hv : mg x = some (.ref f)) (ho : G.h₀.get? f = some fo) (hT : f ∉ G.Tb) (hd : fo.data = .func fd)
    (h : Evs G A env p σ es fun as σ₁ => Call G A env.locals σ₁ (.ref f) as K) (hs : es.all (fun e => match e with | .Starred .. => false | _ => true) = true := by rfl)
    (hg : env.globals = mainGlobals := by rfl) (hk : env.scope.kind = .function := by rfl) (hx : env.kindOf x = some .globalImplicit := by rfl) (hdb : (x == ("__debug__" : Str)) = false := by decide) : Ev G A env σ (.Call (.Name x q) es [] p) K := fun s z => by
  refine Call_Name rfl ((ev_name (K := fun v σ' => v = .ref f ∧ σ' = σ) (lod_glob Γ hv ⟨rfl, rfl⟩ hg hk hx) hdb : Ev G A env σ (.Name x q) _) s z |> fun w => wpAny_mono w (fun v s₁ ⟨σ₁, x₁, y₁, e1, e2⟩ => ?_) fun _ _ e => e)
  have := nv_ref e1
  subst this e2
  refine callWith_function (o := fo) (fd := fd) (evs_ne h x₁ hs fun vs s' w => ?_)
  obtain ⟨σ', x', y', k'⟩ := w
  exact ⟨⟨x'.base _ _ ho hT, hd⟩, T.at (k' vs rfl) x' (y₁.trans y')⟩
theorem ev_callbi {x : Str} {q p : Pos} {es : List Expr} {id : String} (Γ : Gnd G mg mb) (hn : mg x = none) (hv : mb x = some (.builtin id))
    (h : Evs G A env p σ es fun as σ₁ => Call G A env.locals σ₁ (.builtin id) as K) (hs : es.all (fun e => match e with | .Starred .. => false | _ => true) = true := by rfl)
    (hg : env.globals = mainGlobals := by rfl) (hb : env.builtins = builtinsNs := by rfl) (hk : env.scope.kind = .function := by rfl) (hx : env.kindOf x = some .globalImplicit := by rfl) (hdb : (x == ("__debug__" : Str)) = false := by decide) : Ev G A env σ (.Call (.Name x q) es [] p) K := fun s z => by
  refine Call_Name rfl ((ev_name (K := fun v σ' => v = .builtin id ∧ σ' = σ) (lod_built Γ hn hv ⟨rfl, rfl⟩ hg hb hk hx) hdb : Ev G A env σ (.Name x q) _) s z |> fun w => wpAny_mono w (fun v s₁ ⟨σ₁, x₁, y₁, e1, e2⟩ => ?_) fun _ _ e => e)
  have := nv_builtin e1
  subst this e2
  refine callWith_builtin (starEach_plain hs).1 (evs_ne h x₁ hs fun vs s' w => ?_)
  obtain ⟨σ', x', y', k'⟩ := w
  exact T.at (k' vs rfl) x' (y₁.trans y')
theorem ev_calltype {x : Str} {q p : Pos} {es : List Expr} {id : String} (Γ : Gnd G mg mb) (hn : mg x = none) (hv : mb x = some (.type id))
    (h : Evs G A env p σ es fun as σ₁ => Call G A env.locals σ₁ (.type id) as K) (hs : es.all (fun e => match e with | .Starred .. => false | _ => true) = true := by rfl)
    (hg : env.globals = mainGlobals := by rfl) (hb : env.builtins = builtinsNs := by rfl) (hk : env.scope.kind = .function := by rfl) (hx : env.kindOf x = some .globalImplicit := by rfl) (hdb : (x == ("__debug__" : Str)) = false := by decide) : Ev G A env σ (.Call (.Name x q) es [] p) K := fun s z => by
  refine Call_Name rfl ((ev_name (K := fun v σ' => v = .type id ∧ σ' = σ) (lod_built Γ hn hv ⟨rfl, rfl⟩ hg hb hk hx) hdb : Ev G A env σ (.Name x q) _) s z |> fun w => wpAny_mono w (fun v s₁ ⟨σ₁, x₁, y₁, e1, e2⟩ => ?_) fun _ _ e => e)
  have := nv_type e1
  subst this e2
  refine PyProof.Rows.callWith_type (first := []) (starEach_plain hs).1 (evs_ne h x₁ hs fun vs s' w => ?_)
  obtain ⟨σ', x', y', k'⟩ := w
  exact T.at (k' vs rfl) x' (y₁.trans y')
theorem ev_meth {o : Expr} {name : Str} {ap p : Pos} {es : List Expr} (T id : String) (pa : PlainAttrs T) (slot : Slot T name id) (hty : typeOf (.builtin id) = pure (.type "method_descriptor"))
    (h : Ev G A env σ o fun d σ₁ => IsT G env.locals σ₁ d T ∧ Evs G A env p σ₁ es fun as σ₂ => Call G A env.locals σ₂ (.builtin id) (d :: as) K)
    (hbase : attributeBase o name env (eval o env) = eval o env := by rfl) (hs : es.all (fun e => match e with | .Starred .. => false | _ => true) = true := by rfl) (hl : es.length < 30 := by decide) (hline : (ap.endLine == p.line) = true := by rfl) :
    Ev G A env σ (.Call (.Attribute o name ap) es [] p) K := fun s z => by
  obtain ⟨hs1, hs2, hs3⟩ := starEach_plain (pos := p) (env := env) hs
  refine wpAny_Call_method hbase (by rw [hs2]; simp [backToKw, keywordEach]; omega) hline pa slot hty (wpAny_mono (h s z) (fun ov s₁ ⟨σ₁, x₁, y₁, ht, k₁⟩ => ?_) fun _ _ e => e)
  obtain ⟨t1, t2⟩ := ht ov rfl s₁ x₁
  refine ⟨t1, t2, callWith_builtin hs1 (evs_ne k₁ x₁ hs fun vs s' w => ?_)⟩
  obtain ⟨σ', x', y', k'⟩ := w
  exact Mine.T.at (k' (ov :: vs) (by simp)) x' (y₁.trans y')
end
/-- a text by its signs -/
noncomputable abbrev U (l : List Nat) : Value := .str ⟨l.toArray⟩ 0
theorem two24 : sizeLine = 16777216 := by decide
theorem one_of {vs : List Value} {d : Value} (h : vs.map nv = [d]) : ∃ v, vs = [v] ∧ nv v = d := by
  rcases vs with _ | ⟨v, _ | ⟨u, r⟩⟩ <;> simp at h
  exact ⟨v, rfl, h⟩
theorem two_of {vs : List Value} {d e : Value} (h : vs.map nv = [d, e]) : ∃ v u, vs = [v, u] ∧ nv v = d ∧ nv u = e := by
  rcases vs with _ | ⟨v, _ | ⟨u, _ | ⟨w, r⟩⟩⟩ <;> simp at h
  exact ⟨v, u, rfl, h⟩
theorem three_of {vs : List Value} {d e f : Value} (h : vs.map nv = [d, e, f]) : ∃ v u w, vs = [v, u, w] ∧ nv v = d ∧ nv u = e ∧ nv w = f := by
  rcases vs with _ | ⟨v, _ | ⟨u, _ | ⟨w, _ | ⟨z, r⟩⟩⟩⟩ <;> simp at h
  exact ⟨v, u, w, rfl, h⟩
noncomputable def room (A : Around) : Prop := A.handled = none ∧ A.depth < recursionLimit ∧ A.units < cLine

section
variable {G : Gd} {A : Around} {L : Addr} {σ : St} {K : Value → St → Prop} {KB : Bool → St → Prop}
theorem op_add_int {a b : Int} (h : K (I (a + b)) σ) : Op2 G A L σ .Add (I a) (I b) K := fun va vb ha hb s q => by
  obtain ⟨t, rfl⟩ := nv_int ha; obtain ⟨u, rfl⟩ := nv_int hb
  exact P.add_int (Post.tok (K := fun v => K (nv v)) q h)
theorem op_sub_int {a b : Int} (h : K (I (a - b)) σ) : Op2 G A L σ .Sub (I a) (I b) K := fun va vb ha hb s q => by
  obtain ⟨t, rfl⟩ := nv_int ha; obtain ⟨u, rfl⟩ := nv_int hb
  exact P.sub_int (Post.tok (K := fun v => K (nv v)) q h)
theorem op_mod_int {a b : Int} (hb0 : b ≠ 0) (h : K (I (a.fmod b)) σ) : Op2 G A L σ .Mod (I a) (I b) K := fun va vb ha hb s q => by
  obtain ⟨t, rfl⟩ := nv_int ha; obtain ⟨u, rfl⟩ := nv_int hb
  exact mod_int' hb0 (Post.tok (K := fun v => K (nv v)) q h)
theorem op_floordiv_int {a b : Int} (hb0 : b ≠ 0) (h : K (I (a.fdiv b)) σ) (hp : Builtin.divisionGoesByPylong a b = false) : Op2 G A L σ .FloorDiv (I a) (I b) K := fun va vb ha hb s q => by
  obtain ⟨t, rfl⟩ := nv_int ha; obtain ⟨u, rfl⟩ := nv_int hb
  exact floordiv_int hb0 (Post.tok (K := fun v => K (nv v)) q h) (.inl hp)
theorem op_pow_int {a b : Int} (hn : 0 ≤ b) (hsz : (Builtin.Int.intBits a : Int) * b ≤ 2 ^ 27) (h : K (I (a ^ b.toNat)) σ) : Op2 G A L σ .Pow (I a) (I b) K := fun va vb ha hb s q => by
  obtain ⟨t, rfl⟩ := nv_int ha; obtain ⟨u, rfl⟩ := nv_int hb
  exact pow_int hn hsz (Post.tok (K := fun v => K (nv v)) q h)
theorem iop_add_int {a b : Int} (h : K (I (a + b)) σ) : Iop G A L σ .Add (I a) (I b) K := fun va vb ha hb s q => by
  obtain ⟨t, rfl⟩ := nv_int ha; obtain ⟨u, rfl⟩ := nv_int hb
  exact P.iadd_int (Post.tok (K := fun v => K (nv v)) q h)
theorem u_append (x y : List Nat) : (⟨x.toArray⟩ : Str) ++ ⟨y.toArray⟩ = ⟨(x ++ y).toArray⟩ := by
  show Str.append _ _ = _
  simp [Str.append]
theorem add_post {x y : List Nat} {t u : Tok} {s : Shared} {Q : Value → Shared → Prop} (hz : x.length + y.length ≤ 1000000) (h : ∀ k k', Q (.str ⟨(x ++ y).toArray⟩ k) { s with toks := k' }) :
    (if (⟨x.toArray⟩ : Str).length == 0 then Made.val (.str ⟨y.toArray⟩ u) else if (⟨y.toArray⟩ : Str).length == 0 then Made.val (.str ⟨x.toArray⟩ t) else Made.str ((⟨x.toArray⟩ : Str) ++ ⟨y.toArray⟩)).post Q s := by
  split
  · rename_i e
    have : x = [] := by simpa [Str.length] using e
    subst this
    exact h u s.toks
  · split
    · rename_i e
      have : y = [] := by simpa [Str.length] using e
      subst this
      have := h t s.toks
      rw [List.append_nil] at this
      exact this
    · rw [u_append]
      refine ⟨?_, h _ _⟩
      show (x ++ y).toArray.size ≤ sizeLine
      rw [List.size_toArray, List.length_append, two24]; omega
theorem op_add_str {x y : List Nat} (hz : x.length + y.length ≤ 1000000) (h : K (U (x ++ y)) σ) : Op2 G A L σ .Add (U x) (U y) K := fun va vb ha hb s q => by
  obtain ⟨t, rfl⟩ := nv_str ha; obtain ⟨u, rfl⟩ := nv_str hb
  exact P.add_str (add_post hz fun k k' => Post.tok (K := fun v => K (nv v)) q h)
theorem iop_add_str {x y : List Nat} (hz : x.length + y.length ≤ 1000000) (h : K (U (x ++ y)) σ) : Iop G A L σ .Add (U x) (U y) K := fun va vb ha hb s q => by
  obtain ⟨t, rfl⟩ := nv_str ha; obtain ⟨u, rfl⟩ := nv_str hb
  exact P.iadd_str (add_post hz fun k k' => Post.tok (K := fun v => K (nv v)) q h)
theorem unop_neg {a : Int} (h : K (I (-a)) σ) : Unop G A L σ .USub (I a) K := fun va ha s q => by
  obtain ⟨t, rfl⟩ := nv_int ha
  exact P.neg_int (Post.tok (K := fun v => K (nv v)) q h)
theorem cmp_lt_int {a b : Int} (h : K (.bool (decide (a < b))) σ) : Cmp G A L σ .Lt (I a) (I b) K := fun va vb ha hb s q => by
  obtain ⟨t, rfl⟩ := nv_int ha; obtain ⟨u, rfl⟩ := nv_int hb
  exact P.lt_int (Post.here (K := fun v => K (nv v)) q h)
theorem cmp_ge_int {a b : Int} (h : K (.bool (decide (a ≥ b))) σ) : Cmp G A L σ .GtE (I a) (I b) K := fun va vb ha hb s q => by
  obtain ⟨t, rfl⟩ := nv_int ha; obtain ⟨u, rfl⟩ := nv_int hb
  exact P.ge_int (Post.here (K := fun v => K (nv v)) q h)
theorem cmp_eq_int {a b : Int} (h : K (.bool (a == b)) σ) : Cmp G A L σ .Eq (I a) (I b) K := fun va vb ha hb s q => by
  obtain ⟨t, rfl⟩ := nv_int ha; obtain ⟨u, rfl⟩ := nv_int hb
  exact P.eq_int (Post.here (K := fun v => K (nv v)) q h)
theorem cmp_eq_bool {a b : Bool} (h : K (.bool (a == b)) σ) : Cmp G A L σ .Eq (.bool a) (.bool b) K := fun va vb ha hb s q => by
  have := nv_bool ha; subst this; have := nv_bool hb; subst this
  exact eq_bool (Post.here (K := fun v => K (nv v)) q h)
theorem cmp_eq_str {x y : List Nat} (h : K (.bool (x == y)) σ) : Cmp G A L σ .Eq (U x) (U y) K := fun va vb ha hb s q => by
  obtain ⟨t, rfl⟩ := nv_str ha; obtain ⟨u, rfl⟩ := nv_str hb
  exact P.eq_str (Post.here (K := fun v => K (nv v)) q (by simpa [nv] using h))
theorem cmp_ne_str {x y : List Nat} (h : K (.bool (x != y)) σ) : Cmp G A L σ .NotEq (U x) (U y) K := fun va vb ha hb s q => by
  obtain ⟨t, rfl⟩ := nv_str ha; obtain ⟨u, rfl⟩ := nv_str hb
  exact P.ne_str (Post.here (K := fun v => K (nv v)) q (by simpa [nv] using h))
theorem tru_bool {b : Bool} (h : KB b σ) : Tru G A L σ (.bool b) KB := fun va ha s q => by
  have := nv_bool ha; subst this
  exact wpAny_truthy_bool (Post.here q h)
theorem tru_str {x : List Nat} (hz : x.length ≤ 1000000) (h : KB (!x.isEmpty) σ) : Tru G A L σ (U x) KB := fun va ha s q => by
  obtain ⟨t, rfl⟩ := nv_str ha
  refine P.truthy_str (by show ¬ ((x.toArray.size : Nat) : Int) ≥ 2 ^ 63; rw [List.size_toArray]; omega) (Post.tok (t := s.toks + 1 + 1) q ?_)
  have e : (((⟨x.toArray⟩ : Str).length : Int) != 0) = !x.isEmpty := by
    show (((x.toArray.size : Nat) : Int) != 0) = _
    rw [List.size_toArray]
    cases x <;> simp
    omega
  rw [e]; exact h
theorem tru_list {a : Addr} {ds : List Value} (ha : σ.has a (.list ds)) (hz : ds.length ≤ 1000000) (h : KB (!ds.isEmpty) σ) : Tru G A L σ (.ref a) KB := fun va hv s q => by
  have := nv_ref hv; subst this
  obtain ⟨vs, hl, e⟩ := q.held ha
  have hlen : vs.length = ds.length := by rw [← e, List.length_map]
  refine wpAny_truthy_list hl.isList (by rw [List.size_toArray]; omega) (Post.tok (t := s.toks + 1 + 1) q ?_)
  have e2 : (!vs.toArray.isEmpty) = !ds.isEmpty := by rw [← e]; cases vs <;> simp
  rw [e2]; exact h
theorem itm_list {a : Addr} {ds : List Value} {k : Int} {d : Value} (ha : σ.has a (.list ds)) (h0 : 0 ≤ k) (h1 : k < 2 ^ 63) (hd : ds[k.toNat]? = some d) (h : K d σ) : Itm G A L σ (.ref a) (I k) K := fun va vb hva hvb value slice hs s q => by
  have := nv_ref hva; subst this; obtain ⟨u, rfl⟩ := nv_int hvb
  obtain ⟨vs, hl, e⟩ := q.held ha
  rw [← e, List.getElem?_map] at hd
  obtain ⟨v, hv, rfl⟩ := Option.map_eq_some_iff.mp hd
  exact tail_any hl.isList.typeIs slot_list_getitem.lookup (wpAny_getItem_list hl.isList h0 h1 (by simpa using hv) (Post.here (K := fun v => K (nv v)) q h)) (hs _ _)
theorem itm_list_neg {a : Addr} {ds : List Value} {k : Int} {d : Value} (ha : σ.has a (.list ds)) (h0 : k < 0) (h1 : -(ds.length : Int) ≤ k) (hz : ds.length ≤ 1000000) (hd : ds[(k + ds.length).toNat]? = some d) (h : K d σ) : Itm G A L σ (.ref a) (I k) K := fun va vb hva hvb value slice hs s q => by
  have := nv_ref hva; subst this; obtain ⟨u, rfl⟩ := nv_int hvb
  obtain ⟨vs, hl, e⟩ := q.held ha
  have hlen : vs.length = ds.length := by rw [← e, List.length_map]
  rw [← e, List.getElem?_map] at hd
  obtain ⟨v, hv, rfl⟩ := Option.map_eq_some_iff.mp hd
  exact tail_any hl.isList.typeIs slot_list_getitem.lookup (wpAny_getItem_list_neg hl.isList h0 (by rw [List.size_toArray, hlen]; exact h1) (by omega) (by rw [List.getElem?_toArray, List.size_toArray, hlen]; rw [List.length_map, hlen] at hv; exact hv) (Post.here (K := fun v => K (nv v)) q h)) (hs _ _)
theorem itm_str {x : List Nat} {k : Int} {c : Nat} (h0 : 0 ≤ k) (hd : x[k.toNat]? = some c) (hz : x.length ≤ 1000000) (h : K (U [c]) σ) : Itm G A L σ (U x) (I k) K := fun va vb hva hvb value slice hs s q => by
  obtain ⟨t, rfl⟩ := nv_str hva; obtain ⟨u, rfl⟩ := nv_int hvb
  have hlt := (List.getElem?_eq_some_iff.mp hd).1
  refine tail_any (typeIs_str _ _ _) F.slot_str_getitem.lookup (P.getItem_str (c := c) (by simp; omega) ?_ (Post.tok (K := fun v => K (nv v)) q h)) (hs _ _)
  have : seqIndex? k (⟨x.toArray⟩ : Str).length = some k.toNat := by
    unfold seqIndex?
    show _ = _
    simp only [Str.length, List.size_toArray]
    split <;> simp <;> omega
  rw [this]
  simpa using hd
theorem call_len_str {x : List Nat} (hz : x.length ≤ 1000000) (h : K (I x.length) σ) : Call G A L σ (.builtin "len") [U x] K := fun vs hvs s q => by
  obtain ⟨v, rfl, hv⟩ := one_of hvs
  obtain ⟨t, rfl⟩ := nv_str hv
  refine P.len_str (by show ¬ ((x.toArray.size : Nat) : Int) ≥ 2 ^ 63; rw [List.size_toArray]; omega) (Post.tok (K := fun v => K (nv v)) (t := s.toks + 1 + 1) q ?_)
  show K (I ((x.toArray.size : Nat) : Int)) σ
  rw [List.size_toArray]; exact h
theorem call_len_list {a : Addr} {ds : List Value} (ha : σ.has a (.list ds)) (hz : ds.length ≤ 1000000) (h : K (I ds.length) σ) : Call G A L σ (.builtin "len") [.ref a] K := fun vs hvs s q => by
  obtain ⟨v, rfl, hv⟩ := one_of hvs
  have := nv_ref hv; subst this
  obtain ⟨us, hl, e⟩ := q.held ha
  have hlen : us.length = ds.length := by rw [← e, List.length_map]
  refine PyProof.Rows.len_list hl.isList (by rw [List.size_toArray]; omega) (Post.tok (K := fun v => K (nv v)) (t := s.toks + 1 + 1) q ?_)
  show K (I ((us.toArray.size : Nat) : Int)) σ
  rw [List.size_toArray, hlen]; exact h
end
noncomputable def pkT : List Bool → List (Addr × O) → List (Addr × O)
  | [], l => l
  | _, [] => []
  | true :: bs, p :: l => p :: pkT bs l
  | false :: bs, _ :: l => pkT bs l
noncomputable def pkF : List Bool → List (Addr × O) → List (Addr × O)
  | [], _ => []
  | _, [] => []
  | true :: bs, _ :: l => pkF bs l
  | false :: bs, p :: l => p :: pkF bs l
theorem pkT_sub : ∀ (bs : List Bool) (l : List (Addr × O)), (pkT bs l).Sublist l
  | [], l => by unfold pkT; exact .refl _
  | _ :: _, [] => by simp [pkT]
  | true :: bs, p :: l => (pkT_sub bs l).cons_cons p
  | false :: bs, p :: l => (pkT_sub bs l).cons p
theorem pkF_sub : ∀ (bs : List Bool) (l : List (Addr × O)), (pkF bs l).Sublist l
  | [], l => by simp [pkF]
  | _ :: _, [] => by simp [pkF]
  | true :: bs, p :: l => (pkF_sub bs l).cons p
  | false :: bs, p :: l => (pkF_sub bs l).cons_cons p
theorem pk_apart : ∀ (bs : List Bool) (l : List (Addr × O)), (l.map (·.1)).Nodup → ∀ p ∈ pkF bs l, p.1 ∉ (pkT bs l).map (·.1)
  | [], l, _, p, hp => by simp [pkF] at hp
  | _ :: _, [], _, p, hp => by simp [pkF] at hp
  | true :: bs, r :: l, nd, p, hp => by
    have nd' := List.nodup_cons.mp nd
    intro hm
    rcases List.mem_cons.mp hm with e | hm
    · exact nd'.1 (List.mem_map.mpr ⟨p, (pkF_sub bs l).subset hp, e⟩)
    · exact pk_apart bs l nd'.2 p hp hm
  | false :: bs, r :: l, nd, p, hp => by
    have nd' := List.nodup_cons.mp nd
    rcases List.mem_cons.mp hp with rfl | hp
    · intro hm
      exact nd'.1 (((pkT_sub bs l).map _).subset hm)
    · exact pk_apart bs l nd'.2 p hp
/-- τ tells less than σ -/
structure Le (bs : List Bool) (τ σ : St) : Prop where
  m : ∀ x d, τ.m.lookup x = some d → σ.m.lookup x = some d
  own : τ.own = pkT bs σ.own
  kn : ∀ p ∈ τ.kn, p ∈ pkF bs σ.own ∨ p ∈ σ.kn
section
variable {G : Gd} {A : Around} {L : Addr} {σ τ : St} {bs : List Bool}
theorem Sat.le {s : Shared} (x : Sat G L σ s) (h : Le bs τ σ) : Sat G L τ s := by
  have ho : τ.own.Sublist σ.own := h.own ▸ pkT_sub bs σ.own
  refine ⟨x.base, x.tabs, ?_, x.locNew, fun p hp => x.own p (ho.subset hp), fun p hp => ?_, x.nd.sublist (ho.map _)⟩
  · obtain ⟨m, hn, hm⟩ := x.loc
    exact ⟨m, hn, fun y d e => hm y d (h.m y d e)⟩
  · rcases h.kn p hp with hp' | hp'
    · have q := x.own p ((pkF_sub _ _).subset hp')
      exact ⟨q.1, q.2.1, x.not_Tb q.2.2, by rw [h.own]; exact pk_apart _ _ x.nd p hp'⟩
    · have q := x.kn p hp'
      exact ⟨q.1, q.2.1, q.2.2.1, fun hm => q.2.2.2 ((ho.map _).subset hm)⟩
theorem Le.own_sub (h : Le bs τ σ) : ∀ a ∈ τ.own.map (·.1), a ∈ σ.own.map (·.1) := fun a ha => by
  rw [h.own] at ha
  exact ((pkT_sub bs σ.own).map _).subset ha
theorem Le.kn_sub (h : Le bs τ σ) : ∀ a ∈ τ.kn.map (·.1), a ∈ σ.own.map (·.1) ∨ a ∈ σ.kn.map (·.1) := fun a ha => by
  obtain ⟨p, hp, rfl⟩ := List.mem_map.mp ha
  rcases h.kn p hp with h1 | h1
  · exact .inl (List.mem_map.mpr ⟨p, (pkF_sub _ _).subset h1, rfl⟩)
  · exact .inr (List.mem_map.mpr ⟨p, h1, rfl⟩)
theorem T.le {α : Type} {t : Sem α} {K : α → St → Prop} (h : Le bs τ σ) (k : T G A L τ t K) : T G A L σ t K :=
  T.conv (fun s x => x.le h) h.own_sub (fun a ha => (h.kn_sub a ha).elim .inl fun q => .inr (.inl q)) k
theorem T.less {α : Type} {t : Sem α} {K : α → St → Prop} (k : T G A L σ t fun v σ' => ∃ bs τ, Le bs τ σ' ∧ K v τ) : T G A L σ t K := fun s x =>
  wpAny_mono (k s x) (fun v s' ⟨σ', x', y', bs, τ, h, k'⟩ => ⟨τ, x'.le h, ⟨y'.same, y'.bare, y'.keep, y'.live, fun a ha => y'.new a (h.own_sub a ha), fun a ha => by
    rcases h.kn_sub a ha with q | q
    · rcases y'.new a q with q | q
      · exact .inl q
      · exact .inr (.inr (.inl q))
    · exact y'.newK a q⟩, k'⟩) fun _ _ e => e
end
theorem Le.rfl' {σ : St} : Le [] σ σ := ⟨fun _ _ h => h, by unfold pkT; rfl, fun p h => .inr h⟩
/-- each of the names stands so -/
noncomputable def subM : List (Str × Value) → List (Str × Value) → Prop
  | [], _ => True
  | p :: r, m => m.lookup p.1 = some p.2 ∧ subM r m
theorem subM_ok : ∀ {l m : List (Str × Value)}, subM l m → ∀ x d, l.lookup x = some d → m.lookup x = some d
  | [], _, _, x, d, e => by simp at e
  | p :: r, m, h, x, d, e => by
    obtain ⟨p1, p2⟩ := p
    rw [List.lookup_cons] at e
    by_cases q : x = p1
    · subst q
      simp at e
      subst e; exact h.1
    · have q' : (x == p1) = false := by simp [q]
      rw [q'] at e
      exact subM_ok h.2 x d e
section
variable {G : Gd} {A : Around} {env : Env} {L : Addr} {σ τ : St} {bs : List Bool} {K : Value → St → Prop} {KB : Bool → St → Prop} {KF : Flow → St → Prop} {KS : St → Prop}
theorem ex_less {b : List Stmt} (k : Ex G A env σ b fun f σ' => ∃ bs τ, Le bs τ σ' ∧ KF f τ) : Ex G A env σ b KF := T.less k
theorem ev_less {b : Expr} (k : Ev G A env σ b fun f σ' => ∃ bs τ, Le bs τ σ' ∧ K f τ) : Ev G A env σ b K := T.less k
theorem call_less {f : Value} {as : List Value} (k : Call G A L σ f as fun f σ' => ∃ bs τ, Le bs τ σ' ∧ K f τ) : Call G A L σ f as K := fun vs hvs => T.less (k vs hvs)
theorem pkT_junk : ∀ (j o : List (Addr × O)), o = pkT (j.map fun _ => false) (j ++ o)
  | [], o => by simp [pkT]
  | p :: j, o => by simpa [pkT] using pkT_junk j o
/-- a call that leaves a plain value -/
theorem call_plain {f : Value} {as : List Value} {d : Value} (h : K d σ) (k : Call G A L σ f as fun v σ' => v = d ∧ ∃ τ, σ' = σ.leave τ) : Call G A L σ f as K := call_less fun vs hvs =>
  (k vs hvs).mono fun v σ' ⟨e, τ, e'⟩ => by
    obtain ⟨m, o, kn⟩ := σ; obtain ⟨m', j, kn'⟩ := τ
    subst e'
    refine ⟨j.map fun _ => false, ⟨m, o, kn⟩, ⟨fun x d q => q, ?_, fun p hp => .inr hp⟩, by rw [e]; exact h⟩
    exact pkT_junk j o
theorem call_made {f : Value} {as : List Value} {ob : O} (h : ∀ a, K (.ref a) (σ.put a ob)) (k : Call G A L σ f as fun v σ' => ∃ bs a τ, v = .ref a ∧ σ' = σ.leave τ ∧ bs.length = τ.own.length ∧ pkT bs τ.own = [(a, ob)]) : Call G A L σ f as K := call_less fun vs hvs =>
  (k vs hvs).mono fun v σ' ⟨bs, a, τ, e, e', hl, hp⟩ => by
    obtain ⟨m, o, kn⟩ := σ; obtain ⟨m', j, kn'⟩ := τ
    subst e'
    refine ⟨bs, ⟨m, (a, ob) :: o, kn⟩, ⟨fun x d q => q, ?_, fun p hp => .inr hp⟩, by rw [e]; exact h a⟩
    show (a, ob) :: o = pkT bs (j ++ o)
    have : ∀ (bs : List Bool) (j : List (Addr × O)), bs.length = j.length → pkT bs (j ++ o) = pkT bs j ++ o := by
      intro bs
      induction bs with
      | nil => intro j hj; cases j <;> simp_all [pkT]
      | cons b bs ih =>
        intro j hj
        cases j with
        | nil => simp at hj
        | cons p j =>
          have := ih j (by simpa using hj)
          cases b <;> simp [pkT, this]
    rw [this _ _ hl]
    have hp' : pkT bs j = [(a, ob)] := hp
    rw [hp']; rfl
end
/-- the signs of a text -/
noncomputable abbrev cp (s : String) : List Nat := (Str.ofString s).cps.toList
section
variable {G : Gd} {A : Around} {env : Env} {L : Addr} {σ τ : St} {bs : List Bool} {K : Value → St → Prop} {KB : Bool → St → Prop} {KF : Flow → St → Prop} {KS : St → Prop}
theorem ev_lit {i : String} {k : Nat} {p : Pos} (h : K (U (cp i)) σ) : Ev G A env σ (.Constant (.str (Str.ofString i)) k p) K := ev_str h
/-- a function's object -/
noncomputable def IsFn (G : Gd) (a : Addr) : Prop := ∃ fo fd, G.h₀.get? a = some fo ∧ a ∉ G.Tb ∧ fo.data = .func fd
theorem ev_callfn {mg mb : Str → Option Value} {x : Str} {q p : Pos} {es : List Expr} {f : Addr} (Γ : Gnd G mg mb) (hv : mg x = some (.ref f)) (hf : IsFn G f)
    (h : Evs G A env p σ es fun as σ₁ => Call G A env.locals σ₁ (.ref f) as K) (hs : es.all (fun e => match e with | .Starred .. => false | _ => true) = true := by rfl)
    (hg : env.globals = mainGlobals := by rfl) (hk : env.scope.kind = .function := by rfl) (hx : env.kindOf x = some .globalImplicit := by rfl) (hdb : (x == ("__debug__" : Str)) = false := by decide) : Ev G A env σ (.Call (.Name x q) es [] p) K := by
  obtain ⟨fo, fd, ho, hT, hd⟩ := hf
  exact ev_calldef Γ hv ho hT hd h hs hg hk hx hdb
end
section
variable {prog : Program} {w : World} {A : Around} {E : Value → Shared → Prop} {s : Shared}
theorem F_iss_args (a b c : Value) : argsOk "issubclass.nested" ⟨[a, b, c], []⟩ := by unfold argsOk; kernel_rfl
theorem F_iss_kind : builtinKind "issubclass.nested" = none := by decide +kernel
theorem F_iss_plain : plainId "issubclass.nested" = true := by decide +kernel
theorem F_ty_str : typeOf (.type "str") = pure (.type "type") := by rfl
theorem F_sub_str : isSubtype (.type "str") (.type "str") = pure true := by rw [isSubtype_type]; kernel_rfl
theorem F_sub_type : isSubtype (.type "type") (.type "type") = pure true := by rw [isSubtype_type]; kernel_rfl
theorem iss_str_str {A : Around} {s : Shared} {Q : Fin → Shared → Prop} (hq : Q (.done (.ret (.bool true))) s) :
    wpAny (model prog w) A (Builtin.«issubclass.nested» ⟨[.type "str", .type "str", rawInt (0 + 1)], []⟩) Q E s := by
  have h1 := F_ty_str
  have h2 := F_sub_str
  have h3 := F_sub_type
  repeat (any_goals (first | assumption | wp_step))
theorem call_issub {tp : Addr} {Q : Value → Shared → Prop} (ht0 : s.heap.IsTuple tp #[.type "str", .type "bytes"]) (hq : Q (.bool true) s) :
    wpAny (model prog w) A (call (.builtin "issubclass") [.type "str", .ref tp]) Q E s := by
  obtain ⟨⟨cls, dd, data, sl⟩, ht, hc, n, hdt⟩ := ht0
  simp only at hc hdt
  subst hc hdt
  refine call_issubclass (S := fun A R s => s.heap.get? tp = some ⟨.type "tuple", dd, .seq #[.type "str", .type "bytes"] n, sl⟩ ∧ R (.ok (.ret (.bool true))) s) ?_ ⟨ht, hq⟩
  intro prog w A R s hs
  obtain ⟨h, g, d, tt, os⟩ := s
  obtain ⟨htp, hq⟩ := hs
  refine issubclass_outer ?_
  have hT2 : (⟨h, g, d, tt, os⟩ : Shared).TypeIs (.ref tp) "tuple" := ⟨_, htp, rfl⟩
  have f1 := isSubtype_tuple_tuple
  repeat (any_goals (first | assumption | wp_step))
  refine codeAny_call_builtin F_iss_plain F.entry_issubclass_nested ?_
  simp only [checkBuiltinCall, F_iss_kind]
  cases hsig : Manifest.signature? "issubclass.nested" with
  | none => 
    refine wpAny_pure (iss_str_str (s := ⟨h, g, d, tt, os⟩) ?_)
    show wpAny _ _ (truthy (.bool true) >>= _) _ _ _
    refine wpAny_bind (m := truthy (.bool true)) (wpAny_pure ?_)
    repeat (any_goals (first | assumption | wp_step))
  | some sig =>
    have ha := F_iss_args (.type "str") (.type "str") (rawInt 1)
    simp only [argsOk, hsig] at ha
    have h2 : Bind.checkArgs "issubclass.nested" sig ⟨[.type "str", .type "str", rawInt 1], []⟩ = pure () := ha
    show wpAny _ _ (Bind.checkArgs "issubclass.nested" sig ⟨[.type "str", .type "str", rawInt 1], []⟩) _ _ _
    rw [h2]
    refine wpAny_pure (iss_str_str (s := ⟨h, g, d, tt, os⟩) ?_)
    show wpAny _ _ (truthy (.bool true) >>= _) _ _ _
    refine wpAny_bind (m := truthy (.bool true)) (wpAny_pure ?_)
    repeat (any_goals (first | assumption | wp_step))
end
open PySem.Builtin.Str (strSliceIndices)
noncomputable def cut {α : Type} (l : List α) (lo hi : Option Int) : List α := (l.drop (kms_lo lo l.length)).take (kms_hi hi l.length - kms_lo lo l.length)
noncomputable def pv : Option Int → Value
  | none => .none
  | some i => I i
theorem kms_lo_le (lo : Option Int) (n : Nat) : kms_lo lo n ≤ n := by
  unfold kms_lo; split; · omega
  · split <;> omega
theorem kms_hi_le (lo : Option Int) (n : Nat) : kms_hi lo n ≤ n := by
  unfold kms_hi; split; · omega
  · split <;> omega
theorem cut_length {α : Type} (l : List α) (lo hi : Option Int) : (cut l lo hi).length = kms_hi hi l.length - kms_lo lo l.length := by
  have := kms_hi_le hi l.length
  unfold cut; simp; omega
theorem cut_map {α β : Type} (f : α → β) (l : List α) (lo hi : Option Int) : (cut l lo hi).map f = cut (l.map f) lo hi := by
  unfold cut; simp [List.map_take, List.map_drop]
theorem cut_le {α : Type} (l : List α) (lo hi : Option Int) : (cut l lo hi).length ≤ l.length := by
  rw [cut_length]; have := kms_hi_le hi l.length; omega
theorem cut_all {α : Type} {l : List α} {lo hi : Option Int} (h : (cut l lo hi).length = l.length) : cut l lo hi = l := by
  have h2 := h
  rw [cut_length] at h2
  have h3 := kms_hi_le hi l.length
  have h4 := kms_lo_le lo l.length
  unfold cut
  by_cases hl : l.length = 0
  · have : l = [] := List.length_eq_zero_iff.mp hl
    subst this; simp
  · rw [show kms_lo lo l.length = 0 by omega, show kms_hi hi l.length - 0 = l.length by omega]; simp
theorem indices_eq (lo hi : Option Int) (n : Nat) : strSliceIndices lo hi 1 n = (List.range (kms_hi hi n - kms_lo lo n)).map (kms_lo lo n + ·) := by
  have e : strSliceIndices lo hi 1 n = sliceRange (sliceBounds lo hi none n).1 (sliceBounds lo hi none n).2.1 1 := rfl
  rw [e, kms_bounds, sliceRange_one]
theorem indices_cut (x : List Nat) (lo hi : Option Int) : (strSliceIndices lo hi 1 x.length).filterMap (x.toArray[·]?) = cut x lo hi := by
  rw [indices_eq]
  exact pick_run x.toArray (kms_lo lo x.length) (kms_hi hi x.length - kms_lo lo x.length)
noncomputable def tk2 (lo : Option Int) (t : Tok) : Option (Int × Tok) := lo.map (·, t)
theorem pv_part {lo : Option Int} {v : Value} (h : nv v = pv lo) : ∃ t, v = partValue (tk2 lo t) := by
  cases lo with
  | none => exact ⟨0, nv_none h⟩
  | some i => obtain ⟨t, rfl⟩ := nv_int h; exact ⟨t, rfl⟩
theorem pv_isPart {lo : Option Int} {v : Value} (h : nv v = pv lo) : IsPart v lo := by
  cases lo with
  | none => rw [nv_none h]; exact .none
  | some i => obtain ⟨t, rfl⟩ := nv_int h; exact .int i t
section
variable {G : Gd} {A : Around} {env : Env} {L : Addr} {σ : St} {K : Value → St → Prop} {KB : Bool → St → Prop}
theorem slc_str (lo hi : Option Int) {x : List Nat} (hz : x.length ≤ 1000000) (h : K (U (cut x lo hi)) σ) : Slc G A L σ (U x) (pv lo) (pv hi) K := fun va vl vu ha hl hu s hp i q hn kk hi' => by
  obtain ⟨t, rfl⟩ := nv_str ha
  obtain ⟨t1, rfl⟩ := pv_part hl
  obtain ⟨t2, rfl⟩ := pv_part hu
  refine ⟨"str", _, F.slot_str_getitem.lookup, typeIs_str _ _ _, wpAny_getItem_str_slice (l := tk2 lo t1) (u := tk2 hi t2) (st := none) ⟨_, hi', rfl, rfl⟩ rfl ?_⟩
  have e1 : (tk2 lo t1).map (·.1) = lo := by cases lo <;> rfl
  have e2 : (tk2 hi t2).map (·.1) = hi := by cases hi <;> rfl
  have e3 : slicePicked ⟨x.toArray⟩ (tk2 lo t1) (tk2 hi t2) none = strSliceIndices lo hi 1 x.length := by
    unfold slicePicked; rw [e1, e2]; rfl
  have q' := q.keeps (t := s.toks) (g := s.gens) kk
  unfold sliceMade
  rw [e3]
  split
  · rename_i hc
    have hc' : (strSliceIndices lo hi 1 x.length).length = x.length := by simpa [Str.length] using hc
    rw [indices_eq] at hc'
    have : cut x lo hi = x := cut_all (by rw [cut_length]; simpa using hc')
    rw [this] at h
    exact Post.here (K := fun v => K (nv v)) q' h
  · rw [show (⟨x.toArray⟩ : Str).cps = x.toArray from rfl, indices_cut]
    refine ⟨?_, Post.tok (K := fun v => K (nv v)) q' h⟩
    show (cut x lo hi).toArray.size ≤ sizeLine
    have := cut_le x lo hi
    rw [List.size_toArray, two24]; omega
theorem slc_list (lo hi : Option Int) {a : Addr} {ds : List Value} (ha : σ.has a (.list ds)) (hz : ds.length ≤ 1000000) (h : ∀ b, K (.ref b) (σ.put b (.list (cut ds lo hi)))) : Slc G A L σ (.ref a) (pv lo) (pv hi) K := fun va vl vu hv hl hu s hp i q hn kk hi' => by
  have := nv_ref hv; subst this
  obtain ⟨vs, hls, e⟩ := q.held ha
  have hlen : vs.length = ds.length := by rw [← e, List.length_map]
  have hls' : hp.PlainList a vs.toArray := hls.at fun o e => kk _ o e
  refine ⟨"list", _, slot_list_getitem.lookup, hls'.isList.typeIs, wpAny_getItem_list_slice (s := { s with heap := hp }) (st := none) hls'.isList ⟨_, hi', rfl, rfl⟩ (pv_isPart hl) (pv_isPart hu) .none (by simp) ?_ (by rw [List.size_toArray, hlen, two24]; omega)⟩
  have hf := fresh_size hp
  have q' := q.keeps (t := s.toks) (g := s.gens) kk
  rw [kms_pick_eq]
  have hH : Holds (G.prog, G.w) (hp.push { cls := .type "list", data := .seq (kms_pick vs lo hi).toArray }) hp.objs.size (.list (cut ds lo hi)) :=
    ⟨_, ⟨_, Heap.get?_push_size _ rfl⟩, by rw [← e, ← cut_map]; rfl⟩
  exact ⟨_, q'.add (t := s.toks) (fun b o e => Heap.get?_push_of_some _ e) hf hH, .add (fun b o e => Heap.get?_push_of_some _ e) hf, h _⟩
theorem op_add_list {a b : Addr} {ds es : List Value} (ha : σ.has a (.list ds)) (hb : σ.has b (.list es)) (hz : ds.length + es.length ≤ 1000000) (h : ∀ c, K (.ref c) (σ.put c (.list (ds ++ es)))) : Op2 G A L σ .Add (.ref a) (.ref b) K := fun va vb hva hvb s q => by
  have := nv_ref hva; subst this; have := nv_ref hvb; subst this
  obtain ⟨vs, ⟨n, hl⟩, e⟩ := q.held ha
  obtain ⟨us, ⟨n', hl'⟩, e'⟩ := q.held hb
  have hlen : vs.length = ds.length := by rw [← e, List.length_map]
  have hlen' : us.length = es.length := by rw [← e', List.length_map]
  have hf := fresh_size s.heap
  refine P.add_list hl hl' ?_ (by rw [List.size_toArray, List.size_toArray, two24]; omega)
  have hH : Holds (G.prog, G.w) (s.heap.push { cls := .type "list", data := .seq (vs.toArray ++ us.toArray) }) s.heap.objs.size (.list (ds ++ es)) :=
    ⟨vs ++ us, ⟨_, by rw [show (vs ++ us).toArray = vs.toArray ++ us.toArray by simp]; exact Heap.get?_push_size _ rfl⟩, by rw [List.map_append, e, e']⟩
  exact ⟨_, q.add (t := s.toks) (fun b o e => Heap.get?_push_of_some _ e) hf hH, .add (fun b o e => Heap.get?_push_of_some _ e) hf, h _⟩
/-- begins with, ends with -/
noncomputable def sw (x y : List Nat) : Bool := decide (y.length ≤ x.length) && (x.take y.length == y)
noncomputable def ew (x y : List Nat) : Bool := decide (y.length ≤ x.length) && (x.drop (x.length - y.length) == y)
theorem startswith_eq (x y : List Nat) : Txt.startswith ⟨x.toArray⟩ ⟨y.toArray⟩ = sw x y := by
  simp [Txt.startswith, sw, Builtin.Str.subAt, Str.length]
theorem endswith_eq (x y : List Nat) : Txt.endswith ⟨x.toArray⟩ ⟨y.toArray⟩ = ew x y := by
  unfold Txt.endswith ew Builtin.Str.subAt Str.length
  by_cases h : y.length ≤ x.length
  · have e : x.length - y.length + y.length = x.length := by omega
    simp [h, e, List.extract, List.take_of_length_le]
  · simp [h]
theorem call_startswith {x y : List Nat} (h : K (.bool (sw x y)) σ) : Call G A L σ (.builtin "str.startswith") [U x, U y] K := fun vs hvs s q => by
  obtain ⟨v, u, rfl, hv, hu⟩ := two_of hvs
  obtain ⟨t, rfl⟩ := nv_str hv; obtain ⟨t', rfl⟩ := nv_str hu
  exact SC.startswith (Post.here (K := fun v => K (nv v)) q (by rw [startswith_eq]; exact h))
theorem call_endswith {x y : List Nat} (h : K (.bool (ew x y)) σ) : Call G A L σ (.builtin "str.endswith") [U x, U y] K := fun vs hvs s q => by
  obtain ⟨v, u, rfl, hv, hu⟩ := two_of hvs
  obtain ⟨t, rfl⟩ := nv_str hv; obtain ⟨t', rfl⟩ := nv_str hu
  exact SC.endswith (Post.here (K := fun v => K (nv v)) q (by rw [endswith_eq]; exact h))
theorem call_type_str {x : List Nat} (h : K (.type "str") σ) : Call G A L σ (.type "type") [U x] K := fun vs hvs s q => by
  obtain ⟨v, rfl, hv⟩ := one_of hvs
  obtain ⟨t, rfl⟩ := nv_str hv
  exact call_type_of (typeIs_str _ _ _) (by decide) (Post.here (K := fun v => K (nv v)) q h)
theorem call_issub_str {tp : Addr} (ht : σ.has tp (.tuple [.type "str", .type "bytes"])) (h : K (.bool true) σ) : Call G A L σ (.builtin "issubclass") [.type "str", .ref tp] K := fun vs hvs s q => by
  obtain ⟨v, u, rfl, hv, hu⟩ := two_of hvs
  have := nv_type hv; subst this; have := nv_ref hu; subst this
  obtain ⟨us, hl, e⟩ := q.held ht
  obtain ⟨a, b, rfl, h1, h2⟩ := two_of e
  have := nv_type h1; subst this; have := nv_type h2; subst this
  exact call_issub hl (Post.here (K := fun v => K (nv v)) q h)
theorem call_isinst_str_bytes {x : List Nat} (h : K (.bool false) σ) : Call G A L σ (.builtin "isinstance") [U x, .type "bytes"] K := fun vs hvs s q => by
  obtain ⟨v, u, rfl, hv, hu⟩ := two_of hvs
  obtain ⟨t, rfl⟩ := nv_str hv; have := nv_type hu; subst this
  exact call_isinstance (isinstance_false_str (by decide) (by rfl) (by rw [isSubtype_type]; kernel_rfl)) (Post.tok (K := fun v => K (nv v)) q h)
theorem call_isinst_str_str {x : List Nat} (h : K (.bool true) σ) : Call G A L σ (.builtin "isinstance") [U x, .type "str"] K := fun vs hvs s q => by
  obtain ⟨v, u, rfl, hv, hu⟩ := two_of hvs
  obtain ⟨t, rfl⟩ := nv_str hv; have := nv_type hu; subst this
  exact call_isinstance_yes (typeIs_str _ _ _) (by rfl) F_sub_str (Post.here (K := fun v => K (nv v)) q h)
end
/-- words joined; a text cut at a sign -/
noncomputable def jn (sep : List Nat) : List (List Nat) → List Nat
  | [] => []
  | [w] => w
  | w :: v :: r => w ++ sep ++ jn sep (v :: r)
noncomputable def spl (c : Nat) : List Nat → List (List Nat)
  | [] => [[]]
  | d :: r => if d = c then [] :: spl c r else match spl c r with
    | [] => [[d]]
    | w :: ws => (d :: w) :: ws
theorem spl_free (c : Nat) : ∀ (w : List Nat), c ∉ w → spl c w = [w]
  | [], _ => rfl
  | d :: r, h => by
    have h1 : d ≠ c := fun e => h (e ▸ .head _)
    rw [spl, if_neg h1, spl_free c r fun hm => h (.tail _ hm)]
theorem spl_cut (c : Nat) (t : List Nat) : ∀ (w : List Nat), c ∉ w → spl c (w ++ c :: t) = w :: spl c t
  | [], _ => by simp [spl]
  | d :: r, h => by
    have h1 : d ≠ c := fun e => h (e ▸ .head _)
    rw [List.cons_append, spl, if_neg h1, spl_cut c t r fun hm => h (.tail _ hm)]
theorem spl_jn (c : Nat) : ∀ (ws : List (List Nat)), ws ≠ [] → (∀ w ∈ ws, c ∉ w) → spl c (jn [c] ws) = ws
  | [], h, _ => absurd rfl h
  | [w], _, h => spl_free c w (h w (.head _))
  | w :: v :: r, _, h => by
    rw [jn, List.append_assoc, List.singleton_append, spl_cut c _ w (h w (.head _)), spl_jn c (v :: r) (by simp) fun u hu => h u (.tail _ hu)]
theorem join_jn (sep : Str) : ∀ (xs : List Str), (Str.join sep xs).cps.toList = jn sep.cps.toList (xs.map (·.cps.toList))
  | [] => rfl
  | [w] => rfl
  | w :: v :: r => by
    show ((w ++ sep ++ Str.join sep (v :: r)) : Str).cps.toList = _
    rw [show ((w ++ sep ++ Str.join sep (v :: r)) : Str).cps = w.cps ++ sep.cps ++ (Str.join sep (v :: r)).cps from rfl, Array.toList_append, Array.toList_append, join_jn sep (v :: r)]
    rfl
theorem split_spl (x : List Nat) (c : Nat) : (Txt.split ⟨x.toArray⟩ ⟨#[c]⟩).map (·.cps.toList) = spl c x := by
  have h1 := StrLaws.join_split ⟨x.toArray⟩ ⟨#[c]⟩
  have h2 := StrLaws.split_free ⟨x.toArray⟩ c
  have h3 := split_pos ⟨x.toArray⟩ ⟨#[c]⟩
  have e := join_jn ⟨#[c]⟩ (Txt.split ⟨x.toArray⟩ ⟨#[c]⟩)
  rw [h1] at e
  have e' : x = jn [c] ((Txt.split ⟨x.toArray⟩ ⟨#[c]⟩).map (·.cps.toList)) := e
  conv => rhs; rw [e']
  exact (spl_jn c _ (by intro q; have := congrArg List.length q; simp at this; rw [this] at h3; simp at h3) (by
    intro w hw
    obtain ⟨p, hp, rfl⟩ := List.mem_map.mp hw
    exact h2 p hp)).symm
theorem jn_len (sep : List Nat) : ∀ (ws : List (List Nat)), (jn sep ws).length ≤ (ws.map List.length).sum + ws.length * sep.length
  | [] => by simp [jn]
  | [w] => by simp [jn]
  | w :: v :: r => by
    have := jn_len sep (v :: r)
    rw [jn]
    simp only [List.length_append, List.map_cons, List.sum_cons, List.length_cons, Nat.add_mul] at this ⊢
    omega
theorem spl_len (c : Nat) : ∀ (x : List Nat), (spl c x).length ≤ x.length + 1
  | [] => by simp [spl]
  | d :: r => by
    have := spl_len c r
    rw [spl]
    split
    · simp; omega
    · split
      · simp
      · rename_i e; rw [e] at this; simp at this ⊢; omega
theorem nv_strs {ws : List (List Nat)} : ∀ {vs : List Value}, vs.map nv = ws.map U → ∃ l : List (Str × Tok), vs = strValues l ∧ l.map (·.1) = ws.map fun w => ⟨w.toArray⟩ := by
  induction ws with
  | nil => intro vs h; simp at h; subst h; exact ⟨[], rfl, rfl⟩
  | cons w ws ih =>
    intro vs h
    rcases vs with _ | ⟨v, vs⟩
    · simp at h
    · simp only [List.map_cons, List.cons.injEq] at h
      obtain ⟨t, rfl⟩ := nv_str h.1
      obtain ⟨l, rfl, e⟩ := ih h.2
      exact ⟨(⟨w.toArray⟩, t) :: l, rfl, by rw [List.map_cons, e]; rfl⟩
theorem strValues_nv (l : List (Str × Tok)) : (strValues l).map nv = (l.map (·.1)).map fun x => U x.cps.toList := by
  unfold strValues
  rw [List.map_map, List.map_map]
  rfl
section
variable {G : Gd} {A : Around} {env : Env} {L : Addr} {σ : St} {K : Value → St → Prop} {KB : Bool → St → Prop}
theorem add_new {s : Shared} {h : Heap} {t : Nat} (q : Sat G L σ { s with heap := h, toks := t }) (ob : Obj) {o : O} (hH : Holds (G.prog, G.w) (h.push ob) h.objs.size o) (hf : Step G L σ s σ { s with heap := h, toks := t }) (t' : Nat) (hk : K (.ref h.objs.size) (σ.put h.objs.size o)) :
    Post G L σ s (fun v => K (nv v)) (.ref h.objs.size) { s with heap := h.push ob, toks := t' } :=
  ⟨_, q.add (t := t') (fun b o e => Heap.get?_push_of_some _ e) (fresh_size h) hH, hf.trans (.add (t := t') (fun b o e => Heap.get?_push_of_some _ e) (fresh_size h)), hk⟩
theorem call_split {x : List Nat} {c : Nat} (hz : x.length ≤ 100000) (h : ∀ a, K (.ref a) (σ.put a (.list ((spl c x).map U)))) : Call G A L σ (.builtin "str.split") [U x, U [c]] K := fun vs hvs s q => by
  obtain ⟨v, u, rfl, hv, hu⟩ := two_of hvs
  obtain ⟨t, rfl⟩ := nv_str hv; obtain ⟨t', rfl⟩ := nv_str hu
  have hspl := split_spl x c
  have hx : (⟨x.toArray⟩ : Str).length ≤ sizeLine := by show x.toArray.size ≤ _; rw [List.size_toArray, two24]; omega
  have fin : ∀ (l : List (Str × Tok)) (tk : Nat), l.map (·.1) = Txt.split ⟨x.toArray⟩ ⟨#[c]⟩ → Post G L σ s (fun v => K (nv v)) (.ref s.heap.objs.size) { s with heap := s.heap.push { cls := .type "list", data := .seq (strValues l).toArray }, toks := tk } := by
    intro l tk e
    refine add_new (σ := σ) (s := s) (t := s.toks) (o := .list ((spl c x).map U)) q _ ⟨strValues l, ⟨_, Heap.get?_push_size _ rfl⟩, ?_⟩ .rfl' tk (h _)
    rw [strValues_nv, e, ← hspl, List.map_map]
    rfl
  cases h1 : (decide ((⟨x.toArray⟩ : Str).length < (⟨#[c]⟩ : Str).length) || decide (Builtin.Str.strKind ⟨x.toArray⟩ < Builtin.Str.strKind ⟨#[c]⟩))
  · cases hf : (Builtin.Str.occurrences ⟨x.toArray⟩ ⟨#[c]⟩ 0 (⟨x.toArray⟩ : Str).length ((⟨x.toArray⟩ : Str).length + 1)).isEmpty
    · have hs : Txt.split ⟨x.toArray⟩ ⟨#[c]⟩ = Builtin.Str.partsBetween ⟨x.toArray⟩ (Builtin.Str.occurrences ⟨x.toArray⟩ ⟨#[c]⟩ 0 (⟨x.toArray⟩ : Str).length ((⟨x.toArray⟩ : Str).length + 1)) (⟨#[c]⟩ : Str).length := by
        unfold Txt.split; rw [h1, hf]; rfl
      have hn : (Builtin.Str.partsBetween ⟨x.toArray⟩ (Builtin.Str.occurrences ⟨x.toArray⟩ ⟨#[c]⟩ 0 (⟨x.toArray⟩ : Str).length ((⟨x.toArray⟩ : Str).length + 1)) (⟨#[c]⟩ : Str).length).length ≤ sizeLine := by
        rw [← hs]
        have := congrArg List.length hspl
        rw [List.length_map] at this
        have h2 := spl_len c x
        rw [this, two24]; omega
      refine call_meets F.slot_str_split (typeIs_str _ _ _) F.entry_str_split (F.args_str_split_2 _ _) (meets_str_split_sep _ _ t t' h1 rfl hf hx hn) ?_
      rw [strsFrom_eq]
      exact fin (numbered s.toks _) _ ((numbered_texts _ _).trans hs.symm)
    · have hs : Txt.split ⟨x.toArray⟩ ⟨#[c]⟩ = [⟨x.toArray⟩] := by unfold Txt.split; rw [h1, hf]; rfl
      exact call_meets F.slot_str_split (typeIs_str _ _ _) F.entry_str_split (F.args_str_split_2 _ _) (meets_str_split_not_found _ _ t t' h1 rfl hf) (fin [(⟨x.toArray⟩, t)] _ hs.symm)
  · have hs : Txt.split ⟨x.toArray⟩ ⟨#[c]⟩ = [⟨x.toArray⟩] := by unfold Txt.split; rw [h1]; rfl
    exact call_meets F.slot_str_split (typeIs_str _ _ _) F.entry_str_split (F.args_str_split_2 _ _) (meets_str_split_cannot_occur _ _ t t' h1) (fin [(⟨x.toArray⟩, t)] _ hs.symm)
theorem call_join {x : List Nat} {a : Addr} {ws : List (List Nat)} (ha : σ.has a (.list (ws.map U))) (hz : (ws.map List.length).sum + ws.length * x.length ≤ 1000000) (h : K (U (jn x ws)) σ) : Call G A L σ (.builtin "str.join") [U x, .ref a] K := fun vs hvs s q => by
  obtain ⟨v, u, rfl, hv, hu⟩ := two_of hvs
  obtain ⟨t, rfl⟩ := nv_str hv; have := nv_ref hu; subst this
  obtain ⟨us, hl, e⟩ := q.held ha
  obtain ⟨l, rfl, e2⟩ := nv_strs e
  have e3 : l.map (fun p => p.1.length) = ws.map List.length := by
    have := congrArg (List.map Str.length) e2
    rw [List.map_map, List.map_map] at this
    rw [show (fun p : Str × Tok => p.1.length) = Str.length ∘ (·.1) from rfl, this]
    refine List.map_congr_left fun w _ => ?_
    show w.toArray.size = w.length
    simp
  refine SC.join hl.isList rfl ?_ fun t' k => ?_
  · unfold JoinOk
    rw [Bool.not_eq_true']
    refine decide_eq_false ?_
    rw [StrLaws.joinTotal, List.map_map, show (Str.length ∘ fun x : Str × Tok => x.1) = (fun p => p.1.length) from rfl, e3, two24]
    have : l.length = ws.length := by have := congrArg List.length e2; simpa using this
    rw [List.length_map, this]
    show ¬ (_ + _ * x.toArray.size > _)
    rw [List.size_toArray]; omega
  · have : Txt.join ⟨x.toArray⟩ (l.map (·.1)) = ⟨(jn x ws).toArray⟩ := by
      show Builtin.Str.glued _ _ = _
      rw [StrLaws.glued_eq_join, e2]
      have := join_jn ⟨x.toArray⟩ (ws.map fun w => ⟨w.toArray⟩)
      rw [List.map_map] at this
      have e4 : (ws.map ((fun y : Str => y.cps.toList) ∘ fun w => (⟨w.toArray⟩ : Str))) = ws := by
        rw [show ((fun y : Str => y.cps.toList) ∘ fun w : List Nat => (⟨w.toArray⟩ : Str)) = id from rfl]; simp
      rw [e4] at this
      rw [← this]
    rw [this]
    exact Post.tok (K := fun v => K (nv v)) q h
theorem call_append {a : Addr} {ds : List Value} {d : Value} (i : Nat) (hi : σ.own[i]? = some (a, .list ds)) (hz : ds.length ≤ 1000000) (h : K .none (σ.seto i (a, .list (ds ++ [d])))) : Call G A L σ (.builtin "list.append") [.ref a, d] K := fun vs hvs s q => by
  obtain ⟨v, u, rfl, hv, hu⟩ := two_of hvs
  have := nv_ref hv; subst this
  obtain ⟨us, hl, e⟩ := (q.own _ (List.mem_of_getElem? hi)).1
  have hlen : us.length = ds.length := by rw [← e, List.length_map]
  refine wpAny_list_append_plain hl (fun h' hl' hs => ?_) (by rw [List.size_toArray, two24]; omega)
  have hH : Holds (G.prog, G.w) h' a (.list (ds ++ [d])) := ⟨us ++ [u], by rw [show (us ++ [u]).toArray = us.toArray.push u by simp]; exact hl', by rw [List.map_append, e, ← hu]; rfl⟩
  exact ⟨_, q.upd (t := s.toks) hi hs hH, .upd hi hs hH.live, h⟩
theorem call_pop {a : Addr} {ds : List Value} {d : Value} (i : Nat) (hi : σ.own[i]? = some (a, .list (ds ++ [d]))) (hz : ds.length ≤ 1000000) (h : K d (σ.seto i (a, .list ds))) : Call G A L σ (.builtin "list.pop") [.ref a] K := fun vs hvs s q => by
  obtain ⟨v, rfl, hv⟩ := one_of hvs
  have := nv_ref hv; subst this
  obtain ⟨us, ⟨n, hl⟩, e⟩ := (q.own _ (List.mem_of_getElem? hi)).1
  rcases List.eq_nil_or_concat us with rfl | ⟨p, y, rfl⟩
  · simp at e
  rw [List.concat_eq_append, List.map_append] at e
  obtain ⟨e1, e2⟩ := List.append_inj' e rfl
  simp only [List.map_cons, List.map_nil, List.cons.injEq, and_true] at e2
  rw [List.concat_eq_append] at hl
  have hlen : p.length = ds.length := by rw [← e1, List.length_map]
  have hk : (p ++ [y]).toArray.size - 1 = p.length := by rw [List.size_toArray, List.length_append]; rfl
  have hy : (p ++ [y]).toArray[(p ++ [y]).toArray.size - 1]? = some y := by rw [hk]; simp
  refine call_meets PySem.F.slot_list_pop ⟨_, hl, rfl⟩ PySem.F.entry_list_pop (PySem.F.args_list_pop_1 _) (PySem.MeetsSeq.list_pop_last a _ n y hy (by rw [List.size_toArray, List.length_append, two24]; simp; omega)) ⟨hl, ?_⟩
  have hl2 := PySem.IsL.update hl fun xs => xs.eraseIdxIfInBounds ((p ++ [y]).toArray.size - 1)
  have hl3 : ∃ m, (s.heap.update a (Obj.mapSeq fun xs => xs.eraseIdxIfInBounds ((p ++ [y]).toArray.size - 1))).get? a = some { cls := .type "list", data := .seq p.toArray m } := by
    have : (p ++ [y]).toArray.eraseIdxIfInBounds ((p ++ [y]).toArray.size - 1) = p.toArray := by rw [hk, kl_erase, List.append_nil]
    rw [this] at hl2
    exact ⟨_, hl2⟩
  have hH : Holds (G.prog, G.w) (s.heap.update a (Obj.mapSeq fun xs => xs.eraseIdxIfInBounds ((p ++ [y]).toArray.size - 1))) a (.list ds) := ⟨p, hl3, e1⟩
  exact ⟨_, q.upd (t := s.toks) hi (Heap.SameBut.update ..) hH, .upd hi (Heap.SameBut.update ..) hH.live, by subst e2; exact h⟩
end
section
variable {G : Gd} {A : Around} {env : Env} {L : Addr} {σ τ : St} {K : Value → St → Prop} {KB : Bool → St → Prop} {KF : Flow → St → Prop} {KL : List Value → St → Prop}
theorem le_of {bs : List Bool} (m : subM τ.m σ.m) (o : τ.own = pkT bs σ.own) (kn : ∀ p ∈ τ.kn, p ∈ pkF bs σ.own ∨ p ∈ σ.kn) : Le bs τ σ := ⟨subM_ok m, o, kn⟩
theorem asgs_nil {KS : St → Prop} (h : KS σ) : Asgs G A env σ [] [] KS := h
theorem asgs_cons {KS : St → Prop} {t : Expr} {ts : List Expr} {d : Value} {ds : List Value} (h : Asg G A env σ t d fun σ₁ => Asgs G A env σ₁ ts ds KS) : Asgs G A env σ (t :: ts) (d :: ds) KS := h
theorem ex1_le (bs : List Bool) (τ : St) {b : Stmt} (k : Ex1 G A env τ b KF) (m : subM τ.m σ.m) (o : τ.own = pkT bs σ.own) (kn : ∀ p ∈ τ.kn, p ∈ pkF bs σ.own ∨ p ∈ σ.kn) : Ex1 G A env σ b KF := T.le ⟨subM_ok m, o, kn⟩ k
theorem ift {c : Bool} {P Q : Prop} (h : c = true) (k : P) : if c = true then P else Q := by rw [if_pos h]; exact k
theorem iff' {c : Bool} {P Q : Prop} (h : c = false) (k : Q) : if c = true then P else Q := by rw [if_neg (by rw [h]; decide)]; exact k
theorem spl_mem (c : Nat) : ∀ (x w : List Nat), w ∈ spl c x → w.length ≤ x.length
  | [], w, h => by simp [spl] at h; subst h; simp
  | d :: r, w, h => by
    have ih := spl_mem c r
    rw [spl] at h
    split at h
    · rcases List.mem_cons.mp h with rfl | h
      · simp
      · have := ih w h; simp; omega
    · split at h
      · simp at h; subst h; simp
      · rename_i u us e
        rw [e] at ih
        rcases List.mem_cons.mp h with rfl | h
        · have := ih u (.head _); simp; omega
        · have := ih w (.tail _ h); simp; omega
theorem for_inv {ι : Type} (val : ι → Value) (inv : List ι → St) (xs : List ι) {t : Expr} {b : List Stmt}
    (hb : ∀ done x rest, xs = done ++ x :: rest → Asg G A env (inv done) t (val x) fun σ₁ => Ex G A env σ₁ b fun f σ₂ => (f = .next ∨ f = .cont) ∧ ∃ bs, Le bs (inv (done ++ [x])) σ₂)
    (hk : KF .next (inv xs)) : ForT G A env t b (xs.map val) (inv []) KF := by
  have main : ∀ (rest done : List ι), xs = done ++ rest → ForT G A env t b (rest.map val) (inv done) KF := by
    intro rest
    induction rest with
    | nil =>
      intro done e
      rw [List.append_nil] at e
      subst e
      exact hk
    | cons x rest ih =>
      intro done e
      have h1 := hb done x rest e
      have ih' := ih (done ++ [x]) (by rw [e, List.append_assoc]; rfl)
      show Asg G A env (inv done) t (val x) fun σ₁ => Ex G A env σ₁ b _
      intro v hv
      refine (h1 v hv).mono fun _ σ₁ k => ?_
      refine ex_less (T.mono k fun f σ₂ ⟨hf, bs, hl⟩ => ⟨bs, _, hl, ?_⟩)
      rcases hf with hf | hf
      · rw [hf]; exact ih'
      · rw [hf]; exact ih'
  exact main xs [] rfl
theorem tsts_less {KB KB' : Bool → St → Prop} : ∀ {ifs : List Expr}, Tsts G A env σ ifs KB → (∀ b σ₂, KB b σ₂ → (b = true → KB' true σ₂) ∧ (b = false → ∃ bs τ, Le bs τ σ₂ ∧ KB' false τ)) → Tsts G A env σ ifs KB'
  | [], hh, hm => (hm true σ hh).1 rfl
  | [c], hh, hm => T.less (T.mono hh fun b σ₂ k => by
    cases b with
    | true => exact ⟨[], σ₂, .rfl', (hm true σ₂ k).1 rfl⟩
    | false => exact (hm false σ₂ k).2 rfl)
  | _ :: _ :: _, hh, _ => hh.elim
theorem comp_inv {ι : Type} (val : ι → Value) (out : ι → Option Value) (σ₀ : St) {t elt : Expr} {ifs : List Expr}
    : ∀ (xs : List ι) (acc : List Value), (∀ x ∈ xs, Asg G A env σ₀ t (val x) fun σ₁ => Tsts G A env σ₁ ifs fun b σ₂ => if b = true then Ev G A env σ₂ elt (fun y σ₃ => out x = some y ∧ ∃ bs, Le bs σ₀ σ₃) else out x = none ∧ ∃ bs, Le bs σ₀ σ₂) →
    KL (acc ++ xs.filterMap out) σ₀ → CompT G A env t ifs elt (xs.map val) acc σ₀ KL
  | [], acc, _, hk => by
    rw [List.filterMap_nil, List.append_nil] at hk
    exact hk
  | x :: xs, acc, hb, hk => by
    have h1 := hb x (.head _)
    have ih := fun acc hk => comp_inv val out σ₀ xs acc (fun y hy => hb y (.tail _ hy)) hk
    show Asg G A env σ₀ t (val x) fun σ₁ => Tsts G A env σ₁ ifs _
    intro v hv
    refine (h1 v hv).mono fun _ σ₁ k => ?_
    refine tsts_less k fun b σ₂ k2 => ?_
    cases b with
    | true =>
      refine ⟨fun _ => ?_, fun e => nomatch e⟩
      rw [if_pos rfl]
      refine ev_less (T.mono k2 fun y σ₃ ⟨e, bs, hl⟩ => ⟨bs, _, hl, ih _ ?_⟩)
      rw [List.filterMap_cons, e] at hk
      rw [List.append_assoc]; exact hk
    | false =>
      refine ⟨fun e => (nomatch e), fun _ => ?_⟩
      obtain ⟨e, bs, hl⟩ := k2
      refine ⟨bs, _, hl, ?_⟩
      rw [if_neg (by decide)]
      rw [List.filterMap_cons, e] at hk
      exact ih _ hk
end
section
variable {G : Gd} {A : Around} {L : Addr} {σ : St} {K : Value → St → Prop} {mg mb : Str → Option Value}
/-- a def of the text, called: its binding made anyhow -/
theorem call_defB {f : Addr} {fo : Obj} {fd : FuncData} {body : List Stmt} {as : List Value} (names : List Str) (R : List Value → St → Prop) (Γ : Gnd G mg mb) (ho : G.h₀.get? f = some fo) (hT : f ∉ G.Tb) (hd : fo.data = .func fd) (hbody : fd.body = .stmts body) (hcd : G.h₀.CodeRec fd.code fd.qualname) (hcT : ∀ c, fd.code = .ref c → c ∉ G.Tb)
    (hroom : A.depth < recursionLimit)
    (hb : ∀ vs : List Value, vs.map nv = as → ∀ s, Sat G L σ s → wpAny (model G.prog G.w) A.in1 (bindArgs fd ⟨vs, []⟩) (fun binds s₁ => ∃ us σ₁, binds = names.zip us ∧ Sat G L σ₁ s₁ ∧ Step G L σ s σ₁ s₁ ∧ R (us.map nv) σ₁) (fun _ _ => False) s) (hloc : ∀ x ∈ names, fd.scope.names.lookup x = some .local)
    (h : ∀ as' σ₁, R as' σ₁ → ∀ L', let env := callEnv fd L' f; Ex G (A.deeper env) env (σ₁.enter (names.zip as').reverse []) body fun fl σ' => K (retv fl) (σ₁.leave σ'))
    (hcell : ∀ x ∈ fd.scope.names, x.2 ≠ .cell) (hco : fd.scope.isCoroutine = false) (hgen : fd.scope.isGenerator = false) (hk : fd.scope.kind = .function) : Call G A L σ (.ref f) as K := fun vs hvs s q => by
  have ho' : s.heap.get? f = some fo := q.base _ _ ho hT
  have hcd' : s.heap.CodeRec fd.code fd.qualname := by
    obtain ⟨c, o, us, t, e, g, r⟩ := hcd
    exact ⟨c, o, us, t, e, q.base _ _ g (hcT c e), r⟩
  refine wpAny_call (codeAny_call_function hroom ho' hd hco hgen hbody hcd' ?_)
  refine wpAny_mono (hb vs hvs s q) (fun binds s₁ hz => ?_) fun _ _ e => e.elim
  obtain ⟨us, σ₁, rfl, q₁, y₁, hR⟩ := hz
  refine wpAny_newFunctionEnv hcell (fun x hx => hloc _ (List.of_mem_zip hx).1) (fun h₁ hns₁ hsb₁ => ⟨(q₁.noLimit Γ).fresh _ hsb₁, codeAny_func ?_⟩) hk
  have hLn := fresh_size s₁.heap
  have up : ∀ b o, s₁.heap.get? b = some o → h₁.get? b = some o := fun b o e => hsb₁.extBut b o (Nat.ne_of_lt (Heap.lt_size e)) (Heap.get?_push_of_some _ e)
  have xin := q₁.into (L' := s₁.heap.objs.size) (ms := (names.zip (us.map nv)).reverse) (t := s₁.toks + (names.zip us).length) up hLn hns₁ (fun x d e => by
    rw [← nb_zip, ← nb_reverse] at e
    exact lookup_nb e)
  refine wpAny_mono (h _ _ hR s₁.heap.objs.size _ xin) (fun fl s' hz => ?_) fun _ _ e => e.elim
  obtain ⟨σ', x', y', k'⟩ := hz
  have y2 : Step G s₁.heap.objs.size ⟨(names.zip (us.map nv)).reverse, [], σ₁.own ++ σ₁.kn⟩ s₁ ⟨(names.zip (us.map nv)).reverse, [], σ₁.own ++ σ₁.kn⟩ { s₁ with heap := h₁, toks := s₁.toks + (names.zip us).length } := Step.keeps up
  obtain ⟨xb, yb⟩ := q₁.back x' (y2.trans y') hLn
  exact ⟨_, xb, y₁.trans yb, by cases fl <;> exact k'⟩
end
section
variable {G : Gd} {A : Around} {env : Env} {σ : St} {KF : Flow → St → Prop} {t : Expr} {b : List Stmt} {d : Value} {ds : List Value}
noncomputable def Fx (G : Gd) (A : Around) (env : Env) (t : Expr) (b : List Stmt) (ds : List Value) (KF : Flow → St → Prop) : Flow → St → Prop
  | .next, σ => ForT G A env t b ds σ KF
  | .cont, σ => ForT G A env t b ds σ KF
  | .brk, σ => KF .next σ
  | .ret v, σ => KF (.ret v) σ
theorem forT_nil (h : KF .next σ) : ForT G A env t b [] σ KF := h
theorem forT_cons (h : Asg G A env σ t d fun σ₁ => Ex G A env σ₁ b (Fx G A env t b ds KF)) : ForT G A env t b (d :: ds) σ KF := fun v hv =>
  T.mono (h v hv) fun _ σ₁ k => T.mono k fun f σ₂ k => by cases f <;> exact k
theorem fx_next (h : ForT G A env t b ds σ KF) : Fx G A env t b ds KF .next σ := h
end
theorem ints_are : ∀ {ns : List Int} {vs : List Value}, vs.map nv = ns.map I → IntsAre vs ns
  | [], [], _ => .nil
  | [], _ :: _, h => by simp at h
  | _ :: _, [], h => by simp at h
  | n :: ns, v :: vs, h => by
    simp only [List.map_cons, List.cons.injEq] at h
    obtain ⟨t, rfl⟩ := nv_int h.1
    exact .cons n t (ints_are h.2)
theorem int_items : ∀ {ns : List Int} {vs : List Value}, IntsAre vs ns → ∃ xs : Array (Int × Tok), vs.toArray = intItems xs ∧ xs.toList.map (·.1) = ns
  | [], [], _ => ⟨#[], by simp [intItems], by simp⟩
  | _, _, .cons n t r => by
    obtain ⟨xs, e1, e2⟩ := int_items r
    refine ⟨((n, t) :: xs.toList).toArray, ?_, by rw [← e2]; simp⟩
    have e3 := congrArg Array.toList e1
    unfold intItems at e3 ⊢
    apply Array.toList_inj.mp
    simp at e3 ⊢
    exact e3
theorem strsCarried : ∀ (l : List (Str × Tok)), CarriedAll (strValues l) ((l.map (·.1)).map PyData.str)
  | [] => .nil
  | (x, t) :: r => .cons (.str x t) (strsCarried r)
theorem strs_same : ∀ xs : List Str, PySem.Spec.sameAll (xs.map PyData.str) (xs.map PyData.str) = true
  | [] => by simp [PySem.Spec.sameAll]
  | x :: r => by
    simp only [List.map_cons, PySem.Spec.sameAll, PySem.Spec.same, strs_same r]
    simp
theorem strs_lay : ∀ xs : List Str, (∀ x ∈ xs, PyData.strOk x = true) → PyData.canLayAll0 (xs.map PyData.str) = true
  | [], _ => rfl
  | x :: r, h => by simp [PyData.canLayAll0, PyData.canLay0, h x (.head _), strs_lay r fun y hy => h y (.tail _ hy)]
theorem strs_depth : ∀ xs : List Str, PyData.depthAll (xs.map PyData.str) = 0
  | [] => rfl
  | _ :: r => by simp [PyData.depthAll, PyData.depth, strs_depth r]
theorem strs_shaped (xs : List Str) (h : ∀ x ∈ xs, PyData.strOk x = true) : SeqAt.shaped (.list (xs.map PyData.str)) = true := by
  simp [SeqAt.shaped, PyData.canLay0, PyData.depth, strs_lay xs h, strs_depth]
section
variable {G : Gd} {A : Around} {env : Env} {L : Addr} {σ : St} {K : Value → St → Prop} {KB : Bool → St → Prop}
theorem cmp_in_sign {x : List Nat} {c : Nat} (h : K (.bool (decide (c ∈ x))) σ) : Cmp G A L σ .In (U [c]) (U x) K := fun va vb ha hb s q => by
  obtain ⟨t, rfl⟩ := nv_str ha; obtain ⟨u, rfl⟩ := nv_str hb
  exact P.in_str (Post.here (K := fun v => K (nv v)) q (by rw [show (⟨[c].toArray⟩ : Str) = ⟨#[c]⟩ from rfl, StrLaws.found_one]; exact h))
theorem cmp_notin_sign {x : List Nat} {c : Nat} (h : K (.bool (!decide (c ∈ x))) σ) : Cmp G A L σ .NotIn (U [c]) (U x) K := fun va vb ha hb s q => by
  obtain ⟨t, rfl⟩ := nv_str ha; obtain ⟨u, rfl⟩ := nv_str hb
  exact P.notIn_str (Post.here (K := fun v => K (nv v)) q (by rw [show (⟨[c].toArray⟩ : Str) = ⟨#[c]⟩ from rfl, StrLaws.found_one]; exact h))
theorem cmp_in_ints {a : Addr} {ns : List Int} {k : Int} (ha : σ.has a (.list (ns.map I))) (h : K (.bool (ns.any (· == k))) σ) : Cmp G A L σ .In (I k) (.ref a) K := fun va vb hva hvb s q => by
  obtain ⟨t, rfl⟩ := nv_int hva; have := nv_ref hvb; subst this
  obtain ⟨vs, hl, e⟩ := q.held ha
  exact in_list_ints hl.isList (ints_are e) (Post.here (K := fun v => K (nv v)) q h)
theorem cmp_ne_strs {a b : Addr} {ws : List (List Nat)} (hok : ∀ w ∈ ws, PyData.strOk ⟨w.toArray⟩ = true) (hu : A.units + 64 < cLine) (ha : σ.has a (.list (ws.map U))) (hb : σ.has b (.list (ws.map U))) (h : K (.bool false) σ) : Cmp G A L σ .NotEq (.ref a) (.ref b) K := fun va vb hva hvb s q => by
  have := nv_ref hva; subst this; have := nv_ref hvb; subst this
  obtain ⟨vs, hl, e⟩ := q.held ha
  obtain ⟨us, hl', e'⟩ := q.held hb
  obtain ⟨l, rfl, e1⟩ := nv_strs e
  obtain ⟨l', rfl, e2⟩ := nv_strs e'
  have hok' : ∀ x ∈ ws.map fun w => (⟨w.toArray⟩ : Str), PyData.strOk x = true := fun x hx => by
    obtain ⟨w, hw, rfl⟩ := List.mem_map.mp hx
    exact hok w hw
  have c1 := strsCarried l
  have c2 := strsCarried l'
  rw [e1] at c1
  rw [e2] at c2
  refine ne_dataH_same (reads_newData hl.isList c1) (reads_newData hl'.isList c2) (strs_shaped _ hok') (strs_shaped _ hok') hu (SeqAt.noMix_of_shape (.list .str) rfl _ _ (list_map_has fun _ => rfl) (list_map_has fun _ => rfl)) ?_
  have : PySem.Spec.same (.list ((ws.map fun w => (⟨w.toArray⟩ : Str)).map PyData.str)) (.list ((ws.map fun w => (⟨w.toArray⟩ : Str)).map PyData.str)) = true := strs_same _
  rw [this]
  exact Post.here (K := fun v => K (nv v)) q h
theorem cmp_isnot_self {a : Addr} (h : K (.bool false) σ) : Cmp G A L σ .IsNot (.ref a) (.ref a) K := fun va vb hva hvb s q => by
  have := nv_ref hva; subst this; have := nv_ref hvb; subst this
  exact wpAny_isNot_ref_self (Post.here (K := fun v => K (nv v)) q h)
theorem cmp_is_self {a : Addr} (h : K (.bool true) σ) : Cmp G A L σ .Is (.ref a) (.ref a) K := fun va vb hva hvb s q => by
  have := nv_ref hva; subst this; have := nv_ref hvb; subst this
  exact wpAny_is_ref_self (Post.here (K := fun v => K (nv v)) q h)
theorem cmp_isnot_str {a : Addr} {x : List Nat} (h : K (.bool true) σ) : Cmp G A L σ .IsNot (U x) (.ref a) K := fun va vb hva hvb s q => by
  obtain ⟨t, rfl⟩ := nv_str hva; have := nv_ref hvb; subst this
  exact wpAny_isNot_other (by rfl) (by simp) (Post.here (K := fun v => K (nv v)) q h)
theorem call_int {i : Int} (h : K (I i) σ) : Call G A L σ (.type "int") [I i] K := fun vs hvs s q => by
  obtain ⟨v, rfl, hv⟩ := one_of hvs
  obtain ⟨t, rfl⟩ := nv_int hv
  exact call_int_int (Post.here (K := fun v => K (nv v)) q h)
theorem call_sum {a : Addr} {ns : List Int} (hA : A.handled = none) (ha : σ.has a (.list (ns.map I))) (h : K (I ns.sum) σ) : Call G A L σ (.builtin "sum") [.ref a] K := fun vs hvs s q => by
  obtain ⟨v, rfl, hv⟩ := one_of hvs
  have := nv_ref hv; subst this
  obtain ⟨us, hl, e⟩ := q.held ha
  obtain ⟨xs, e1, e2⟩ := int_items (ints_are e)
  have hl' := hl.isList
  rw [e1] at hl'
  refine sum_intListG hA hl' fun h' tk t' hk => ?_
  rw [preSum_eq, List.take_of_length_le (by simp), e2]
  exact ⟨_, q.keeps (t := tk) (g := s.gens) hk, .keeps hk, h⟩
theorem call_min {a : Addr} {ns : List Int} (hA : A.handled = none) (ha : σ.has a (.list (ns.map I))) (hne : ns ≠ []) (h : ∀ M, M ∈ ns → (∀ b ∈ ns, M ≤ b) → K (I M) σ) : Call G A L σ (.builtin "min") [.ref a] K := fun vs hvs s q => by
  obtain ⟨v, rfl, hv⟩ := one_of hvs
  have := nv_ref hv; subst this
  obtain ⟨us, hl, e⟩ := q.held ha
  obtain ⟨xs, e1, e2⟩ := int_items (ints_are e)
  have hl' := hl.isList
  rw [e1] at hl'
  have hsz : 0 < xs.size := by
    rcases Nat.eq_zero_or_pos xs.size with h0 | h0
    · exact absurd (by rw [← e2, List.map_eq_nil_iff]; simpa using h0) hne
    · exact h0
  refine min_intList hA hl' hsz fun v h' tk hv hk => ?_
  obtain ⟨t, rfl⟩ := intItems_at hv
  obtain ⟨h1, h2⟩ := argBest_lt (numAt xs) (xs.size - 1)
  refine ⟨_, q.keeps (t := tk) (g := s.gens) hk, .keeps hk, h _ ?_ fun b hb => ?_⟩
  · rw [numAt_eq, e2]; exact getD_mem (by rw [← e2, List.length_map, Array.length_toList]; omega)
  · rw [← e2] at hb
    obtain ⟨j, hj, rfl⟩ := mem_getD hb
    rw [List.length_map, Array.length_toList] at hj
    rw [← numAt_eq]; exact h2 j (by omega)
noncomputable def rangeO (a b : Int) (t u v : Tok) : O := .raw { cls := .type "range", data := .fields #[.int a t, .int b u, .int 1 v] }
theorem call_range2 {a b : Int} (h : ∀ r t u v, K (.ref r) (σ.put r (rangeO a b t u v))) : Call G A L σ (.type "range") [I a, I b] K := fun vs hvs s q => by
  obtain ⟨v, u, rfl, hv, hu⟩ := two_of hvs
  obtain ⟨t, rfl⟩ := nv_int hv; obtain ⟨t', rfl⟩ := nv_int hu
  refine call_range_2 ?_
  exact add_new (σ := σ) (s := s) (h := s.heap) (t := s.toks) (o := rangeO a b t t' s.toks) q _ (Heap.get?_push_size _ rfl) .rfl' _ (h _ _ _ _)
theorem call_listrange {r : Addr} {a b : Int} {t u v : Tok} (hA : A.handled = none) (hr : σ.has r (rangeO a b t u v)) (h1 : 0 ≤ a) (h2 : a ≤ 1000000) (h3 : 0 ≤ b ∧ b ≤ 1000000)
    (h : ∀ c, K (.ref c) (σ.put c (.list (((List.range (b - a).toNat).map fun (i : Nat) => a + (i : Int)).map I)))) : Call G A L σ (.type "list") [.ref r] K := fun vs hvs s q => by
  obtain ⟨w, rfl, hv⟩ := one_of hvs
  have := nv_ref hv; subst this
  have hr' : IsRange s.heap r a b 1 t u v := q.held hr
  refine call_list_range (n := (b - a).toNat) hA hr' ?_ (by rw [rangeSize_nat]) (by omega) fun h' tk acc c' hk hS hacc => ?_
  · exact small_one (by omega) (by omega) (by omega) (by omega)
  · have hH : Holds (G.prog, G.w) h' s.heap.objs.size (.list (((List.range (b - a).toNat).map fun (i : Nat) => a + (i : Int)).map I)) := by
      refine ⟨acc.toList, ⟨c', by rw [Array.toArray_toList]; exact hS⟩, ?_⟩
      refine List.ext_getElem? fun j => ?_
      rw [List.getElem?_map, List.getElem?_map, List.getElem?_map, Array.getElem?_toList]
      by_cases hj : j < (b - a).toNat
      · have hj' : j < acc.size := by rw [hacc.1]; exact hj
        obtain ⟨tt, e⟩ := hacc.2 j acc[j] (Array.getElem?_eq_getElem hj')
        rw [Array.getElem?_eq_getElem hj', e, List.getElem?_range hj]
        simp [nv]
      · rw [Array.getElem?_eq_none (by rw [hacc.1]; omega), List.getElem?_eq_none (by simpa using hj)]
        rfl
    exact ⟨_, q.add (t := tk) hk (fresh_size _) hH, .add hk (fresh_size _), h _⟩
end
section
variable {G : Gd} {A : Around} {env : Env} {L : Addr} {σ τ : St} {K : Value → St → Prop} {KB : Bool → St → Prop} {KF : Flow → St → Prop} {KL : List Value → St → Prop}
/-- a loop, by what holds behind each item -/
theorem for_invP {ι : Type} (val : ι → Value) (inv : List ι → St → Prop) (xs : List ι) {t : Expr} {b : List Stmt} (h0 : inv [] σ)
    (hb : ∀ done x rest σ, xs = done ++ x :: rest → inv done σ → Asg G A env σ t (val x) fun σ₁ => Ex G A env σ₁ b fun f σ₂ => (f = .next ∨ f = .cont) ∧ ∃ bs τ, Le bs τ σ₂ ∧ inv (done ++ [x]) τ)
    (hk : ∀ σ, inv xs σ → KF .next σ) : ForT G A env t b (xs.map val) σ KF := by
  have main : ∀ (rest done : List ι) (σ : St), xs = done ++ rest → inv done σ → ForT G A env t b (rest.map val) σ KF := by
    intro rest
    induction rest with
    | nil =>
      intro done σ e hi
      rw [List.append_nil] at e
      subst e
      exact hk σ hi
    | cons x rest ih =>
      intro done σ e hi
      refine forT_cons fun v hv => T.mono (hb done x rest σ e hi v hv) fun _ σ₁ k => ?_
      refine ex_less (T.mono k fun f σ₂ ⟨hf, bs, τ, hl, hi'⟩ => ⟨bs, τ, hl, ?_⟩)
      have := ih (done ++ [x]) τ (by rw [e, List.append_assoc]; rfl) hi'
      rcases hf with hf | hf
      · rw [hf]; exact this
      · rw [hf]; exact this
  exact main xs [] σ rfl h0
theorem tsts_one {c : Expr} (h : Tr G A env σ c KB) : Tsts G A env σ [c] KB := h
theorem tsts_nil (h : KB true σ) : Tsts G A env σ [] KB := h
end
noncomputable def mn : List Nat → Nat
  | [] => 0
  | [a] => a
  | a :: b :: r => min a (mn (b :: r))
theorem mn_mem : ∀ {l : List Nat}, l ≠ [] → mn l ∈ l
  | [], h => absurd rfl h
  | [a], _ => by simp [mn]
  | a :: b :: r, _ => by
    have ih := mn_mem (l := b :: r) (by simp)
    rw [mn]
    by_cases h : a ≤ mn (b :: r)
    · rw [Nat.min_eq_left h]; exact .head _
    · rw [Nat.min_eq_right (by omega)]; exact .tail _ ih
theorem mn_le : ∀ {l : List Nat} {x : Nat}, x ∈ l → mn l ≤ x
  | [a], x, h => by simp at h; simp [mn, h]
  | a :: b :: r, x, h => by
    rw [mn]
    rcases List.mem_cons.mp h with rfl | h
    · exact Nat.min_le_left ..
    · exact Nat.le_trans (Nat.min_le_right ..) (mn_le h)
noncomputable abbrev Sx (l : List Nat) : Str := ⟨l.toArray⟩
noncomputable def sto1 (es : List (Str × Value)) (k : Str) (v : Value) : List (Str × Value) :=
  if es.any (fun kv => kv.1 = k) then es.map (fun kv => if kv.1 = k then (kv.1, v) else kv) else es ++ [(k, v)]
theorem stored_nv (kvs : List (Str × Value)) (k : Str) (v : Value) : (stored kvs k v).map (fun x => (x.1, nv x.2)) = sto1 (kvs.map fun x => (x.1, nv x.2)) k (nv v) := by
  unfold stored sto1
  have e : (kvs.map fun x => (x.1, nv x.2)).any (fun kv => decide (kv.1 = k)) = kvs.any (fun kv => decide (kv.1 = k)) := by
    rw [List.any_map]; rfl
  rw [e]
  split
  · rw [List.map_map, List.map_map]
    refine List.map_congr_left fun x _ => ?_
    show ((if x.1 = k then (x.1, v) else x).1, nv (if x.1 = k then (x.1, v) else x).2) = if x.1 = k then (x.1, nv v) else (x.1, nv x.2)
    split <;> rfl
  · rw [List.map_append]; rfl
theorem key_is {prog : Program} {w : World} {x : List Nat} {t : Tok} : (PySem.strKind prog w).is (Sx x) (.str (Sx x) t) = true := strKind_is ..
section
variable {G : Gd} {A : Around} {env : Env} {L : Addr} {σ : St} {K : Value → St → Prop} {KB : Bool → St → Prop} {KF : Flow → St → Prop} {mg mb : Str → Option Value}
theorem Sat.fresh_sys {s : Shared} (q : Sat G L σ s) (Γ : Gnd G mg mb) : (s.heap.objs.size == sysModules) = false := by
  obtain ⟨ob, _, _, e, _⟩ := q.nsG Γ
  have h1 : (3 : Nat) < s.heap.objs.size := Heap.lt_size e
  refine beq_false_of_ne fun h2 => ?_
  have h3 : s.heap.objs.size = (1 : Nat) := h2
  rw [h3] at h1
  exact absurd h1 (by decide)
theorem ev_dict1 (Γ : Gnd G mg mb) {k : String} {v : Int} {n1 n2 : Nat} {p1 p2 pos : Pos} (h : ∀ d, K (.ref d) (σ.put d (.dict [(Str.ofString k, I v)]))) : Ev G A env σ (.Dict [some (.Constant (.str (Str.ofString k)) n1 p1)] [.Constant (.int v) n2 p2] pos) K := fun s q => by
  have hf := fresh_size s.heap
  refine wpAny_Dict_pairs (knd := PySem.strKind G.prog G.w) (pairs := [(eval (.Constant (.str (Str.ofString k)) n1 p1) env, do let x ← eval (.Constant (.int v) n2 p2) env; standAt pos; pure x)]) rfl (by simp) (by simp) ?_
  show wpAny _ _ (do let k' ← eval (.Constant (.str (Str.ofString k)) n1 p1) env; let v' ← holding [k'] (do let x ← eval (.Constant (.int v) n2 p2) env; standAt pos; pure x); holding [k', v'] (pure [(k', v')])) _ _ _
  refine wpAny_bind (Constant_str (wpAny_bind (wpAny_holding (wpAny_bind (wpAny_Constant_int (wpAny_bind (wpAny_standAt (wpAny_pure (wpAny_holding (wpAny_pure ?_)))))))))) 
  refine ⟨[(Str.ofString k, .int v (s.toks + 1))], ?_, Heap.DictOf.new s.heap, fun h' hd hs => ?_⟩
  · exact ⟨strKind_is .., rfl, trivial⟩
  · have hd' : h'.DictOf (PySem.strKind G.prog G.w) s.heap.objs.size [(Str.ofString k, .int v (s.toks + 1))] := hd
    have up : ∀ b o, s.heap.get? b = some o → h'.get? b = some o := fun b o e => hs.extBut b o (Nat.ne_of_lt (Heap.lt_size e)) (Heap.get?_push_of_some _ e)
    exact ⟨_, q.add (o := .dict [(Str.ofString k, I v)]) up hf ⟨_, hd', rfl, q.fresh_sys Γ⟩, .add up hf, h _⟩
/-- an item laid -/
noncomputable def Sti (G : Gd) (A : Around) (L : Addr) (σ : St) (o i v : Value) (K : St → Prop) : Prop := ∀ vo vi vv, nv vo = o → nv vi = i → nv vv = v → T G A L σ (setItem vo vi vv) fun _ => K
theorem ex_setitem {o i : Expr} {p' p : Pos} {value : Expr} (h : Ev G A env σ value fun v σ₁ => Ev G A env σ₁ o fun a σ₂ => Ev G A env σ₂ i fun b σ₃ => Sti G A env.locals σ₃ a b v fun σ₄ => KF .next σ₄)
    (hs : swapsWith value (some (.Subscript o i p')) p.line env = pure false := by rfl) : Ex1 G A env σ (.Assign [.Subscript o i p'] value p) KF := fun s q =>
  wpAny_Assign_Subscript (wpAny_mono (h s q) (fun v s₁ ⟨_, x₁, y₁, k₁⟩ => wpAny_mono (k₁ s₁ x₁) (fun a s₂ ⟨_, x₂, y₂, k₂⟩ => wpAny_mono (k₂ s₂ x₂) (fun b s₃ ⟨_, x₃, y₃, k₃⟩ =>
    wpAny_mono (k₃ a b v rfl rfl rfl s₃ x₃) (fun _ _ ⟨_, x₄, y₄, k₄⟩ => ⟨_, x₄, ((y₁.trans y₂).trans y₃).trans y₄, k₄⟩) fun _ _ e => e) fun _ _ e => e) fun _ _ e => e) fun _ _ e => e) hs
theorem sti_dict {d : Addr} {es : List (Str × Value)} {x : List Nat} {v : Value} {K : St → Prop} (i : Nat) (hi : σ.own[i]? = some (d, .dict es)) (hz : es.length ≤ 1000000) (h : K (σ.seto i (d, .dict (sto1 es (Sx x) v)))) : Sti G A L σ (.ref d) (U x) v K := fun vo vi vv ho hi' hv s q => by
  have := nv_ref ho; subst this; obtain ⟨t, rfl⟩ := nv_str hi'
  obtain ⟨kvs, hd, e, lo⟩ := (q.own _ (List.mem_of_getElem? hi)).1
  have hlen : kvs.length = es.length := by rw [← e, List.length_map]
  refine wpAny_setItem_pairs key_is hd (fun h' hd' hs => ?_) (by rw [two24]; omega)
  have hH : Holds (G.prog, G.w) h' d (.dict (sto1 es (Sx x) v)) := ⟨_, hd', by rw [stored_nv, e, hv], lo⟩
  exact ⟨_, q.upd (t := s.toks + 1) hi hs hH, .upd hi hs hH.live, h⟩
theorem lookup_valueAt (kvs : List (Str × Value)) (k : Str) : (valueAt kvs k).map nv = (kvs.map fun x => (x.1, nv x.2)).lookup k := by
  induction kvs with
  | nil => rfl
  | cons p r ih =>
    unfold valueAt at ih ⊢
    rw [List.find?_cons, List.map_cons, List.lookup_cons]
    by_cases hk : p.1 = k
    · simp [hk]
    · have : (k == p.1) = false := by simp; exact fun e => hk e.symm
      simp only [hk, decide_false, this]
      exact ih
theorem itm_dict {d : Addr} {es : List (Str × Value)} {x : List Nat} {v : Value} (hd : σ.has d (.dict es)) (hv : es.lookup (Sx x) = some v) (h : K v σ) : Itm G A L σ (.ref d) (U x) K := fun va vb hva hvb value slice hs s q => by
  have := nv_ref hva; subst this; obtain ⟨t, rfl⟩ := nv_str hvb
  obtain ⟨kvs, hk, e, lo⟩ := q.held hd
  rw [← e, ← lookup_valueAt] at hv
  obtain ⟨u, hu, rfl⟩ := Option.map_eq_some_iff.mp hv
  exact tail_any hk.typeIs slot_dict_getitem.lookup (wpAny_getItem_of key_is hk.mapOf hu (Post.tok (K := fun v => K (nv v)) q h)) (hs _ _)
theorem call_listdict {d : Addr} {es : List (Str × Value)} (hA : A.handled = none) (hd : σ.has d (.dict es)) (hz : es.length ≤ 1000000) (h : ∀ a, K (.ref a) (σ.put a (.list (es.map fun e => .str e.1 0)))) : Call G A L σ (.type "list") [.ref d] K := fun vs hvs s q => by
  obtain ⟨v, rfl, hv⟩ := one_of hvs
  have := nv_ref hv; subst this
  obtain ⟨kvs, hk, e, lo⟩ := q.held hd
  obtain ⟨ep, hat⟩ := hk.dictAt
  have hlen : kvs.length = es.length := by rw [← e, List.length_map]
  refine kdl_call (kdl_dict (knd := PySem.strKind G.prog G.w) (kvs := kvs) (ep := ep) lo) hA hat (by rw [two24]; omega) fun h' tk acc c' hk' hS hacc => ?_
  have hH : Holds (G.prog, G.w) h' s.heap.objs.size (.list (es.map fun e => .str e.1 0)) := by
    refine ⟨acc.toList, ⟨c', by rw [Array.toArray_toList]; exact hS⟩, ?_⟩
    rw [← e]
    refine List.ext_getElem? fun j => ?_
    rw [List.getElem?_map, List.getElem?_map, List.getElem?_map, Array.getElem?_toList]
    by_cases hj : j < kvs.length
    · have hj' : j < acc.size := by rw [hacc.1]; exact hj
      obtain ⟨k, x, hx, hk2⟩ := hacc.2 j acc[j] (Array.getElem?_eq_getElem hj')
      obtain ⟨t, ht⟩ := Value.isStrOf_shape hk2
      rw [Array.getElem?_eq_getElem hj', hx, ht]
      rfl
    · rw [Array.getElem?_eq_none (by rw [hacc.1]; omega), List.getElem?_eq_none (by omega)]
      rfl
  exact ⟨_, q.add (t := tk) hk' (fresh_size _) hH, .add hk' (fresh_size _), h _⟩
end
section
variable {G : Gd} {L L' : Addr} {σ' : St} {s s' : Shared} {m : List (Str × Value)} {o1 o2 k : List (Addr × O)}
theorem Sat.backO (x : Sat G L ⟨m, o1 ++ o2, k⟩ s) (x' : Sat G L' σ' s') {m₀ : List (Str × Value)} {k₀ : List (Addr × O)} (y : Step G L' ⟨m₀, o1, k₀⟩ s σ' s') (hL' : s.heap.get? L' = none) :
    Sat G L ⟨m, σ'.own ++ o2, k⟩ s' ∧ Step G L ⟨m, o1 ++ o2, k⟩ s ⟨m, σ'.own ++ o2, k⟩ s' := by
  have keep : ∀ b o, s.heap.get? b = some o → b ∉ o1.map (·.1) → b ∉ G.Tb → s'.heap.get? b = some o := fun b o e ho ht => y.keep b o e (fun q => by rw [q, hL'] at e; cases e) ho ht
  have hLT : L ∉ G.Tb := x.not_Tb x.locNew
  have hnd : (o1.map (·.1) ++ o2.map (·.1)).Nodup := by have := x.nd; rwa [List.map_append] at this
  have hLo : L ∉ o1.map (·.1) := fun hm => by
    obtain ⟨p, hp, e⟩ := List.mem_map.mp hm
    exact (x.own p (List.mem_append_left _ hp)).2.1 e
  have h2o : ∀ p ∈ o2, p.1 ∉ o1.map (·.1) := fun p hp hm => (List.nodup_append.mp hnd).2.2 _ hm _ (List.mem_map.mpr ⟨p, hp, rfl⟩) rfl
  have hko : ∀ p ∈ k, p.1 ∉ o1.map (·.1) := fun p hp hm => (x.kn p hp).2.2.2 (by rw [List.map_append]; exact List.mem_append_left _ hm)
  refine ⟨⟨x'.base, x'.tabs, ?_, x.locNew, fun p hp => ?_, fun p hp => ?_, ?_⟩, ⟨y.same, y.bare, fun b o e _ ho ht => keep b o e (fun hm => ho (by rw [List.map_append]; exact List.mem_append_left _ hm)) ht, y.live, fun a ha => ?_, fun a ha => .inr (.inl ha)⟩⟩
  · obtain ⟨m, ⟨o, es, ep, e, r⟩, hm⟩ := x.loc
    exact ⟨m, ⟨o, es, ep, keep L o e hLo hLT, r⟩, hm⟩
  · rcases List.mem_append.mp hp with hp | hp
    · refine ⟨(x'.own p hp).1, ?_, (x'.own p hp).2.2⟩
      rcases y.new p.1 (List.mem_map.mpr ⟨p, hp, rfl⟩) with h | h
      · exact fun e => hLo (e ▸ h)
      · exact x.ne_L h
    · have xo := x.own p (List.mem_append_right _ hp)
      exact ⟨xo.1.at fun ob e => keep _ _ e (h2o p hp) (x.not_Tb xo.2.2), xo.2⟩
  · refine ⟨(x.kn p hp).1.at fun ob e => keep _ _ e (hko p hp) (x.kn p hp).2.2.1, (x.kn p hp).2.1, (x.kn p hp).2.2.1, fun hm => ?_⟩
    rw [List.map_append] at hm
    rcases List.mem_append.mp hm with hm | hm
    · rcases y.new _ hm with h | h
      · exact hko p hp h
      · obtain ⟨o, e⟩ := (x.kn p hp).1.live
        rw [h] at e; cases e
    · exact (x.kn p hp).2.2.2 (by rw [List.map_append]; exact List.mem_append_right _ hm)
  · rw [List.map_append]
    refine List.nodup_append.mpr ⟨x'.nd, (List.nodup_append.mp hnd).2.1, fun a ha b hb e => ?_⟩
    subst e
    rcases y.new a ha with h | h
    · exact (List.nodup_append.mp hnd).2.2 _ h _ hb rfl
    · exact x.not_own h (by rw [List.map_append]; exact List.mem_append_right _ hb)
  · rw [List.map_append] at ha ⊢
    rcases List.mem_append.mp ha with ha | ha
    · exact (y.new a ha).imp_left (List.mem_append_left _)
    · exact .inl (List.mem_append_right _ ha)
theorem Sat.intoO (x : Sat G L ⟨m, o1 ++ o2, k⟩ s) {h : Heap} {t : Nat} {m' : Str → Option Value} {ms : List (Str × Value)} (kk : ∀ b o, s.heap.get? b = some o → h.get? b = some o) (hL' : s.heap.get? L' = none) (hn : h.Ns L' m') (hm : ∀ x d, ms.lookup x = some d → ∃ v, m' x = some v ∧ nv v = d) :
    Sat G L' ⟨ms, o1, o2 ++ k⟩ { s with heap := h, toks := t } := by
  have y := x.keeps (t := t) (g := s.gens) kk
  have ne : ∀ {a : Addr} {o : O}, Holds (G.prog, G.w) s.heap a o → a ≠ L' := fun hh e => by
    obtain ⟨ob, e'⟩ := hh.live
    rw [e, hL'] at e'; cases e'
  have hnd : (o1.map (·.1) ++ o2.map (·.1)).Nodup := by have := x.nd; rwa [List.map_append] at this
  refine ⟨y.base, y.tabs, ⟨m', hn, hm⟩, x.not_h₀ hL', fun p hp => ?_, fun p hp => ?_, (List.nodup_append.mp hnd).1⟩
  · exact ⟨(y.own p (List.mem_append_left _ hp)).1, ne (x.own p (List.mem_append_left _ hp)).1, (x.own p (List.mem_append_left _ hp)).2.2⟩
  · rcases List.mem_append.mp hp with hp | hp
    · have hp' := List.mem_append_right o1 hp
      exact ⟨(y.own p hp').1, ne (x.own p hp').1, x.not_Tb (x.own p hp').2.2, fun hm => (List.nodup_append.mp hnd).2.2 _ hm _ (List.mem_map.mpr ⟨p, hp, rfl⟩) rfl⟩
    · exact ⟨(y.kn p hp).1, ne (x.kn p hp).1, (y.kn p hp).2.2.1, fun hm => (x.kn p hp).2.2.2 (by rw [List.map_append]; exact List.mem_append_left _ hm)⟩
theorem Sat.frozeO (x : Sat G L ⟨m, o1 ++ o2, k⟩ s) : Sat G L ⟨m, o1, o2 ++ k⟩ s := by
  have hnd : (o1.map (·.1) ++ o2.map (·.1)).Nodup := by have := x.nd; rwa [List.map_append] at this
  refine ⟨x.base, x.tabs, x.loc, x.locNew, fun p hp => x.own p (List.mem_append_left _ hp), fun p hp => ?_, (List.nodup_append.mp hnd).1⟩
  rcases List.mem_append.mp hp with hp | hp
  · have xo := x.own p (List.mem_append_right _ hp)
    exact ⟨xo.1, xo.2.1, x.not_Tb xo.2.2, fun hm => (List.nodup_append.mp hnd).2.2 _ hm _ (List.mem_map.mpr ⟨p, hp, rfl⟩) rfl⟩
  · exact ⟨(x.kn p hp).1, (x.kn p hp).2.1, (x.kn p hp).2.2.1, fun hm => (x.kn p hp).2.2.2 (by rw [List.map_append]; exact List.mem_append_left _ hm)⟩
end
section
variable {G : Gd} {A : Around} {L : Addr} {env : Env} {σ : St} {K : Value → St → Prop} {KF : Flow → St → Prop} {mg mb : Str → Option Value}
/-- a def of the text, called: no cells -/
theorem call_defO (o1 : List (Addr × O)) {m : List (Str × Value)} {o2 k : List (Addr × O)} {f : Addr} {fo : Obj} {fd : FuncData} {body : List Stmt} {as : List Value} (names : List Str) (ms : List (Str × Value)) (Γ : Gnd G mg mb) (ho : G.h₀.get? f = some fo) (hT : f ∉ G.Tb) (hd : fo.data = .func fd) (hbody : fd.body = .stmts body) (hcd : G.h₀.CodeRec fd.code fd.qualname) (hcT : ∀ c, fd.code = .ref c → c ∉ G.Tb)
    (hroom : A.depth < recursionLimit) (hn : names.length = as.length) (hb : ∀ vs : List Value, vs.length = names.length → bindArgs fd ⟨vs, []⟩ = pure (names.zip vs)) (hloc : ∀ x ∈ names, fd.scope.names.lookup x = some .local)
    (hms : (names.zip as).reverse = ms) (h : ∀ L', let env := callEnv fd L' f; Ex G (A.deeper env) env ⟨ms, o1, o2 ++ k⟩ body fun fl σ' => K (retv fl) ⟨m, σ'.own ++ o2, k⟩)
    (hcell : ∀ x ∈ fd.scope.names, x.2 ≠ .cell) (hco : fd.scope.isCoroutine = false) (hgen : fd.scope.isGenerator = false) (hk : fd.scope.kind = .function) : Call G A L ⟨m, o1 ++ o2, k⟩ (.ref f) as K := fun vs hvs s q => by
  subst hms
  have ho' : s.heap.get? f = some fo := q.base _ _ ho hT
  have hcd' : s.heap.CodeRec fd.code fd.qualname := by
    obtain ⟨c, o, us, t, e, g, r⟩ := hcd
    exact ⟨c, o, us, t, e, q.base _ _ g (hcT c e), r⟩
  refine wpAny_call (codeAny_call_function hroom ho' hd hco hgen hbody hcd' ?_)
  have hlen : vs.length = names.length := by rw [hn, ← hvs, List.length_map]
  rw [hb vs hlen]
  refine wpAny_pure (wpAny_newFunctionEnv hcell (fun x hx => hloc _ (List.of_mem_zip hx).1) (fun h₁ hns₁ hsb₁ => ⟨(q.noLimit Γ).fresh _ hsb₁, codeAny_func ?_⟩) hk)
  have hLn := fresh_size s.heap
  have up : ∀ b o, s.heap.get? b = some o → h₁.get? b = some o := fun b o e => hsb₁.extBut b o (Nat.ne_of_lt (Heap.lt_size e)) (Heap.get?_push_of_some _ e)
  have xin := q.intoO (L' := s.heap.objs.size) (ms := (names.zip as).reverse) (t := s.toks + (names.zip vs).length) up hLn hns₁ (fun x d e => by
    rw [← hvs, ← nb_zip, ← nb_reverse] at e
    exact lookup_nb e)
  refine wpAny_mono (h s.heap.objs.size _ xin) (fun fl s' hz => ?_) fun _ _ e => e.elim
  obtain ⟨σ', x', y', k'⟩ := hz
  have y2 : Step G s.heap.objs.size ⟨(names.zip as).reverse, o1, o2 ++ k⟩ s ⟨(names.zip as).reverse, o1, o2 ++ k⟩ { s with heap := h₁, toks := s.toks + (names.zip vs).length } := Step.keeps up
  obtain ⟨xb, yb⟩ := q.backO x' (y2.trans y') hLn
  exact ⟨_, xb, yb, by cases fl <;> exact k'⟩

/-- a def of the text, called: with cells -/
theorem call_defCO (o1 : List (Addr × O)) {m : List (Str × Value)} {o2 k : List (Addr × O)} {f : Addr} {fo : Obj} {fd : FuncData} {body : List Stmt} {as : List Value} (names : List Str) (ms : List (Str × Value)) (ow : Addr → List (Addr × O)) (Γ : Gnd G mg mb) (ho : G.h₀.get? f = some fo) (hT : f ∉ G.Tb) (hd : fo.data = .func fd) (hbody : fd.body = .stmts body) (hcd : G.h₀.CodeRec fd.code fd.qualname) (hcT : ∀ c, fd.code = .ref c → c ∉ G.Tb)
    (hroom : A.depth < recursionLimit) (hn : names.length = as.length) (hb : ∀ vs : List Value, vs.length = names.length → bindArgs fd ⟨vs, []⟩ = pure (names.zip vs)) (hclo : fd.closure = [])
    (hkind : ∀ n, ∀ x ∈ names, fd.scope.names.lookup x = some .local ∨ (fd.scope.names.lookup x = some .cell ∧ ((cellsFrom n fd.scope.names []).lookup x).isSome = true))
    (hnd : ∀ n, ((cellsFrom n fd.scope.names []).map (·.1)).Nodup)
    (hms : msL (fun n => fd.scope.names.lookup n) (names.zip as) [] = ms)
    (how : ∀ L', (cellsFrom (L' + 1) fd.scope.names []).map (fun x => (x.2, O.cell (bindC (fun n => fd.scope.names.lookup n) (names.zip as) (fun _ => none) x.1))) = ow L')
    (h : ∀ L', let env := callEnvC fd L' f; Ex G (A.deeper env) env ⟨ms, ow L' ++ o1, o2 ++ k⟩ body fun fl σ' => K (retv fl) ⟨m, σ'.own ++ o2, k⟩)
    (hco : fd.scope.isCoroutine = false) (hgen : fd.scope.isGenerator = false) (hk : fd.scope.kind = .function) : Call G A L ⟨m, o1 ++ o2, k⟩ (.ref f) as K := fun vs hvs s q => by
  have ho' : s.heap.get? f = some fo := q.base _ _ ho hT
  have hcd' : s.heap.CodeRec fd.code fd.qualname := by
    obtain ⟨c, o, us, t, e, g, r⟩ := hcd
    exact ⟨c, o, us, t, e, q.base _ _ g (hcT c e), r⟩
  refine wpAny_call (codeAny_call_function hroom ho' hd hco hgen hbody hcd' ?_)
  have hlen : vs.length = names.length := by rw [hn, ← hvs, List.length_map]
  rw [hb vs hlen, hclo]
  refine wpAny_pure (wpAny_newFunctionEnv_cells hk (fun x hx => hkind _ _ (List.of_mem_zip hx).1) fun env he s₁ x => ?_)
  subst he
  refine ⟨(q.noLimit Γ).keeps x.toInCall.keep, codeAny_func ?_⟩
  have hLn := fresh_size s.heap
  obtain ⟨h₁, tk, rfl, up⟩ := x.done
  have hns₁ := x.toInCall.ns
  have hzip : nb (names.zip vs) = names.zip as := by rw [nb_zip, hvs]
  have xin0 := q.intoO (L' := s.heap.objs.size) (ms := ms) (t := tk) up hLn hns₁ (fun x d e => by
    rw [← hms, ← hzip] at e
    exact msL_ok _ _ _ _ (fun x d e => by simp at e) x d e)
  -- the cells
  have hcellsIn : ∀ p ∈ ow s.heap.objs.size, Holds (G.prog, G.w) h₁ p.1 p.2 ∧ s.heap.objs.size < p.1 := fun p hp => by
    rw [← how] at hp
    obtain ⟨y, hy, rfl⟩ := List.mem_map.mp hp
    have hl : (cellsFrom (s.heap.objs.size + 1) fd.scope.names []).lookup y.1 = some y.2 := lookup_of_mem_nodup (hnd _) hy
    refine ⟨⟨_, x.cell y.1 y.2 hl, ?_⟩, x.above y.1 y.2 hy⟩
    rw [← hzip]
    exact bindC_nb _ _ _ _
  have hnone : ∀ {a : Addr}, s.heap.objs.size < a → s.heap.get? a = none := fun {a} ha => by
    cases e : s.heap.get? a with
    | none => rfl
    | some o => exact absurd (Heap.lt_size e) (Nat.not_lt.mpr (Nat.le_of_lt ha))
  have hapart : ((ow s.heap.objs.size).map (·.1)).Nodup := by
    rw [← how, List.map_map]
    have := x.apart
    show List.Pairwise _ _
    rw [List.pairwise_map]
    exact this
  have liveO : ∀ p, (p ∈ o1 ∨ p ∈ o2 ∨ p ∈ k) → ∃ ob, s.heap.get? p.1 = some ob := fun p hp => by
    rcases hp with hp | hp | hp
    · exact (q.own p (List.mem_append_left _ hp)).1.live
    · exact (q.own p (List.mem_append_right _ hp)).1.live
    · exact (q.kn p hp).1.live
  have apO : ∀ p, (p ∈ o1 ∨ p ∈ o2 ∨ p ∈ k) → p.1 ∉ (ow s.heap.objs.size).map (·.1) := fun p hp hm => by
    obtain ⟨r, hr, e⟩ := List.mem_map.mp hm
    have hr' := hnone (hcellsIn r hr).2
    obtain ⟨ob, e'⟩ := liveO p hp
    rw [← e, hr'] at e'; cases e'
  have xin : Sat G s.heap.objs.size ⟨ms, ow s.heap.objs.size ++ o1, o2 ++ k⟩ { s with heap := h₁, toks := tk } := by
    refine ⟨xin0.base, xin0.tabs, xin0.loc, xin0.locNew, fun p hp => ?_, fun p hp => ?_, ?_⟩
    · rcases List.mem_append.mp hp with hp | hp
      · obtain ⟨a, b⟩ := hcellsIn p hp
        exact ⟨a, Nat.ne_of_gt b, q.not_h₀ (hnone b)⟩
      · exact xin0.own p hp
    · obtain ⟨a, b, c, d⟩ := xin0.kn p hp
      refine ⟨a, b, c, fun hm => ?_⟩
      rw [List.map_append] at hm
      rcases List.mem_append.mp hm with hm | hm
      · exact apO p ((List.mem_append.mp hp).elim (fun h => .inr (.inl h)) fun h => .inr (.inr h)) hm
      · exact d hm
    · rw [List.map_append]
      refine List.nodup_append.mpr ⟨hapart, xin0.nd, fun a ha b hb e => ?_⟩
      subst e
      obtain ⟨p, hp, rfl⟩ := List.mem_map.mp hb
      exact apO p (.inl hp) ha
  have y2 : Step G s.heap.objs.size ⟨ms, o1, o2 ++ k⟩ s ⟨ms, ow s.heap.objs.size ++ o1, o2 ++ k⟩ { s with heap := h₁, toks := tk } :=
    ⟨⟨_, _, _, rfl⟩, id, fun b o e _ _ _ => up b o e, fun b o e => ⟨o, up b o e⟩, fun a ha => by
      rw [List.map_append] at ha
      rcases List.mem_append.mp ha with ha | ha
      · obtain ⟨r, hr, e⟩ := List.mem_map.mp ha
        exact .inr (e ▸ hnone (hcellsIn r hr).2)
      · exact .inl ha, fun a ha => .inr (.inl ha)⟩
  refine wpAny_mono (h s.heap.objs.size _ xin) (fun fl s' hz => ?_) fun _ _ e => e.elim
  obtain ⟨σ', x', y', k'⟩ := hz
  obtain ⟨xb, yb⟩ := q.backO x' (y2.trans y') hLn
  exact ⟨_, xb, yb, by cases fl <;> exact k'⟩
theorem ex_assign_compO (o1 : List (Addr × O)) {x : Str} {p' p : Pos} {elt t iter : Expr} {ifs : List Expr} {scope : Scope} {pos : Pos} {cl : List (Str × Addr)}
    (h : Ev G A env σ iter fun d σ₁ => ∃ m o2 k ds, σ₁ = ⟨m, o1 ++ o2, k⟩ ∧ Itr G A env.locals ⟨m, o1, o2 ++ k⟩ d ds ∧ ds.length ≤ 1000000 ∧ ∀ C, CompT G A (compEnvC scope cl C env) t ifs elt ds [] ⟨[], o1, o2 ++ k⟩ fun acc σ' => ∀ D, Sto G A env ⟨m, (D, .list acc) :: (σ'.own ++ o2), k⟩ x (.ref D) fun σ₂ => KF .next σ₂)
    (hsw : swapsWith (.ListComp elt [⟨t, iter, ifs, 0⟩] scope pos) (some (.Name x p')) p.line env = pure true := by with_unfolding_all rfl)
    (hclos : closureFor scope env = pure cl := by with_unfolding_all rfl) (hcell : ∀ y ∈ scope.names, y.2 ≠ .cell := by decide) (hkind : scope.kind = .function := by rfl)
    (hnames : ∀ y ∈ scope.names, y.2 = .local → scope.names.lookup y.1 = some .local := by decide)
    (ht : ∀ I v, letOwnedTupleGo t (.ref I) v = pure () := by intro _ _; rfl) (hs : ∀ x, foldedSetIterable iter env x = pure x := by intro _; rfl) :
    Ex1 G A env σ (.Assign [.Name x p'] (.ListComp elt [⟨t, iter, ifs, 0⟩] scope pos) p) KF := fun s q => by
  rw [exec_Assign_Name_used x p' _ p hsw]
  refine wpAny_bind (wpAny_standAt (wpAny_bind ?_))
  show wpAny _ A (do let _ ← comprehension (.ListComp elt [⟨t, iter, ifs, 0⟩] scope pos) scope env _ (newList []) false (eval iter env) (some (assign (.Name x p') env))) _ _ s
  refine wpAny_bind (wpAny_mono (wpAny_comprehension_free (use := some (assign (.Name x p') env)) (Q := fun _ s' => Post G env.locals σ s (fun f => KF (nf f)) .next s') rfl hs hclos hkind hnames (wpAny_mono (h s q) (fun xv s₁ hz => ?_) fun _ _ e => e))
    (fun _ s' hq => wpAny_pure (wpAny_pure hq)) fun _ _ e => e)
  obtain ⟨σ₁, x₁, y₁, m, o2, k, ds, rfl, hi, hall, hc⟩ := hz
  refine wpAny_mono (hi xv rfl s₁ x₁.frozeO) (fun it s₂ hz => ?_) fun _ _ e => e.elim
  obtain ⟨I, fp, Z, rfl, hit, hz0, hI, hlive, h', t', rfl, kk⟩ := hz
  refine wpAny_newObj_type (wpAny_newFunctionEnv hcell (by intro y hy; simp at hy) (fun h₁ hns₁ hsb₁ => ?_) hkind)
  dsimp only at hns₁ hsb₁ ⊢
  generalize hH2 : h'.push { cls := .type "list", dict := none, data := .seq ([] : List Value).toArray } = H2 at hns₁ hsb₁ ⊢
  have hC : H2.objs.size = h'.objs.size + 1 := by rw [← hH2, Heap.size_push]
  have hDC : h'.objs.size ≠ H2.objs.size := by rw [hC]; exact Nat.ne_of_lt (Nat.lt_succ_self _)
  have below : ∀ b, b < h'.objs.size → b ≠ H2.objs.size := fun b hb => by rw [hC]; exact Nat.ne_of_lt (Nat.lt_succ_of_lt hb)
  have old : ∀ b o, h'.get? b = some o → h₁.get? b = some o := fun b o e => hsb₁.extBut b o (below b (Heap.lt_size e)) (Heap.get?_push_of_some _ (hH2 ▸ Heap.get?_push_of_some _ e))
  have up : ∀ b o, s₁.heap.get? b = some o → h₁.get? b = some o := fun b o e => old b o (kk b o e)
  have none_of : ∀ {a}, h'.get? a = none → s₁.heap.get? a = none := fun {a} e => by
    cases e' : s₁.heap.get? a with
    | none => rfl
    | some o => rw [kk a o e'] at e; cases e
  have hCn : s₁.heap.get? H2.objs.size = none := none_of (by
    cases e : h'.get? H2.objs.size with
    | none => rfl
    | some o => exact absurd (Heap.lt_size e) (by rw [hC]; exact Nat.not_lt.mpr (Nat.le_succ _)))
  have hDn : s₁.heap.get? h'.objs.size = none := none_of (fresh_size h')
  have hplain : h₁.PlainList h'.objs.size ([] : List Value).toArray := ⟨_, hsb₁.extBut _ _ hDC (Heap.get?_push_of_some _ (hH2 ▸ Heap.get?_push_size _ rfl))⟩
  have hfpC : ∀ b ∈ fp, b ≠ H2.objs.size := fun b hb => let ⟨o, e⟩ := hlive b hb; below b (Heap.lt_size e)
  have hfpD : h'.objs.size ∉ fp := fun hm => let ⟨o, e⟩ := hlive _ hm; Nat.lt_irrefl _ (Heap.lt_size e)
  have hIf : I ∈ fp := hit.walks.sub I (by simp)
  have xin := x₁.intoO (L' := H2.objs.size) (ms := []) (t := t' + ([] : List (Str × Value)).length) up hCn hns₁ (fun x d e => by simp at e)
  have yin : Step G H2.objs.size ⟨[], o1, o2 ++ k⟩ s₁ ⟨[], o1, o2 ++ k⟩ { s₁ with heap := h₁, toks := t' + ([] : List (Str × Value)).length } := Step.keeps up
  have hit' : IterAt G A (compEnvC scope cl H2.objs.size env).locals ⟨[], o1, o2 ++ k⟩ ds I fp Z :=
    ⟨hit.walks, fun b hb => ⟨(hit.fpo b hb).1, hfpC b hb, (hit.fpo b hb).2.2⟩, hit.Io, hit.Ik, hfpC I hIf, hit.I0, hit.zl, hit.lot⟩
  have fin : ∀ s₃ : Shared, s₃ = { s₁ with heap := h₁, toks := t' + ([] : List (Str × Value)).length } → codeAny (model G.prog G.w) A (.compLoop (.ListComp elt [⟨t, iter, ifs, 0⟩] scope pos) 0 (.ref I) (.ref h'.objs.size) (compEnvC scope cl H2.objs.size env))
      (compPost (model G.prog G.w) A (fun _ _ => False) (some (assign (.Name x p') env)) (fun _ s' => Post G env.locals σ s (fun f => KF (nf f)) .next s') (.ref h'.objs.size) H2.objs.size) s₃ := by
    rintro s₃ rfl
    refine comp_run (env := compEnvC scope cl H2.objs.size env) (s₀ := s₁) (σ₀ := ⟨[], o1, o2 ++ k⟩) hI hDn hIf hfpD hDC (x₁.not_h₀ hDn) hall (ht I) (fun s' hz => ?_) ds 0 _ _ [] (by simp) (Nat.zero_le _) (by simp) (hc _) xin yin hit' (hit'.walks.frame _ _ _ hz0 fun b hb o e => old b o e) (fun b hb => let ⟨o, e⟩ := hlive b hb; ⟨o, old b o e⟩) hplain (fun hm => x₁.not_own hDn (by rw [List.map_append]; exact List.mem_append_left _ hm)) (by
        have h1 := x₁.not_own hDn
        have h2 := x₁.not_kn hDn
        simp only [List.map_append, List.mem_append, not_or] at h1 ⊢
        exact ⟨h1.2, h2⟩)
    obtain ⟨σ', ys, x', y', hDo, hD', hK⟩ := hz
    obtain ⟨xb, yb⟩ := x₁.backO x' y' hCn
    obtain ⟨m', hn', _⟩ := x'.loc
    have hCo : H2.objs.size ∉ (σ'.own ++ o2).map (·.1) := fun hm => by
      rw [List.map_append] at hm
      rcases List.mem_append.mp hm with hm | hm
      · obtain ⟨p, hp, e⟩ := List.mem_map.mp hm
        exact (x'.own p hp).2.1 e
      · exact x₁.not_own hCn (by rw [List.map_append]; exact List.mem_append_right _ hm)
    have hDo2 : h'.objs.size ∉ (σ'.own ++ o2).map (·.1) := fun hm => by
      rw [List.map_append] at hm
      rcases List.mem_append.mp hm with hm | hm
      · exact hDo hm
      · exact x₁.not_own hDn (by rw [List.map_append]; exact List.mem_append_right _ hm)
    have x3 := xb.adopt (o := .list (ys.map nv)) ⟨ys, hD', rfl⟩ hDo2 (x₁.not_kn hDn) (x₁.ne_L hDn) (x₁.not_h₀ hDn)
    have y3 : Step G env.locals ⟨m, o1 ++ o2, k⟩ s₁ ⟨m, (h'.objs.size, .list (ys.map nv)) :: (σ'.own ++ o2), k⟩ s' := ⟨yb.same, yb.bare, yb.keep, yb.live, fun a ha => by
      rcases List.mem_cons.mp ha with rfl | ha
      · exact .inr hDn
      · exact yb.new a ha, yb.newK⟩
    have hCo3 : H2.objs.size ∉ ((h'.objs.size, O.list (ys.map nv)) :: (σ'.own ++ o2)).map (·.1) := fun hm => by
      rcases List.mem_cons.mp hm with e | hm
      · exact hDC e.symm
      · exact hCo hm
    refine wpAny_assign_Name (wpAny_mono (hK _ _ rfl s' x3) (fun _ s'' hz => ?_) fun _ _ e => e.elim)
    obtain ⟨σ₄, x4, y4, k4⟩ := hz
    have hCL := x₁.ne_L hCn
    have hC0 := x₁.not_h₀ hCn
    have hn4 : s''.heap.Ns H2.objs.size m' := hn'.at' fun o e => y4.keep _ o e hCL hCo3 (x₁.not_Tb hC0)
    obtain ⟨oC, eC⟩ : ∃ oC, s'.heap.get? H2.objs.size = some oC := let ⟨oC, _, _, eC, _⟩ := hn'; ⟨oC, eC⟩
    have hCo4 : H2.objs.size ∉ σ₄.own.map (·.1) := fun hm => by
      rcases y4.new _ hm with h | h
      · exact hCo3 h
      · rw [eC] at h; cases h
    have hCk4 : H2.objs.size ∉ σ₄.kn.map (·.1) := fun hm => by
      rcases y4.newK _ hm with h | h | h | h
      · exact hCo3 h
      · exact x₁.not_kn hCn h
      · rw [eC] at h; cases h
      · exact h hC0
    refine ⟨m', hn4, fun h'' hs'' => ?_⟩
    have x5 := x4.off (t := s''.toks) (h := h'') (b := H2.objs.size) (fun c o hc e => (hs''.2 c hc).trans e) hC0 hCL hCo4 hCk4
    have y5 := ((y₁.trans y3).trans y4).off (t := s''.toks) (h := h'') (b := H2.objs.size) (fun c o hc e => (hs''.2 c hc).trans e) (y₁.live_none hCn)
    exact ⟨_, x5, y5, k4⟩
  exact codeAny_compStart_list (fin _ rfl) (hit.walks.self 0 _ _ _ (hit.walks.frame _ _ _ hz0 fun b hb o e => old b o e) (fin _ rfl))
end
section
variable {G : Gd} {A : Around} {L : Addr} {env : Env} {σ : St} {s : Shared} {K : Value → St → Prop} {KF : Flow → St → Prop} {mg mb : Str → Option Value}
/-- an own object turned, new ones made beside -/
theorem Sat.updX (x : Sat G L σ s) {h : Heap} {t : Nat} {i : Nat} {a : Addr} {o o' : O} (hi : σ.own[i]? = some (a, o)) (hs : Heap.ExtBut a s.heap h) (ho : Holds (G.prog, G.w) h a o') :
    Sat G L { σ with own := σ.own.set i (a, o') } { s with heap := h, toks := t } := by
  have hm : (a, o) ∈ σ.own := List.mem_of_getElem? hi
  obtain ⟨_, haL, ha0⟩ := x.own _ hm
  have keep : ∀ b ob, b ≠ a → s.heap.get? b = some ob → h.get? b = some ob := fun b ob hb e => hs b ob hb e
  have na : ∀ b ob, G.h₀.get? b = some ob → b ≠ a := fun b ob e => by rintro rfl; rw [ha0] at e; cases e
  refine ⟨fun b ob e ht => keep b ob (na b ob e) (x.base b ob e ht), fun P hP => ?_, ?_, x.locNew, fun p hp => ?_, fun p hp => ?_, ?_⟩
  · obtain ⟨vs, more, e1, e2⟩ := x.tabs P hP
    exact ⟨vs, more, e1, keep P _ (na P _ e1) e2⟩
  · obtain ⟨m, hn, hm'⟩ := x.loc
    exact ⟨m, hn.extBut hs haL.symm, hm'⟩
  · obtain ⟨j, hj, ej⟩ := List.mem_iff_getElem.mp hp
    have hj' : (σ.own.set i (a, o'))[j]? = some p := by rw [List.getElem?_eq_getElem hj, ej]
    rw [List.getElem?_set] at hj'
    split at hj'
    · split at hj'
      · cases hj'; exact ⟨ho, haL, ha0⟩
      · cases hj'
    · rename_i hne
      have hpm := List.mem_of_getElem? hj'
      have hpa : p.1 ≠ a := fun e => hne (key_at x.nd hi hj' e).symm
      exact ⟨(x.own p hpm).1.at fun ob e => keep _ _ hpa e, (x.own p hpm).2⟩
  · have hpa : p.1 ≠ a := fun e => (x.kn p hp).2.2.2 (e ▸ List.mem_map.mpr ⟨_, hm, rfl⟩)
    exact ⟨(x.kn p hp).1.at fun ob e => keep _ _ hpa e, (x.kn p hp).2.1, (x.kn p hp).2.2.1, by rw [set_fst hi]; exact (x.kn p hp).2.2.2⟩
  · rw [set_fst hi]; exact x.nd
theorem Step.updX {h : Heap} {t : Nat} {i : Nat} {a : Addr} {o o' : O} (hi : σ.own[i]? = some (a, o)) (hs : Heap.ExtBut a s.heap h) (hl : ∃ ob, h.get? a = some ob) :
    Step G L σ s { σ with own := σ.own.set i (a, o') } { s with heap := h, toks := t } := by
  have hm : a ∈ σ.own.map (·.1) := List.mem_map.mpr ⟨_, List.mem_of_getElem? hi, rfl⟩
  refine ⟨⟨_, _, _, rfl⟩, id, fun b ob e _ hb _ => hs b ob (fun q => hb (q ▸ hm)) e, fun b ob e => ?_, fun b hb => .inl (by rw [set_fst hi] at hb; exact hb), fun _ h => .inr (.inl h)⟩
  by_cases q : b = a
  · subst q; exact hl
  · exact ⟨ob, hs b ob q e⟩
theorem Step.adopt {s₁ : Shared} {σ₁ : St} (y : Step G L σ s σ₁ s₁) {a : Addr} {o : O} (hn : s.heap.get? a = none) : Step G L σ s { σ₁ with own := (a, o) :: σ₁.own } s₁ :=
  ⟨y.same, y.bare, y.keep, y.live, fun b hb => by
    rcases List.mem_cons.mp hb with rfl | hb
    · exact .inr hn
    · exact y.new b hb, y.newK⟩
/-- a record of code -/
noncomputable def okC (oc : Obj) (qual : Str) : Prop := ∃ vs t, oc.data = .fields vs ∧ vs[1]? = some (.str qual t)
/-- a function object that a lambda leaves -/
noncomputable def lamO (qual : Str) (params : Arguments) (body : Expr) (scope : Scope) (clos : List (Str × Addr)) (pm : Value) (c' : Addr) (ctv : Value) : O := .raw (kla_obj "<lambda>" qual params body scope clos pm c' ctv)
theorem size_none {h : Heap} {a : Addr} (ha : h.objs.size ≤ a) : h.get? a = none := by
  cases e : h.get? a with
  | none => rfl
  | some o => exact absurd (Heap.lt_size e) (Nat.not_lt.mpr ha)
theorem ev_lambda_new {params : Arguments} {body : Expr} {scope : Scope} {pos : Pos} {c P : Addr} {ps : Array Value} {clos : List (Str × Addr)} (i : Nat) (Γ : Gnd G mg mb) (hB : ∀ P, P ∉ [mainGlobals] → G.h₀.get? P = none → G.h₀.BuiltinsAt mg P) (hT : G.Tb = []) (hC : CodeHd G.h₀ c P)
    (hi : σ.own[i]? = some (P, .raw (tabObj ps))) (ht : TriplesOk ps.toList) (hnf : codeAmong pos ps.toList = none)
    (h : ∀ f c' oc ctv, okC oc (env.qual ++ "<lambda>") → K (.ref f) ((((σ.seto i (P, .raw (tabObj (ps ++ #[rawInt pos.line, rawInt pos.col, .ref c'])))).put c' (.raw oc)).put f (lamO (env.qual ++ "<lambda>") params body scope clos ((mg "__name__").getD .none) c' ctv))))
    (hcode : env.code = .ref c := by rfl) (hcl : closureFor scope env = pure clos := by with_unfolding_all rfl) (hge : env.globals = mainGlobals := by rfl) (hdef : defaultsOf params env = ([], []) := by rfl) : Ev G A env σ (.Lambda params body scope pos) K := fun s q => by
  have hown := q.own _ (List.mem_of_getElem? hi)
  have hP : s.heap.get? P = some (tabObj ps) := hown.1
  have hP0 := hown.2.2
  have base : ∀ b o, G.h₀.get? b = some o → s.heap.get? b = some o := fun b o e => q.base b o e (by rw [hT]; simp)
  have hPg : mainGlobals ≠ P := fun e => by
    obtain ⟨ob, _, _, e', _⟩ := Γ.g
    rw [e, hP0] at e'; cases e'
  have hb : s.heap.BuiltinsAt mg P := by
    obtain ⟨bm, o, b1, b2, b3, b4, b5, b6⟩ := hB P (by simpa using hPg.symm) hP0
    exact ⟨bm, o, b1, b2, b3, b4, base _ _ b5, b6⟩
  refine kla_eval hdef (kla_makeFunction hcl hge (q.nsG Γ) hcode (hC.keeps base) hP ht hnf hPg hb fun c' ctv h' tk hx hge' hlt hrec htb => ?_)
  obtain ⟨c2, oc, us, t, e2, hoc, hd, hv⟩ := hrec
  cases e2
  have hc' : s.heap.get? c' = none := size_none hge'
  have q1 := q.updX (t := s.toks) (o' := .raw (tabObj (ps ++ #[rawInt pos.line, rawInt pos.col, .ref c']))) hi hx htb
  have y1 : Step G env.locals σ s _ { s with heap := h', toks := s.toks } := Step.updX (o' := .raw (tabObj (ps ++ #[rawInt pos.line, rawInt pos.col, .ref c']))) hi hx ⟨_, htb⟩
  have q2 := q1.adopt (a := c') (o := .raw oc) hoc (by rw [set_fst hi]; exact q.not_own hc') (q.not_kn hc') (q.ne_L hc') (q.not_h₀ hc')
  have y2 := y1.adopt (a := c') (o := .raw oc) hc'
  have q3 := q2.add (t := tk) (o := lamO (env.qual ++ "<lambda>") params body scope clos ((mg "__name__").getD .none) c' ctv) (fun b o e => Heap.get?_push_of_some _ e) (fresh_size h') (Heap.get?_push_size _ rfl)
  exact ⟨_, q3, y2.trans (.add (t := tk) (fun b o e => Heap.get?_push_of_some _ e) (fresh_size h')), h _ _ _ _ ⟨us, t, hd, hv⟩⟩
theorem ev_lambda_hit {params : Arguments} {body : Expr} {scope : Scope} {pos : Pos} {c P c' : Addr} {ps : Array Value} {clos : List (Str × Addr)} (Γ : Gnd G mg mb) (hB : ∀ P, P ∉ [mainGlobals] → G.h₀.get? P = none → G.h₀.BuiltinsAt mg P) (hT : G.Tb = []) (hC : CodeHd G.h₀ c P) (h0 : G.h₀.get? P = none)
    (hi : σ.has P (.raw (tabObj ps))) (ht : TriplesOk ps.toList) (hf : codeAmong pos ps.toList = some (.ref c'))
    (h : ∀ f ctv, K (.ref f) (σ.put f (lamO (env.qual ++ "<lambda>") params body scope clos ((mg "__name__").getD .none) c' ctv)))
    (hcode : env.code = .ref c := by rfl) (hcl : closureFor scope env = pure clos := by with_unfolding_all rfl) (hge : env.globals = mainGlobals := by rfl) (hdef : defaultsOf params env = ([], []) := by rfl) : Ev G A env σ (.Lambda params body scope pos) K := fun s q => by
  have hP : s.heap.get? P = some (tabObj ps) := q.held hi
  have base : ∀ b o, G.h₀.get? b = some o → s.heap.get? b = some o := fun b o e => q.base b o e (by rw [hT]; simp)
  have hPg : mainGlobals ≠ P := fun e => by
    obtain ⟨ob, _, _, e', _⟩ := Γ.g
    rw [e, h0] at e'; cases e'
  have hb : s.heap.BuiltinsAt mg P := by
    obtain ⟨bm, o, b1, b2, b3, b4, b5, b6⟩ := hB P (by simpa using hPg.symm) h0
    exact ⟨bm, o, b1, b2, b3, b4, base _ _ b5, b6⟩
  refine kla_eval hdef (kla_makeFunctionHit hcl hge (q.nsG Γ) hcode (hC.keeps base) hP ht hf hb fun ctv h' tk hk hsz => ?_)
  have q1 := q.keeps (t := s.toks) (g := s.gens) hk
  have q3 := q1.add (t := tk) (o := lamO (env.qual ++ "<lambda>") params body scope clos ((mg "__name__").getD .none) c' ctv) (fun b o e => Heap.get?_push_of_some _ e) (fresh_size h') (Heap.get?_push_size _ rfl)
  exact ⟨_, q3, (Step.keeps (t := s.toks) hk).trans (.add (t := tk) (fun b o e => Heap.get?_push_of_some _ e) (fresh_size h')), h _ _⟩
/-- a lambda called -/
theorem call_lambda {f c' : Addr} {oc : Obj} {qual : Str} {params : Arguments} {body : Expr} {scope : Scope} {clos : List (Str × Addr)} {pm ctv : Value} {as : List Value} (names : List Str) (ms : List (Str × Value)) (Γ : Gnd G mg mb) (hf : σ.has f (lamO qual params body scope clos pm c' ctv)) (hc : σ.has c' (.raw oc)) (hok : okC oc qual)
    (hroom : A.depth < recursionLimit) (hn : names.length = as.length) (hb : ∀ vs : List Value, vs.length = names.length → bindArgs (kla_fn "<lambda>" qual params body scope clos pm (.ref c') ctv) ⟨vs, []⟩ = pure (names.zip vs)) (hloc : ∀ x ∈ names, scope.names.lookup x = some .local)
    (hms : (names.zip as).reverse = ms) (h : ∀ L', let env := callEnv (kla_fn "<lambda>" qual params body scope clos pm (.ref c') ctv) L' f; Ev G (A.deeper env) env (σ.enter ms []) body fun v σ' => K v (σ.leave σ'))
    (hcell : ∀ x ∈ scope.names, x.2 ≠ .cell) (hco : scope.isCoroutine = false) (hgen : scope.isGenerator = false) (hk : scope.kind = .function) : Call G A L σ (.ref f) as K := fun vs hvs s q => by
  subst hms
  have ho' : s.heap.get? f = some (kla_obj "<lambda>" qual params body scope clos pm c' ctv) := q.held hf
  have hcd' : s.heap.CodeRec (.ref c') qual := by
    obtain ⟨us, t, e1, e2⟩ := hok
    exact ⟨c', oc, us, t, rfl, q.held hc, e1, e2⟩
  refine wpAny_call (kla_callFunE hroom ho' rfl hco hgen rfl hcd' ?_)
  have hlen : vs.length = names.length := by rw [hn, ← hvs, List.length_map]
  rw [hb vs hlen]
  refine wpAny_pure (wpAny_newFunctionEnv hcell (fun x hx => hloc _ (List.of_mem_zip hx).1) (fun h₁ hns₁ hsb₁ => ⟨(q.noLimit Γ).fresh _ hsb₁, kla_codeExpr ?_⟩) hk)
  have hLn := fresh_size s.heap
  have up : ∀ b o, s.heap.get? b = some o → h₁.get? b = some o := fun b o e => hsb₁.extBut b o (Nat.ne_of_lt (Heap.lt_size e)) (Heap.get?_push_of_some _ e)
  have xin := q.into (L' := s.heap.objs.size) (ms := (names.zip as).reverse) (t := s.toks + (names.zip vs).length) up hLn hns₁ (fun x d e => by
    rw [← hvs, ← nb_zip, ← nb_reverse] at e
    exact lookup_nb e)
  refine wpAny_mono (h s.heap.objs.size _ xin) (fun v s' hz => ?_) fun _ _ e => e.elim
  obtain ⟨σ', x', y', k'⟩ := hz
  have y2 : Step G s.heap.objs.size ⟨(names.zip as).reverse, [], σ.own ++ σ.kn⟩ s ⟨(names.zip as).reverse, [], σ.own ++ σ.kn⟩ { s with heap := h₁, toks := s.toks + (names.zip vs).length } := Step.keeps up
  obtain ⟨xb, yb⟩ := q.back x' (y2.trans y') hLn
  exact ⟨_, xb, yb, k'⟩
end
section
variable {G : Gd} {A : Around} {L : Addr} {σ : St} {s : Shared} {K : Value → St → Prop} {mg mb : Str → Option Value}
theorem Step.less {σ₁ τ : St} {bs : List Bool} {s₁ : Shared} (y' : Step G L σ s σ₁ s₁) (h : Le bs τ σ₁) : Step G L σ s τ s₁ :=
  ⟨y'.same, y'.bare, y'.keep, y'.live, fun a ha => y'.new a (h.own_sub a ha), fun a ha => by
    rcases h.kn_sub a ha with q | q
    · rcases y'.new a q with q | q
      · exact .inl q
      · exact .inr (.inr (.inl q))
    · exact y'.newK a q⟩
theorem sort_tail {a kS : Addr} {vs : List Value} {kz : List Int} {keys : Array Value} {e e1 : Nat} {m : List (Str × Value)} {o k : List (Addr × O)} {P : PySem.Fin → Shared → Prop} {E : Value → Shared → Prop} {ks : List Value} {st : SortSt}
    (q : Sat G L ⟨m, (kS, .list ks) :: (a, .list []) :: o, k⟩ s) (h1 : s.heap.get? kS = some (seqObj "list" keys e)) (h2 : s.heap.get? a = some (seqObj "list" #[] e1)) (hk : IntsAre keys.toList kz) (hlen : kz.length = vs.length) (h64 : vs.length < 64)
    (hp : (arrOf st).Perm (keys.zip vs.toArray)) (hs : SortedTo (arrOf st) (arrOf st).size) (hfl : failedOf st = none)
    (h : ∀ h' tk out, Sat G L ⟨m, (a, .list (out.map nv)) :: o, k⟩ { s with heap := h', toks := tk } → Step G L ⟨m, (kS, .list ks) :: (a, .list []) :: o, k⟩ s ⟨m, (a, .list (out.map nv)) :: o, k⟩ { s with heap := h', toks := tk } → KskOut false kz vs out → P (.done (.ret .none)) { s with heap := h', toks := tk }) :
    wpAny (model G.prog G.w) A (ksk_tail a false e1 (.ref kS) st) P E s := by
  have nd := q.nd
  simp only [List.map_cons, List.nodup_cons, List.mem_cons, not_or] at nd
  have hka : kS ≠ a := nd.1.1
  have hsz : keys.size = vs.length := by
    have h1 := hk.length
    rw [Array.length_toList] at h1
    omega
  have hsz2 : ((arrOf st).map (·.2)).size = vs.length := by rw [Array.size_map, hp.size_eq, Array.size_zip, hsz, List.size_toArray, Nat.min_self]
  have s1 := Heap.SameBut.update s.heap kS (Obj.mapSeq fun _ => (#[] : Array Value))
  have na1 : (s.heap.update kS (Obj.mapSeq fun _ => (#[] : Array Value))).get? a = some (seqObj "list" #[] e1) := (s1.2 a hka.symm).trans h2
  have s2 := Heap.SameBut.update (s.heap.update kS (Obj.mapSeq fun _ => (#[] : Array Value))) a (Obj.mapSeq fun _ => (arrOf st).map (·.2))
  have hc1 := get?_update_seq h1 (fun _ => (#[] : Array Value))
  have hc2 := get?_update_seq na1 (fun _ => (arrOf st).map (·.2))
  have H1 : Holds (G.prog, G.w) (s.heap.update kS (Obj.mapSeq fun _ => (#[] : Array Value))) kS (.list []) := ⟨[], ⟨_, hc1⟩, rfl⟩
  have q1 := q.upd (t := s.toks) (i := 0) (o' := .list []) rfl s1 H1
  have y1 : Step G L ⟨m, (kS, .list ks) :: (a, .list []) :: o, k⟩ s _ { s with heap := s.heap.update kS (Obj.mapSeq fun _ => (#[] : Array Value)), toks := s.toks } := .upd (i := 0) (o' := .list []) rfl s1 H1.live
  have H2 : Holds (G.prog, G.w) ((s.heap.update kS (Obj.mapSeq fun _ => (#[] : Array Value))).update a (Obj.mapSeq fun _ => (arrOf st).map (·.2))) a (.list (((arrOf st).map (·.2)).toList.map nv)) := ⟨((arrOf st).map (·.2)).toList, ⟨_, by rw [Array.toArray_toList]; exact hc2⟩, rfl⟩
  have q2 := q1.upd (t := s.toks) (i := 1) (o' := .list (((arrOf st).map (·.2)).toList.map nv)) rfl s2 H2
  have y2 := y1.trans (.upd (t := s.toks) (i := 1) (o' := .list (((arrOf st).map (·.2)).toList.map nv)) rfl s2 H2.live)
  have le : Le [false] ⟨m, (a, .list (((arrOf st).map (·.2)).toList.map nv)) :: o, k⟩ ⟨m, (kS, .list []) :: (a, .list (((arrOf st).map (·.2)).toList.map nv)) :: o, k⟩ := ⟨fun _ _ h => h, by simp [pkT], fun p hp => .inr hp⟩
  unfold ksk_tail
  try dsimp only
  refine wpAny_bind (listUpdate_at h1 rfl ?_ (by rw [hsz, two24]; omega) (Nat.zero_le _))
  refine wpAny_bind (wpAny_letGo ?_)
  refine wpAny_bind (seqEpoch_at na1 rfl ?_)
  simp only [Bool.false_eq_true, if_false]
  refine wpAny_bind (listUpdate_at na1 rfl ?_ (Nat.zero_le _) (Nat.le_trans (Nat.le_of_eq hsz2) (by rw [two24]; omega)))
  rw [hfl]
  simp only [bne_self_eq_false, Bool.false_eq_true, if_false]
  have ko := ksk_out (b := false) hk hp hs
  simp only [Bool.false_eq_true, if_false] at ko
  exact wpAny_pure (h _ _ _ (q2.le le) (y2.less le) ko)
theorem sort_end {a kS : Addr} {vs : List Value} {kz : List Int} {keys : Array Value} {e e1 : Nat} {m : List (Str × Value)} {o k : List (Addr × O)} {P : PySem.Fin → Shared → Prop} {E : Value → Shared → Prop} {ks : List Value}
    (q : Sat G L ⟨m, (kS, .list ks) :: (a, .list []) :: o, k⟩ s) (h1 : s.heap.get? kS = some (seqObj "list" keys e)) (h2 : s.heap.get? a = some (seqObj "list" #[] e1)) (hk : IntsAre keys.toList kz) (hlen : kz.length = vs.length) (h64 : vs.length < 64)
    (h : ∀ h' tk out, Sat G L ⟨m, (a, .list (out.map nv)) :: o, k⟩ { s with heap := h', toks := tk } → Step G L ⟨m, (kS, .list ks) :: (a, .list []) :: o, k⟩ s ⟨m, (a, .list (out.map nv)) :: o, k⟩ { s with heap := h', toks := tk } → KskOut false kz vs out → P (.done (.ret .none)) { s with heap := h', toks := tk }) :
    wpAny (model G.prog G.w) A (ksk_end a false vs.toArray e1 (.ref kS) keys) P E s := by
  have hsz : keys.size = vs.length := by
    have h1 := hk.length
    rw [Array.length_toList] at h1
    omega
  have hzs : (keys.zip vs.toArray).size = vs.length := by rw [Array.size_zip, hsz, List.size_toArray, Nat.min_self]
  unfold ksk_end
  try dsimp only
  simp only [Bool.false_eq_true, if_false]
  by_cases hn : vs.toArray.size < 2
  · rw [if_pos hn, if_pos hn]
    refine wpAny_bind (wpAny_pure ?_)
    rw [StateT.run_pure]
    refine wpAny_bind (wpAny_pure ?_)
    try dsimp only
    refine sort_tail (st := SortSt.mk' general' (keys.zip vs.toArray) #[] 7 none) q h1 h2 hk hlen h64 (Array.Perm.refl _) ?_ rfl h
    intro i j hij hj
    have hj2 : j < (keys.zip vs.toArray).size := hj
    rw [hzs] at hj2
    rw [List.size_toArray] at hn
    have : i = j := by omega
    subst this
    exact Int.le_refl _
  · rw [if_neg hn, if_neg hn]
    rw [List.size_toArray] at hn
    rw [ksk_kind hk (by rw [hsz]; omega)]
    refine wpAny_bind (wpAny_pure ?_)
    refine wpAny_bind (wpAny_mono (wpS_sortRuns (a₀ := keys.zip vs.toArray) (st := SortSt.mk' oneType' (keys.zip vs.toArray) #[] 7 none)
      (Q := fun _ st' => (arrOf st').Perm (keys.zip vs.toArray) ∧ failedOf st' = none ∧ SortedTo (arrOf st') (keys.zip vs.toArray).size)
      (ksk_intKeys hk) ⟨Array.Perm.refl _, rfl, rfl, rfl⟩ (by rw [hzs]; omega) (by rw [hzs]; exact h64) fun st' a1 a2 a3 => ⟨a1, a2, a3⟩) ?_ fun _ _ e => e)
    rintro ⟨⟨⟩, st'⟩ s' ⟨rfl, hp, hf, hs⟩
    try dsimp only
    exact sort_tail q h1 h2 hk hlen h64 hp (by rw [hp.size_eq]; exact hs) hf h
end
section
variable {G : Gd} {A : Around} {L : Addr} {σ : St} {s : Shared} {K : Value → St → Prop} {mg mb : Str → Option Value}
/-- a call that turns nothing that is told of -/
theorem pure_call {f : Value} {as vs : List Value} {R : Value → Prop} (q : Sat G L σ s) (hvs : vs.map nv = as) (h : Call G A L σ.froze f as fun r σ' => R r ∧ ∃ bs, Le bs ⟨σ.m, [], []⟩ σ') :
    wpAny (model G.prog G.w) A (call f vs) (fun v s' => R (nv v) ∧ Sat G L σ s' ∧ Step G L σ s σ s' ∧ ∀ b o, b ≠ L → b ∉ G.Tb → s.heap.get? b = some o → s'.heap.get? b = some o) (fun _ _ => False) s :=
  wpAny_mono (h vs hvs s q.froze) (fun v s' ⟨σ', x', y', hR, bs, hl⟩ => by
    have keep : ∀ b o, b ≠ L → b ∉ G.Tb → s.heap.get? b = some o → s'.heap.get? b = some o := fun b o hL hT e => y'.keep b o e hL (by simp [St.froze]) hT
    refine ⟨hR, ⟨x'.base, x'.tabs, (x'.le hl).loc, x'.locNew, fun p hp => ?_, fun p hp => ?_, q.nd⟩, ⟨y'.same, y'.bare, fun b o e hL _ hT => keep b o hL hT e, y'.live, fun a ha => .inl ha, fun a ha => .inr (.inl ha)⟩, keep⟩
    · exact ⟨(q.own p hp).1.at fun o e => keep _ _ (q.own p hp).2.1 (q.not_Tb (q.own p hp).2.2) e, (q.own p hp).2⟩
    · exact ⟨(q.kn p hp).1.at fun o e => keep _ _ (q.kn p hp).2.1 (q.kn p hp).2.2.1 e, (q.kn p hp).2⟩) fun _ _ e => e
theorem sort_rest {a kS : Addr} {f : Value} {vs : List Value} {kz : List Int} {e0 e1 : Nat} {m : List (Str × Value)} {o k : List (Addr × O)} {P : PySem.Fin → Shared → Prop} {E : Value → Shared → Prop}
    (q : Sat G L ⟨m, (kS, .list []) :: (a, .list []) :: o, k⟩ s) (h1 : s.heap.get? kS = some (seqObj "list" #[] e0)) (h2 : s.heap.get? a = some (seqObj "list" #[] e1)) (hlen : kz.length = vs.length) (h64 : vs.length < 64)
    (hcall : ∀ (j : Nat) v z ks, vs[j]? = some v → kz[j]? = some z → Call G A L ⟨m, [], (kS, .list ks) :: (a, .list []) :: (o ++ k)⟩ f [nv v] fun r σ' => r = I z ∧ ∃ bs, Le bs ⟨m, [], []⟩ σ')
    (h : ∀ h' tk out g, Sat G L ⟨m, (a, .list (out.map nv)) :: o, k⟩ { s with heap := h', toks := tk, gens := g } → Step G L ⟨m, (kS, .list []) :: (a, .list []) :: o, k⟩ s ⟨m, (a, .list (out.map nv)) :: o, k⟩ { s with heap := h', toks := tk, gens := g } → KskOut false kz vs out → P (.done (.ret .none)) { s with heap := h', toks := tk, gens := g }) :
    wpAny (model G.prog G.w) A (ksk_rest a f false vs.toArray e1 (.ref kS)) P E s := by
  have nd := q.nd
  simp only [List.map_cons, List.nodup_cons, List.mem_cons, not_or] at nd
  have hka : kS ≠ a := nd.1.1
  have hkL : kS ≠ L := (q.own _ (.head _)).2.1
  have haL : a ≠ L := (q.own _ (.tail _ (.head _))).2.1
  have hkT : kS ∉ G.Tb := q.not_Tb (q.own _ (.head _)).2.2
  have haT : a ∉ G.Tb := q.not_Tb (q.own _ (.tail _ (.head _))).2.2
  unfold ksk_rest
  refine wpAny_bind (wpAny_rule ?_)
  first
    | rw [List.forIn_toArray]
    | (rw [← Array.forIn_toList]; simp only [List.toList_toArray])
    | rw [← Array.forIn_toList]
  refine wpAny_bind (ksk_fold (fun i s' => ∃ kA e, Sat G L ⟨m, (kS, .list ((kz.take i).map I)) :: (a, .list []) :: o, k⟩ s' ∧ Step G L ⟨m, (kS, .list []) :: (a, .list []) :: o, k⟩ s ⟨m, (kS, .list ((kz.take i).map I)) :: (a, .list []) :: o, k⟩ s' ∧
    s'.heap.get? kS = some (seqObj "list" kA e) ∧ s'.heap.get? a = some (seqObj "list" #[] e1) ∧ IntsAre kA.toList (kz.take i)) vs 0 s
    ⟨#[], e0, by simpa using q, by simpa using (Step.rfl' : Step G L _ s _ s), h1, h2, by simpa using IntsAre.nil⟩ ?step ?done)
  case step =>
    rintro j x s' hx ⟨kA, e, q', y', k1, k2, hk⟩
    simp only [Nat.zero_add] at hk q' y' ⊢
    have hj : j < vs.length := (List.getElem?_eq_some_iff.mp hx).1
    obtain ⟨z, hkj⟩ : ∃ z, kz[j]? = some z := ⟨_, List.getElem?_eq_getElem (by omega)⟩
    have hz : kA.size ≤ vs.length := by
      have h1 := hk.length
      rw [Array.length_toList, List.length_take] at h1
      omega
    refine wpAny_bind (wpAny_attempt (wpAny_mono (pure_call (vs := [x]) q' rfl (hcall j x z _ hx hkj)) (fun v s'' hw => ?_) fun _ _ hF => hF.elim))
    obtain ⟨hv, q2, y2, kp⟩ := hw
    obtain ⟨t2, rfl⟩ := nv_int hv
    try dsimp only
    have n1 := kp _ _ hkL hkT k1
    have n2 := kp _ _ haL haT k2
    have s1 := Heap.SameBut.update s''.heap kS (Obj.mapSeq (·.push (.int z t2)))
    obtain ⟨c2, hc2⟩ : ∃ c2, (s''.heap.update kS (Obj.mapSeq (·.push (.int z t2)))).get? kS = some (seqObj "list" (kA.push (.int z t2)) c2) := ⟨_, get?_update_seq n1 (·.push (.int z t2))⟩
    have ek : kz.take (j + 1) = kz.take j ++ [z] := by rw [List.take_add_one, hkj]; simp
    have ea : (kA.push (Value.int z t2)).toList = kA.toList ++ [Value.int z t2] := by simp
    have hI : IntsAre (kA.push (Value.int z t2)).toList (kz.take (j + 1)) := by rw [ea, ek]; exact ksk_snoc hk
    have nvI : ∀ {us : List Value} {ns : List Int}, IntsAre us ns → us.map nv = ns.map I := by
      intro us ns hh
      induction hh with
      | nil => rfl
      | cons n t _ ih => rw [List.map_cons, List.map_cons, ih]; rfl
    have hH : Holds (G.prog, G.w) (s''.heap.update kS (Obj.mapSeq (·.push (.int z t2)))) kS (.list ((kz.take (j + 1)).map I)) := ⟨_, ⟨c2, by rw [Array.toArray_toList]; exact hc2⟩, nvI hI⟩
    refine wpAny_bind (listUpdate_at n1 rfl ?_ (by rw [two24]; omega) (Nat.le_trans (Nat.le_of_eq (Array.size_push ..)) (by rw [two24]; omega)))
    exact wpAny_pure ⟨rfl, kA.push (.int z t2), c2, q2.upd (t := s''.toks) (i := 0) (o' := .list ((kz.take (j + 1)).map I)) rfl s1 hH, (y'.trans y2).trans (.upd (t := s''.toks) (i := 0) (o' := .list ((kz.take (j + 1)).map I)) rfl s1 hH.live), hc2, (s1.2 a hka.symm).trans n2, hI⟩
  case done =>
    rintro s' ⟨kA, e, q', y', k1, k2, hk⟩
    have hk' : IntsAre kA.toList kz := by
      have e3 : kz.take (0 + vs.length) = kz := List.take_of_length_le (by omega)
      rw [e3] at hk
      exact hk
    try dsimp only
    refine wpAny_bind (listItems_at k1 rfl ?_)
    refine sort_end q' k1 k2 hk' hlen h64 fun h3 tk3 out q3 y3 k3 => ?_
    obtain ⟨hh, gg, tt, rfl⟩ := y'.same
    exact h h3 tk3 out gg q3 (y'.trans y3) k3
end
section
variable {G : Gd} {A : Around} {L : Addr} {env : Env} {σ : St} {s : Shared} {K : Value → St → Prop} {mg mb : Str → Option Value}
noncomputable def CallK (G : Gd) (A : Around) (L : Addr) (σ : St) (f : Value) (as : List Value) (name : Str) (d : Value) (K : Value → St → Prop) : Prop := ∀ vs kv, vs.map nv = as → nv kv = d → T G A L σ (call f vs [(name, kv)]) fun v => K (nv v)
theorem ev_callbi_kw {x name : Str} {q p kp : Pos} {e : Expr} {es : List Expr} {kx : Expr} {id : String} (Γ : Gnd G mg mb) (hn : mg x = none) (hv : mb x = some (.builtin id))
    (h : Evs G A env p σ (e :: es) fun as σ₁ => Ev G A env σ₁ kx fun d σ₂ => CallK G A env.locals σ₂ (.builtin id) as name d K)
    (he : backTo p (starEach (e :: es) env) = (false, eval e env) :: backTo p (starEach es env) := by rfl)
    (hplain : (backTo p (starEach (e :: es) env)).any (·.1) = false := by rfl)
    (hg : env.globals = mainGlobals := by rfl) (hb : env.builtins = builtinsNs := by rfl) (hk : env.scope.kind = .function := by rfl) (hx : env.kindOf x = some .globalImplicit := by rfl) (hdb : (x == ("__debug__" : Str)) = false := by decide) : Ev G A env σ (.Call (.Name x q) (e :: es) [⟨some name, kx, kp⟩] p) K := fun s z => by
  refine wpAny_Call_Name_kw ((ev_name (K := fun v σ' => v = .builtin id ∧ σ' = σ) (lod_built Γ hn hv ⟨rfl, rfl⟩ hg hb hk hx) hdb : Ev G A env σ (.Name x q) _) s z |> fun w => wpAny_mono w (fun v s₁ ⟨σ₁, x₁, y₁, e1, e2⟩ => ?_) fun _ _ e => e)
  have := nv_builtin e1
  subst this e2
  refine callWith_kw (wpAny_mono (h s₁ x₁) (fun vs s₂ ⟨σ₂, x₂, y₂, k₂⟩ => kws_cons (wpAny_mono (k₂ s₂ x₂) (fun kv s₃ ⟨σ₃, x₃, y₃, k₃⟩ => kws_nil ?_) fun _ _ e => e)) fun _ _ e => e) he hplain rfl rfl
  exact T.at (k₃ vs kv rfl rfl) x₃ ((y₁.trans y₂).trans y₃)
theorem sort_tree {a : Addr} {f : Value} {vs : List Value} {kz : List Int} {n : Nat} {m : List (Str × Value)} {o k : List (Addr × O)} {P : PySem.Fin → Shared → Prop} {E : Value → Shared → Prop} {ds : List Value}
    (q : Sat G L ⟨m, (a, .list ds) :: o, k⟩ s) (h2 : s.heap.get? a = some (seqObj "list" vs.toArray n)) (hlen : kz.length = vs.length) (h64 : vs.length < 64)
    (hcall : ∀ (kS : Addr) (j : Nat) v z ks, vs[j]? = some v → kz[j]? = some z → Call G A L ⟨m, [], (kS, .list ks) :: (a, .list []) :: (o ++ k)⟩ f [nv v] fun r σ' => r = I z ∧ ∃ bs, Le bs ⟨m, [], []⟩ σ')
    (h : ∀ s' out, Sat G L ⟨m, (a, .list (out.map nv)) :: o, k⟩ s' → Step G L ⟨m, (a, .list ds) :: o, k⟩ s ⟨m, (a, .list (out.map nv)) :: o, k⟩ s' → KskOut false kz vs out → P (.done (.ret .none)) s') :
    wpAny (model G.prog G.w) A (ksk_tree a f false) P E s := by
  have s1 := Heap.SameBut.update s.heap a (Obj.mapSeq fun _ => (#[] : Array Value))
  obtain ⟨e1, ho1⟩ : ∃ e1, (s.heap.update a (Obj.mapSeq fun _ => (#[] : Array Value))).get? a = some (seqObj "list" #[] e1) := ⟨_, get?_update_seq h2 fun _ => #[]⟩
  have H1 : Holds (G.prog, G.w) (s.heap.update a (Obj.mapSeq fun _ => (#[] : Array Value))) a (.list []) := ⟨[], ⟨e1, ho1⟩, rfl⟩
  have q1 := q.upd (t := s.toks) (i := 0) (o' := .list []) rfl s1 H1
  have y1 : Step G L ⟨m, (a, .list ds) :: o, k⟩ s ⟨m, (a, .list []) :: o, k⟩ { s with heap := s.heap.update a (Obj.mapSeq fun _ => (#[] : Array Value)), toks := s.toks } := .upd (i := 0) (o' := .list []) rfl s1 H1.live
  unfold ksk_tree
  refine wpAny_bind (listItems_at h2 rfl ?_)
  refine wpAny_bind (listUpdate_at h2 rfl ?_ (by rw [List.size_toArray, two24]; omega) (Nat.zero_le _))
  refine wpAny_bind (seqEpoch_at ho1 rfl ?_)
  refine wpAny_bind (wpAny_newTuple ?_ (by show vs.length ≤ _; rw [two24]; omega))
  refine wpAny_bind (wpAny_newList ?_ (Nat.zero_le _))
  refine wpAny_holding ?_
  have up : ∀ b ob, (s.heap.update a (Obj.mapSeq fun _ => (#[] : Array Value))).get? b = some ob → (((s.heap.update a (Obj.mapSeq fun _ => (#[] : Array Value))).push { cls := .type "tuple", data := .seq vs.toArray.toList.toArray }).push { cls := .type "list", data := .seq ([] : List Value).toArray }).get? b = some ob := fun b ob e => Heap.get?_push_of_some _ (Heap.get?_push_of_some _ e)
  have hn : (s.heap.update a (Obj.mapSeq fun _ => (#[] : Array Value))).get? ((s.heap.update a (Obj.mapSeq fun _ => (#[] : Array Value))).push { cls := .type "tuple", data := .seq vs.toArray.toList.toArray }).objs.size = none := size_none (by rw [Heap.size_push]; omega)
  have hg := Heap.get?_push_size ((s.heap.update a (Obj.mapSeq fun _ => (#[] : Array Value))).push { cls := .type "tuple", data := .seq vs.toArray.toList.toArray }) (o := { cls := .type "list", data := .seq ([] : List Value).toArray }) rfl
  have q2 := q1.add (t := s.toks) (o := .list []) up hn ⟨[], ⟨0, hg⟩, rfl⟩
  have y2 := y1.trans (.add (t := s.toks) (o := .list []) up hn)
  refine sort_rest (kz := kz) (e0 := 0) q2 hg (up _ _ ho1) hlen h64 (fun j v z ks => hcall _ j v z ks) fun h' tk out g q3 y3 ko => ?_
  have y4 := y2.trans y3
  exact h _ out q3 ⟨y4.same, y4.bare, y4.keep, y4.live, fun b hb => by
    rcases y4.new b hb with h | h
    · exact .inl h
    · exact .inr h, y4.newK⟩ ko
theorem call_sorted {d fa : Addr} {es : List (Str × Value)} {key : Str → Int} (hA : A.handled = none) (hd : σ.has d (.dict es)) (h64 : es.length < 64)
    (hcall : ∀ (kS a : Addr) x ks, x ∈ es.map (·.1) → Call G A.in1.in1 L ⟨σ.m, [], (kS, .list ks) :: (a, .list []) :: (σ.own ++ σ.kn)⟩ (.ref fa) [.str x 0] fun r σ' => r = I (key x) ∧ ∃ bs, Le bs ⟨σ.m, [], []⟩ σ')
    (h : ∀ D (ws : List Str), ws.Perm (es.map (·.1)) → ws.Pairwise (fun a b => key a ≤ key b) → K (.ref D) (σ.put D (.list (ws.map fun x => .str x 0)))) :
    CallK G A L σ (.builtin "sorted") [.ref d] (Str.ofString "key") (.ref fa) K := fun vs kv hvs hkv s q => by
  obtain ⟨v, rfl, hv⟩ := one_of hvs
  have := nv_ref hv; subst this
  have := nv_ref hkv; subst this
  obtain ⟨kvs, hk, e, lo⟩ := q.held hd
  obtain ⟨ep, hat⟩ := hk.dictAt
  have hlen : kvs.length = es.length := by rw [← e, List.length_map]
  refine call_function_entry_kw kind_sorted plain_sorted entry_sorted (ksk_s1 _ _) ?_
  unfold Builtin.«sorted»
  refine wpAny_bind (m := checkCount "sorted" 1 1 _) (wpAny_pure ?_)
  refine wpAny_bind (kdu_collect (A := A.in1) (kdl_dict (knd := PySem.strKind G.prog G.w) (kvs := kvs) (ep := ep) lo) hA hat (by rw [two24]; omega) fun h' tk acc hkp hacc => ?_)
  have hal : acc.toList.length = es.length := by rw [Array.length_toList, hacc.1, hlen]
  refine wpAny_bind (wpAny_newList ?_ (by rw [hal, two24]; omega))
  have hnv : acc.toList.map nv = es.map fun x => .str x.1 0 := by
    rw [← e]
    refine List.ext_getElem? fun j => ?_
    rw [List.getElem?_map, List.getElem?_map, List.getElem?_map, Array.getElem?_toList]
    by_cases hj : j < kvs.length
    · have hj' : j < acc.size := by rw [hacc.1]; exact hj
      obtain ⟨k, x, hx, hk2⟩ := hacc.2 j acc[j] (Array.getElem?_eq_getElem hj')
      obtain ⟨t, ht⟩ := Value.isStrOf_shape hk2
      rw [Array.getElem?_eq_getElem hj', hx, ht]
      rfl
    · rw [Array.getElem?_eq_none (by rw [hacc.1]; omega), List.getElem?_eq_none (by omega)]
      rfl
  have q1 := q.keeps (t := tk) (g := s.gens) hkp
  have hf := fresh_size h'
  have hg := Heap.get?_push_size h' (o := { cls := .type "list", data := .seq acc.toList.toArray }) rfl
  obtain ⟨m, o, k⟩ := σ
  have q2 := q1.add (t := tk) (o := .list (es.map fun x => .str x.1 0)) (fun b ob e => Heap.get?_push_of_some _ e) hf ⟨acc.toList, ⟨0, hg⟩, hnv⟩
  have y1 : Step G L ⟨m, o, k⟩ s ⟨m, o, k⟩ { s with heap := h', toks := tk } := Step.keeps (t := tk) hkp
  have y2 : Step G L ⟨m, o, k⟩ s ⟨m, (h'.objs.size, .list (es.map fun x => .str x.1 0)) :: o, k⟩ { s with heap := h'.push { cls := .type "list", data := .seq acc.toList.toArray }, toks := tk } := y1.trans (.add (t := tk) (fun b ob e => Heap.get?_push_of_some _ e) hf)
  refine wpAny_bind (wpAny_holding (wpAny_call_entry_kw slot_list_sort ⟨_, hg, rfl⟩ entry_list_sort ?body (ksk_l1 _ _)))
  show wpAny (model G.prog G.w) A.in1.in1 (Builtin.«list.sort» ⟨[.ref h'.objs.size], [(Str.ofString "key", .ref fa)]⟩) _ _ _
  rw [ksk_t1]
  refine sort_tree (kz := es.map fun x => key x.1) q2 hg (by rw [List.length_map, hal]) (by rw [hal]; exact h64) (fun kS j v z ks hj hz => ?_) fun s' out q3 y3 ko => ?_
  · have h1 : (acc.toList.map nv)[j]? = some (nv v) := by rw [List.getElem?_map, hj]; rfl
    rw [hnv, List.getElem?_map] at h1
    rw [List.getElem?_map] at hz
    cases hx : es[j]? with
    | none => rw [hx] at h1; cases h1
    | some x =>
      rw [hx] at h1 hz
      simp only [Option.map_some, Option.some.injEq] at h1 hz
      rw [← h1, ← hz]
      exact hcall kS h'.objs.size x.1 ks (List.mem_map.mpr ⟨x, List.mem_of_getElem? hx, rfl⟩)
  · obtain ⟨ps, hp, ho, hs⟩ := ko
    refine ⟨_, rfl, wpAny_pure ⟨_, rfl, ?_⟩⟩
    -- the words
    have hz : (es.map fun x => key x.1).zip (acc.toList.map nv) = es.map fun x => (key x.1, Value.str x.1 0) := by
      rw [hnv, List.zip_map']
    have hp2 : (ps.map fun p => (p.1, nv p.2)).Perm (es.map fun x => (key x.1, Value.str x.1 0)) := by
      have := hp.map fun p => (p.1, nv p.2)
      rw [← hz]
      rw [show ((es.map fun x => key x.1).zip acc.toList).map (fun p => (p.1, nv p.2)) = (es.map fun x => key x.1).zip (acc.toList.map nv) by rw [List.zip_map_right]; rfl] at this
      exact this
    have hall : ∀ p ∈ ps, ∃ x ∈ es, (p.1, nv p.2) = (key x.1, Value.str x.1 0) := fun p hpm => by
      have := hp2.mem_iff.mp (List.mem_map.mpr ⟨p, hpm, rfl⟩)
      obtain ⟨x, hx, e⟩ := List.mem_map.mp this
      exact ⟨x, hx, e.symm⟩
    let wd : Int × Value → Str := fun p => match p.2 with | .str x _ => x | _ => Str.empty
    have hwd : ∀ p ∈ ps, p.1 = key (wd p) ∧ nv p.2 = .str (wd p) 0 := fun p hpm => by
      obtain ⟨x, hx, e⟩ := hall p hpm
      obtain ⟨p1, p2⟩ := p
      simp only [Prod.mk.injEq] at e
      obtain ⟨t, rfl⟩ := nv_str e.2
      exact ⟨e.1, rfl⟩
    have hout : out.map nv = (ps.map wd).map fun x => .str x 0 := by
      rw [ho, List.map_map, List.map_map]
      exact List.map_congr_left fun p hpm => (hwd p hpm).2
    have hpw : (ps.map wd).Perm (es.map (·.1)) := by
      have h1 : (ps.map wd).map (fun x => Value.str x 0) = (ps.map fun p => (p.1, nv p.2)).map (·.2) := by
        rw [List.map_map, List.map_map]
        exact List.map_congr_left fun p hpm => ((hwd p hpm).2).symm
      have h2 := hp2.map (·.2)
      rw [← h1, List.map_map] at h2
      have h3 := h2.map fun v : Value => match v with | .str x _ => x | _ => Str.empty
      rw [List.map_map, List.map_map] at h3
      simpa [Function.comp_def] using h3
    have hpp : (ps.map wd).Pairwise (fun a b => key a ≤ key b) := by
      rw [List.pairwise_map]
      refine hs.imp_of_mem fun {p q} hp' hq' hr => ?_
      have hr' : p.1 ≤ q.1 := hr
      rw [(hwd p hp').1, (hwd q hq').1] at hr'
      exact hr'
    rw [hout] at q3 y3
    exact ⟨_, q3, y2.trans y3, h _ _ hpw hpp⟩
end
section
variable {G : Gd} {A : Around} {L : Addr} {env : Env} {σ : St} {s : Shared} {m : List (Str × Value)} {o o' k : List (Addr × O)} {α : Type}
theorem Sat.perm (x : Sat G L ⟨m, o, k⟩ s) (hp : o.Perm o') : Sat G L ⟨m, o', k⟩ s :=
  ⟨x.base, x.tabs, x.loc, x.locNew, fun p h => x.own p (hp.mem_iff.mpr h), fun p h => ⟨(x.kn p h).1, (x.kn p h).2.1, (x.kn p h).2.2.1, fun hm => (x.kn p h).2.2.2 ((hp.map _).mem_iff.mpr hm)⟩, (hp.map _).nodup_iff.mp x.nd⟩
theorem T.perm {t : Sem α} {K : α → St → Prop} (hp : o.Perm o') (h : T G A L ⟨m, o', k⟩ t K) : T G A L ⟨m, o, k⟩ t K :=
  T.conv (fun s x => x.perm hp) (fun a ha => (hp.map _).mem_iff.mpr ha) (fun a ha => .inr (.inl ha)) h
theorem T.permR {t : Sem α} {K : α → St → Prop} (h : T G A L σ t fun v σ' => ∃ o', σ'.own.Perm o' ∧ K v ⟨σ'.m, o', σ'.kn⟩) : T G A L σ t K := fun s x =>
  wpAny_mono (h s x) (fun v s' ⟨⟨m', o1, k'⟩, x', y', o2, hp, k2⟩ => ⟨_, x'.perm hp, ⟨y'.same, y'.bare, y'.keep, y'.live, fun a ha => y'.new a ((hp.map _).mem_iff.mpr ha), y'.newK⟩, k2⟩) fun _ _ e => e
theorem call_perm {f : Value} {as : List Value} {K : Value → St → Prop} (hp : o.Perm o') (h : Call G A L ⟨m, o', k⟩ f as K) : Call G A L ⟨m, o, k⟩ f as K := fun vs hvs => T.perm hp (h vs hvs)
theorem call_permR {f : Value} {as : List Value} {K : Value → St → Prop} (h : Call G A L σ f as fun v σ' => ∃ o', σ'.own.Perm o' ∧ K v ⟨σ'.m, o', σ'.kn⟩) : Call G A L σ f as K := fun vs hvs => T.permR (h vs hvs)
theorem ex_perm {b : List Stmt} {K : Flow → St → Prop} (hp : o.Perm o') (h : Ex G A env ⟨m, o', k⟩ b K) : Ex G A env ⟨m, o, k⟩ b K := T.perm hp h
end
section
variable {G : Gd} {A : Around} {env : Env} {σ : St} {KF : Flow → St → Prop}
noncomputable def isStar : Expr → Bool
  | .Starred .. => true
  | _ => false
theorem swapped2 {x y : Str} {p1 p2 p' p3 : Pos} {k k2 : Nat} {v1 v2 : Expr} (hk : env.blockKind = .function) (hx : env.kindOf x = some .local) (hy : env.kindOf y = some .local) (hl : (p2.line == p1.line) = true) (hne : (x == y) = false)
    (hs1 : isStar v1 = false) (hs2 : isStar v2 = false)
    (hf : [v1, v2].all (foldedForSure 8) = false) (hc : [v1, v2].all (constantsAlone 8) = false) : swappedStores [.Tuple [.Name x p1, .Name y p2] k p'] (.Tuple [v1, v2] k2 p3) env = pure (some [x, y]) := by
  have hl1 : (p1.line == p1.line) = true := by simp
  have hed : [x, y].eraseDups = [x, y] := by
    have hne' : (y == x) = false := by
      have : x ≠ y := by simpa using hne
      simpa using fun e => this e.symm
    simp [List.eraseDups_cons, hne', List.eraseDups_nil]
  have hm : (some NameKind.local == some NameKind.local && true) = true := rfl
  have h1 : (!([Expr.Name x p1, Expr.Name y p2].length == 2 || [Expr.Name x p1, Expr.Name y p2].length == 3) || [v1, v2].length != [Expr.Name x p1, Expr.Name y p2].length || ScopeKind.function != ScopeKind.function) = false := rfl
  have h2 : ([x, y].length != [Expr.Name x p1, Expr.Name y p2].length || [x, y].length != [x, y].length) = false := by simp
  unfold swappedStores
  simp only [pure_bind, List.head?_cons, Option.map_some, Option.getD_some, List.filterMap_cons, List.filterMap_nil, Expr.pos, hx, hy, hl, hl1, hk, hm, if_true, hed, hf, hc, h2]
  rw [if_neg (by rw [h1]; decide), if_neg (by simp only [List.any_cons, List.any_nil, Bool.or_false, Bool.or_eq_true, not_or, Bool.not_eq_true]; exact ⟨(by cases v1 <;> first | rfl | (simp [isStar] at hs1)), (by cases v2 <;> first | rfl | (simp [isStar] at hs2))⟩)]
  simp only [Bool.false_eq_true, if_false]
theorem ex_swap2 {x y : Str} {p1 p2 p' p3 p : Pos} {k k2 : Nat} {v1 v2 : Expr} (hA : A.handled = none) (h : Ev G A env σ (.Tuple [v1, v2] k2 p3) fun d σ₁ => ∃ a ds, d = .ref a ∧ Items σ₁ a ds ∧ [x, y].length = ds.length ∧ Stos G A env σ₁ [y, x] ds.reverse fun σ₂ => KF .next σ₂)
    (hf : [v1, v2].all (foldedForSure 8) = false) (hc : [v1, v2].all (constantsAlone 8) = false)
    (hk : env.blockKind = .function := by rfl) (hx : env.kindOf x = some .local := by rfl) (hy : env.kindOf y = some .local := by rfl) (hl : (p2.line == p1.line) = true := by rfl) (hne : (x == y) = false := by decide)
    (hs1 : isStar v1 = false := by rfl) (hs2 : isStar v2 = false := by rfl)
    (hs : swapsWithSole [.Tuple [.Name x p1, .Name y p2] k p'] (.Tuple [v1, v2] k2 p3) p.line env = pure false := by rfl) : Ex1 G A env σ (.Assign [.Tuple [.Name x p1, .Name y p2] k p'] (.Tuple [v1, v2] k2 p3) p) KF :=
  ex_swap [x, y] hA h (swapped2 hk hx hy hl hne hs1 hs2 hf hc) hs
theorem swapped0 {x y : Str} {p1 p2 p' p3 : Pos} {k k2 : Nat} {v1 v2 : Expr} (hk : env.blockKind = .function) (hx : env.kindOf x = some .cell) (hy : env.kindOf y = some .cell) (hs1 : isStar v1 = false) (hs2 : isStar v2 = false) : swappedStores [.Tuple [.Name x p1, .Name y p2] k p'] (.Tuple [v1, v2] k2 p3) env = pure none := by
  have hm : ∀ b : Bool, (some NameKind.cell == some NameKind.local && b) = false := fun b => rfl
  have h1 : (!([Expr.Name x p1, Expr.Name y p2].length == 2 || [Expr.Name x p1, Expr.Name y p2].length == 3) || [v1, v2].length != [Expr.Name x p1, Expr.Name y p2].length || ScopeKind.function != ScopeKind.function) = false := rfl
  unfold swappedStores
  simp only [List.head?_cons, Option.map_some, Option.getD_some, List.filterMap_cons, List.filterMap_nil, Expr.pos, hx, hy, hk, hm, Bool.false_eq_true, if_false]
  rw [if_neg (by rw [h1]; decide), if_neg (by simp only [List.any_cons, List.any_nil, Bool.or_false, Bool.or_eq_true, not_or, Bool.not_eq_true]; exact ⟨(by cases v1 <;> first | rfl | (simp [isStar] at hs1)), (by cases v2 <;> first | rfl | (simp [isStar] at hs2))⟩)]
  rfl
theorem stos_cons {t : Str} {ts : List Str} {d : Value} {ds : List Value} {KS : St → Prop} (h : Sto G A env σ t d fun σ₁ => Stos G A env σ₁ ts ds KS) : Stos G A env σ (t :: ts) (d :: ds) KS := h
theorem stos_nil {KS : St → Prop} (h : KS σ) : Stos G A env σ [] [] KS := h
end
/-- a method bound to its object -/
noncomputable def bobj (id : String) (self : Value) : Obj := { cls := .type "builtin_function_or_method", data := .fields #[.builtin id, self] }
theorem F_mro_dict : mroOf (.type "dict") = pure [.type "dict", .type "object"] := by rw [mroOf_type]; kernel_rfl
theorem F_lookup_dict_new : typeLookup (.type "dict") "__new__" = pure (some (.builtin "dict.__new__")) := by rw [typeLookup_type, builtinLookup_eq_fast]; kernel_rfl
theorem F_called_dict : TypeCalled "dict" "dict.__new__" "dict.__init__" :=
  ⟨by decide +kernel, by decide +kernel, ⟨_, _, F_mro_dict⟩, madeBy_type F_mro_dict F_lookup_dict_new (by decide +kernel), by decide +kernel, by rw [isSubtype_type]; kernel_rfl, F.slot_dict_init⟩
theorem F_typeCall_dict_0 : checkTypeCall "dict" ⟨[], []⟩ = pure () := by kernel_rfl
theorem F_newCall_dict_0 : checkBuiltinCall "dict.__new__" ⟨[.type "dict"], []⟩ = pure () := by kernel_rfl
theorem F_entry_dict_new : entryFor table "dict.__new__" = some Builtin.«dict.__new__» := entryFor_of_tree (by kernel_rfl)
theorem F_plain_dict_new : plainId "dict.__new__" = true := by decide +kernel
section
variable {prog : Program} {w : World} {A : Around} {E : Value → Shared → Prop} {s : Shared}
theorem code_dict_new0 {Q₁ : Value → Shared → Prop} (h : Q₁ (.ref s.heap.objs.size) { s with heap := s.heap.push { cls := .type "dict", data := .dict #[] } }) :
    codeAny (model prog w) A (.call (.builtin "dict.__new__") ⟨[.type "dict"], []⟩) (wants Q₁ E) s := by
  refine codeAny_call_builtin F_plain_dict_new F_entry_dict_new (wpAny_of_eq F_newCall_dict_0 ?_)
  have hsub : isSubtype (.type "dict") (.type "dict") = pure true := by rw [isSubtype_type]; kernel_rfl
  have hmro := F_mro_dict
  obtain ⟨hp, g, d, tk, os⟩ := s
  unfold Builtin.«dict.__new__»
  wp_walk
  exact h
theorem call_dict0 {Q : Value → Shared → Prop} (h : Q (.ref s.heap.objs.size) { s with heap := s.heap.push { cls := .type "dict", data := .dict #[] } }) :
    wpAny (model prog w) A (call (.type "dict") []) Q E s := by
  refine callType_codes (Q₁ := fun obj s₁ => obj = .ref s.heap.objs.size ∧ s₁ = { s with heap := s.heap.push { cls := .type "dict", data := .dict #[] } }) F_called_dict F_typeCall_dict_0 F.entry_dict_init (code_dict_new0 ⟨rfl, rfl⟩) ?_
  rintro obj s₁ ⟨rfl, rfl⟩
  have hnew : (s.heap.push { cls := .type "dict", data := .dict #[] }).DictOf (PySem.strKind prog w) s.heap.objs.size [] := Heap.DictOf.new s.heap
  refine ⟨hnew.typeIs, F.args_dict_init_1 _, ?_⟩
  unfold Builtin.«dict.__init__»
  refine wpAny_bind ?_
  unfold Builtin.Dict.selfAndRest
  refine wpAny_bind (wpAny_notOrdered_dict hnew.typeIs ?_)
  show wpAny _ _ (pure (s.heap.objs.size, ([] : List Value))) _ _ _
  refine wpAny_pure ?_
  show wpAny _ _ (Builtin.Dict.addKeywords s.heap.objs.size [] >>= fun _ => ret .none) _ _ _
  exact wpAny_bind (wpAny_pure (wpAny_pure ⟨rfl, h⟩))
theorem type_fk : typeOf (.builtin "dict.fromkeys") = pure (.type "classmethod_descriptor") := by show builtinType _ = _; rw [builtinType_eq_fast]; kernel_rfl
theorem entry_fk : entryFor table "dict.fromkeys" = some Builtin.«dict.fromkeys» := entryFor_of_tree (by kernel_rfl)
theorem entry_fkl : entryFor table "dict.fromkeys.loop" = some Builtin.«dict.fromkeys.loop» := entryFor_of_tree (by kernel_rfl)
theorem quiet_fk {as : Args} : (Code.builtin "dict.fromkeys" as).quiet = true := Code.quiet_builtin _ (by decide +kernel)
theorem quiet_fkl {as : Args} : (Code.builtin "dict.fromkeys.loop" as).quiet = true := Code.quiet_builtin _ (by decide +kernel)
theorem isType_dict : isType (.type "dict") = pure true := by first | rfl | kernel_rfl | (unfold isType; rw [isSubtype_type]; kernel_rfl)
theorem owner_fk : (kfb_private% "ownerAndName") "dict.fromkeys" = ("dict", "fromkeys") := by first | decide +kernel | kernel_rfl
theorem sub_dict_dict : isSubtype (.type "dict") (.type "dict") = pure true := by rw [isSubtype_type]; kernel_rfl
theorem check_fk {x : Value} : checkBoundCall "dict.fromkeys" ⟨[.type "dict", x], []⟩ = pure () := by first | kernel_rfl | rfl
theorem run_get_fk {P : Fin → Shared → Prop} (h : P (.done (.ret (.ref s.heap.objs.size))) { s with heap := s.heap.push (bobj "dict.fromkeys" (.type "dict")) }) :
    wpAny (model prog w) A (Builtin.«classmethod_descriptor.__get__» ⟨[.builtin "dict.fromkeys", .none, .type "dict"], []⟩) P E s := by
  unfold Builtin.«classmethod_descriptor.__get__»
  refine wpAny_bind (wpAny_of_eq (a := (.builtin "dict.fromkeys", none, some (.type "dict"))) (by first | rfl | kernel_rfl) ?_)
  simp only [owner_fk]
  refine wpAny_bind (wpAny_of_eq (a := .type "dict") rfl ?_)
  refine wpAny_bind (wpAny_of_eq (a := true) isType_dict ?_)
  refine KFB.if_not rfl ?_
  refine wpAny_bind (wpAny_of_eq (a := true) sub_dict_dict ?_)
  refine KFB.if_not rfl ?_
  exact wpAny_bind (wpAny_newObj_type (wpAny_pure h))
theorem getm_fk {K : Frag} {pl : Sem Bool} {Q : Value × List Value → Shared → Prop} (X : K.In s.heap)
    (e : findCls K (.type "dict") (.type "type") (PySem.Str.ofString "fromkeys") = some (.get (.builtin "classmethod_descriptor.__get__") (.builtin "dict.fromkeys") .none (.type "dict")))
    (h : Q (.ref s.heap.objs.size, []) { s with heap := s.heap.push (bobj "dict.fromkeys" (.type "dict")), toks := s.toks + 1 }) :
    wpAny (model prog w) A (getMethod (.type "dict") (PySem.Str.ofString "fromkeys") pl) Q E s := by
  have hstub : opaqueClassAbove (.type "dict") = pure none := by unfold opaqueClassAbove; dsimp only; rw [show Manifest.isStub "dict" = false by decide +kernel]; rfl
  have ht : typeOf (.type "dict") = pure (.type "type") := by first | rfl | kernel_rfl
  have L0 : Looks (model prog w) s.heap (typeOf (.type "dict")) (.type "type") := Looks.of_pure ht
  have hg : findIn K (.type "type") "__getattribute__" = some (some (.builtin "type.__getattribute__")) := type_tga
  unfold getMethod specialOf
  refine wpAny_bind (wpAny_bind (L0.here ((looks_findIn X hg).here ?_)))
  dsimp only
  rw [if_pos canon_tga]
  refine wpAny_bind (wpAny_mono (Q := fun v => Q (v, [])) (E := E) ?_ (fun _ _ z => wpAny_pure z) fun _ _ z => z)
  have LO : Looks (model prog w) s.heap (opaqueClassAbove (.type "dict")) none := Looks.of_pure hstub
  refine cls_open X LO L0 hg (looks_hook X (r := none) (by rfl)) (by show subIn K _ _ = _; rfl) e ?_
  show wpAny _ _ (holding [.builtin "dict.fromkeys"] (call (.builtin "classmethod_descriptor.__get__") [.builtin "dict.fromkeys", .none, .type "dict"]) >>= fun v => ret v) _ _ _
  exact wpAny_bind (wpAny_holding (wpAny_call_entry KFB.slot_get type_fk KFB.entry_get (run_get_fk ⟨_, rfl, wpAny_pure (wpAny_pure h)⟩) (KFB.args_get _ _ _)))
end
section
variable {prog : Program} {w : World} {A : Around} {E : Value → Shared → Prop} {s : Shared} {env : Env}
/-- a call by a method found on any value -/
theorem call_by_method {o : Expr} {name : Str} {apos pos : Pos} {args : List Expr} {Q : Value → Shared → Prop}
    (hbase : attributeBase o name env (eval o env) = eval o env)
    (hfew : ((backTo pos (starEach args env)).all (fun x => !x.1) && (backToKw pos (keywordEach [] env)).all (fun x => x.1.isSome)
      && decide (args.length + ([] : List Keyword).length + (if ([] : List Keyword).isEmpty then 0 else 1) < 30)) = true)
    (hline : (apos.endLine == pos.line) = true)
    (h : wpAny (model prog w) A (eval o env) (fun ov s₁ => ∀ pl, wpAny (model prog w) A (getMethod ov name pl) (fun r s₂ =>
      wpAny (model prog w) A (callWith pos r.1 r.2 (backTo pos (starEach args env)) []) Q E s₂) E s₁) E s) :
    wpAny (model prog w) A (eval (.Call (.Attribute o name apos) args [] pos) env) Q E s := by
  rw [arm_eval_Call, hbase]
  refine wpAny_bind (wpAny_mono h (fun ov s₁ h₁ => ?_) fun _ _ e => e)
  refine wpAny_bind (wpAny_standAt ?_)
  have hform : methodCallForm (args.length + ([] : List Keyword).length) (backTo pos (starEach args env)) (backToKw pos (keywordEach [] env)) = true := hfew
  have hpos : methodCallPos true o env apos pos = pure pos := by unfold methodCallPos; simp [hline]
  unfold methodCall
  rw [hform]
  refine wpAny_bind (wpAny_holding (wpAny_mono (h₁ _) (fun r s₂ h₂ => ?_) fun _ _ e => e))
  exact wpAny_bind (wpAny_of_eq hpos h₂)
/-- a call of a bound method -/
theorem callWith_bobj {pos : Pos} {u : Addr} {id : String} {self : Value} {first : List Value} {args : List (Bool × Sem Value)} {Q : Value → Shared → Prop} (hplain : args.any (·.1) = false)
    (h : wpAny (model prog w) A (evalArgs (.ref u) true args []) (fun x s₁ => s₁.heap.get? u = some (bobj id self) ∧ wpAny (model prog w) A (call (.ref u) (first ++ x.pos) x.kw) Q E s₁) E s) :
    wpAny (model prog w) A (callWith pos (.ref u) first args []) Q E s := by
  unfold callWith
  refine wpAny_bind (wpAny_holding (wpAny_mono h (fun x s₁ h₁ => wpAny_bind (wpAny_standAt ?_)) fun _ _ x => x))
  obtain ⟨ho, hcall⟩ := h₁
  simp only [hplain, List.any_nil, Bool.or_false]
  refine wpAny_bind (m := keeperOf (.ref u)) ?_
  unfold keeperOf
  refine wpAny_bind (wpAny_load ho ?_)
  simp only [bobj, show (Value.type "builtin_function_or_method" != Value.type "method") = true by decide, show (Value.type "builtin_function_or_method" == Value.type "builtin_function_or_method" || Value.type "builtin_function_or_method" == Value.type "method-wrapper") = true by decide, if_true]
  refine wpAny_pure ?_
  exact wpAny_bind (wpAny_mono hcall (fun r s₂ hr => wpAny_bind (wpAny_holding (wpAny_point (wpAny_pure hr)))) fun _ _ x => x)
theorem call_bobj {u : Addr} {id : String} {self : Value} {args : List Value} {Q : Value → Shared → Prop} (ho : s.heap.get? u = some (bobj id self))
    (hck : wpAny (model prog w) A.in1 (checkBoundCall id ⟨self :: args, []⟩) (fun _ s₁ => (Code.builtin id ⟨self :: args, []⟩).quiet = true ∧ codeAny (model prog w) A (.builtin id ⟨self :: args, []⟩) (wants Q E) s₁) E s) :
    wpAny (model prog w) A (call (.ref u) args) Q E s := by
  refine wpAny_call (codeAny_of_tree ?_)
  show wpAny _ A.in1 (callAny (.ref u) ⟨args, []⟩) _ _ s
  simp only [callAny]
  refine wpAny_bind (wpAny_load ho ?_)
  simp only [bobj, show (Value.type "builtin_function_or_method" == Value.type "method" || Value.type "builtin_function_or_method" == Value.type "builtin_function_or_method" || Value.type "builtin_function_or_method" == Value.type "method-wrapper") = true by decide, if_true]
  refine KFB.if_so (by decide) ?_
  refine wpAny_bind (wpAny_mono hck (fun _ s₁ h₁ => ?_) fun _ _ e => e)
  exact wpAny_bind (wpAny_pure (wpAny_pure h₁))
end
section
variable {G : Gd} {A : Around} {L : Addr} {env : Env} {σ : St} {K : Value → St → Prop}
theorem fk_run {all : List (List Nat)} {I d : Addr} {fp : List Addr} {Z : Nat → Heap → Prop} {m : List (Str × Value)} {k0 : List (Addr × O)} {σ₀ : St} {s₀ : Shared} (hI0 : s₀.heap.get? I = none) (hIf : I ∈ fp) {R : Result → Shared → Prop} (hz : all.length ≤ 100000)
    (hR : ∀ s', Sat G L ⟨m, [(d, .dict (all.foldl (fun es w => sto1 es (Sx w) .none) []))], k0⟩ s' → Step G L σ₀ s₀ ⟨m, [(d, .dict (all.foldl (fun es w => sto1 es (Sx w) .none) []))], k0⟩ s' → R (.ok (.ret (.ref d))) s') :
    ∀ (rest done : List (List Nat)) (s : Shared), all = done ++ rest →
      Sat G L ⟨m, [(d, .dict (done.foldl (fun es w => sto1 es (Sx w) .none) []))], k0⟩ s → Step G L σ₀ s₀ ⟨m, [(d, .dict (done.foldl (fun es w => sto1 es (Sx w) .none) []))], k0⟩ s →
      IterAt G A.in1 L ⟨m, [(d, .dict (done.foldl (fun es w => sto1 es (Sx w) .none) []))], k0⟩ (all.map U) I fp Z → Z done.length s.heap → (∀ b ∈ fp, ∃ o, s.heap.get? b = some o) →
      codeAny (model G.prog G.w) A (.builtin "dict.fromkeys.loop" ⟨[.ref d, .ref I, .none], []⟩) R s := by
  intro rest
  induction rest with
  | nil =>
    intro done s hk x y it hzz hlive
    have hdone : all = done := by rw [hk, List.append_nil]
    subst hdone
    refine codeAny_builtin entry_fkl ?_
    show wpAny _ A.in1 (Builtin.«dict.fromkeys.loop» ⟨[.ref d, .ref I, .none], []⟩) _ _ s
    unfold Builtin.«dict.fromkeys.loop»
    dsimp only
    refine wpAny_bind (it.walks.done s _ _ (by rw [List.length_map]; exact hzz) fun h' tk kk => ?_)
    have kk' : ∀ c o, c ≠ I → s.heap.get? c = some o → h'.get? c = some o := fun c o hc e => kk c o (by simpa using hc) e
    have x' := x.off (t := tk) kk' it.I0 it.IL it.Io it.Ik
    have y' := y.off (t := tk) kk' hI0
    exact wpAny_pure (hR _ x' y')
  | cons u rest ih =>
    intro done s hk x y it hzz hlive
    have hlt : done.length < (all.map U).length := by rw [hk]; simp
    refine codeAny_builtin entry_fkl ?_
    show wpAny _ A.in1 (Builtin.«dict.fromkeys.loop» ⟨[.ref d, .ref I, .none], []⟩) _ _ s
    unfold Builtin.«dict.fromkeys.loop»
    dsimp only
    refine wpAny_bind (it.walks.item done.length s _ _ hlt hzz fun v h' tk hv hz' kk => ?_)
    have kk' : ∀ c o, c ≠ I → s.heap.get? c = some o → h'.get? c = some o := fun c o hc e => kk c o (by simpa using hc) e
    have hvd : nv v = U u := by
      rw [hk] at hv
      simpa using hv.symm
    have x' := x.off (t := tk) kk' it.I0 it.IL it.Io it.Ik
    have y' := y.off (t := tk) kk' hI0
    have live' : ∀ b ∈ fp, ∃ o, h'.get? b = some o := fun c hc => by
      by_cases q : c = I
      · subst q; exact it.zl _ _ hz'
      · obtain ⟨o, e⟩ := hlive c hc; exact ⟨o, kk' c o q e⟩
    obtain ⟨t, rfl⟩ := nv_str hvd
    obtain ⟨kvs, hd, e, lo⟩ := (x'.own _ (.head _)).1
    have hlen : kvs.length ≤ done.length := by
      have h1 : ∀ (l : List (List Nat)) (es : List (Str × Value)), (l.foldl (fun es w => sto1 es (Sx w) .none) es).length ≤ es.length + l.length := by
        intro l
        induction l with
        | nil => intro es; simp
        | cons a l ih =>
          intro es
          have h2 := ih (sto1 es (Sx a) .none)
          have h3 : (sto1 es (Sx a) .none).length ≤ es.length + 1 := by unfold sto1; split <;> simp
          rw [List.foldl_cons, List.length_cons]; omega
      have h2 := h1 done []
      have h3 := congrArg List.length e
      rw [List.length_map] at h3
      rw [h3]; simpa using h2
    have hdl : done.length ≤ all.length := by rw [hk]; simp
    dsimp only
    refine wpAny_bind (wpAny_typeOf hd.typeIs ?_)
    refine KFB.if_so (by decide) ?_
    refine wpAny_bind (wpAny_of_eq (a := d) rfl ?_)
    refine wpAny_bind (wpAny_holding ?_)
    refine wpAny_dictSet_pairs key_is hd (fun h2 hd2 hs2 => ?_) (by rw [two24]; omega)
    have hH : Holds (G.prog, G.w) h2 d (.dict ((done ++ [u]).foldl (fun es w => sto1 es (Sx w) .none) [])) := ⟨_, hd2, by rw [stored_nv, e, List.foldl_append]; rfl, lo⟩
    have x2 := x'.upd (t := tk + 1) (i := 0) rfl hs2 hH
    have yb : Step G L _ _ _ _ := Step.upd (G := G) (L := L) (σ := ⟨m, [(d, .dict (done.foldl (fun es w => sto1 es (Sx w) .none) []))], k0⟩) (s := { s with heap := h', toks := tk }) (h := h2) (t := tk + 1) (i := 0) (o' := .dict ((done ++ [u]).foldl (fun es w => sto1 es (Sx w) .none) [])) rfl hs2 hH.live
    refine wpAny_pure ⟨quiet_fkl, ?_⟩
    refine ih (done ++ [u]) _ (by rw [hk]; simp) x2 (y'.trans yb) (it.step yb (live' I hIf) live') ?_ fun c hc => let ⟨o, e⟩ := live' c hc; yb.live c o e
    rw [List.length_append, List.length_singleton]
    exact it.walks.frame _ _ _ hz' fun c hc o e => yb.keep c o e (it.fpo c hc).2.1 (it.fpo c hc).1 (it.fpo c hc).2.2
theorem Sat.thaw {s s' : Shared} {m' : List (Str × Value)} {o' k' : List (Addr × O)} (q : Sat G L σ s) (x' : Sat G L ⟨m', o', k'⟩ s') (y : Step G L σ.froze s ⟨m', o', k'⟩ s') (hm : ∀ z d, σ.m.lookup z = some d → m'.lookup z = some d) :
    Sat G L ⟨σ.m, o' ++ σ.own, σ.kn⟩ s' ∧ Step G L σ s ⟨σ.m, o' ++ σ.own, σ.kn⟩ s' := by
  have keep : ∀ b o, b ≠ L → b ∉ G.Tb → s.heap.get? b = some o → s'.heap.get? b = some o := fun b o hL hT e => y.keep b o e hL (by simp [St.froze]) hT
  have new : ∀ a ∈ o'.map (·.1), s.heap.get? a = none := fun a ha => (y.new a ha).resolve_left (by simp [St.froze])
  refine ⟨⟨x'.base, x'.tabs, ?_, x'.locNew, fun p hp => ?_, fun p hp => ?_, ?_⟩, ⟨y.same, y.bare, fun b o e hL _ hT => keep b o hL hT e, y.live, fun a ha => ?_, fun a ha => .inr (.inl ha)⟩⟩
  · obtain ⟨m, hn, h⟩ := x'.loc
    exact ⟨m, hn, fun z d e => h z d (hm z d e)⟩
  · rcases List.mem_append.mp hp with hp | hp
    · exact x'.own p hp
    · exact ⟨(q.own p hp).1.at fun o e => keep _ _ (q.own p hp).2.1 (q.not_Tb (q.own p hp).2.2) e, (q.own p hp).2⟩
  · refine ⟨(q.kn p hp).1.at fun o e => keep _ _ (q.kn p hp).2.1 (q.kn p hp).2.2.1 e, (q.kn p hp).2.1, (q.kn p hp).2.2.1, fun hmm => ?_⟩
    rw [List.map_append] at hmm
    rcases List.mem_append.mp hmm with h | h
    · obtain ⟨o, e⟩ := (q.kn p hp).1.live
      rw [new _ h] at e; cases e
    · exact (q.kn p hp).2.2.2 h
  · rw [List.map_append]
    refine List.nodup_append.mpr ⟨x'.nd, q.nd, fun a ha b hb e => ?_⟩
    subst e
    exact q.not_own (new a ha) hb
  · rw [List.map_append] at ha
    rcases List.mem_append.mp ha with ha | ha
    · exact .inr (new a ha)
    · exact .inl ha
theorem call_fk {mg mb : Str → Option Value} {u a : Addr} {ws : List (List Nat)} (Γ : Gnd G mg mb) (hA : A.handled = none) (hu : σ.has u (.raw (bobj "dict.fromkeys" (.type "dict")))) (ha : σ.has a (.list (ws.map U))) (hz : ws.length ≤ 100000)
    (h : ∀ d, K (.ref d) (σ.put d (.dict (ws.foldl (fun es w => sto1 es (Sx w) .none) [])))) : Call G A L σ (.ref u) [.ref a] K := fun vs hvs s q => by
  obtain ⟨v, rfl, hv⟩ := one_of hvs
  have := nv_ref hv; subst this
  refine call_bobj (q.held hu) (wpAny_of_eq check_fk ⟨quiet_fk, codeAny_builtin entry_fk ?_⟩)
  show wpAny _ A.in1 (Builtin.«dict.fromkeys» ⟨[.type "dict", .ref a], []⟩) _ _ s
  obtain ⟨us, hl, e⟩ := q.held ha
  unfold Builtin.«dict.fromkeys»
  dsimp only
  refine wpAny_bind (wpAny_of_eq (a := true) isType_dict ?_)
  refine KFB.if_not rfl ?_
  refine wpAny_bind (wpAny_of_eq (a := true) sub_dict_dict ?_)
  refine KFB.if_not rfl ?_
  refine KFB.if_not rfl ?_
  refine wpAny_bind (wpAny_bind (wpAny_rule ?_))
  refine wpAny_pure ?_
  refine wpAny_bind (wpAny_pure ?_)
  refine wpAny_bind (call_dict0 ?_)
  have hnew : (s.heap.push { cls := .type "dict", data := .dict #[] }).DictOf (PySem.strKind G.prog G.w) s.heap.objs.size [] := Heap.DictOf.new s.heap
  have up : ∀ b o, s.heap.get? b = some o → (s.heap.push { cls := .type "dict", data := .dict #[] }).get? b = some o := fun b o e => Heap.get?_push_of_some _ e
  have hl' := hl.at (h' := s.heap.push { cls := .type "dict", data := .dict #[] }) fun o e => up _ _ e
  refine wpAny_holding ?_
  refine wpAny_bind (wpAny_typeOf hl'.isList.typeIs ?_)
  refine wpAny_bind (wpAny_typeOf hnew.typeIs ?_)
  refine KFB.if_not (by decide) ?_
  refine wpAny_bind (wpAny_typeOf hnew.typeIs ?_)
  refine KFB.if_not (by decide) ?_
  have q1 := q.froze.add (t := s.toks) (a := s.heap.objs.size) (o := .dict []) up (fresh_size _) ⟨[], hnew, rfl, q.fresh_sys Γ⟩
  have y1 : Step G L σ.froze s _ _ := Step.add (t := s.toks) (a := s.heap.objs.size) (o := .dict []) (h := s.heap.push { cls := .type "dict", data := .dict #[] }) up (fresh_size _)
  refine wpAny_bind (wpAny_mono (itr_list (A := A.in1) (ds := ws.map U) hA (by exact List.mem_append.mpr ha) (.ref a) rfl _ q1) ?_ fun _ _ e => e.elim)
  rintro it s₂ ⟨I, fp, Z, rfl, itI, z0, hI0, hlive, h2, t2, rfl, kk⟩
  refine wpAny_pure ⟨quiet_fkl, ?_⟩
  have hI0' : s.heap.get? I = none := by
    cases e : s.heap.get? I with
    | none => rfl
    | some o => rw [up _ _ e] at hI0; cases hI0
  have q2 := q1.keeps (t := t2) (g := s.gens) kk
  have y2 := y1.trans (Step.keeps (G := G) (L := L) (t := t2) (σ := _) kk)
  have hIf : I ∈ fp := itI.walks.sub _ (.head _)
  refine fk_run (all := ws) (σ₀ := σ.froze) (s₀ := s) hI0' hIf hz (fun s' x' y' => ?_) ws [] _ rfl q2 y2 itI z0 hlive
  obtain ⟨x3, y3⟩ := q.thaw x' y' fun _ _ e => e
  exact ⟨_, x3, y3, h _⟩
end
section
variable {G : Gd} {A : Around} {L : Addr} {env : Env} {σ : St} {K : Value → St → Prop} {KF : Flow → St → Prop} {KB : Bool → St → Prop}
/-- a while loop, at its test -/
noncomputable def Wh (G : Gd) (A : Around) (env : Env) (test : Expr) (body : List Stmt) (σ : St) (KF : Flow → St → Prop) : Prop :=
  ∀ σ₀ s₀ s, Sat G env.locals σ s → Step G env.locals σ₀ s₀ σ s →
    codeAny (model G.prog G.w) A (.whileLoop test body [] env) (fun r s' => match r with | .ok f => Post G env.locals σ₀ s₀ (fun f => KF (nf f)) f s' | .error e => False) s
/-- what comes behind a turn -/
noncomputable def Wx (G : Gd) (A : Around) (env : Env) (test : Expr) (body : List Stmt) (KF : Flow → St → Prop) : Flow → St → Prop
  | .next, σ => Wh G A env test body σ KF
  | .cont, σ => Wh G A env test body σ KF
  | .brk, σ => KF .next σ
  | .ret v, σ => KF (.ret v) σ
theorem wx_next {test : Expr} {body : List Stmt} (h : Wh G A env test body σ KF) : Wx G A env test body KF .next σ := h
theorem wx_brk {test : Expr} {body : List Stmt} (h : KF .next σ) : Wx G A env test body KF .brk σ := h
theorem wh_turn {test : Expr} {body : List Stmt} (h : Tr G A env σ test fun b σ₁ => if b = true then Ex G A env σ₁ body (Wx G A env test body KF) else KF .next σ₁) : Wh G A env test body σ KF := fun σ₀ s₀ s x y => by
  refine codeAny_of_tree ?_
  show wpAny _ A ((whileTurn test body [] env).onRaise (fun x => do noteFrame x env; theTreesLotGoes x)) _ _ s
  refine wpAny_noted ?_
  simp only [whileTurn]
  refine wpAny_bind (wpAny_mono (h s x) (fun b s₁ ⟨σ₁, x₁, y₁, k₁⟩ => ?_) fun _ _ e => e.elim)
  have y2 := y.trans y₁
  cases b with
  | false =>
    simp only [Bool.false_eq_true, if_false] at k₁ ⊢
    exact wpAny_bind (wpAny_execs_nil (wpAny_pure ⟨σ₁, x₁, y2, k₁⟩))
  | true =>
    simp only [if_true] at k₁ ⊢
    refine wpAny_bind (wpAny_mono (k₁ s₁ x₁) (fun f s₂ ⟨σ₂, x₂, y₂, k₂⟩ => ?_) fun _ _ e => e.elim)
    have y3 := y2.trans y₂
    cases f with
    | next => exact wpAny_pure ⟨rfl, k₂ σ₀ s₀ s₂ x₂ y3⟩
    | cont => exact wpAny_pure ⟨rfl, k₂ σ₀ s₀ s₂ x₂ y3⟩
    | brk => exact wpAny_pure ⟨σ₂, x₂, y3, k₂⟩
    | ret v => exact wpAny_pure ⟨σ₂, x₂, y3, k₂⟩
theorem ex_while {test : Expr} {body : List Stmt} {p : Pos} (h : Wh G A env test body σ KF) : Ex1 G A env σ (.While test body [] p) KF := fun s q => by
  refine wpAny_While (codeAny_mono (h σ s s q .rfl') fun r s' z => ?_)
  cases r with
  | ok f => exact z
  | error e => exact z.elim
theorem wh_le {test : Expr} {body : List Stmt} (bs : List Bool) (τ : St) (k : Wh G A env test body τ KF) (m : subM τ.m σ.m) (o : τ.own = pkT bs σ.own) (kn : ∀ p ∈ τ.kn, p ∈ pkF bs σ.own ∨ p ∈ σ.kn) : Wh G A env test body σ KF := fun σ₀ s₀ s x y =>
  k σ₀ s₀ s (x.le ⟨subM_ok m, o, kn⟩) (y.less ⟨subM_ok m, o, kn⟩)
theorem wh_perm {test : Expr} {body : List Stmt} {m : List (Str × Value)} {o o' k : List (Addr × O)} (hp : o.Perm o') (h : Wh G A env test body ⟨m, o', k⟩ KF) : Wh G A env test body ⟨m, o, k⟩ KF := fun σ₀ s₀ s x y =>
  h σ₀ s₀ s (x.perm hp) ⟨y.same, y.bare, y.keep, y.live, fun a ha => y.new a ((hp.map (·.1)).mem_iff.mpr ha), y.newK⟩
/-- a loop, by a measure -/
theorem wh_inv {test : Expr} {body : List Stmt} (inv : Nat → St → Prop) (hturn : ∀ n τ, inv n τ → (∀ n' τ', n' < n → inv n' τ' → Wh G A env test body τ' KF) → Wh G A env test body τ KF) : ∀ n τ, inv n τ → Wh G A env test body τ KF := by
  intro n
  induction n using Nat.strongRecOn with
  | ind n ih => exact fun τ h => hturn n τ h fun n' τ' hn hi => ih n' hn τ' hi
theorem ex_cut {st : Stmt} {r : List Stmt} (P : St → Prop) (h1 : Ex1 G A env σ st fun f σ' => f = .next ∧ ∃ bs τ, Le bs τ σ' ∧ P τ) (h2 : ∀ τ, P τ → Ex G A env τ r KF) : Ex G A env σ (st :: r) KF :=
  ex_cons (T.less (T.mono h1 fun f σ' ⟨hf, bs, τ, le, p⟩ => ⟨bs, τ, le, by rw [hf]; exact h2 τ p⟩))
theorem ex1_gen {st : Stmt} (h : ∀ KF', (∀ f σ', KF f σ' → KF' f σ') → Ex1 G A env σ st KF') : Ex1 G A env σ st KF := h KF fun _ _ x => x
/-- a call by a method of any kind -/
theorem ev_fromkeys {mg mb : Str → Option Value} {F : Frag} {np ap p : Pos} {es : List Expr} (Γ : Gnd G mg mb) (hT : G.Tb = []) (X : F.In G.h₀) (hn : mg "dict" = none) (hv : mb "dict" = some (.type "dict"))
    (e : findCls F (.type "dict") (.type "type") (PySem.Str.ofString "fromkeys") = some (.get (.builtin "classmethod_descriptor.__get__") (.builtin "dict.fromkeys") .none (.type "dict")))
    (h : ∀ u, Evs G A env p (σ.put u (.raw (bobj "dict.fromkeys" (.type "dict")))) es fun as σ₂ => σ₂.has u (.raw (bobj "dict.fromkeys" (.type "dict"))) ∧ Call G A env.locals σ₂ (.ref u) as K)
    (hbase : attributeBase (.Name "dict" np) (Str.ofString "fromkeys") env (eval (.Name "dict" np) env) = eval (.Name "dict" np) env := by rfl) (hs : es.all (fun e => match e with | .Starred .. => false | _ => true) = true := by rfl) (hl : es.length < 30 := by decide) (hline : (ap.endLine == p.line) = true := by rfl)
    (hg : env.globals = mainGlobals := by rfl) (hb : env.builtins = builtinsNs := by rfl) (hk : env.scope.kind = .function := by rfl) (hx : env.kindOf "dict" = some .globalImplicit := by rfl) :
    Ev G A env σ (.Call (.Attribute (.Name "dict" np) (Str.ofString "fromkeys") ap) es [] p) K := fun s z => by
  obtain ⟨hs1, hs2, hs3⟩ := starEach_plain (pos := p) (env := env) hs
  refine call_by_method hbase (by rw [hs2]; simp [backToKw, keywordEach]; omega) hline ?_
  refine wpAny_mono ((ev_name (K := fun v σ' => v = .type "dict" ∧ σ' = σ) (lod_built Γ hn hv ⟨rfl, rfl⟩ hg hb hk hx) : Ev G A env σ (.Name "dict" np) _) s z) (fun v s₁ ⟨σ₁, x₁, y₁, e1, e2⟩ pl => ?_) fun _ _ e => e
  have := nv_type e1
  subst this e2
  have XI : F.In s₁.heap := X.keeps fun b o e => x₁.base b o e (by rw [hT]; simp)
  refine getm_fk XI e ?_
  have up : ∀ b o, s₁.heap.get? b = some o → (s₁.heap.push (bobj "dict.fromkeys" (.type "dict"))).get? b = some o := fun b o e => Heap.get?_push_of_some _ e
  have q2 := x₁.add (t := s₁.toks + 1) (a := s₁.heap.objs.size) (o := .raw (bobj "dict.fromkeys" (.type "dict"))) up (fresh_size _) (Heap.get?_push_size _ rfl)
  have y2 := y₁.trans (Step.add (G := G) (L := env.locals) (t := s₁.toks + 1) (a := s₁.heap.objs.size) (o := .raw (bobj "dict.fromkeys" (.type "dict"))) (h := s₁.heap.push (bobj "dict.fromkeys" (.type "dict"))) up (fresh_size _))
  refine callWith_bobj (id := "dict.fromkeys") (self := .type "dict") hs1 (evs_ne (h _) q2 hs fun vs s' w => ?_)
  obtain ⟨σ', x', y', hu, k'⟩ := w
  exact ⟨x'.held hu, T.at (k' vs rfl) x' (y2.trans y')⟩
/-- a call by a name that holds a bound method -/
theorem ev_callbound {x : Str} {q p : Pos} {es : List Expr} {u : Addr} {id : String} {self : Value}
    (h : Lod G A env σ x fun v σ₁ => v = .ref u ∧ Evs G A env p σ₁ es fun as σ₂ => σ₂.has u (.raw (bobj id self)) ∧ Call G A env.locals σ₂ (.ref u) as K) (hs : es.all (fun e => match e with | .Starred .. => false | _ => true) = true := by rfl) (hdb : (x == ("__debug__" : Str)) = false := by decide) :
    Ev G A env σ (.Call (.Name x q) es [] p) K := fun s z => by
  refine Call_Name rfl (wpAny_mono ((ev_name h hdb : Ev G A env σ (.Name x q) _) s z) (fun v s₁ ⟨σ₁, x₁, y₁, e1, k₁⟩ => ?_) fun _ _ e => e)
  have := nv_ref e1
  subst this
  refine callWith_bobj (id := id) (self := self) (starEach_plain hs).1 (evs_ne k₁ x₁ hs fun vs s' w => ?_)
  obtain ⟨σ', x', y', hu, k'⟩ := w
  exact ⟨x'.held hu, T.at (k' vs rfl) x' (y₁.trans y')⟩
theorem quiet_la {as : Args} : (Code.builtin "list.append" as).quiet = true := Code.quiet_builtin _ (by decide +kernel)
theorem sub_list_module : isSubtype (.type "list") (.type "module") = pure false := by rw [isSubtype_type]; kernel_rfl
noncomputable def sigLA : Manifest.Signature := ⟨.oneArg, "list.append", "append", .self, [⟨"object", .posOnly, true⟩]⟩
theorem sig_la : ∃ sig, Manifest.signature? "list.append" = some sig ∧ ∀ a b, Bind.checkArgs "list.append" { sig with full := s!"{Bind.lastOf "list"}.{Bind.lastOf "list.append"}" } ⟨[a, b], []⟩ = pure () := ⟨sigLA, by kernel_rfl, fun a b => by kernel_rfl⟩
theorem kind_la : builtinKind "list.append" = some .method := by decide +kernel
theorem va_la : Manifest.varargsMethods.contains "list.append" = false := by decide +kernel
theorem check_la {s : Shared} {a : Addr} {y : Value} {Q : Unit → Shared → Prop} {E : Value → Shared → Prop} {vs : Array Value} (hl : s.heap.PlainList a vs) (h : Q () s) : wpAny (model G.prog G.w) A (checkBoundCall "list.append" ⟨[.ref a, y], []⟩) Q E s := by
  obtain ⟨sig, h1, h2⟩ := sig_la
  have hT := hl.isList.typeIs
  obtain ⟨n, ho⟩ := hl
  unfold checkBoundCall
  rw [h1, kind_la]
  dsimp only
  refine KFB.if_not (by decide) ?_
  refine wpAny_bind (wpAny_isInstance hT sub_list_module ?_)
  rw [va_la]
  refine KFB.if_not rfl ?_
  unfold isType
  refine wpAny_bind (wpAny_bind (wpAny_load ho (wpAny_pure ?_)))
  refine KFB.if_not rfl ?_
  refine wpAny_bind (wpAny_typeOf hT ?_)
  dsimp only
  exact wpAny_of_eq (h2 _ _) h
theorem call_add {u a : Addr} {ds : List Value} {d : Value} (i : Nat) (hi : σ.own[i]? = some (a, .list ds)) (hu : σ.has u (.raw (bobj "list.append" (.ref a)))) (hz : ds.length ≤ 1000000) (h : K .none (σ.seto i (a, .list (ds ++ [d])))) : Call G A L σ (.ref u) [d] K := fun vs hvs s q => by
  obtain ⟨u', rfl, hu'⟩ := one_of hvs
  obtain ⟨us, hl, e⟩ := (q.own _ (List.mem_of_getElem? hi)).1
  have hlen : us.length = ds.length := by rw [← e, List.length_map]
  refine call_bobj (q.held hu) (check_la hl ⟨quiet_la, codeAny_builtin PySem.F.entry_list_append ?_⟩)
  show wpAny _ A.in1 (updateSeq a (·.push u') >>= fun _ => ret .none) _ _ s
  obtain ⟨n, ho⟩ := hl
  refine wpAny_bind (wpAny_updateSeq ho rfl (wpAny_pure ?_) (by rw [List.size_toArray, two24]; omega) (by rw [Array.size_push, List.size_toArray, two24]; omega))
  have hs : Heap.SameBut a s.heap (s.heap.update a (Obj.mapSeq (·.push u'))) := Heap.SameBut.update ..
  have hH : Holds (G.prog, G.w) (s.heap.update a (Obj.mapSeq (·.push u'))) a (.list (ds ++ [d])) := by
    refine ⟨us ++ [u'], ⟨n + 1, ?_⟩, by rw [List.map_append, e, ← hu']; rfl⟩
    rw [Heap.get?_update_self _ ho (by rw [Obj.mapSeq_push_plain]; rfl), Obj.mapSeq_push_plain, show (us ++ [u']).toArray = us.toArray.push u' by simp]
  exact ⟨_, q.upd (t := s.toks) hi hs hH, .upd hi hs hH.live, h⟩
end
/-- the ground of this law -/
structure Law (G : Gd) (mg mb : Str → Option Value) : Prop where
  X : (hd.heap_1 G.w.params).In G.h₀
  Γ : Gnd G mg mb
  tb : G.Tb = []
  bi : ∀ x : Str, x ≠ "__name__" → mb x = bootBuiltins x
  bm : ∀ P, P ∉ [mainGlobals] → G.h₀.get? P = none → G.h₀.BuiltinsAt mg P
  t1 : G.h₀.get? 244 = none
  t2 : G.h₀.get? 79 = none

/-- room for k calls one within another -/
noncomputable def rm (k : Nat) (A : Around) : Prop := A.handled = none ∧ A.depth + 10 * k + 1 ≤ 1000 ∧ A.units + 10 * k + 100 ≤ 9900
theorem rm.h {k : Nat} {A : Around} (h : rm k A) : A.handled = none := h.1
theorem rm.d {k : Nat} {A : Around} (h : rm k A) : A.depth < recursionLimit := by have := h.2.1; show _ < 1000; omega
theorem rm.u {k : Nat} {A : Around} (h : rm k A) : A.units + 90 < cLine := by have := h.2.2; show _ < 9900; omega
theorem rm.deeper {k : Nat} {A : Around} {env : Env} (h : rm (k + 1) A) : rm k (A.deeper env) :=
  ⟨h.1, by have := h.2.1; show A.depth + 1 + _ + _ ≤ _; omega, by have := h.2.2; show A.units + 3 + _ + _ ≤ _; omega⟩
theorem rm.less {k j : Nat} {A : Around} (h : rm k A) (hj : j ≤ k := by omega) : rm j A := ⟨h.1, by have := h.2.1; omega, by have := h.2.2; omega⟩
theorem rm.in2 {k : Nat} {A : Around} (h : rm (k + 1) A) : rm k A.in1.in1 := ⟨h.1, by have := h.2.1; show A.depth + _ + _ ≤ _; omega, by have := h.2.2; show A.units + 1 + 1 + _ + _ ≤ _; omega⟩
theorem cp_slash : cp "/" = [47] := rfl
theorem cp_dot : cp "." = [46] := rfl
theorem cp_dd : cp ".." = [46, 46] := rfl
theorem cp_empty : cp "" = [] := rfl
theorem cp_star : cp "star" = [115, 116, 97, 114] := rfl
theorem cp_any : cp "any" = [97, 110, 121] := rfl
theorem cp_one : cp "one" = [111, 110, 101] := rfl
theorem cp_other : cp "other" = [111, 116, 104, 101, 114] := rfl
theorem cp_step : cp "step" = [115, 116, 101, 112] := rfl
theorem cp_jump : cp "jump" = [106, 117, 109, 112] := rfl
theorem cp_lb : cp "[" = [91] := rfl
theorem cp_rb : cp "]" = [93] := rfl
theorem cp_caret : cp "^" = [94] := rfl
theorem cp_x : cp "x" = [120] := rfl
theorem cp_rp : cp ")" = [41] := rfl
theorem cp_bang : cp "!" = [33] := rfl
theorem cp_ast : cp "*" = [42] := rfl
theorem cp_qm : cp "?" = [63] := rfl
section
variable {G : Gd} {mg mb : Str → Option Value}
theorem Law.gl (Λ : Law G mg mb) {x : Str} {v : Value} (e : nsIn (hd.heap_1 G.w.params) mainGlobals x = some (some v)) : mg x = some v := mg_of Λ.X Λ.Γ.g e
theorem Law.gn (Λ : Law G mg mb) {x : Str} (e : nsIn (hd.heap_1 G.w.params) mainGlobals x = some none) : mg x = none := mg_none_of Λ.X Λ.Γ.g e
theorem Law.bl (Λ : Law G mg mb) {x : Str} {v : Value} (hv : bootBuiltins x = some v) (hn : x ≠ "__name__" := by decide) : mb x = some v := (Λ.bi x hn).trans hv
theorem Law.off (Λ : Law G mg mb) {a : Addr} : a ∉ G.Tb := by
  rw [Λ.tb]; simp
theorem Law.cl (Λ : Law G mg mb) : CodeHd G.h₀ 248 244 := ⟨_, _, _, _, _, _, _, _, _, Λ.X 248 _ (by k_is), rfl, rfl, rfl, rfl, rfl, rfl, rfl, rfl, by decide⟩
theorem Law.ct (Λ : Law G mg mb) : CodeHd G.h₀ 83 79 := ⟨_, _, _, _, _, _, _, _, _, Λ.X 83 _ (by k_is), rfl, rfl, rfl, rfl, rfl, rfl, rfl, rfl, by decide⟩
theorem Law.code (Λ : Law G mg mb) {cd : Value} {q : Str} (e : codeIn (hd.heap_1 G.w.params) cd q = true) : G.h₀.CodeRec cd q := codeRec_of Λ.X e
theorem gn_isinstance (Λ : Law G mg mb) : mg "isinstance" = none := Λ.gn (by kernel_rfl)
theorem bl_isinstance (Λ : Law G mg mb) : mb "isinstance" = some (.builtin "isinstance") := Λ.bl (by kernel_rfl)
theorem gn_issubclass (Λ : Law G mg mb) : mg "issubclass" = none := Λ.gn (by kernel_rfl)
theorem bl_issubclass (Λ : Law G mg mb) : mb "issubclass" = some (.builtin "issubclass") := Λ.bl (by kernel_rfl)
theorem gn_type (Λ : Law G mg mb) : mg "type" = none := Λ.gn (by kernel_rfl)
theorem bl_type (Λ : Law G mg mb) : mb "type" = some (.type "type") := Λ.bl (by kernel_rfl)
theorem gn_str (Λ : Law G mg mb) : mg "str" = none := Λ.gn (by kernel_rfl)
theorem bl_str (Λ : Law G mg mb) : mb "str" = some (.type "str") := Λ.bl (by kernel_rfl)
theorem gn_bytes (Λ : Law G mg mb) : mg "bytes" = none := Λ.gn (by kernel_rfl)
theorem bl_bytes (Λ : Law G mg mb) : mb "bytes" = some (.type "bytes") := Λ.bl (by kernel_rfl)
theorem gn_len (Λ : Law G mg mb) : mg "len" = none := Λ.gn (by kernel_rfl)
theorem bl_len (Λ : Law G mg mb) : mb "len" = some (.builtin "len") := Λ.bl (by kernel_rfl)
theorem gn_list (Λ : Law G mg mb) : mg "list" = none := Λ.gn (by kernel_rfl)
theorem bl_list (Λ : Law G mg mb) : mb "list" = some (.type "list") := Λ.bl (by kernel_rfl)
theorem gn_dict (Λ : Law G mg mb) : mg "dict" = none := Λ.gn (by kernel_rfl)
theorem bl_dict (Λ : Law G mg mb) : mb "dict" = some (.type "dict") := Λ.bl (by kernel_rfl)
theorem gn_int (Λ : Law G mg mb) : mg "int" = none := Λ.gn (by kernel_rfl)
theorem bl_int (Λ : Law G mg mb) : mb "int" = some (.type "int") := Λ.bl (by kernel_rfl)
theorem gn_sum (Λ : Law G mg mb) : mg "sum" = none := Λ.gn (by kernel_rfl)
theorem bl_sum (Λ : Law G mg mb) : mb "sum" = some (.builtin "sum") := Λ.bl (by kernel_rfl)
theorem gn_min (Λ : Law G mg mb) : mg "min" = none := Λ.gn (by kernel_rfl)
theorem bl_min (Λ : Law G mg mb) : mb "min" = some (.builtin "min") := Λ.bl (by kernel_rfl)
theorem gn_range (Λ : Law G mg mb) : mg "range" = none := Λ.gn (by kernel_rfl)
theorem bl_range (Λ : Law G mg mb) : mb "range" = some (.type "range") := Λ.bl (by kernel_rfl)
theorem gn_object (Λ : Law G mg mb) : mg "object" = none := Λ.gn (by kernel_rfl)
theorem bl_object (Λ : Law G mg mb) : mb "object" = some (.type "object") := Λ.bl (by kernel_rfl)
theorem gn_sorted (Λ : Law G mg mb) : mg "sorted" = none := Λ.gn (by kernel_rfl)
theorem bl_sorted (Λ : Law G mg mb) : mb "sorted" = some (.builtin "sorted") := Λ.bl (by kernel_rfl)
theorem gl_u_deduplicate (Λ : Law G mg mb) : mg "_deduplicate" = some (.ref 46) := Λ.gl (by kernel_rfl)
theorem gl_translate (Λ : Law G mg mb) : mg "translate" = some (.ref 65) := Λ.gl (by kernel_rfl)
theorem gl_escape (Λ : Law G mg mb) : mg "escape" = some (.ref 77) := Λ.gl (by kernel_rfl)
theorem gl_u_translate (Λ : Law G mg mb) : mg "_translate" = some (.ref 84) := Λ.gl (by kernel_rfl)
theorem gl_u_join_translated_parts (Λ : Law G mg mb) : mg "_join_translated_parts" = some (.ref 91) := Λ.gl (by kernel_rfl)
theorem gl_fspath (Λ : Law G mg mb) : mg "fspath" = some (.ref 164) := Λ.gl (by kernel_rfl)
theorem gl_u_get_sep (Λ : Law G mg mb) : mg "_get_sep" = some (.ref 178) := Λ.gl (by kernel_rfl)
theorem gl_join (Λ : Law G mg mb) : mg "join" = some (.ref 185) := Λ.gl (by kernel_rfl)
theorem gl_splitroot (Λ : Law G mg mb) : mg "splitroot" = some (.ref 192) := Λ.gl (by kernel_rfl)
theorem gl_normpath (Λ : Law G mg mb) : mg "normpath" = some (.ref 199) := Λ.gl (by kernel_rfl)
theorem gl_u_law_item (Λ : Law G mg mb) : mg "_law_item" = some (.ref 206) := Λ.gl (by kernel_rfl)
theorem gl_u_law_items (Λ : Law G mg mb) : mg "_law_items" = some (.ref 213) := Λ.gl (by kernel_rfl)
theorem gl_u_law_takes (Λ : Law G mg mb) : mg "_law_takes" = some (.ref 218) := Λ.gl (by kernel_rfl)
theorem gl_u_law_deed (Λ : Law G mg mb) : mg "_law_deed" = some (.ref 223) := Λ.gl (by kernel_rfl)
theorem gl_u_law_session (Λ : Law G mg mb) : mg "_law_session" = some (.ref 228) := Λ.gl (by kernel_rfl)
theorem gl_u_law_moved (Λ : Law G mg mb) : mg "_law_moved" = some (.ref 235) := Λ.gl (by kernel_rfl)
theorem gl_u_law_meant (Λ : Law G mg mb) : mg "_law_meant" = some (.ref 242) := Λ.gl (by kernel_rfl)
theorem gl_u_law_latest (Λ : Law G mg mb) : mg "_law_latest" = some (.ref 249) := Λ.gl (by kernel_rfl)
theorem gl_u_law_twin (Λ : Law G mg mb) : mg "_law_twin" = some (.ref 254) := Λ.gl (by kernel_rfl)
theorem gl_u_law_paths (Λ : Law G mg mb) : mg "_law_paths" = some (.ref 259) := Λ.gl (by kernel_rfl)
theorem fn_u_deduplicate (Λ : Law G mg mb) : IsFn G 46 := ⟨_, _, Λ.X 46 _ (by k_is), Λ.off, rfl⟩
theorem fn_translate (Λ : Law G mg mb) : IsFn G 65 := ⟨_, _, Λ.X 65 _ (by k_is), Λ.off, rfl⟩
theorem fn_escape (Λ : Law G mg mb) : IsFn G 77 := ⟨_, _, Λ.X 77 _ (by k_is), Λ.off, rfl⟩
theorem fn_u_translate (Λ : Law G mg mb) : IsFn G 84 := ⟨_, _, Λ.X 84 _ (by k_is), Λ.off, rfl⟩
theorem fn_u_join_translated_parts (Λ : Law G mg mb) : IsFn G 91 := ⟨_, _, Λ.X 91 _ (by k_is), Λ.off, rfl⟩
theorem fn_fspath (Λ : Law G mg mb) : IsFn G 164 := ⟨_, _, Λ.X 164 _ (by k_is), Λ.off, rfl⟩
theorem fn_u_get_sep (Λ : Law G mg mb) : IsFn G 178 := ⟨_, _, Λ.X 178 _ (by k_is), Λ.off, rfl⟩
theorem fn_join (Λ : Law G mg mb) : IsFn G 185 := ⟨_, _, Λ.X 185 _ (by k_is), Λ.off, rfl⟩
theorem fn_splitroot (Λ : Law G mg mb) : IsFn G 192 := ⟨_, _, Λ.X 192 _ (by k_is), Λ.off, rfl⟩
theorem fn_normpath (Λ : Law G mg mb) : IsFn G 199 := ⟨_, _, Λ.X 199 _ (by k_is), Λ.off, rfl⟩
theorem fn_u_law_item (Λ : Law G mg mb) : IsFn G 206 := ⟨_, _, Λ.X 206 _ (by k_is), Λ.off, rfl⟩
theorem fn_u_law_items (Λ : Law G mg mb) : IsFn G 213 := ⟨_, _, Λ.X 213 _ (by k_is), Λ.off, rfl⟩
theorem fn_u_law_takes (Λ : Law G mg mb) : IsFn G 218 := ⟨_, _, Λ.X 218 _ (by k_is), Λ.off, rfl⟩
theorem fn_u_law_deed (Λ : Law G mg mb) : IsFn G 223 := ⟨_, _, Λ.X 223 _ (by k_is), Λ.off, rfl⟩
theorem fn_u_law_session (Λ : Law G mg mb) : IsFn G 228 := ⟨_, _, Λ.X 228 _ (by k_is), Λ.off, rfl⟩
theorem fn_u_law_moved (Λ : Law G mg mb) : IsFn G 235 := ⟨_, _, Λ.X 235 _ (by k_is), Λ.off, rfl⟩
theorem fn_u_law_meant (Λ : Law G mg mb) : IsFn G 242 := ⟨_, _, Λ.X 242 _ (by k_is), Λ.off, rfl⟩
theorem fn_u_law_latest (Λ : Law G mg mb) : IsFn G 249 := ⟨_, _, Λ.X 249 _ (by k_is), Λ.off, rfl⟩
theorem fn_u_law_twin (Λ : Law G mg mb) : IsFn G 254 := ⟨_, _, Λ.X 254 _ (by k_is), Λ.off, rfl⟩
theorem fn_u_law_paths (Λ : Law G mg mb) : IsFn G 259 := ⟨_, _, Λ.X 259 _ (by k_is), Λ.off, rfl⟩
end
section
variable {G : Gd} {mg mb : Str → Option Value} {A : Around} {env : Env} {σ : St} {K : Value → St → Prop} {q p : Pos} {es : List Expr}
theorem ev_b_isinstance (Λ : Law G mg mb) (h : Evs G A env p σ es fun as σ₁ => Call G A env.locals σ₁ (.builtin "isinstance") as K) (hs : es.all (fun e => match e with | .Starred .. => false | _ => true) = true := by rfl)
    (hg : env.globals = mainGlobals := by rfl) (hb : env.builtins = builtinsNs := by rfl) (hk : env.scope.kind = .function := by rfl)
    (hx : env.kindOf "isinstance" = some .globalImplicit := by rfl) : Ev G A env σ (.Call (.Name "isinstance" q) es [] p) K := ev_callbi Λ.Γ (gn_isinstance Λ) (bl_isinstance Λ) h hs hg hb hk hx
theorem ev_b_issubclass (Λ : Law G mg mb) (h : Evs G A env p σ es fun as σ₁ => Call G A env.locals σ₁ (.builtin "issubclass") as K) (hs : es.all (fun e => match e with | .Starred .. => false | _ => true) = true := by rfl)
    (hg : env.globals = mainGlobals := by rfl) (hb : env.builtins = builtinsNs := by rfl) (hk : env.scope.kind = .function := by rfl)
    (hx : env.kindOf "issubclass" = some .globalImplicit := by rfl) : Ev G A env σ (.Call (.Name "issubclass" q) es [] p) K := ev_callbi Λ.Γ (gn_issubclass Λ) (bl_issubclass Λ) h hs hg hb hk hx
theorem ev_b_type (Λ : Law G mg mb) (h : Evs G A env p σ es fun as σ₁ => Call G A env.locals σ₁ (.type "type") as K) (hs : es.all (fun e => match e with | .Starred .. => false | _ => true) = true := by rfl)
    (hg : env.globals = mainGlobals := by rfl) (hb : env.builtins = builtinsNs := by rfl) (hk : env.scope.kind = .function := by rfl)
    (hx : env.kindOf "type" = some .globalImplicit := by rfl) : Ev G A env σ (.Call (.Name "type" q) es [] p) K := ev_calltype Λ.Γ (gn_type Λ) (bl_type Λ) h hs hg hb hk hx
theorem ev_n_str (Λ : Law G mg mb) (h : K (.type "str") σ) (hg : env.globals = mainGlobals := by rfl) (hb : env.builtins = builtinsNs := by rfl) (hk : env.scope.kind = .function := by rfl)
    (hx : env.kindOf "str" = some .globalImplicit := by rfl) : Ev G A env σ (.Name "str" p) K := ev_name (lod_built Λ.Γ (gn_str Λ) (bl_str Λ) h hg hb hk hx)
theorem ev_n_bytes (Λ : Law G mg mb) (h : K (.type "bytes") σ) (hg : env.globals = mainGlobals := by rfl) (hb : env.builtins = builtinsNs := by rfl) (hk : env.scope.kind = .function := by rfl)
    (hx : env.kindOf "bytes" = some .globalImplicit := by rfl) : Ev G A env σ (.Name "bytes" p) K := ev_name (lod_built Λ.Γ (gn_bytes Λ) (bl_bytes Λ) h hg hb hk hx)
theorem ev_b_len (Λ : Law G mg mb) (h : Evs G A env p σ es fun as σ₁ => Call G A env.locals σ₁ (.builtin "len") as K) (hs : es.all (fun e => match e with | .Starred .. => false | _ => true) = true := by rfl)
    (hg : env.globals = mainGlobals := by rfl) (hb : env.builtins = builtinsNs := by rfl) (hk : env.scope.kind = .function := by rfl)
    (hx : env.kindOf "len" = some .globalImplicit := by rfl) : Ev G A env σ (.Call (.Name "len" q) es [] p) K := ev_callbi Λ.Γ (gn_len Λ) (bl_len Λ) h hs hg hb hk hx
theorem ev_b_list (Λ : Law G mg mb) (h : Evs G A env p σ es fun as σ₁ => Call G A env.locals σ₁ (.type "list") as K) (hs : es.all (fun e => match e with | .Starred .. => false | _ => true) = true := by rfl)
    (hg : env.globals = mainGlobals := by rfl) (hb : env.builtins = builtinsNs := by rfl) (hk : env.scope.kind = .function := by rfl)
    (hx : env.kindOf "list" = some .globalImplicit := by rfl) : Ev G A env σ (.Call (.Name "list" q) es [] p) K := ev_calltype Λ.Γ (gn_list Λ) (bl_list Λ) h hs hg hb hk hx
theorem ev_b_int (Λ : Law G mg mb) (h : Evs G A env p σ es fun as σ₁ => Call G A env.locals σ₁ (.type "int") as K) (hs : es.all (fun e => match e with | .Starred .. => false | _ => true) = true := by rfl)
    (hg : env.globals = mainGlobals := by rfl) (hb : env.builtins = builtinsNs := by rfl) (hk : env.scope.kind = .function := by rfl)
    (hx : env.kindOf "int" = some .globalImplicit := by rfl) : Ev G A env σ (.Call (.Name "int" q) es [] p) K := ev_calltype Λ.Γ (gn_int Λ) (bl_int Λ) h hs hg hb hk hx
theorem ev_b_sum (Λ : Law G mg mb) (h : Evs G A env p σ es fun as σ₁ => Call G A env.locals σ₁ (.builtin "sum") as K) (hs : es.all (fun e => match e with | .Starred .. => false | _ => true) = true := by rfl)
    (hg : env.globals = mainGlobals := by rfl) (hb : env.builtins = builtinsNs := by rfl) (hk : env.scope.kind = .function := by rfl)
    (hx : env.kindOf "sum" = some .globalImplicit := by rfl) : Ev G A env σ (.Call (.Name "sum" q) es [] p) K := ev_callbi Λ.Γ (gn_sum Λ) (bl_sum Λ) h hs hg hb hk hx
theorem ev_b_min (Λ : Law G mg mb) (h : Evs G A env p σ es fun as σ₁ => Call G A env.locals σ₁ (.builtin "min") as K) (hs : es.all (fun e => match e with | .Starred .. => false | _ => true) = true := by rfl)
    (hg : env.globals = mainGlobals := by rfl) (hb : env.builtins = builtinsNs := by rfl) (hk : env.scope.kind = .function := by rfl)
    (hx : env.kindOf "min" = some .globalImplicit := by rfl) : Ev G A env σ (.Call (.Name "min" q) es [] p) K := ev_callbi Λ.Γ (gn_min Λ) (bl_min Λ) h hs hg hb hk hx
theorem ev_b_range (Λ : Law G mg mb) (h : Evs G A env p σ es fun as σ₁ => Call G A env.locals σ₁ (.type "range") as K) (hs : es.all (fun e => match e with | .Starred .. => false | _ => true) = true := by rfl)
    (hg : env.globals = mainGlobals := by rfl) (hb : env.builtins = builtinsNs := by rfl) (hk : env.scope.kind = .function := by rfl)
    (hx : env.kindOf "range" = some .globalImplicit := by rfl) : Ev G A env σ (.Call (.Name "range" q) es [] p) K := ev_calltype Λ.Γ (gn_range Λ) (bl_range Λ) h hs hg hb hk hx
theorem ev_b_object (Λ : Law G mg mb) (h : Evs G A env p σ es fun as σ₁ => Call G A env.locals σ₁ (.type "object") as K) (hs : es.all (fun e => match e with | .Starred .. => false | _ => true) = true := by rfl)
    (hg : env.globals = mainGlobals := by rfl) (hb : env.builtins = builtinsNs := by rfl) (hk : env.scope.kind = .function := by rfl)
    (hx : env.kindOf "object" = some .globalImplicit := by rfl) : Ev G A env σ (.Call (.Name "object" q) es [] p) K := ev_calltype Λ.Γ (gn_object Λ) (bl_object Λ) h hs hg hb hk hx
theorem ev_f_u_deduplicate (Λ : Law G mg mb) (h : Evs G A env p σ es fun as σ₁ => Call G A env.locals σ₁ (.ref 46) as K) (hs : es.all (fun e => match e with | .Starred .. => false | _ => true) = true := by rfl)
    (hg : env.globals = mainGlobals := by rfl) (hk : env.scope.kind = .function := by rfl)
    (hx : env.kindOf "_deduplicate" = some .globalImplicit := by rfl) : Ev G A env σ (.Call (.Name "_deduplicate" q) es [] p) K := ev_callfn Λ.Γ (gl_u_deduplicate Λ) (fn_u_deduplicate Λ) h hs hg hk hx
theorem ev_f_translate (Λ : Law G mg mb) (h : Evs G A env p σ es fun as σ₁ => Call G A env.locals σ₁ (.ref 65) as K) (hs : es.all (fun e => match e with | .Starred .. => false | _ => true) = true := by rfl)
    (hg : env.globals = mainGlobals := by rfl) (hk : env.scope.kind = .function := by rfl)
    (hx : env.kindOf "translate" = some .globalImplicit := by rfl) : Ev G A env σ (.Call (.Name "translate" q) es [] p) K := ev_callfn Λ.Γ (gl_translate Λ) (fn_translate Λ) h hs hg hk hx
theorem ev_f_escape (Λ : Law G mg mb) (h : Evs G A env p σ es fun as σ₁ => Call G A env.locals σ₁ (.ref 77) as K) (hs : es.all (fun e => match e with | .Starred .. => false | _ => true) = true := by rfl)
    (hg : env.globals = mainGlobals := by rfl) (hk : env.scope.kind = .function := by rfl)
    (hx : env.kindOf "escape" = some .globalImplicit := by rfl) : Ev G A env σ (.Call (.Name "escape" q) es [] p) K := ev_callfn Λ.Γ (gl_escape Λ) (fn_escape Λ) h hs hg hk hx
theorem ev_f_u_translate (Λ : Law G mg mb) (h : Evs G A env p σ es fun as σ₁ => Call G A env.locals σ₁ (.ref 84) as K) (hs : es.all (fun e => match e with | .Starred .. => false | _ => true) = true := by rfl)
    (hg : env.globals = mainGlobals := by rfl) (hk : env.scope.kind = .function := by rfl)
    (hx : env.kindOf "_translate" = some .globalImplicit := by rfl) : Ev G A env σ (.Call (.Name "_translate" q) es [] p) K := ev_callfn Λ.Γ (gl_u_translate Λ) (fn_u_translate Λ) h hs hg hk hx
theorem ev_f_u_join_translated_parts (Λ : Law G mg mb) (h : Evs G A env p σ es fun as σ₁ => Call G A env.locals σ₁ (.ref 91) as K) (hs : es.all (fun e => match e with | .Starred .. => false | _ => true) = true := by rfl)
    (hg : env.globals = mainGlobals := by rfl) (hk : env.scope.kind = .function := by rfl)
    (hx : env.kindOf "_join_translated_parts" = some .globalImplicit := by rfl) : Ev G A env σ (.Call (.Name "_join_translated_parts" q) es [] p) K := ev_callfn Λ.Γ (gl_u_join_translated_parts Λ) (fn_u_join_translated_parts Λ) h hs hg hk hx
theorem ev_f_fspath (Λ : Law G mg mb) (h : Evs G A env p σ es fun as σ₁ => Call G A env.locals σ₁ (.ref 164) as K) (hs : es.all (fun e => match e with | .Starred .. => false | _ => true) = true := by rfl)
    (hg : env.globals = mainGlobals := by rfl) (hk : env.scope.kind = .function := by rfl)
    (hx : env.kindOf "fspath" = some .globalImplicit := by rfl) : Ev G A env σ (.Call (.Name "fspath" q) es [] p) K := ev_callfn Λ.Γ (gl_fspath Λ) (fn_fspath Λ) h hs hg hk hx
theorem ev_f_u_get_sep (Λ : Law G mg mb) (h : Evs G A env p σ es fun as σ₁ => Call G A env.locals σ₁ (.ref 178) as K) (hs : es.all (fun e => match e with | .Starred .. => false | _ => true) = true := by rfl)
    (hg : env.globals = mainGlobals := by rfl) (hk : env.scope.kind = .function := by rfl)
    (hx : env.kindOf "_get_sep" = some .globalImplicit := by rfl) : Ev G A env σ (.Call (.Name "_get_sep" q) es [] p) K := ev_callfn Λ.Γ (gl_u_get_sep Λ) (fn_u_get_sep Λ) h hs hg hk hx
theorem ev_f_join (Λ : Law G mg mb) (h : Evs G A env p σ es fun as σ₁ => Call G A env.locals σ₁ (.ref 185) as K) (hs : es.all (fun e => match e with | .Starred .. => false | _ => true) = true := by rfl)
    (hg : env.globals = mainGlobals := by rfl) (hk : env.scope.kind = .function := by rfl)
    (hx : env.kindOf "join" = some .globalImplicit := by rfl) : Ev G A env σ (.Call (.Name "join" q) es [] p) K := ev_callfn Λ.Γ (gl_join Λ) (fn_join Λ) h hs hg hk hx
theorem ev_f_splitroot (Λ : Law G mg mb) (h : Evs G A env p σ es fun as σ₁ => Call G A env.locals σ₁ (.ref 192) as K) (hs : es.all (fun e => match e with | .Starred .. => false | _ => true) = true := by rfl)
    (hg : env.globals = mainGlobals := by rfl) (hk : env.scope.kind = .function := by rfl)
    (hx : env.kindOf "splitroot" = some .globalImplicit := by rfl) : Ev G A env σ (.Call (.Name "splitroot" q) es [] p) K := ev_callfn Λ.Γ (gl_splitroot Λ) (fn_splitroot Λ) h hs hg hk hx
theorem ev_f_normpath (Λ : Law G mg mb) (h : Evs G A env p σ es fun as σ₁ => Call G A env.locals σ₁ (.ref 199) as K) (hs : es.all (fun e => match e with | .Starred .. => false | _ => true) = true := by rfl)
    (hg : env.globals = mainGlobals := by rfl) (hk : env.scope.kind = .function := by rfl)
    (hx : env.kindOf "normpath" = some .globalImplicit := by rfl) : Ev G A env σ (.Call (.Name "normpath" q) es [] p) K := ev_callfn Λ.Γ (gl_normpath Λ) (fn_normpath Λ) h hs hg hk hx
theorem ev_f_u_law_item (Λ : Law G mg mb) (h : Evs G A env p σ es fun as σ₁ => Call G A env.locals σ₁ (.ref 206) as K) (hs : es.all (fun e => match e with | .Starred .. => false | _ => true) = true := by rfl)
    (hg : env.globals = mainGlobals := by rfl) (hk : env.scope.kind = .function := by rfl)
    (hx : env.kindOf "_law_item" = some .globalImplicit := by rfl) : Ev G A env σ (.Call (.Name "_law_item" q) es [] p) K := ev_callfn Λ.Γ (gl_u_law_item Λ) (fn_u_law_item Λ) h hs hg hk hx
theorem ev_f_u_law_items (Λ : Law G mg mb) (h : Evs G A env p σ es fun as σ₁ => Call G A env.locals σ₁ (.ref 213) as K) (hs : es.all (fun e => match e with | .Starred .. => false | _ => true) = true := by rfl)
    (hg : env.globals = mainGlobals := by rfl) (hk : env.scope.kind = .function := by rfl)
    (hx : env.kindOf "_law_items" = some .globalImplicit := by rfl) : Ev G A env σ (.Call (.Name "_law_items" q) es [] p) K := ev_callfn Λ.Γ (gl_u_law_items Λ) (fn_u_law_items Λ) h hs hg hk hx
theorem ev_f_u_law_takes (Λ : Law G mg mb) (h : Evs G A env p σ es fun as σ₁ => Call G A env.locals σ₁ (.ref 218) as K) (hs : es.all (fun e => match e with | .Starred .. => false | _ => true) = true := by rfl)
    (hg : env.globals = mainGlobals := by rfl) (hk : env.scope.kind = .function := by rfl)
    (hx : env.kindOf "_law_takes" = some .globalImplicit := by rfl) : Ev G A env σ (.Call (.Name "_law_takes" q) es [] p) K := ev_callfn Λ.Γ (gl_u_law_takes Λ) (fn_u_law_takes Λ) h hs hg hk hx
theorem ev_f_u_law_deed (Λ : Law G mg mb) (h : Evs G A env p σ es fun as σ₁ => Call G A env.locals σ₁ (.ref 223) as K) (hs : es.all (fun e => match e with | .Starred .. => false | _ => true) = true := by rfl)
    (hg : env.globals = mainGlobals := by rfl) (hk : env.scope.kind = .function := by rfl)
    (hx : env.kindOf "_law_deed" = some .globalImplicit := by rfl) : Ev G A env σ (.Call (.Name "_law_deed" q) es [] p) K := ev_callfn Λ.Γ (gl_u_law_deed Λ) (fn_u_law_deed Λ) h hs hg hk hx
theorem ev_f_u_law_session (Λ : Law G mg mb) (h : Evs G A env p σ es fun as σ₁ => Call G A env.locals σ₁ (.ref 228) as K) (hs : es.all (fun e => match e with | .Starred .. => false | _ => true) = true := by rfl)
    (hg : env.globals = mainGlobals := by rfl) (hk : env.scope.kind = .function := by rfl)
    (hx : env.kindOf "_law_session" = some .globalImplicit := by rfl) : Ev G A env σ (.Call (.Name "_law_session" q) es [] p) K := ev_callfn Λ.Γ (gl_u_law_session Λ) (fn_u_law_session Λ) h hs hg hk hx
theorem ev_f_u_law_moved (Λ : Law G mg mb) (h : Evs G A env p σ es fun as σ₁ => Call G A env.locals σ₁ (.ref 235) as K) (hs : es.all (fun e => match e with | .Starred .. => false | _ => true) = true := by rfl)
    (hg : env.globals = mainGlobals := by rfl) (hk : env.scope.kind = .function := by rfl)
    (hx : env.kindOf "_law_moved" = some .globalImplicit := by rfl) : Ev G A env σ (.Call (.Name "_law_moved" q) es [] p) K := ev_callfn Λ.Γ (gl_u_law_moved Λ) (fn_u_law_moved Λ) h hs hg hk hx
theorem ev_f_u_law_meant (Λ : Law G mg mb) (h : Evs G A env p σ es fun as σ₁ => Call G A env.locals σ₁ (.ref 242) as K) (hs : es.all (fun e => match e with | .Starred .. => false | _ => true) = true := by rfl)
    (hg : env.globals = mainGlobals := by rfl) (hk : env.scope.kind = .function := by rfl)
    (hx : env.kindOf "_law_meant" = some .globalImplicit := by rfl) : Ev G A env σ (.Call (.Name "_law_meant" q) es [] p) K := ev_callfn Λ.Γ (gl_u_law_meant Λ) (fn_u_law_meant Λ) h hs hg hk hx
theorem ev_f_u_law_latest (Λ : Law G mg mb) (h : Evs G A env p σ es fun as σ₁ => Call G A env.locals σ₁ (.ref 249) as K) (hs : es.all (fun e => match e with | .Starred .. => false | _ => true) = true := by rfl)
    (hg : env.globals = mainGlobals := by rfl) (hk : env.scope.kind = .function := by rfl)
    (hx : env.kindOf "_law_latest" = some .globalImplicit := by rfl) : Ev G A env σ (.Call (.Name "_law_latest" q) es [] p) K := ev_callfn Λ.Γ (gl_u_law_latest Λ) (fn_u_law_latest Λ) h hs hg hk hx
theorem ev_f_u_law_twin (Λ : Law G mg mb) (h : Evs G A env p σ es fun as σ₁ => Call G A env.locals σ₁ (.ref 254) as K) (hs : es.all (fun e => match e with | .Starred .. => false | _ => true) = true := by rfl)
    (hg : env.globals = mainGlobals := by rfl) (hk : env.scope.kind = .function := by rfl)
    (hx : env.kindOf "_law_twin" = some .globalImplicit := by rfl) : Ev G A env σ (.Call (.Name "_law_twin" q) es [] p) K := ev_callfn Λ.Γ (gl_u_law_twin Λ) (fn_u_law_twin Λ) h hs hg hk hx
theorem ev_f_u_law_paths (Λ : Law G mg mb) (h : Evs G A env p σ es fun as σ₁ => Call G A env.locals σ₁ (.ref 259) as K) (hs : es.all (fun e => match e with | .Starred .. => false | _ => true) = true := by rfl)
    (hg : env.globals = mainGlobals := by rfl) (hk : env.scope.kind = .function := by rfl)
    (hx : env.kindOf "_law_paths" = some .globalImplicit := by rfl) : Ev G A env σ (.Call (.Name "_law_paths" q) es [] p) K := ev_callfn Λ.Γ (gl_u_law_paths Λ) (fn_u_law_paths Λ) h hs hg hk hx
end
section
variable {G : Gd} {A : Around} {env : Env} {σ : St} {K : Value → St → Prop} {o : Expr} {ap p : Pos} {es : List Expr}
theorem ev_m_startswith (h : Ev G A env σ o fun d σ₁ => IsT G env.locals σ₁ d "str" ∧ Evs G A env p σ₁ es fun as σ₂ => Call G A env.locals σ₂ (.builtin "str.startswith") (d :: as) K)
    (hbase : attributeBase o "startswith" env (eval o env) = eval o env := by rfl) (hs : es.all (fun e => match e with | .Starred .. => false | _ => true) = true := by rfl) (hl : es.length < 30 := by decide) (hline : (ap.endLine == p.line) = true := by rfl) :
    Ev G A env σ (.Call (.Attribute o "startswith" ap) es [] p) K := ev_meth "str" "str.startswith" PySem.F.plainAttrs_str PySem.F.slot_str_startswith PySem.F.type_str_startswith h hbase hs hl hline
theorem ev_m_endswith (h : Ev G A env σ o fun d σ₁ => IsT G env.locals σ₁ d "str" ∧ Evs G A env p σ₁ es fun as σ₂ => Call G A env.locals σ₂ (.builtin "str.endswith") (d :: as) K)
    (hbase : attributeBase o "endswith" env (eval o env) = eval o env := by rfl) (hs : es.all (fun e => match e with | .Starred .. => false | _ => true) = true := by rfl) (hl : es.length < 30 := by decide) (hline : (ap.endLine == p.line) = true := by rfl) :
    Ev G A env σ (.Call (.Attribute o "endswith" ap) es [] p) K := ev_meth "str" "str.endswith" PySem.F.plainAttrs_str PySem.F.slot_str_endswith PySem.F.type_str_endswith h hbase hs hl hline
theorem ev_m_split (h : Ev G A env σ o fun d σ₁ => IsT G env.locals σ₁ d "str" ∧ Evs G A env p σ₁ es fun as σ₂ => Call G A env.locals σ₂ (.builtin "str.split") (d :: as) K)
    (hbase : attributeBase o "split" env (eval o env) = eval o env := by rfl) (hs : es.all (fun e => match e with | .Starred .. => false | _ => true) = true := by rfl) (hl : es.length < 30 := by decide) (hline : (ap.endLine == p.line) = true := by rfl) :
    Ev G A env σ (.Call (.Attribute o "split" ap) es [] p) K := ev_meth "str" "str.split" PySem.F.plainAttrs_str PySem.F.slot_str_split PySem.F.type_str_split h hbase hs hl hline
theorem ev_m_join (h : Ev G A env σ o fun d σ₁ => IsT G env.locals σ₁ d "str" ∧ Evs G A env p σ₁ es fun as σ₂ => Call G A env.locals σ₂ (.builtin "str.join") (d :: as) K)
    (hbase : attributeBase o "join" env (eval o env) = eval o env := by rfl) (hs : es.all (fun e => match e with | .Starred .. => false | _ => true) = true := by rfl) (hl : es.length < 30 := by decide) (hline : (ap.endLine == p.line) = true := by rfl) :
    Ev G A env σ (.Call (.Attribute o "join" ap) es [] p) K := ev_meth "str" "str.join" PySem.F.plainAttrs_str PySem.F.slot_str_join PySem.F.type_str_join h hbase hs hl hline
theorem ev_m_index (h : Ev G A env σ o fun d σ₁ => IsT G env.locals σ₁ d "str" ∧ Evs G A env p σ₁ es fun as σ₂ => Call G A env.locals σ₂ (.builtin "str.index") (d :: as) K)
    (hbase : attributeBase o "index" env (eval o env) = eval o env := by rfl) (hs : es.all (fun e => match e with | .Starred .. => false | _ => true) = true := by rfl) (hl : es.length < 30 := by decide) (hline : (ap.endLine == p.line) = true := by rfl) :
    Ev G A env σ (.Call (.Attribute o "index" ap) es [] p) K := ev_meth "str" "str.index" PySem.F.plainAttrs_str PySem.F.slot_str_index PySem.F.type_str_index h hbase hs hl hline
theorem ev_m_find (h : Ev G A env σ o fun d σ₁ => IsT G env.locals σ₁ d "str" ∧ Evs G A env p σ₁ es fun as σ₂ => Call G A env.locals σ₂ (.builtin "str.find") (d :: as) K)
    (hbase : attributeBase o "find" env (eval o env) = eval o env := by rfl) (hs : es.all (fun e => match e with | .Starred .. => false | _ => true) = true := by rfl) (hl : es.length < 30 := by decide) (hline : (ap.endLine == p.line) = true := by rfl) :
    Ev G A env σ (.Call (.Attribute o "find" ap) es [] p) K := ev_meth "str" "str.find" PySem.F.plainAttrs_str PySem.F.slot_str_find PySem.F.type_str_find h hbase hs hl hline
theorem ev_m_replace (h : Ev G A env σ o fun d σ₁ => IsT G env.locals σ₁ d "str" ∧ Evs G A env p σ₁ es fun as σ₂ => Call G A env.locals σ₂ (.builtin "str.replace") (d :: as) K)
    (hbase : attributeBase o "replace" env (eval o env) = eval o env := by rfl) (hs : es.all (fun e => match e with | .Starred .. => false | _ => true) = true := by rfl) (hl : es.length < 30 := by decide) (hline : (ap.endLine == p.line) = true := by rfl) :
    Ev G A env σ (.Call (.Attribute o "replace" ap) es [] p) K := ev_meth "str" "str.replace" PySem.F.plainAttrs_str PySem.F.slot_str_replace PySem.F.type_str_replace h hbase hs hl hline
theorem ev_m_translate (h : Ev G A env σ o fun d σ₁ => IsT G env.locals σ₁ d "str" ∧ Evs G A env p σ₁ es fun as σ₂ => Call G A env.locals σ₂ (.builtin "str.translate") (d :: as) K)
    (hbase : attributeBase o "translate" env (eval o env) = eval o env := by rfl) (hs : es.all (fun e => match e with | .Starred .. => false | _ => true) = true := by rfl) (hl : es.length < 30 := by decide) (hline : (ap.endLine == p.line) = true := by rfl) :
    Ev G A env σ (.Call (.Attribute o "translate" ap) es [] p) K := ev_meth "str" "str.translate" PySem.F.plainAttrs_str PySem.F.slot_str_translate PySem.F.type_str_translate h hbase hs hl hline
theorem ev_m_append (h : Ev G A env σ o fun d σ₁ => IsT G env.locals σ₁ d "list" ∧ Evs G A env p σ₁ es fun as σ₂ => Call G A env.locals σ₂ (.builtin "list.append") (d :: as) K)
    (hbase : attributeBase o "append" env (eval o env) = eval o env := by rfl) (hs : es.all (fun e => match e with | .Starred .. => false | _ => true) = true := by rfl) (hl : es.length < 30 := by decide) (hline : (ap.endLine == p.line) = true := by rfl) :
    Ev G A env σ (.Call (.Attribute o "append" ap) es [] p) K := ev_meth "list" "list.append" PySem.F.plainAttrs_list PySem.F.slot_list_append PySem.F.type_list_append h hbase hs hl hline
theorem ev_m_pop (h : Ev G A env σ o fun d σ₁ => IsT G env.locals σ₁ d "list" ∧ Evs G A env p σ₁ es fun as σ₂ => Call G A env.locals σ₂ (.builtin "list.pop") (d :: as) K)
    (hbase : attributeBase o "pop" env (eval o env) = eval o env := by rfl) (hs : es.all (fun e => match e with | .Starred .. => false | _ => true) = true := by rfl) (hl : es.length < 30 := by decide) (hline : (ap.endLine == p.line) = true := by rfl) :
    Ev G A env σ (.Call (.Attribute o "pop" ap) es [] p) K := ev_meth "list" "list.pop" PySem.F.plainAttrs_list PySem.F.slot_list_pop PySem.F.type_list_pop h hbase hs hl hline
end
@[elab_as_elim] theorem lt6 {P : Nat → Prop} {n : Nat} (h : n < 6) (h0 : P 0) (h1 : P 1) (h2 : P 2) (h3 : P 3) (h4 : P 4) (h5 : P 5) : P n := by
  obtain rfl | rfl | rfl | rfl | rfl | rfl : n = 0 ∨ n = 1 ∨ n = 2 ∨ n = 3 ∨ n = 4 ∨ n = 5 := by omega
  all_goals assumption
@[elab_as_elim] theorem lt7 {P : Nat → Prop} {n : Nat} (h : n < 7) (h0 : P 0) (h1 : P 1) (h2 : P 2) (h3 : P 3) (h4 : P 4) (h5 : P 5) (h6 : P 6) : P n := by
  by_cases e : n = 6
  · subst e; exact h6
  · exact lt6 (P := P) (n := n) (by omega) h0 h1 h2 h3 h4 h5
@[elab_as_elim] theorem lt8 {P : Nat → Prop} {n : Nat} (h : n < 8) (h0 : P 0) (h1 : P 1) (h2 : P 2) (h3 : P 3) (h4 : P 4) (h5 : P 5) (h6 : P 6) (h7 : P 7) : P n := by
  by_cases e : n = 7
  · subst e; exact h7
  · exact lt7 (P := P) (n := n) (by omega) h0 h1 h2 h3 h4 h5 h6
theorem ar1 {P : List Value → Prop} (h : ∀ a, P [a]) : ∀ vs : List Value, vs.length = 1 → P vs
  | [a], _ => h a
theorem ar2 {P : List Value → Prop} (h : ∀ a b, P [a, b]) : ∀ vs : List Value, vs.length = 2 → P vs
  | [a, b], _ => h a b
theorem ar3 {P : List Value → Prop} (h : ∀ a b c, P [a, b, c]) : ∀ vs : List Value, vs.length = 3 → P vs
  | [a, b, c], _ => h a b c
theorem ar4 {P : List Value → Prop} (h : ∀ a b c d, P [a, b, c, d]) : ∀ vs : List Value, vs.length = 4 → P vs
  | [a, b, c, d], _ => h a b c d
/-- a call of a name, of a method -/
noncomputable abbrev cN (x : String) {G : Gd} {A : Around} {env : Env} {σ : St} {q p : Pos} {as : List Expr} {kw : List Keyword} {K : Value → St → Prop} : Prop := Ev G A env σ (.Call (.Name (Str.ofString x) q) as kw p) K
noncomputable abbrev cM (x : String) {G : Gd} {A : Around} {env : Env} {σ : St} {o : Expr} {q p : Pos} {as : List Expr} {kw : List Keyword} {K : Value → St → Prop} : Prop := Ev G A env σ (.Call (.Attribute o (Str.ofString x) q) as kw p) K
noncomputable abbrev gEv (e : Expr) {G : Gd} {A : Around} {env : Env} {σ : St} {K : Value → St → Prop} : Prop := Ev G A env σ e K
noncomputable abbrev gEx1 (s : Stmt) {G : Gd} {A : Around} {env : Env} {σ : St} {K : Flow → St → Prop} : Prop := Ex1 G A env σ s K
noncomputable abbrev gEx (s : List Stmt) {G : Gd} {A : Around} {env : Env} {σ : St} {K : Flow → St → Prop} : Prop := Ex G A env σ s K
noncomputable abbrev gTr (e : Expr) {G : Gd} {A : Around} {env : Env} {σ : St} {K : Bool → St → Prop} : Prop := Tr G A env σ e K
noncomputable abbrev gCall (f : Value) (as : List Value) {G : Gd} {A : Around} {L : Addr} {σ : St} {K : Value → St → Prop} : Prop := Call G A L σ f as K
noncomputable abbrev gCmp (o : CmpOp) (a b : Value) {G : Gd} {A : Around} {L : Addr} {σ : St} {K : Value → St → Prop} : Prop := Cmp G A L σ o a b K
noncomputable abbrev gOp2 (o : Operator) (a b : Value) {G : Gd} {A : Around} {L : Addr} {σ : St} {K : Value → St → Prop} : Prop := Op2 G A L σ o a b K
noncomputable abbrev gSlc (a l u : Value) {G : Gd} {A : Around} {L : Addr} {σ : St} {K : Value → St → Prop} : Prop := Slc G A L σ a l u K
theorem slot_md_get : Slot "method_descriptor" "__get__" "method_descriptor.__get__" :=
  .of (owner := "method_descriptor") (n := "__get__") (by rw [typeLookup_type, builtinLookup_eq_fast]; kernel_rfl) (by decide +kernel) (by decide +kernel) (by decide +kernel)
    (by first | exact .inl (by decide +kernel) | exact .inr (by decide +kernel)) (by rw [isSubtype_type]; kernel_rfl)
theorem entry_md_get : entryFor table "method_descriptor.__get__" = some Builtin.«method_descriptor.__get__» := entryFor_of_tree (by kernel_rfl)
theorem args_md_get (a b c : Value) : argsOk "method_descriptor.__get__" ⟨[a, b, c], []⟩ := by unfold argsOk; kernel_rfl
theorem lk_list_append : typeLookup (.type "list") "append" = pure (some (.builtin "list.append")) := by rw [typeLookup_type, builtinLookup_eq_fast]; kernel_rfl
theorem lk_md_set : typeLookup (.type "method_descriptor") "__set__" = pure none := by rw [typeLookup_type, builtinLookup_eq_fast]; kernel_rfl
theorem lk_md_del : typeLookup (.type "method_descriptor") "__delete__" = pure none := by rw [typeLookup_type, builtinLookup_eq_fast]; kernel_rfl
theorem told_la : Manifest.toldItsClass.contains "list.append" = false := by decide +kernel
theorem sub_list_list : isSubtype (.type "list") (.type "list") = pure true := by rw [isSubtype_type]; kernel_rfl
section
variable {prog : Program} {w : World} {A : Around} {E : Value → Shared → Prop} {h : Heap} {g : Array GenState} {d : Drawn} {t : Nat} {os : OsState} {a : Addr} {o : Obj}
theorem get_append {R : Result → Shared → Prop} (hx : h.get? a = some o) (hc : o.cls = .type "list") (hq : R (.ok (.ret (.ref h.objs.size))) ⟨h.push (bobj "list.append" (.ref a)), g, d, t, os⟩) :
    codeAny (model prog w) A (.call (.builtin "method_descriptor.__get__") ⟨[.builtin "list.append", .ref a, .type "list"], []⟩) R ⟨h, g, d, t, os⟩ := by
  have hT : (⟨h, g, d, t, os⟩ : Shared).TypeIs (.ref a) "list" := ⟨_, hx, hc⟩
  have hT5 : (⟨h, g, d, t, os⟩ : Shared).TypeIs (.builtin "list.append") "method_descriptor" := PySem.F.type_list_append
  refine codeAny_call_builtin slot_md_get.plain entry_md_get (slot_md_get.check _ _ _ _ _ _ _ _ hT5 (args_md_get _ _ _) ?_)
  unfold Builtin.«method_descriptor.__get__»
  refine wpAny_bind (wpAny_of_eq (a := (.builtin "list.append", some (.ref a), some (.type "list"))) (by first | rfl | kernel_rfl) ?_)
  dsimp only
  rw [told_la]
  refine KFB.if_not (by decide) ?_
  refine wpAny_bind ?_
  refine wpAny_bind (wpAny_of_eq (a := (("append" : PySem.Str), .type "list")) (by first | rfl | kernel_rfl) ?_)
  dsimp only
  refine wpAny_bind (wpAny_isInstance hT sub_list_list ?_)
  refine KFB.if_not rfl ?_
  refine wpAny_pure ?_
  exact wpAny_bind (wpAny_newObj_type (wpAny_pure hq))
theorem entry_append {tk : Tok} {Q : PySem.Fin → Shared → Prop} {items : Array Value} {n : Nat} (hx : h.get? a = some { cls := .type "list", data := .seq items n }) (hq : Q (.done (.ret (.ref h.objs.size))) ⟨h.push (bobj "list.append" (.ref a)), g, d, t, os⟩) :
    wpAny (model prog w) A (Builtin.«object.__getattribute__» ⟨[.ref a, .str "append" tk], []⟩) Q E ⟨h, g, d, t, os⟩ := by
  have hT : (⟨h, g, d, t, os⟩ : Shared).TypeIs (.ref a) "list" := ⟨_, hx, rfl⟩
  have hT5 : (⟨h, g, d, t, os⟩ : Shared).TypeIs (.builtin "list.append") "method_descriptor" := PySem.F.type_list_append
  have f4 := lk_list_append
  have f5 := PySem.F.type_list_append
  have f6 := slot_md_get.lookup
  have f7 := lk_md_set
  have f8 := lk_md_del
  repeat (any_goals (first | assumption | wp_step))
  refine get_append hx rfl ?_
  repeat (any_goals (first | assumption | wp_step))
theorem call_ga_append {tk : Tok} {R : Result → Shared → Prop} {items : Array Value} {n : Nat} (hx : h.get? a = some { cls := .type "list", data := .seq items n }) (hq : R (.ok (.ret (.ref h.objs.size))) ⟨h.push (bobj "list.append" (.ref a)), g, d, t, os⟩) :
    codeAny (model prog w) A (.call (.builtin "list.__getattribute__") ⟨[.ref a, .str "append" tk], []⟩) R ⟨h, g, d, t, os⟩ :=
  codeAny_call_builtin PySem.F.slot_list_getattribute.plain PySem.F.entry_list_ga (PySem.F.slot_list_getattribute.check _ _ _ _ _ _ _ _ (show (⟨h, g, d, t, os⟩ : Shared).TypeIs (.ref a) "list" from ⟨_, hx, rfl⟩) (PySem.F.args_list_getattribute_2 _ _) (entry_append hx hq))
theorem getAttr_append {Q : Value → Shared → Prop} {items : Array Value} {n : Nat} (hx : h.get? a = some { cls := .type "list", data := .seq items n }) (hq : Q (.ref h.objs.size) ⟨h.push (bobj "list.append" (.ref a)), g, d, t + 1, os⟩) :
    wpAny (model prog w) A (getAttr (.ref a) "append" true) Q E ⟨h, g, d, t, os⟩ := by
  have hT : (⟨h, g, d, t, os⟩ : Shared).TypeIs (.ref a) "list" := ⟨_, hx, rfl⟩
  have f2 := PySem.F.slot_list_getattribute.lookup
  have f3 := PySem.F.slot_list_getattribute.bind (.ref a)
  unfold getAttr
  repeat (any_goals (first | assumption | wp_step))
  refine call_ga_append hx ?_
  repeat (any_goals (first | assumption | wp_step))
end
theorem G_mro_object : mroOf (.type "object") = pure [.type "object"] := PySem.F.mro_object
theorem G_lookup_object_new : typeLookup (.type "object") "__new__" = pure (some (.builtin "object.__new__")) := by rw [typeLookup_type, builtinLookup_eq_fast]; kernel_rfl
theorem G_slot_object_init : Slot "object" "__init__" "object.__init__" := PySem.F.slot_object_init
theorem G_entry_object_init : entryFor table "object.__init__" = some Builtin.«object.__init__» := PySem.F.entry_object_init
theorem G_args_object_init (a : Value) : argsOk "object.__init__" ⟨[a], []⟩ := PySem.F.args_object_init_1 a
theorem G_called_object : TypeCalled "object" "object.__new__" "object.__init__" :=
  ⟨by decide +kernel, by decide +kernel, ⟨_, _, G_mro_object⟩, madeBy_type G_mro_object G_lookup_object_new (by decide +kernel), by decide +kernel, by rw [isSubtype_type]; kernel_rfl, G_slot_object_init⟩
theorem G_typeCall_object : checkTypeCall "object" ⟨[], []⟩ = pure () := by kernel_rfl
theorem G_newCall_object : checkBuiltinCall "object.__new__" ⟨[.type "object"], []⟩ = pure () := by kernel_rfl
theorem G_plain_object_new : plainId "object.__new__" = true := by decide +kernel
theorem G_madeBy_object : Bind.madeBy (.type "object") = pure (some "object.__new__") := madeBy_type G_mro_object G_lookup_object_new (by decide +kernel)
theorem G_madeHere_object : Bind.madeHere "object.__new__" (.type "object") = pure () := by
  unfold Bind.madeHere
  have hs : Bind.staticBase (.type "object") = pure (.type "object") := by
    unfold Bind.staticBase
    simp only [G_mro_object, pure_bind, List.forIn_cons, G_madeBy_object]
    rfl
  rw [hs, pure_bind, G_madeBy_object, pure_bind]
  exact if_neg (by decide +kernel)
/-- a bare object -/
noncomputable def plainO : Obj := { cls := .type "object", data := .plain }
section
variable {prog : Program} {w : World} {A : Around} {E : Value → Shared → Prop} {s : Shared}
theorem code_object_new {Q₁ : Value → Shared → Prop} (h : Q₁ (.ref s.heap.objs.size) { s with heap := s.heap.push plainO }) :
    codeAny (model prog w) A (.call (.builtin "object.__new__") ⟨[.type "object"], []⟩) (wants Q₁ E) s := by
  refine codeAny_call_builtin G_plain_object_new PySem.F.entry_object_new (wpAny_of_eq G_newCall_object ?_)
  have hmro := G_mro_object
  obtain ⟨hp, g, d, tk, os⟩ := s
  unfold Builtin.«object.__new__»
  have f2 := G_madeHere_object
  repeat (any_goals (first | assumption | wp_step))
theorem call_object0 {Q : Value → Shared → Prop} (h : Q (.ref s.heap.objs.size) { s with heap := s.heap.push plainO }) :
    wpAny (model prog w) A (call (.type "object") []) Q E s := by
  refine callType_codes (Q₁ := fun obj s₁ => obj = .ref s.heap.objs.size ∧ s₁ = { s with heap := s.heap.push plainO }) G_called_object G_typeCall_object G_entry_object_init (code_object_new ⟨rfl, rfl⟩) ?_
  rintro obj s₁ ⟨rfl, rfl⟩
  refine ⟨⟨_, Heap.get?_push_size _ rfl, rfl⟩, G_args_object_init _, ?_⟩
  exact wpAny_pure ⟨rfl, h⟩
end
section
variable {G : Gd} {A : Around} {L : Addr} {env : Env} {σ : St} {K : Value → St → Prop} {KF : Flow → St → Prop} {KB : Bool → St → Prop}
theorem ev_append_of {x : Str} {xp p : Pos} (h : Lod G A env σ x fun v σ₁ => ∃ a ds, v = .ref a ∧ σ₁.has a (.list ds) ∧ ∀ u, K (.ref u) (σ₁.put u (.raw (bobj "list.append" (.ref a))))) (hd : (x == ("__debug__" : Str)) = false := by decide) : Ev G A env σ (.Attribute (.Name x xp) (Str.ofString "append") p) K := fun s q => by
  refine Attribute_Name_ (wpAny_mono ((ev_name h hd : Ev G A env σ (.Name x xp) _) s q) (fun v s₁ ⟨σ₁, x₁, y₁, a, ds, e1, ha, k₁⟩ => ?_) fun _ _ e => e)
  have := nv_ref e1; subst this
  obtain ⟨us, ⟨n, hl⟩, e⟩ := x₁.held ha
  refine getAttr_append (h := s₁.heap) (g := s₁.gens) (d := s₁.drawn) (t := s₁.toks) (os := s₁.os) hl ?_
  have up : ∀ b o, s₁.heap.get? b = some o → (s₁.heap.push (bobj "list.append" (.ref a))).get? b = some o := fun b o e => Heap.get?_push_of_some _ e
  exact ⟨_, x₁.add (t := s₁.toks + 1) (a := s₁.heap.objs.size) (o := .raw (bobj "list.append" (.ref a))) up (fresh_size _) (Heap.get?_push_size _ rfl), y₁.trans (.add up (fresh_size _)), k₁ _⟩
theorem call_object (h : ∀ a, K (.ref a) (σ.put a (.raw plainO))) : Call G A L σ (.type "object") [] K := fun vs hvs s q => by
  obtain rfl : vs = [] := by simpa using hvs
  refine call_object0 ?_
  have up : ∀ b o, s.heap.get? b = some o → (s.heap.push plainO).get? b = some o := fun b o e => Heap.get?_push_of_some _ e
  exact ⟨_, q.add (t := s.toks) (a := s.heap.objs.size) (o := .raw plainO) up (fresh_size _) (Heap.get?_push_size _ rfl), .add up (fresh_size _), h _⟩
/-- the parts of a formatted text -/
noncomputable def Jp (G : Gd) (A : Around) (env : Env) (σ : St) (out : List Nat) (es : List Expr) (K : Value → St → Prop) : Prop := T G A env.locals σ (joinParts ⟨out.toArray⟩ (evalEach es env)) fun v => K (nv v)
theorem ev_joined {v₁ v₂ : Expr} {rest : List Expr} {pos : Pos} (h : Jp G A env σ [] (v₁ :: v₂ :: rest) K) : Ev G A env σ (.JoinedStr (v₁ :: v₂ :: rest) pos) K := fun s q => JoinedStr_many (h s q)
theorem jp_nil {out : List Nat} (hz : out.length ≤ 1000000) (h : K (U out) σ) : Jp G A env σ out [] K := fun s q => joinParts_nil (Post.tok q h) (by show (Array.size _) ≤ _; rw [List.size_toArray, two24]; omega)
theorem jp_cons {out : List Nat} {e : Expr} {rest : List Expr} (h : Ev G A env σ e fun v σ₁ => ∃ y, v = U y ∧ out.length + y.length ≤ 1000000 ∧ Jp G A env σ₁ (out ++ y) rest K) (he : evalEach (e :: rest) env = eval e env :: evalEach rest env := by rfl) : Jp G A env σ out (e :: rest) K := fun s q => by
  show wpAny _ _ (joinParts ⟨out.toArray⟩ (evalEach (e :: rest) env)) _ _ _
  rw [he]
  refine joinParts_cons (wpAny_mono (h s q) (fun v s₁ ⟨σ₁, x₁, y₁, y, e1, hz, k₁⟩ => ?_) fun _ _ e => e)
  obtain ⟨t, rfl⟩ := nv_str e1
  dsimp only
  rw [u_append]
  exact ⟨by show (Array.size _) ≤ _; rw [List.size_toArray, two24, List.length_append]; omega, T.at k₁ x₁ y₁⟩
theorem ev_fmt {e : Expr} {p : Pos} (h : Ev G A env σ e fun v σ₁ => ∃ y, v = U y ∧ y.length ≤ 1000000 ∧ K (U y) σ₁) : Ev G A env σ (.FormattedValue e (-1) none p) K := fun s q => by
  refine FormattedValue_plain (wpAny_mono (h s q) (fun v s₁ ⟨σ₁, x₁, y₁, y, e1, hz, k₁⟩ => ?_) fun _ _ e => e)
  obtain ⟨t, rfl⟩ := nv_str e1
  exact formatField_str (fun t' tk => ⟨σ₁, x₁.tok tk, y₁.trans (.tok tk), k₁⟩) (by show (Array.size _) ≤ _; rw [List.size_toArray, two24]; omega)
end
theorem sub_key_lookup : isSubtype (.type "KeyError") (.type "LookupError") = pure true := by rw [isSubtype_type]; kernel_rfl
section
variable {prog : Program} {w : World} {A : Around} {E : Value → Shared → Prop} {s : Shared}
theorem look_hit {d : Addr} {f : Int → Option Value} {c : Nat} {x : PySem.Str} {t : Tok} {Q : Builtin.Str.Mapped → Shared → Prop} (hm : s.heap.MapOf (PySem.intKind prog w) d f) (hv : f c = some (.str x t)) (h : Q (.text x) { s with toks := s.toks + 1 + 1 }) :
    wpAny (model prog w) A (Builtin.Str.tableLookup (.ref d) c) Q E s := by
  unfold Builtin.Str.tableLookup
  refine wpAny_bind (wpAny_attempt (wpAny_bind (wpAny_mkInt ?_)))
  refine wpAny_getItem_of (knd := PySem.intKind prog w) (k := (c : Int)) (PySem.intKind_is prog w c _) hm hv ?_
  dsimp only
  repeat (any_goals (first | assumption | wp_step))
theorem look_miss {d : Addr} {f : Int → Option Value} {c : Nat} {Q : Builtin.Str.Mapped → Shared → Prop} (hh : A.handled = none) (hd : (d == sysModules) = false) (hm : s.heap.MapOf (PySem.intKind prog w) d f) (hv : f c = none) (h : ∀ h' tk, (∀ b o, s.heap.get? b = some o → h'.get? b = some o) → Q .keep { s with heap := h', toks := tk }) :
    wpAny (model prog w) A (Builtin.Str.tableLookup (.ref d) c) Q E s := by
  unfold Builtin.Str.tableLookup
  refine wpAny_bind (wpAny_attempt (wpAny_bind (wpAny_mkInt ?_)))
  refine wpAny_getItem_missing_of (knd := PySem.intKind prog w) (k := (c : Int)) (PySem.intKind_is prog w c _) hd hh hm hv fun h' e hne => ?_
  dsimp only
  obtain ⟨ob, tt, ho, hc, hdd⟩ := hne.there
  refine wpAny_bind (wpAny_isInstance (T := "KeyError") ⟨_, ho, hc⟩ sub_key_lookup ?_)
  refine KFB.if_so rfl ?_
  refine wpAny_bind (wpAny_rule (wpAny_pure ?_))
  exact h _ _ hne.keeps
end
section
variable {prog : Program} {w : World} {A : Around} {E : Value → Shared → Prop} {s : Shared}
theorem trans_hit {d : Addr} {f : Int → Option Value} {c : Nat} {t t' : Tok} {Q : Value → Shared → Prop} (hc : c < 128) (hm : s.heap.MapOf (PySem.intKind prog w) d f) (hv : f c = some (.str ⟨#[92, c]⟩ t')) (h : ∀ u tk, Q (.str ⟨#[92, c]⟩ u) { s with toks := tk }) :
    wpAny (model prog w) A (call (.builtin "str.translate") [.str ⟨#[c]⟩ t, .ref d]) Q E s := by
  refine wpAny_call_entry PySem.F.slot_str_translate (typeIs_str _ _ _) PySem.F.entry_str_translate ?_ (PySem.F.args_str_translate_2 _ _)
  unfold Builtin.«str.translate»
  refine wpAny_bind (wpAny_of_eq (a := (.str ⟨#[c]⟩ t, ⟨#[c]⟩, .ref d)) rfl ?_)
  dsimp only
  refine KFB.if_not rfl ?_
  have e1 : (#[c] : Array Nat).all (fun x => decide (x < 128)) = true := by simp [hc]
  rw [e1]
  refine wpAny_bind ?_
  rw [← Array.forIn_toList]
  show wpAny _ _ (forIn [c] _ _) _ _ _
  rw [List.forIn_cons]
  refine wpAny_bind ?_
  refine KFB.if_not rfl ?_
  refine KFB.if_so rfl ?_
  refine wpAny_bind (look_hit hm hv ?_)
  dsimp only
  have e2 : ((⟨#[92, c]⟩ : PySem.Str).length == 1 && (#[92, c] : Array Nat).all fun x => decide (x < 128)) = false := by
    rw [show (⟨#[92, c]⟩ : PySem.Str).length = 2 from rfl]; rfl
  rw [e2]
  simp only [Bool.false_eq_true, if_false]
  refine wpAny_bind (wpAny_pure ?_)
  dsimp only
  refine wpAny_bind (wpAny_rule ?_)
  refine wpAny_bind (look_hit (s := { s with toks := s.toks + 1 + 1 }) hm hv ?_)
  dsimp only
  refine wpAny_pure ?_
  dsimp only
  rw [List.forIn_nil]
  refine wpAny_pure ?_
  dsimp only
  refine KFB.if_not rfl ?_
  exact wpAny_bind (wpAny_mkStr (wpAny_pure ⟨_, rfl, h _ _⟩) (by show (2 : Nat) ≤ _; decide))
theorem trans_miss {d : Addr} {f : Int → Option Value} {c : Nat} {t : Tok} {Q : Value → Shared → Prop} (hc : c < 128) (hh : A.handled = none) (hd : (d == sysModules) = false) (hm : s.heap.MapOf (PySem.intKind prog w) d f) (hv : f c = none)
    (h : ∀ u h' tk, (∀ b o, s.heap.get? b = some o → h'.get? b = some o) → Q (.str ⟨#[c]⟩ u) { s with heap := h', toks := tk }) :
    wpAny (model prog w) A (call (.builtin "str.translate") [.str ⟨#[c]⟩ t, .ref d]) Q E s := by
  refine wpAny_call_entry PySem.F.slot_str_translate (typeIs_str _ _ _) PySem.F.entry_str_translate ?_ (PySem.F.args_str_translate_2 _ _)
  unfold Builtin.«str.translate»
  refine wpAny_bind (wpAny_of_eq (a := (.str ⟨#[c]⟩ t, ⟨#[c]⟩, .ref d)) rfl ?_)
  dsimp only
  refine KFB.if_not rfl ?_
  have e1 : (#[c] : Array Nat).all (fun x => decide (x < 128)) = true := by simp [hc]
  rw [e1]
  refine wpAny_bind ?_
  rw [← Array.forIn_toList]
  show wpAny _ _ (forIn [c] _ _) _ _ _
  rw [List.forIn_cons]
  refine wpAny_bind ?_
  refine KFB.if_not rfl ?_
  refine KFB.if_so rfl ?_
  refine wpAny_bind (look_miss (by exact hh) hd hm hv fun h' tk kk => ?_)
  dsimp only
  refine wpAny_bind (wpAny_pure ?_)
  dsimp only
  refine wpAny_pure ?_
  dsimp only
  rw [List.forIn_nil]
  refine wpAny_pure ?_
  dsimp only
  refine KFB.if_not rfl ?_
  exact wpAny_bind (wpAny_mkStr (wpAny_pure ⟨_, rfl, h _ _ _ kk⟩) (by show (1 : Nat) ≤ _; decide))
end
set_option compiler.extract_closed false
local macro_rules | `(tactic| walk_at "memk") => `(tactic| first | exact .head _ | (refine .tail _ ?_; walk_at "memk"))
local macro_rules | `(tactic| walk_at "mem") => `(tactic| first | (refine .inl ?_; walk_at "memk") | (refine .inr ?_; walk_at "memk"))
local macro_rules | `(tactic| walk_at "knt") => `(tactic| first | assumption | (refine .tail _ ?_; walk_at "knt"))
local macro_rules | `(tactic| walk_at "kn") => `(tactic| first
  | exact fun p hp => .inr hp
  | ((repeat (refine List.forall_mem_cons.mpr ⟨by walk_at "mem", ?_⟩)); first
    | (refine fun p hp => .inr ?_; walk_at "knt")
    | exact fun p hp => nomatch hp))
local macro_rules | `(tactic| walk_at "le") => `(tactic| exact le_of (by repeat (first | exact trivial | refine ⟨rfl, ?_⟩)) rfl (by walk_at "kn"))
local macro_rules | `(tactic| walk_at "go1") => `(tactic| first
  | (guard_target = gEv (.Name ..); (first
      | refine ev_name (lod_local (by rfl) ?_)
      | refine ev_name (lod_cell (by rfl) (by walk_at "mem") ?_)
      | refine ev_name (lod_free (by rfl) (by walk_at "mem") ?_)
      | (guard_target = gEv (.Name (Str.ofString "str") _); refine ev_n_str (by assumption) ?_)
      | (guard_target = gEv (.Name (Str.ofString "bytes") _); refine ev_n_bytes (by assumption) ?_)))
  | (guard_target = cM "startswith"; refine ev_m_startswith ?_)
  | (guard_target = cM "endswith"; refine ev_m_endswith ?_)
  | (guard_target = cM "split"; refine ev_m_split ?_)
  | (guard_target = cM "join"; refine ev_m_join ?_)
  | (guard_target = cM "index"; refine ev_m_index ?_)
  | (guard_target = cM "find"; refine ev_m_find ?_)
  | (guard_target = cM "replace"; refine ev_m_replace ?_)
  | (guard_target = cM "translate"; refine ev_m_translate ?_)
  | (guard_target = cM "append"; refine ev_m_append ?_)
  | (guard_target = cM "pop"; refine ev_m_pop ?_)
  | (guard_target = IsT _ _ _ (.str _ _) _ ∧ _; refine ⟨isT_str, ?_⟩)
  | (guard_target = IsT _ _ _ (.ref _) "list" ∧ _; refine ⟨isT_list (by walk_at "mem"), ?_⟩)
  | (guard_target = gCall (.builtin "str.startswith") [.str _ _, .str _ _]; refine call_startswith ?_)
  | (guard_target = gCall (.builtin "str.endswith") [.str _ _, .str _ _]; refine call_endswith ?_)
  | (guard_target = gEx1 (.Assign [.Tuple _ _ _] (.Call ..) _); refine ex_unpack ?_)
  | (guard_target = gEx1 (.Assign [.Subscript _ _ _] _ _); refine ex_setitem ?_)
  | (guard_target = Stos _ _ _ _ (_ :: _) (_ :: _) _; refine stos_cons ?_)
  | (guard_target = Stos _ _ _ _ [] [] _; refine stos_nil ?_)
  | (guard_target = Asgs _ _ _ _ [] [] _; refine asgs_nil ?_)
  | (guard_target = gEv (.Call (.Name ..) _ _ _); (first
      | (guard_target = cN "isinstance"; refine ev_b_isinstance (by assumption) ?_)
      | (guard_target = cN "issubclass"; refine ev_b_issubclass (by assumption) ?_)
      | (guard_target = cN "type"; refine ev_b_type (by assumption) ?_)
      | (guard_target = cN "len"; refine ev_b_len (by assumption) ?_)
      | (guard_target = cN "list"; refine ev_b_list (by assumption) ?_)
      | (guard_target = cN "int"; refine ev_b_int (by assumption) ?_)
      | (guard_target = cN "sum"; refine ev_b_sum (by assumption) ?_)
      | (guard_target = cN "min"; refine ev_b_min (by assumption) ?_)
      | (guard_target = cN "range"; refine ev_b_range (by assumption) ?_)
      | (guard_target = cN "object"; refine ev_b_object (by assumption) ?_)
      | (guard_target = cN "_deduplicate"; refine ev_f_u_deduplicate (by assumption) ?_)
      | (guard_target = cN "translate"; refine ev_f_translate (by assumption) ?_)
      | (guard_target = cN "escape"; refine ev_f_escape (by assumption) ?_)
      | (guard_target = cN "_translate"; refine ev_f_u_translate (by assumption) ?_)
      | (guard_target = cN "_join_translated_parts"; refine ev_f_u_join_translated_parts (by assumption) ?_)
      | (guard_target = cN "fspath"; refine ev_f_fspath (by assumption) ?_)
      | (guard_target = cN "_get_sep"; refine ev_f_u_get_sep (by assumption) ?_)
      | (guard_target = cN "join"; refine ev_f_join (by assumption) ?_)
      | (guard_target = cN "splitroot"; refine ev_f_splitroot (by assumption) ?_)
      | (guard_target = cN "normpath"; refine ev_f_normpath (by assumption) ?_)
      | (guard_target = cN "_law_item"; refine ev_f_u_law_item (by assumption) ?_)
      | (guard_target = cN "_law_items"; refine ev_f_u_law_items (by assumption) ?_)
      | (guard_target = cN "_law_takes"; refine ev_f_u_law_takes (by assumption) ?_)
      | (guard_target = cN "_law_deed"; refine ev_f_u_law_deed (by assumption) ?_)
      | (guard_target = cN "_law_session"; refine ev_f_u_law_session (by assumption) ?_)
      | (guard_target = cN "_law_moved"; refine ev_f_u_law_moved (by assumption) ?_)
      | (guard_target = cN "_law_meant"; refine ev_f_u_law_meant (by assumption) ?_)
      | (guard_target = cN "_law_latest"; refine ev_f_u_law_latest (by assumption) ?_)
      | (guard_target = cN "_law_twin"; refine ev_f_u_law_twin (by assumption) ?_)
      | (guard_target = cN "_law_paths"; refine ev_f_u_law_paths (by assumption) ?_)))
  | (guard_target = gEv _; (first
      | (guard_target = gEv (.Constant ..); first | refine ev_int ?_ | refine ev_lit ?_ | refine ev_bool ?_)
      | (guard_target = gEv (.Subscript _ (.Slice _ _ none _) _); refine ev_slice ?_)
      | (guard_target = gEv (.Subscript ..); refine ev_sub ?_)
      | (guard_target = gEv (.Tuple ..); refine ev_tuple ?_)
      | (guard_target = gEv (.List ..); refine ev_list ?_)
      | (guard_target = gEv (.BinOp ..); refine ev_binop ?_)
      | (guard_target = gEv (.UnaryOp ..); refine ev_unop ?_)
      | (guard_target = gEv (.Compare _ [_] [_] _); refine ev_cmp ?_)
      | (guard_target = gEv (.IfExp ..); refine ev_ifexp ?_)
      | (guard_target = gEv (.BoolOp .And [_, _] _); refine ev_and ?_)
      | (guard_target = gEv (.BoolOp .Or [_, _] _); refine ev_or ?_)))
  | (guard_target = Evs _ _ _ _ _ [] _; refine evs_nil ?_)
  | (guard_target = Evs _ _ _ _ _ (_ :: _) _; refine evs_cons ?_)
  | (guard_target = Evo ..; first | refine evo_none ?_ | refine evo_some ?_)
  | (guard_target = gEx []; refine ex_nil ?_)
  | (guard_target = gEx (_ :: _); refine ex_cons ?_)
  | (guard_target = Tsts _ _ _ _ [] _; refine tsts_nil ?_)
  | (guard_target = Tsts _ _ _ _ [_] _; refine tsts_one ?_)
  | (guard_target = ForT _ _ _ _ _ [] _ _; refine forT_nil ?_)
  | (guard_target = ForT _ _ _ _ _ (_ :: _) _ _; refine forT_cons ?_)
  | (guard_target = Fx ..; refine fx_next ?_)
  | (guard_target = Wx ..; first | refine wx_next ?_ | refine wx_brk ?_)
  | (guard_target = Nx ..; first | refine nx_next ?_ | refine nx_ret ?_ | refine nx_brk ?_ | refine nx_cont ?_)
  | (guard_target = gEx1 (.Assign [.Name _ _] _ _); refine ex_assign ?_)
  | (guard_target = gEx1 (.AugAssign ..); refine ex_aug ?_)
  | (guard_target = gEx1 (.Expr ..); refine ex_expr ?_)
  | (guard_target = gEx1 (.If ..); refine ex_if ?_)
  | (guard_target = gEx1 (.Return (some _) _); refine ex_return ?_)
  | (guard_target = gEx1 (.Assert ..); refine ex_assert ?_)
  | (guard_target = gEx1 (.Break _); refine ex_break ?_)
  | (guard_target = gEx1 (.Continue _); refine ex_continue ?_)
  | (guard_target = gTr (.UnaryOp .Not _ _); refine tr_not ?_)
  | (guard_target = gTr (.BoolOp ..); refine tr_bool ?_)
  | (guard_target = gTr (.Compare _ [_] [_] _); refine tr_cmp ?_)
  | (guard_target = gTr _; refine tr_val ?_)
  | (guard_target = Trs _ _ _ _ _ _ _; first | refine trs_and ?_ | refine trs_or ?_ | refine trs_and_nil ?_ | refine trs_or_nil ?_)
  | (guard_target = Lod ..; refine lod_local (by rfl) ?_)
  | (guard_target = Sto ..; first | refine sto_local ?_ | refine sto_cell 0 (by rfl) (by rfl) ?_ | refine sto_cell 1 (by rfl) (by rfl) ?_ | refine sto_cell 2 (by rfl) (by rfl) ?_ | refine sto_cell 3 (by rfl) (by rfl) ?_ | refine sto_cell 4 (by rfl) (by rfl) ?_ | refine sto_cell 5 (by rfl) (by rfl) ?_ | refine sto_cell 6 (by rfl) (by rfl) ?_ | refine sto_cell 7 (by rfl) (by rfl) ?_ | refine sto_cell 8 (by rfl) (by rfl) ?_ | refine sto_cell 9 (by rfl) (by rfl) ?_)
  | (guard_target = Asg _ _ _ _ (.Name ..) _ _; refine asg_name ?_)
  | (guard_target = Asgs _ _ _ _ (_ :: _) (_ :: _) _; refine asgs_cons ?_)
  | (guard_target = gCmp .In (.str _ _) (.str _ _); refine cmp_in_sign ?_)
  | (guard_target = gCmp .NotIn (.str _ _) (.str _ _); refine cmp_notin_sign ?_)
  | (guard_target = Unop _ _ _ _ .USub (.int _ _) _; refine unop_neg ?_)
  | (guard_target = gSlc (.str _ _) .none (.int _ _); refine slc_str none (some _) (by first | omega | (simp; omega)) ?_)
  | (guard_target = gSlc (.str _ _) (.int _ _) .none; refine slc_str (some _) none (by first | omega | (simp; omega)) ?_)
  | (guard_target = gSlc (.str _ _) (.int _ _) (.int _ _); refine slc_str (some _) (some _) (by first | omega | (simp; omega)) ?_)
  | (guard_target = gCall (.type "int") [.int _ _]; refine call_int ?_)
  | (guard_target = gCall (.builtin "len") [.str _ _]; refine call_len_str (by first | omega | (simp; omega)) ?_)
  | (guard_target = gCall (.type "range") [.int _ _, .int _ _]; refine call_range2 fun _ _ _ _ => ?_)
  | (guard_target = gCmp .Lt (.int _ _) (.int _ _); refine cmp_lt_int ?_)
  | (guard_target = gCmp .GtE (.int _ _) (.int _ _); refine cmp_ge_int ?_)
  | (guard_target = gCmp .Eq (.int _ _) (.int _ _); refine cmp_eq_int ?_)
  | (guard_target = gCmp .Eq (.str _ _) (.str _ _); refine cmp_eq_str ?_)
  | (guard_target = gCmp .NotEq (.str _ _) (.str _ _); refine cmp_ne_str ?_)
  | (guard_target = gCmp .Eq (.bool _) (.bool _); refine cmp_eq_bool ?_)
  | (guard_target = Tru _ _ _ _ (.bool _) _; refine tru_bool ?_)
  | (guard_target = gOp2 .Add (.int _ _) (.int _ _); refine op_add_int ?_)
  | (guard_target = gOp2 .Sub (.int _ _) (.int _ _); refine op_sub_int ?_)
  | (guard_target = gOp2 .FloorDiv (.int _ _) (.int _ _); (refine op_floordiv_int ?fd1 ?_ ?fd2; (case fd1 => decide); (case fd2 => exact PyProof.noPylong_small (by decide))))
  | (guard_target = gOp2 .Mod (.int _ _) (.int _ _); (refine op_mod_int ?fd1 ?_; (case fd1 => decide)))
  | (guard_target = Iop _ _ _ _ .Add (.int _ _) (.int _ _) _; refine iop_add_int ?_)
  | (guard_target = gCall (.builtin "isinstance") [.str _ _, .type "bytes"]; refine call_isinst_str_bytes ?_)
  | (guard_target = gCall (.type "type") [.str _ _]; refine call_type_str ?_))
local macro_rules | `(tactic| walk_at "go") => `(tactic| repeat walk_at "go1")
local macro_rules | `(tactic| walk_at "kind1") => `(tactic| (refine List.forall_mem_cons.mpr ⟨?_, ?_⟩; (first | exact .inl rfl | exact .inr ⟨rfl, rfl⟩)))
local macro_rules | `(tactic| walk_at "enter") => `(tactic| (
  case hc => kernel_rfl
  case hcT => intro c e; cases e; exact Law.off (by assumption)
  case bind => first | exact ar1 fun _ => rfl | exact ar2 fun _ _ => rfl | exact ar3 fun _ _ _ => rfl | exact ar4 fun _ _ _ _ => rfl
  case loc => decide
  case cell => decide
  case co => rfl
  case gen => rfl
  case k => rfl))
local macro_rules | `(tactic| walk_at "enterC") => `(tactic| (
  case hc => kernel_rfl
  case hcT => intro c e; cases e; exact Law.off (by assumption)
  case bind => first | exact ar1 fun _ => rfl | exact ar2 fun _ _ => rfl | exact ar3 fun _ _ _ => rfl | exact ar4 fun _ _ _ _ => rfl
  case clo => rfl
  case kind => intro n; walk_at "kind1"; first | exact fun _ h => absurd h List.not_mem_nil | (walk_at "kind1"; first | exact fun _ h => absurd h List.not_mem_nil | (walk_at "kind1"; exact fun _ h => absurd h List.not_mem_nil))
  case nd => intro n; exact of_decide_eq_true (by kernel_rfl)
  case ms => rfl
  case how => intro L'; rfl
  case co => rfl
  case gen => rfl
  case k => rfl))
set_option compiler.extract_closed true
section
variable {G : Gd} {mg mb : Str → Option Value} {A : Around} {env : Env} {L L' : Addr} {σ : St} {K : Value → St → Prop} {KF : Flow → St → Prop}
/-- a sign as a pattern says it -/
noncomputable def esc (c : Nat) : List Nat := if c ∈ [93, 45, 94] then [92, c] else [c]
theorem map67 (Λ : Law G mg mb) : ∃ f, G.h₀.MapOf (PySem.intKind G.prog G.w) 67 f ∧ (∀ c : Nat, c ∈ [93, 45, 94] → ∃ t, f c = some (.str ⟨#[92, c]⟩ t)) ∧ (∀ c : Nat, c ∈ [47, 33, 97] → f c = none) := by
  have ho := Λ.X 67 _ (by k_is)
  refine ⟨_, ⟨_, _, _, ho, ⟨rfl, rfl, rfl⟩, rfl, ?_, fun _ => rfl⟩, ?_, ?_⟩
  · intro e he
    simp only [List.mem_toArray, List.mem_cons, List.not_mem_nil, or_false] at he
    repeat (rcases he with rfl | he; (exact ⟨_, PySem.intKind_is _ _ _ _, by rfl⟩))
  · intro c hc
    simp only [List.mem_cons, List.not_mem_nil, or_false] at hc
    rcases hc with rfl | rfl | rfl
    · exact ⟨383, by rfl⟩
    · exact ⟨419, by rfl⟩
    · exact ⟨431, by rfl⟩
  · intro c hc
    simp only [List.mem_cons, List.not_mem_nil, or_false] at hc
    rcases hc with rfl | rfl | rfl <;> rfl
theorem gl_map (Λ : Law G mg mb) : mg "_special_chars_map" = some (.ref 67) := Λ.gl (by kernel_rfl)
theorem c_escape (Λ : Law G mg mb) {c : Nat} (hA : rm 1 A) (hc : c ∈ [93, 45, 94, 47, 33, 97]) (h : K (U (esc c)) σ) : Call G A L σ (.ref 77) [U [c]] K := by
  have ho := Λ.X 77 _ (by k_is)
  refine call_plain h ?_
  refine call_def ["pattern"] [("pattern", U [c])] Λ.Γ ho Λ.off rfl rfl (Λ.code ?hc) ?hcT hA.d rfl ?bind ?loc rfl ?body ?cell ?co ?gen ?k
  walk_at "enter"
  clear ho; intro L' env
  walk_at "go"
  refine call_isinst_str_str ?_
  walk_at "go"
  refine ift rfl ?_
  walk_at "go"
  refine ev_name (lod_glob Λ.Γ (gl_map Λ) ?_)
  walk_at "go"
  intro vs hvs s q
  obtain ⟨v, u, rfl, hv, hu⟩ := two_of hvs
  obtain ⟨t, rfl⟩ := nv_str hv
  have := nv_ref hu; subst this
  obtain ⟨f, hm, h1, h2⟩ := map67 Λ
  have hm' : s.heap.MapOf (PySem.intKind G.prog G.w) 67 f := by
    obtain ⟨o, es, ep, ho, r⟩ := hm
    exact ⟨o, es, ep, q.base _ _ ho Λ.off, r⟩
  by_cases hh : c ∈ [93, 45, 94]
  · obtain ⟨t', ht⟩ := h1 c hh
    refine trans_hit (by simp at hh; omega) hm' ht fun u tk => ?_
    exact ⟨_, q.tok tk, .tok tk, by show _ = _ ∧ _; exact ⟨by unfold esc; rw [if_pos hh]; rfl, _, rfl⟩⟩
  · have hcc : c ∈ [47, 33, 97] := by simp at hh hc ⊢; omega
    refine trans_miss (by simp at hcc; omega) hA.h (by decide) hm' (h2 c hcc) fun u h' tk kk => ?_
    exact ⟨_, q.keeps (t := tk) (g := s.gens) kk, .keeps kk, by show _ = _ ∧ _; exact ⟨by unfold esc; rw [if_neg hh]; rfl, _, rfl⟩⟩
end
/-- the pattern's run, turn by turn -/
noncomputable def drv : Nat → Sre.M → Option Sre.M
  | 0, _ => none
  | k + 1, m => if (m.runFor Builtin.Re.reTurnSteps).outcome.isSome then some (m.runFor Builtin.Re.reTurnSteps) else drv k (m.runFor Builtin.Re.reTurnSteps)
noncomputable def fails (m : Sre.M) : Bool := match (drv 60 m).bind (·.outcome) with
  | some .failed => true
  | _ => false
section
variable {prog : Program} {w : World} {A : Around} {E : Value → Shared → Prop} {s : Shared} {M : Model}
theorem drive_ok : ∀ (k : Nat) (m m' : Sre.M) (n : Nat) {Q : Sre.M → Shared → Prop}, drv k m = some m' → k ≤ n → Q m' s → wpAny M A (Builtin.Re.reDrive n m) Q E s
  | 0, m, m', n, Q, h, _, _ => by simp [drv] at h
  | k + 1, m, m', 0, Q, h, hk, _ => by omega
  | k + 1, m, m', n + 1, Q, h, hk, hq => by
    unfold drv at h
    unfold Builtin.Re.reDrive
    dsimp only
    by_cases ho : (m.runFor Builtin.Re.reTurnSteps).outcome.isSome = true
    · rw [if_pos ho] at h
      cases h
      refine KFB.if_so ho (wpAny_pure hq)
    · rw [if_neg ho] at h
      refine KFB.if_not (by simpa using ho) ?_
      exact wpAny_bind (wpAny_rule (drive_ok k _ m' n h (by omega) hq))
theorem rules_ok (m : Sre.M) {Q : PUnit → Shared → Prop} (hq : Q ⟨⟩ s) : ∀ (l : List Nat), wpAny M A (forIn l PUnit.unit fun i r => if (m.seen.has i) = true then do rule (Sre.names.getD i ""); pure (ForInStep.yield PUnit.unit) else pure (ForInStep.yield PUnit.unit)) Q E s
  | [] => wpAny_pure hq
  | i :: l => by
    rw [List.forIn_cons]
    refine wpAny_bind ?_
    by_cases h : (m.seen.has i) = true
    · exact KFB.if_so h (wpAny_bind (wpAny_rule (wpAny_pure (rules_ok m hq l))))
    · exact KFB.if_not (by simpa using h) (wpAny_pure (rules_ok m hq l))
theorem run_fails {m : Sre.M} {Q : Option Sre.M → Shared → Prop} (hf : fails m = true) (hq : Q none s) : wpAny M A (Builtin.Re.reRunToEnd m) Q E s := by
  unfold fails at hf
  cases hd : drv 60 m with
  | none => rw [hd] at hf; simp at hf
  | some m' =>
    rw [hd] at hf
    unfold Builtin.Re.reRunToEnd
    refine wpAny_bind (drive_ok 60 m m' (2 ^ 64) hd (by decide) ?_)
    refine wpAny_bind (rules_ok m' ?_ _)
    cases ho : m'.outcome with
    | none => simp [ho] at hf
    | some o =>
      cases o with
      | failed => exact wpAny_pure hq
      | matched => simp [ho] at hf
      | stuck y => simp [ho] at hf
end
noncomputable def reCode : List Nat := [14, 14, 4, 1, 1, 9, 0, 64, 0, 1342177280, 0, 0, 0, 0, 0, 17, 0, 13, 11, 9, 0, 64, 0, 1342177280, 0, 0, 0, 0, 0, 17, 1, 1]
/-- the texts within brackets -/
noncomputable def inner : List (List Nat) := [[42], [63], [91], [33, 42], [33, 91], [33, 63], [33, 93], [33, 92, 45], [33, 33], [33, 94], [33, 97]]
theorem inner_fails : ∀ x ∈ inner, fails (Sre.forSearch reCode.toArray x.toArray 1 0 x.length false) = true := by decide +kernel
theorem type_function_call : typeLookup (.type "function") "__call__" = pure (some (.builtin "function.__call__")) := by rw [typeLookup_type, builtinLookup_eq_fast]; kernel_rfl
theorem entry_sub : entryFor table "re.Pattern.sub" = some Builtin.«re.Pattern.sub» := entryFor_of_tree (by kernel_rfl)
theorem entry_subl : entryFor table "re.Pattern.sub.loop" = some Builtin.«re.Pattern.sub.loop» := entryFor_of_tree (by kernel_rfl)
theorem slot_sub : Slot "re.Pattern" "sub" "re.Pattern.sub" :=
  .of (owner := "re.Pattern") (n := "sub") (by rw [typeLookup_type, builtinLookup_eq_fast]; kernel_rfl) (by decide +kernel) (by decide +kernel) (by decide +kernel)
    (by first | exact .inl (by decide +kernel) | exact .inr (by decide +kernel)) (by rw [isSubtype_type]; kernel_rfl)
theorem type_sub : typeOf (.builtin "re.Pattern.sub") = pure (.type "method_descriptor") := by show builtinType _ = _; rw [builtinType_eq_fast]; kernel_rfl
theorem args_sub (a b c : Value) : argsOk "re.Pattern.sub" ⟨[a, b, c], []⟩ := by unfold argsOk; kernel_rfl
noncomputable def rePat (a : Addr) (t t1 t2 t3 : Tok) : Obj := { cls := .type "re.Pattern", data := .fields #[.str (Str.ofString "([&~|])") t, .int 32 t1, .int 1 t2, .none, .none, .ref a, .int 0 t3] }
theorem plainAttrs_pat : PlainAttrs "re.Pattern" :=
  ⟨⟨"object.__getattribute__", by rw [typeLookup_type, builtinLookup_eq_fast]; kernel_rfl, by decide +kernel⟩, by rw [typeLookup_type, builtinLookup_eq_fast]; kernel_rfl⟩
section
variable {prog : Program} {w : World} {A : Around} {E : Value → Shared → Prop} {s : Shared} {M : Model}
theorem whole_ok {P a : Addr} {t t1 t2 t3 : Tok} {n : Nat} {cs : List Value} {x : List Nat} {u : Tok} {Q : Builtin.Re.ReTarget → Shared → Prop}
    (hp : s.heap.get? P = some (rePat a t t1 t2 t3)) (ha : s.heap.get? a = some { cls := .type "tuple", data := .seq cs.toArray n }) (hcs : cs.map Builtin.Re.reRawOf = reCode.map fun k : Nat => (k : Int))
    (h : Q { pattern := .ref P, string := .str ⟨x.toArray⟩ u, code := reCode.toArray, text := x.toArray, kind := 0, groups := 1, pos := 0, lim := x.length } s) :
    wpAny (model prog w) A (Builtin.Re.reWholeTarget (.ref P) (.str ⟨x.toArray⟩ u)) Q E s := by
  unfold Builtin.Re.reWholeTarget
  repeat (any_goals (first | assumption | wp_step))
  have e1 : Array.map (fun x => x.toNat) (Array.map Builtin.Re.reRawOf cs.toArray) = reCode.toArray := by
    rw [List.map_toArray, List.map_toArray, hcs, List.map_map]
    rfl
  show Q _ s
  have e2 : (⟨x.toArray⟩ : PySem.Str).cps.size = x.length := by simp
  show Q { pattern := .ref P, string := .str ⟨x.toArray⟩ u, code := Array.map (fun x => x.toNat) (Array.map Builtin.Re.reRawOf cs.toArray), text := x.toArray, kind := 0, groups := 1, pos := 0, lim := (⟨x.toArray⟩ : PySem.Str).cps.size } s
  rw [e1, e2]
  exact h
theorem slice_ok {x : List Nat} {Q : Value → Shared → Prop} (hx : x.length ≤ 100) (h : Q (.str ⟨x.toArray⟩ s.toks) { s with toks := s.toks + 1 }) : wpAny M A (Builtin.Re.reSlice x.toArray 0 0 x.length) Q E s := by
  unfold Builtin.Re.reSlice
  refine KFB.if_so rfl ?_
  have e : x.toArray.extract 0 x.length = x.toArray := by simp
  rw [e]
  exact wpAny_mkStr h (by show (Array.size _) ≤ _; rw [List.size_toArray, two24]; omega)
theorem slice_nil {x : List Nat} {Q : Value → Shared → Prop} (h : Q (.str ⟨[].toArray⟩ s.toks) { s with toks := s.toks + 1 }) : wpAny M A (Builtin.Re.reSlice x.toArray 0 0 0) Q E s := by
  unfold Builtin.Re.reSlice
  refine KFB.if_so rfl ?_
  have e : x.toArray.extract 0 0 = #[] := by simp
  rw [e]
  exact wpAny_mkStr h (by decide)
theorem subl_ok {P a f pl : Addr} {t t1 t2 t3 : Tok} {n k : Nat} {cs : List Value} {x : List Nat} {u : Tok} {R : Result → Shared → Prop}
    (hp : s.heap.get? P = some (rePat a t t1 t2 t3)) (ha : s.heap.get? a = some { cls := .type "tuple", data := .seq cs.toArray n }) (hcs : cs.map Builtin.Re.reRawOf = reCode.map fun k : Nat => (k : Int))
    (hpl : s.heap.get? pl = some { cls := .type "list", data := .seq #[] k }) (hx : x ∈ inner)
    (h : ∀ h' tk u', (∀ b o, b ≠ pl → s.heap.get? b = some o → h'.get? b = some o) → R (.ok (.ret (.str ⟨x.toArray⟩ u'))) { s with heap := h', toks := tk }) :
    codeAny (model prog w) A (.builtin "re.Pattern.sub.loop" ⟨[.ref P, .str ⟨x.toArray⟩ u, .ref f, rawInt 1, rawInt 0, rawInt 0, rawInt 0, rawInt 0, .bool false, .ref pl, .bool false], []⟩) R s := by
  refine codeAny_builtin entry_subl ?_
  unfold Builtin.«re.Pattern.sub.loop»
  dsimp only [rawInt]
  refine wpAny_bind (whole_ok hp ha hcs ?_)
  refine KFB.if_not rfl ?_
  dsimp only
  refine wpAny_bind (run_fails (inner_fails x hx) ?_)
  dsimp only
  have hxl : 0 < x.length := by
    have : ∀ y ∈ inner, 0 < y.length := by decide
    exact this x hx
  have hxl2 : x.length ≤ 3 := by
    have : ∀ y ∈ inner, y.length ≤ 3 := by decide
    exact this x hx
  rw [if_pos (by simpa using hxl)]
  refine wpAny_bind (slice_ok (by omega) ?_)
  refine wpAny_bind (wpAny_updateSeq hpl rfl ?_)
  refine wpAny_bind (slice_nil ?_)
  have hs : Heap.SameBut pl s.heap (s.heap.update pl (Obj.mapSeq (·.push (.str ⟨x.toArray⟩ s.toks)))) := Heap.SameBut.update ..
  have hl : (s.heap.update pl (Obj.mapSeq (·.push (.str ⟨x.toArray⟩ s.toks)))).get? pl = some { cls := .type "list", data := .seq #[.str ⟨x.toArray⟩ s.toks] (k + 1) } := by
    rw [Heap.get?_update_self _ hpl (by rw [Obj.mapSeq_push_plain]; rfl), Obj.mapSeq_push_plain]; rfl
  refine wpAny_bind (wpAny_seqItems hl rfl ?_)
  refine KFB.if_not rfl ?_
  refine wpAny_bind ?_
  show wpAny _ _ (call (.builtin "str.join") _) _ _ _
  have hpl' : (s.heap.update pl (Obj.mapSeq (·.push (.str ⟨x.toArray⟩ s.toks)))).PlainList pl (strValues [(⟨x.toArray⟩, s.toks)]).toArray := ⟨_, hl⟩
  refine SC.join hpl'.isList rfl ?_ fun t' k => ?_
  · unfold JoinOk
    rw [Bool.not_eq_true']
    refine decide_eq_false ?_
    rw [StrLaws.joinTotal, two24]
    show ¬ (x.toArray.size + 0 + 0 > _)
    rw [List.size_toArray]; omega
  · have : Txt.join ⟨[].toArray⟩ ([(⟨x.toArray⟩, s.toks)].map (·.1)) = (⟨x.toArray⟩ : PySem.Str) := by
      show Builtin.Str.glued _ _ = _
      rw [StrLaws.glued_eq_join]; rfl
    rw [this]
    refine KFB.if_not rfl ?_
    exact wpAny_pure (h _ _ _ fun b o hb e => (hs.2 b hb).trans e)
theorem quiet_subl {as : Args} : (Code.builtin "re.Pattern.sub.loop" as).quiet = true := Code.quiet_builtin _ (by decide +kernel)
theorem call_sub_ok {P a f : Addr} {t t1 t2 t3 : Tok} {n : Nat} {cs : List Value} {x : List Nat} {u : Tok} {fo : Obj} {Q : Value → Shared → Prop}
    (hp : s.heap.get? P = some (rePat a t t1 t2 t3)) (ha : s.heap.get? a = some { cls := .type "tuple", data := .seq cs.toArray n }) (hcs : cs.map Builtin.Re.reRawOf = reCode.map fun k : Nat => (k : Int))
    (hf : s.heap.get? f = some fo) (hfc : fo.cls = .type "function") (hx : x ∈ inner)
    (h : ∀ h' tk u', (∀ b o, s.heap.get? b = some o → h'.get? b = some o) → Q (.str ⟨x.toArray⟩ u') { s with heap := h', toks := tk }) :
    wpAny (model prog w) A (call (.builtin "re.Pattern.sub") [.ref P, .ref f, .str ⟨x.toArray⟩ u]) Q E s := by
  have hT : s.TypeIs (.ref P) "re.Pattern" := ⟨_, hp, rfl⟩
  have hTf : s.TypeIs (.ref f) "function" := ⟨_, hf, hfc⟩
  refine wpAny_call (codeAny_call_builtin slot_sub.plain entry_sub (slot_sub.check _ _ _ _ _ _ _ _ hT (args_sub _ _ _) ?_))
  show wpAny _ _ (Builtin.Re.reSubstitute "re.Pattern.sub" "sub" false ⟨[.ref P, .ref f, .str ⟨x.toArray⟩ u], []⟩) _ _ _
  unfold Builtin.Re.reSubstitute
  dsimp only
  refine wpAny_bind (wpAny_of_eq (a := [some (.ref f), some (.str ⟨x.toArray⟩ u), none]) (by rfl) ?_)
  dsimp only
  refine wpAny_bind (wpAny_pure ?_)
  refine wpAny_bind (wpAny_specialOf hTf type_function_call ?_)
  refine KFB.if_so rfl ?_
  refine wpAny_bind (wpAny_pure ?_)
  refine KFB.if_so rfl ?_
  refine wpAny_bind (wpAny_pure ?_)
  refine wpAny_bind (wpAny_holding (whole_ok hp ha hcs ?_))
  refine KFB.if_so rfl ?_
  have hsub : isSubtype (.type "str") (.type "bytearray") = pure false := by rw [isSubtype_type]; kernel_rfl
  refine wpAny_bind ?_
  unfold Builtin.Re.reNotHeld
  refine wpAny_bind (wpAny_isInstance (typeIs_str _ _ _) hsub ?_)
  refine KFB.if_not rfl ?_
  refine wpAny_pure ?_
  refine wpAny_bind (wpAny_newObj_type ?_)
  have up : ∀ (ob : Obj) (b : Addr) (o : Obj), s.heap.get? b = some o → (s.heap.push ob).get? b = some o := fun ob b o e => Heap.get?_push_of_some _ e
  refine wpAny_pure ⟨quiet_subl, subl_ok (up _ _ _ hp) (up _ _ _ ha) hcs (Heap.get?_push_size _ rfl) hx fun h' tk u' kk => ?_⟩
  exact h _ _ _ fun b o e => kk b o (Nat.ne_of_lt (Heap.lt_size e)) (up _ _ _ e)
end
section
variable {G : Gd} {A : Around} {L : Addr} {env : Env} {σ : St} {K : Value → St → Prop}
theorem occ_nil (x : List Nat) (c lo limit : Nat) (hl : 1 ≤ limit) (h : ∀ i, lo ≤ i → x[i]? ≠ some c) : Builtin.Str.occurrences ⟨x.toArray⟩ ⟨#[c]⟩ lo (⟨x.toArray⟩ : PySem.Str).length limit = [] := by
  rcases StrLaws.occ_head_from ⟨x.toArray⟩ ⟨#[c]⟩ lo limit hl with ⟨h0, _⟩ | ⟨i, r, h0, hlo, hat, _⟩
  · exact h0
  · have := (StrLaws.subAt_one ⟨x.toArray⟩ c i).mp hat
    exact absurd this (by simpa using h i hlo)
theorem call_replace_none {x z : List Nat} {c : Nat} (h0 : c ∉ x) (h : K (U x) σ) : Call G A L σ (.builtin "str.replace") [U x, U [c], U z] K := fun vs hvs s q => by
  obtain ⟨v1, v2, v3, rfl, e1, e2, e3⟩ := three_of hvs
  obtain ⟨t, rfl⟩ := nv_str e1; obtain ⟨u, rfl⟩ := nv_str e2; obtain ⟨v, rfl⟩ := nv_str e3
  have ho : (Builtin.Str.occurrences ⟨x.toArray⟩ ⟨#[c]⟩ 0 (⟨x.toArray⟩ : PySem.Str).length ((⟨x.toArray⟩ : PySem.Str).length + 1)) = [] := occ_nil x c 0 _ (by omega) fun i _ e => h0 (List.mem_of_getElem? e)
  refine call_gives PySem.F.slot_str_replace (typeIs_str _ _ _) PySem.F.entry_str_replace (PySem.F.args_str_replace_3 _ _ _) (PySem.gives_str_replace _ _ _ t u v fun hh => ?_) ?_
  · have : (Builtin.Str.occurrences ⟨x.toArray⟩ ⟨[c].toArray⟩ 0 (⟨x.toArray⟩ : PySem.Str).length ((⟨x.toArray⟩ : PySem.Str).length + 1)) = [] := ho
    rw [this] at hh
    simp at hh
  · have : (Builtin.Str.occurrences ⟨x.toArray⟩ ⟨[c].toArray⟩ 0 (⟨x.toArray⟩ : PySem.Str).length ((⟨x.toArray⟩ : PySem.Str).length + 1)) = [] := ho
    rw [this]
    exact Post.here (K := fun v => K (nv v)) q h
/-- the first place of a sign from a place on -/
theorem occ_first_at (x : List Nat) (c lo k : Nat) (hlo : lo ≤ k) (hk : x[k]? = some c) (hn : ∀ i, lo ≤ i → i < k → x[i]? ≠ some c) : ∃ r, Builtin.Str.occurrences ⟨x.toArray⟩ ⟨#[c]⟩ lo (⟨x.toArray⟩ : PySem.Str).length 1 = k :: r := by
  rcases StrLaws.occ_head_from ⟨x.toArray⟩ ⟨#[c]⟩ lo 1 (Nat.le_refl _) with ⟨_, h0⟩ | ⟨i, r, h0, hi, hat, hfirst⟩
  · exact absurd ((StrLaws.subAt_one ⟨x.toArray⟩ c k).mpr (by simpa using hk)) (h0 k hlo)
  · have h1 := (StrLaws.subAt_one ⟨x.toArray⟩ c i).mp hat
    have h1' : x[i]? = some c := by simpa using h1
    refine ⟨r, ?_⟩
    rw [h0]
    rcases Nat.lt_trichotomy i k with hl | he | hg
    · exact absurd h1' (hn i hi hl)
    · rw [he]
    · exact absurd ((StrLaws.subAt_one ⟨x.toArray⟩ c k).mpr (by simpa using hk)) (hfirst k hlo hg)
theorem call_index2 {x : List Nat} {c lo k : Nat} (hlo : lo ≤ k) (hk : x[k]? = some c) (hn : ∀ i, lo ≤ i → i < k → x[i]? ≠ some c) (h : K (I k) σ) : Call G A L σ (.builtin "str.index") [U x, U [c], I lo] K := fun vs hvs s q => by
  obtain ⟨v1, v2, v3, rfl, e1, e2, e3⟩ := three_of hvs
  obtain ⟨t, rfl⟩ := nv_str e1; obtain ⟨u, rfl⟩ := nv_str e2; obtain ⟨v, rfl⟩ := nv_int e3
  obtain ⟨r, hr⟩ := occ_first_at x c lo k hlo hk hn
  have hr' : Builtin.Str.occurrences ⟨x.toArray⟩ ⟨[c].toArray⟩ lo (⟨x.toArray⟩ : PySem.Str).length 1 = k :: r := hr
  refine wpAny_call_entry PySem.F.slot_str_index (typeIs_str _ _ _) PySem.F.entry_str_index ?_ (PySem.F.args_str_index_3 _ _ _)
  show wpAny _ _ (match Builtin.Str.occurrences ⟨x.toArray⟩ ⟨[c].toArray⟩ (PySem.fromIndex (⟨x.toArray⟩ : PySem.Str).length (lo : Int)) (min (⟨x.toArray⟩ : PySem.Str).length (⟨x.toArray⟩ : PySem.Str).length) 1 with | i :: _ => retInt i | [] => (do rule "str.index.not-found"; raiseError "ValueError" "substring not found")) _ _ _
  have e4 : PySem.fromIndex (⟨x.toArray⟩ : PySem.Str).length (lo : Int) = lo := by
    unfold PySem.fromIndex
    rw [if_neg (by omega)]
    omega
  rw [e4, Nat.min_self, hr']
  exact wpAny_bind (wpAny_mkInt (wpAny_pure ⟨_, rfl, Post.tok (K := fun v => K (nv v)) q h⟩))
theorem call_range3e {c : Int} (hc : c = -1) (h : ∀ r t u v, K (.ref r) (σ.put r (.raw { cls := .type "range", data := .fields #[.int 0 t, .int 0 u, .int c v] }))) : Call G A L σ (.type "range") [I 0, I 0, I c] K := fun vs hvs s q => by
  subst hc
  obtain ⟨v1, v2, v3, rfl, e1, e2, e3⟩ := three_of hvs
  obtain ⟨t, rfl⟩ := nv_int e1; obtain ⟨u, rfl⟩ := nv_int e2; obtain ⟨v, rfl⟩ := nv_int e3
  refine call_range_3 (by decide) ?_ (Or.inl (PyProof.noPylong_small (by decide)))
  exact add_new (σ := σ) (s := s) (h := s.heap) (t := s.toks) (o := .raw { cls := .type "range", data := .fields #[.int 0 t, .int 0 u, .int (-1) v] }) q _ (Heap.get?_push_size _ rfl) .rfl' _ (h _ _ _ _)
theorem itr_range0 {r : Addr} {t u v : Tok} (hA : A.handled = none) (hr : σ.has r (.raw { cls := .type "range", data := .fields #[.int 0 t, .int 0 u, .int (-1) v] })) : Itr G A L σ (.ref r) [] := fun w hw s q => by
  have := nv_ref hw; subst this
  have hr' : IsRange s.heap r 0 0 (-1) t u v := q.held hr
  have hf := fresh_size s.heap
  refine wpAny_pyIter_range hr' (by decide) ?_
  refine ⟨_, [s.heap.objs.size], fun i h => IsRangeIter h s.heap.objs.size (0 + (i : Nat) * (-1)) (((0 : Nat) : Int) - (i : Nat)) (-1), rfl, ⟨?_, ?_, q.not_own hf, q.not_kn hf, q.ne_L hf, q.not_h₀ hf, fun i h hz => ⟨_, hz⟩, ?_⟩, ?_, hf, ?_, _, s.toks, rfl, fun b o e => Heap.get?_push_of_some _ e⟩
  · have W := Walks.range (prog := G.prog) (w := G.w) hA s.heap.objs.size 0 (-1) 0
    exact ⟨W.sub, W.frame, fun i s Q E hi => absurd hi (by simp), W.done, W.self⟩
  · intro b hb
    rw [List.mem_singleton.mp hb]; exact ⟨q.not_own hf, q.ne_L hf, q.not_Tb (q.not_h₀ hf)⟩
  · intro i t' v' s' Q hz hq
    exact lot_of (n := "range_iterator") hz rfl (by decide) hq
  · exact Heap.get?_push_size _ rfl
  · intro b hb
    rw [List.mem_singleton.mp hb]; exact ⟨_, Heap.get?_push_size _ rfl⟩
end
section
variable {prog : Program} {w : World} {A : Around} {E : Value → Shared → Prop} {s : Shared} {env : Env}
/-- «s.replace('\\', '\\\\').replace('-', '\\-')» at one text -/
theorem elt_dash {p0 p1 p2 p3 p4 p5 p6 p7 p8 : Pos} {k1 k2 k3 k4 : Nat} {m : PySem.Str → Option Value} {t : Tok} {Q : Value → Shared → Prop} (hk : env.scope.kind = .function) (hx : env.kindOf "s" = some .local) (hn : s.heap.Ns env.locals m) (hm : m "s" = some (.str ⟨#[33, 45]⟩ t))
    (h1 : (p1.endLine == p4.line) = true) (h2 : (p5.endLine == p8.line) = true)
    (h : ∀ u tk, Q (.str ⟨#[33, 92, 45]⟩ u) { s with toks := tk }) :
    wpAny (model prog w) A (eval (.Call (.Attribute (.Call (.Attribute (.Name "s" p0) "replace" p1) [.Constant (.str (Str.ofString "\\")) k1 p2, .Constant (.str (Str.ofString "\\\\")) k2 p3] [] p4) "replace" p5) [.Constant (.str (Str.ofString "-")) k3 p6, .Constant (.str (Str.ofString "\\-")) k4 p7] [] p8) env) Q E s := by
  refine wpAny_Call_method (T := "str") (id := "str.replace") rfl rfl h2 PySem.F.plainAttrs_str PySem.F.slot_str_replace PySem.F.type_str_replace ?_
  refine wpAny_Call_method (T := "str") (id := "str.replace") rfl rfl h1 PySem.F.plainAttrs_str PySem.F.slot_str_replace PySem.F.type_str_replace ?_
  refine wpAny_Name (wpAny_loadName_local hk hx hn hm ?_) (by decide)
  refine ⟨typeIs_str _ _ _, (fun a e => nomatch e), ?_⟩
  refine Calls.callWith_builtin rfl (Calls.evalArgs_plain (args_cons (Constant_str (args_cons (Constant_str (args_nil ?_))))))
  have ho : (Builtin.Str.occurrences ⟨#[33, 45]⟩ (Str.ofString "\\") 0 2 (2 + 1)) = [] := by decide +kernel
  refine call_gives PySem.F.slot_str_replace (typeIs_str _ _ _) PySem.F.entry_str_replace (PySem.F.args_str_replace_3 _ _ _) (PySem.gives_str_replace _ _ _ _ _ _ fun hh => ?_) ?_
  · exfalso
    have : (Builtin.Str.occurrences ⟨#[33, 45]⟩ (Str.ofString "\\") 0 (⟨#[33, 45]⟩ : PySem.Str).length ((⟨#[33, 45]⟩ : PySem.Str).length + 1)) = [] := ho
    rw [this] at hh
    simp at hh
  have : (Builtin.Str.occurrences ⟨#[33, 45]⟩ (Str.ofString "\\") 0 (⟨#[33, 45]⟩ : PySem.Str).length ((⟨#[33, 45]⟩ : PySem.Str).length + 1)) = [] := ho
  rw [this]
  show _ ∧ _ ∧ _
  refine ⟨typeIs_str _ _ _, (fun a e => nomatch e), ?_⟩
  refine Calls.callWith_builtin rfl (Calls.evalArgs_plain (args_cons (Constant_str (args_cons (Constant_str (args_nil ?_))))))
  refine SC.replace ?_ ?_ ?_ ?_ ?_ fun t' k => ?_
  · show s.toks + 1 + 1 ≠ 0; omega
  · show s.toks + 1 + 1 + 1 ≠ 0; omega
  · show s.toks + 1 + 1 ≠ s.toks + 1 + 1 + 1; omega
  · decide +kernel
  · decide +kernel
  · have : Txt.replace ⟨#[33, 45]⟩ (Str.ofString "-") (Str.ofString "\\-") = ⟨#[33, 92, 45]⟩ := by decide +kernel
    rw [this]
    exact h _ _
end
section
variable {G : Gd} {A : Around} {L : Addr} {env : Env} {σ : St} {K : Value → St → Prop} {mg mb : Str → Option Value}
theorem code_dash {M : Model} {E : Value → Shared → Prop} {s : Shared} {c P : Addr} {ps : Array Value} {gpos : Pos} {qual : Str} {scope : Scope} (hcode : env.code = .ref c) (hC : CodeHd s.heap c P) (hP : s.heap.get? P = some (tabObj ps)) (ht : TriplesOk ps.toList) :
    wpAny M A (genexprCode env gpos qual scope) (fun code s₃ => ∃ h₃ tk ps', s₃ = { s with heap := h₃, toks := tk } ∧ Heap.ExtBut P s.heap h₃ ∧ h₃.get? P = some (tabObj ps') ∧ TriplesOk ps'.toList ∧ (ps' = ps ∨ ∃ c', ps' = ps ++ #[rawInt gpos.line, rawInt gpos.col, .ref c'])) E s := by
  cases hf : codeAmong gpos ps.toList with
  | some cv => exact wpAny_genexprCode_hit hcode (hC.code hP ht) hf ⟨s.heap, s.toks, ps, rfl, (fun b o _ e => e), hP, ht, .inl rfl⟩
  | none =>
    refine wpAny_genexprCodeX hcode (hC.code hP ht) (hC.tab hP) hf fun c' h' tk hx _ _ _ _ htb _ => ?_
    exact ⟨h', tk, _, rfl, hx, htb.2, by rw [Array.toList_append]; exact TriplesOk_snoc _ _ _ _ ht, .inr ⟨c', rfl⟩⟩
theorem ev_dashjoin {cpos ap pos gpos px pi : Pos} {kc : Nat} {elt : Expr} {scope : Scope} {c P l : Addr} {ps : Array Value} (i : Nat) (Γ : Gnd G mg mb) (hB : ∀ P, P ∉ [mainGlobals] → G.h₀.get? P = none → G.h₀.BuiltinsAt mg P) (hT : G.Tb = []) (hC : CodeHd G.h₀ c P) (hh : A.handled = none) (hroom : A.depth < recursionLimit)
    (hi : σ.own[i]? = some (P, .raw (tabObj ps))) (ht : TriplesOk ps.toList) (hm : σ.m.lookup ("chunks" : Str) = some (.ref l)) (hl : σ.has l (.list [U [33, 45]]))
    (hel : ∀ (env' : Env) (A' : Around) (E' : Value → Shared → Prop) (s₂ : Shared) (m₂ : Str → Option Value) (t : Tok) (Q : Value → Shared → Prop), env'.scope = scope → s₂.heap.Ns env'.locals m₂ → m₂ "s" = some (.str ⟨#[33, 45]⟩ t) → (∀ u tk, Q (.str ⟨#[33, 92, 45]⟩ u) { s₂ with toks := tk }) →
      wpAny (model G.prog G.w) A' (eval elt env') Q E' s₂)
    (h : ∀ ps' : Array Value, (ps' = ps ∨ ∃ c', ps' = ps ++ #[rawInt gpos.line, rawInt gpos.col, .ref c']) → TriplesOk ps'.toList → K (U [33, 92, 45]) (σ.seto i (P, .raw (tabObj ps'))))
    (hcode : env.code = .ref c := by rfl) (hge : env.globals = mainGlobals := by rfl) (hco : scope.isCoroutine = false := by rfl) (hclos : closureFor scope env = pure [] := by with_unfolding_all rfl) (hcell : ∀ y ∈ scope.names, y.2 ≠ .cell := by decide)
    (h0 : scope.names.lookup (".0" : Str) = some NameKind.local := by rfl) (hx : scope.names.lookup ("s" : Str) = some .local := by rfl) (hkind : scope.kind = .function := by rfl) (hek : env.scope.kind = .function := by rfl) (hec : env.kindOf "chunks" = some .local := by rfl)
    (hs : ∀ x, genFold (.Name "chunks" pi) env x = pure x := by intro _; rfl) (hline : (ap.endLine == pos.line) = true := by rfl) :
    Ev G A env σ (.Call (.Attribute (.Constant (.str (Str.ofString "-")) kc cpos) "join" ap) [.GeneratorExp elt [⟨.Name "s" px, .Name "chunks" pi, [], 0⟩] scope gpos] [] pos) K := fun s q => by
  refine wpAny_Call_method (T := "str") (id := "str.join") (name := ("join" : Str)) (o := .Constant (.str (Str.ofString "-")) kc cpos) (apos := ap) (pos := pos) (env := env) rfl rfl hline PySem.F.plainAttrs_str PySem.F.slot_str_join PySem.F.type_str_join ?_
  refine Constant_str ?_
  refine ⟨typeIs_str _ _ _, (fun a e => nomatch e), ?_⟩
  refine Calls.callWith_builtin rfl (Calls.evalArgs_plain (args_cons (env := env) (e := .GeneratorExp elt [⟨.Name "s" px, .Name "chunks" pi, [], 0⟩] scope gpos) (rest := []) (pos := pos) ?_ rfl))
  have hown := q.own _ (List.mem_of_getElem? hi)
  have hP : s.heap.get? P = some (tabObj ps) := hown.1
  have hP0 := hown.2.2
  have base : ∀ b o, G.h₀.get? b = some o → s.heap.get? b = some o := fun b o e => q.base b o e (by rw [hT]; simp)
  have hPg : mainGlobals ≠ P := fun e => by
    obtain ⟨ob, _, _, e', _⟩ := Γ.g
    rw [e, hP0] at e'; cases e'
  obtain ⟨bm, bo, b1, b2, b3, b4, b5, b6, b7, b8⟩ := hB P (by simpa using hPg.symm) hP0
  obtain ⟨us, hll, eus⟩ := q.held hl
  obtain ⟨m, hn, hm'⟩ := q.loc
  obtain ⟨lv, hlv, elv⟩ := hm' _ _ hm
  have := nv_ref elv; subst this
  obtain ⟨x0, rfl, hx0⟩ := one_of eus
  obtain ⟨t0, rfl⟩ := nv_str hx0
  refine wpAny_GeneratorExp_walksQD hh hco hclos hcell h0 hx hkind hroom ?_ hs
  refine wpAny_Name (wpAny_loadName_local hek hec hn hlv ?_) (by decide)
  refine wpAny_pyIter_list hll.isList ?_
  have up : ∀ b o, s.heap.get? b = some o → (s.heap.push { cls := .type "list_iterator", data := .fields #[.ref l, .int 0 0] }).get? b = some o := fun b o e => Heap.get?_push_of_some _ e
  refine ⟨(q.noLimit Γ).keeps up, ?_⟩
  have hne : l ≠ s.heap.objs.size := Nat.ne_of_lt (Heap.lt_size hll.choose_spec)
  have hlP : l ≠ P := by
    rintro rfl
    obtain ⟨n, e⟩ := hll
    rw [hP] at e
    simp [tabObj] at e
  have hPI : P ≠ s.heap.objs.size := Nat.ne_of_lt (Heap.lt_size hP)
  refine wpAny_mono (code_dash hcode ((hC.keeps base).keeps up) (up _ _ hP) ht) (fun code s₃ hz => ?_) fun _ _ e => e
  obtain ⟨h₃, tk, ps', rfl, hx3, hP3, ht3, hps⟩ := hz
  rw [hge]
  have hg3 : h₃.Ns mainGlobals mg := ((Γ.g.at' fun o e => base _ _ e).at' fun o e => up _ _ e).extBut hx3 hPg
  have keep3 : ∀ b o, b ≠ P → s.heap.get? b = some o → h₃.get? b = some o := fun b o hb e => hx3 b o hb (up _ _ e)
  refine wpAny_builtinsFor hg3 b1 b2 (keep3 _ _ b4 (base _ _ b5)) b6 b7 b8 ?_
  have hI3 : h₃.get? s.heap.objs.size = some { cls := .type "list_iterator", data := .fields #[.ref l, .int 0 0] } := hx3 _ _ hPI.symm (Heap.get?_push_size _ rfl)
  have hl3 : h₃.PlainList l [.str ⟨#[33, 45]⟩ t0].toArray := hll.at fun o e => keep3 _ _ hlP e
  have W := fun A' (hA' : Around.handled A' = none) => Walks.list (prog := G.prog) (w := G.w) (A := A') hA' s.heap.objs.size l hne [.str ⟨#[33, 45]⟩ t0].toArray
  refine ⟨s.heap.objs.size, _, _, _, _, _, fun _ => true, fun i y => ∃ u, y = .str ⟨#[33, 92, 45]⟩ u, rfl, W, ⟨⟨_, hI3, rfl, rfl⟩, hl3.isList⟩, ?_, ?_, ?_, ?_, ?_⟩
  · intro b hb
    rcases List.mem_cons.mp hb with rfl | hb
    · exact Heap.lt_size hI3
    · rw [List.mem_singleton.mp hb]; exact Heap.lt_size hl3.choose_spec
  · obtain ⟨mc, a, b⟩ := Γ.nolimit
    have hcP : cStatics ≠ P := fun e => by
      obtain ⟨ob, _, _, e', _⟩ := a
      rw [e, hP0] at e'; cases e'
    exact ⟨mc, ((a.at' fun o e => base _ _ e).at' fun o e => up _ _ e).extBut hx3 hcP, b⟩
  · obtain ⟨mc, a, b⟩ := Γ.nolimit
    obtain ⟨ob, _, _, e', _⟩ := a
    intro hmm
    rw [List.mem_singleton] at hmm
    exact absurd (Heap.lt_size (base _ _ e')) (by rw [hmm]; exact Nat.lt_irrefl _)
  · intro href hk
    refine ⟨fun A' E' i v s₂ m₂ hA' _ _ hv hn2 hm2 _ => ?_, fun A' E' i v s₂ m₂ hA' _ _ hv _ hn2 hm2 _ => ?_⟩
    · exact wpAny_pure ⟨rfl, s₂.heap, s₂.toks, rfl, fun _ _ e => e⟩
    · have hv' : v = .str ⟨#[33, 45]⟩ t0 := by
        match i, hv with
        | 0, hv => exact (Option.some.inj hv).symm
        | i + 1, hv => simp at hv
      subst hv'
      exact hel _ A' E' s₂ m₂ t0 _ rfl hn2 hm2 fun u tk => ⟨⟨u, rfl⟩, s₂.heap, tk, rfl, fun _ _ e => e⟩
  · intro a h₅ tk5 gs hbare hsz ha5 k5 W5 G5
    refine args_nil ?_
    have hpass : passing (fun _ => true) #[Value.str ⟨#[33, 45]⟩ t0].size 0 = [0] := by rfl
    refine SC.joinGen (x := Str.ofString "-") W5.in4_2 (fun i s' st => st.1.typeIs) G5 ?_ List.mem_cons_self (fun j v hv => let ⟨_, _, u, e⟩ := hv; ⟨_, u, e⟩) (fun s' lt hmv hacc => ?_) (by rw [hpass, two24]; decide)
    · intro b hb
      show b < h₅.objs.size
      rw [ha5]
      rcases List.mem_cons.mp hb with rfl | hb
      · exact Nat.lt_succ_self _
      · rcases List.mem_cons.mp hb with rfl | hb
        · exact Nat.lt_succ_of_lt hsz
        · exact Nat.lt_succ_of_lt (Nat.lt_trans (List.mem_range.mp hb) hsz)
    · have hlen : lt.length = 1 := by
        have := hacc.1
        rw [hpass] at this
        simpa [strValues] using this
      obtain ⟨y, rfl⟩ : ∃ y, lt = [y] := by
        match lt, hlen with
        | [y], _ => exact ⟨y, rfl⟩
      obtain ⟨_, _, u, hy⟩ := hacc.2 0 (.str y.1 y.2) rfl
      injection hy with hy1 _
      have hj : Txt.join (Str.ofString "-") ([y].map (·.1)) = (⟨#[33, 92, 45]⟩ : PySem.Str) := by
        rw [List.map_cons, hy1, List.map_nil]; decide +kernel
      refine ⟨by rw [List.map_cons, hy1, List.map_nil]; decide +kernel, fun t' k => ?_⟩
      rw [hj]
      have h₃s : ∀ b o, s.heap.get? b = some o → b < h₃.objs.size := fun b o e => by
        by_cases hb : b = P
        · rw [hb]; exact Heap.lt_size hP3
        · exact Heap.lt_size (keep3 b o hb e)
      have hwr : ∀ b o, s.heap.get? b = some o → b ∉ (h₃.objs.size :: [s.heap.objs.size]) := fun b o e hm => by
        rcases List.mem_cons.mp hm with rfl | hm
        · exact Nat.lt_irrefl _ (h₃s _ _ e)
        · rw [List.mem_singleton.mp hm] at e
          exact absurd (Heap.lt_size e) (Nat.lt_irrefl _)
      have hxs : Heap.ExtBut P s.heap s'.heap := fun b o hb e => hmv.heap b o (hwr b o e) (k5 _ _ (keep3 b o hb e))
      have hPs : s'.heap.get? P = some (tabObj ps') := hmv.heap P _ (hwr P _ hP) (k5 _ _ hP3)
      have q1 := q.updX (t := k) (o' := .raw (tabObj ps')) hi hxs hPs
      have y1 : Step G env.locals σ s _ { s with heap := s'.heap, toks := k } := Step.updX (o' := .raw (tabObj ps')) hi hxs ⟨_, hPs⟩
      have q2 := q1.keeps (h := s'.heap) (t := k) (g := s'.gens) fun _ _ e => e
      have es : ({ s' with toks := k } : Shared) = { s with heap := s'.heap, gens := s'.gens, toks := k } := by
        have e1 := hmv.drawn
        have e2 := hmv.os
        obtain ⟨a1, a2, a3, a4, a5⟩ := s'
        dsimp only at e1 e2 ⊢
        rw [e1, e2]
      rw [es]
      refine ⟨_, q2, ?_, h ps' hps ht3⟩
      refine y1.trans ⟨⟨_, _, _, rfl⟩, fun ab => ?_, fun b o e _ _ _ => e, fun b o e => ⟨o, e⟩, fun a ha => .inl ha, fun a ha => .inr (.inl ha)⟩
      exact AllBare.moved (a := s.gens.push gs) (AllBare.push (gens := s.gens) ab hbare) hmv.gens
end
section
variable {G : Gd} {A : Around} {L : Addr} {env : Env} {σ : St} {K : Value → St → Prop} {mg mb : Str → Option Value}
theorem occ_same (x : PySem.Str) (c lo : Nat) : Builtin.Str.occurrences x ⟨#[c]⟩ lo lo 1 = [] := by
  rw [StrLaws.occ_eq, show lo + 1 - lo = 1 by omega, show List.range' lo 1 = [lo] from rfl]
  have : ¬ (lo + (⟨#[c]⟩ : PySem.Str).length ≤ lo) := by show ¬ (lo + 1 ≤ lo); omega
  simp [StrLaws.occBody, this]
theorem cmp_in_tuple {a : Addr} {ys : List (List Nat)} {x : List Nat} (ha : σ.has a (.tuple (ys.map U))) (h : K (.bool (ys.any (· == x))) σ) : Cmp G A L σ .In (U x) (.ref a) K := fun va vb hva hvb s q => by
  obtain ⟨t, rfl⟩ := nv_str hva; have := nv_ref hvb; subst this
  obtain ⟨us, hl, e⟩ := q.held ha
  obtain ⟨l, rfl, e2⟩ := nv_strs e
  refine SeqAt.in_tupleAt (fun y => match y with | .str b _ => b == (⟨x.toArray⟩ : PySem.Str) | _ => false) hl (fun y hy => ?_) ?_
  · obtain ⟨p, hp, rfl⟩ : ∃ p : PySem.Str × Tok, p ∈ l ∧ y = .str p.1 p.2 := by
      have : y ∈ strValues l := by simpa using hy
      unfold strValues at this
      obtain ⟨p, hp, e⟩ := List.mem_map.mp this
      exact ⟨p, hp, e.symm⟩
    exact SeqAt.EqAt.str_str _ _ _ _
  · have e3 : (strValues l).toArray.any (fun y => match y with | .str b _ => b == (⟨x.toArray⟩ : PySem.Str) | _ => false) = ys.any (· == x) := by
      rw [List.any_toArray]
      unfold strValues
      rw [List.any_map]
      have e4 : l.any ((fun y => match y with | Value.str b _ => b == (⟨x.toArray⟩ : PySem.Str) | _ => false) ∘ fun p : PySem.Str × Tok => Value.str p.1 p.2) = (l.map (·.1)).any (· == (⟨x.toArray⟩ : PySem.Str)) := by
        rw [List.any_map]; rfl
      rw [e4, e2, List.any_map]
      congr 1
      funext w
      show ((⟨w.toArray⟩ : PySem.Str) == ⟨x.toArray⟩) = (w == x)
      rw [Bool.eq_iff_iff, beq_iff_eq, beq_iff_eq]
      constructor
      · intro hh
        have := congrArg (fun y : PySem.Str => y.cps.toList) hh
        simpa using this
      · rintro rfl; rfl
    rw [e3]
    exact Post.here (K := fun v => K (nv v)) q h
theorem call_find_none {x : List Nat} {c lo : Nat} (hlo : lo ≤ x.length) (h : K (I (-1)) σ) : Call G A L σ (.builtin "str.find") [U x, U [c], I lo, I lo] K := fun vs hvs s q => by
  obtain ⟨v1, vs, rfl, e1, hvs⟩ : ∃ v r, vs = v :: r ∧ nv v = U x ∧ r.map nv = [U [c], I lo, I lo] := by
    cases vs with
    | nil => simp at hvs
    | cons v r => exact ⟨v, r, rfl, by simpa using (List.cons.inj hvs).1, (List.cons.inj hvs).2⟩
  obtain ⟨v2, v3, v4, rfl, e2, e3, e4⟩ := three_of hvs
  obtain ⟨t, rfl⟩ := nv_str e1; obtain ⟨u, rfl⟩ := nv_str e2; obtain ⟨v, rfl⟩ := nv_int e3; obtain ⟨w, rfl⟩ := nv_int e4
  refine wpAny_call_entry PySem.F.slot_str_find (typeIs_str _ _ _) PySem.F.entry_str_find ?_ (PySem.F.args_str_find_4 _ _ _ _)
  have e5 : PySem.fromIndex (⟨x.toArray⟩ : PySem.Str).length (lo : Int) = lo := by
    unfold PySem.fromIndex
    rw [if_neg (by omega)]
    omega
  show wpAny _ _ (match Builtin.Str.occurrences ⟨x.toArray⟩ ⟨#[c]⟩ (PySem.fromIndex (⟨x.toArray⟩ : PySem.Str).length (lo : Int)) (min (PySem.fromIndex (⟨x.toArray⟩ : PySem.Str).length (lo : Int)) (⟨x.toArray⟩ : PySem.Str).length) 1 with | i :: _ => retInt i | [] => (do rule "str.find.not-found"; retInt (-1))) _ _ _
  have hl : (⟨x.toArray⟩ : PySem.Str).length = x.length := by show x.toArray.size = _; simp
  rw [e5, hl, Nat.min_eq_left hlo, occ_same]
  exact wpAny_bind (wpAny_rule (wpAny_bind (wpAny_mkInt (wpAny_pure ⟨_, rfl, Post.tok (K := fun v => K (nv v)) q h⟩))))
end
section
variable {G : Gd} {mg mb : Str → Option Value} {A : Around} {env : Env} {L L' : Addr} {σ : St} {K : Value → St → Prop} {KF : Flow → St → Prop}
/-- what a pattern is made of -/
inductive TK where
  | star
  | qm
  | lit (c : Nat)
  | one (c : Nat)
  | neg (c : Nat)
noncomputable def src : TK → List Nat
  | .star => [42]
  | .qm => [63]
  | .lit c => [c]
  | .one c => [91, c, 93]
  | .neg c => [91, 33, c, 93]
noncomputable def okT : TK → Prop
  | .star => True
  | .qm => True
  | .lit c => c ∈ [93, 45, 94, 47, 33, 97]
  | .one c => c ∈ [42, 63, 91]
  | .neg c => c ∈ [42, 91, 63, 93, 45, 33, 94, 97]
noncomputable def part (z : Addr) : TK → Value
  | .star => .ref z
  | .qm => U [46]
  | .lit c => U (esc c)
  | .one c => U ([91] ++ (if c = 91 then [92, 91] else [c]) ++ [93])
  | .neg c => U ([91, 94] ++ (if c = 45 then [92, 45] else [c]) ++ [93])
/-- no two stars side by side -/
noncomputable def apart : List TK → Prop
  | .star :: .star :: _ => False
  | _ :: r => apart r
  | [] => True
/-- the table of code of _translate, and its lambda -/
structure TS where
  ps : Array Value
  lam : Option (Addr × Obj)
noncomputable def tt (x : TS) : List (Addr × O) := (79, .raw (tabObj x.ps)) :: (match x.lam with | none => [] | some (c', oc) => [(c', .raw oc)])
noncomputable def posL : Pos := ⟨80, 39, 80, 76⟩
noncomputable def ttOk (x : TS) : Prop := TriplesOk x.ps.toList ∧ match x.lam with
  | none => codeAmong posL x.ps.toList = none
  | some (c', oc) => codeAmong posL x.ps.toList = some (.ref c') ∧ okC oc (("_translate" : Str) ++ ".<locals>." ++ "<lambda>")
noncomputable def pat (l : List TK) : List Nat := l.flatMap src
theorem src_len (t : TK) : 1 ≤ (src t).length ∧ (src t).length ≤ 4 := by cases t <;> simp [src]
theorem pat_len : ∀ l : List TK, (pat l).length ≤ 4 * l.length
  | [] => by simp [pat]
  | t :: l => by
    have := pat_len l
    have h2 := (src_len t).2
    unfold pat at this ⊢
    rw [List.flatMap_cons, List.length_append, List.length_cons]; omega
theorem gl_twin (Λ : Law G mg mb) : mg "_twin_re_1" = some (.ref 58) := Λ.gl (by kernel_rfl)
theorem call_sub (Λ : Law G mg mb) {f : Addr} {x : List Nat} {qual : Str} {params : Arguments} {body : Expr} {scope : Scope} {clos : List (Str × Addr)} {pm : Value} {c' : Addr} {ctv : Value} (hf : σ.has f (lamO qual params body scope clos pm c' ctv)) (hx : x ∈ inner) (h : K (U x) σ) : Call G A L σ (.builtin "re.Pattern.sub") [.ref 58, .ref f, U x] K := fun vs hvs s q => by
  obtain ⟨v1, v2, v3, rfl, e1, e2, e3⟩ := three_of hvs
  have := nv_ref e1; subst this; have := nv_ref e2; subst this; obtain ⟨u, rfl⟩ := nv_str e3
  have h58 := q.base 58 _ (Λ.X 58 _ (by k_is)) Λ.off
  have h57 := q.base 57 _ (Λ.X 57 _ (by k_is)) Λ.off
  refine call_sub_ok (P := 58) (a := 57) h58 h57 (by rfl) (q.held hf) rfl hx fun h' tk u' kk => ?_
  exact ⟨_, q.keeps (t := tk) (g := s.gens) kk, .keeps kk, h⟩
theorem isT_pat (Λ : Law G mg mb) : IsT G L σ (.ref 58) "re.Pattern" := fun v hv s q => by
  have := nv_ref hv; subst this
  have h58 := q.base 58 _ (Λ.X 58 _ (by k_is)) Λ.off
  exact ⟨⟨_, h58, rfl⟩, fun a e => by cases e; exact ⟨_, h58, rfl⟩⟩
theorem tt_new {ps : Array Value} {pos : Pos} {c : Addr} (ht : TriplesOk ps.toList) (hn : codeAmong pos ps.toList = none) : TriplesOk (ps ++ #[rawInt pos.line, rawInt pos.col, .ref c]).toList ∧ codeAmong pos (ps ++ #[rawInt pos.line, rawInt pos.col, .ref c]).toList = some (.ref c) := by
  rw [Array.toList_append]
  exact ⟨TriplesOk_snoc _ _ _ _ ht, codeAmong_snoc _ ht hn⟩
theorem among_other {pos : Pos} {a b : Int} {c : Value} (hne : (a == (pos.line : Int) && b == (pos.col : Int)) = false) (l : List Value) (h : TriplesOk l) : codeAmong pos (l ++ [rawInt a, rawInt b, c]) = codeAmong pos l := by
  fun_induction TriplesOk l with
  | case1 => simp [codeAmong, rawInt, hne]
  | case2 a' t b' u x rest ih =>
    simp only [List.cons_append, codeAmong]
    rw [ih h]
  | case3 l h1 h2 => exact h.elim
/-- the lambda, made or found -/
theorem ev_lamT (Λ : Law G mg mb) {params : Arguments} {body : Expr} {scope : Scope} {x : TS} {pre k : List (Addr × O)} {m : List (Str × Value)} (hx : ttOk x)
    (h : ∀ x' f c' oc ctv, ttOk x' → x'.lam = some (c', oc) → K (.ref f) ⟨m, (f, lamO (("_translate" : Str) ++ ".<locals>." ++ "<lambda>") params body scope [] ((mg "__name__").getD .none) c' ctv) :: (pre ++ tt x'), k⟩)
    (hq : env.qual ++ "<lambda>" = ("_translate" : Str) ++ ".<locals>." ++ "<lambda>" := by rfl)
    (hcode : env.code = .ref 83 := by rfl) (hcl : closureFor scope env = pure [] := by with_unfolding_all rfl) (hge : env.globals = mainGlobals := by rfl) (hdef : defaultsOf params env = ([], []) := by rfl) : Ev G A env ⟨m, pre ++ tt x, k⟩ (.Lambda params body scope posL) K := by
  obtain ⟨ps, lam⟩ := x
  obtain ⟨ht, hl⟩ := hx
  rcases lam with _ | ⟨c', oc⟩
  · suffices hh : Ev G A env ⟨m, pre ++ tt ⟨ps, none⟩, k⟩ (.Lambda params body scope posL) fun v σ' => ∃ o', σ'.own.Perm o' ∧ K v ⟨σ'.m, o', σ'.kn⟩ from T.permR hh
    refine ev_lambda_new (P := 79) (ps := ps) (clos := []) pre.length Λ.Γ Λ.bm Λ.tb Λ.ct (by simp [tt]) ht hl (fun f c' oc ctv hok => ?_) hcode hcl hge hdef
    refine ⟨_, ?_, h ⟨ps ++ #[rawInt posL.line, rawInt posL.col, .ref c'], some (c', oc)⟩ f c' oc ctv ⟨(tt_new ht hl).1, (tt_new ht hl).2, by rw [← hq]; exact hok⟩ rfl⟩
    rw [hq]
    refine List.Perm.cons _ ?_
    have e : (pre ++ [(79, O.raw (tabObj ps))]).set pre.length (79, .raw (tabObj (ps ++ #[rawInt posL.line, rawInt posL.col, .ref c']))) = pre ++ [(79, .raw (tabObj (ps ++ #[rawInt posL.line, rawInt posL.col, .ref c'])))] := by simp
    show List.Perm ((c', O.raw oc) :: (pre ++ [(79, O.raw (tabObj ps))]).set pre.length _) _
    rw [e]
    refine List.perm_middle.symm.trans ?_
    show List.Perm (pre ++ (c', O.raw oc) :: [(79, _)]) (pre ++ [(79, _), (c', O.raw oc)])
    exact List.Perm.append_left _ (List.Perm.swap _ _ _)
  · obtain ⟨hc, hok⟩ := hl
    refine ev_lambda_hit (P := 79) (ps := ps) (c' := c') (clos := []) Λ.Γ Λ.bm Λ.tb Λ.ct Λ.t2 (.inl (by simp [tt])) ht hc (fun f ctv => ?_) hcode hcl hge hdef
    rw [hq]
    exact h ⟨ps, some (c', oc)⟩ f c' oc ctv ⟨ht, hc, hok⟩ rfl
theorem cut_mid {α : Type} (a b c : List α) (i j : Nat) (hi : i = a.length) (hj : j = a.length + b.length) : cut (a ++ (b ++ c)) (some (i : Int)) (some (j : Int)) = b := by
  subst hi hj
  unfold cut kms_lo kms_hi
  dsimp only
  rw [if_neg (by omega), if_neg (by omega), Int.toNat_natCast, Int.toNat_natCast]
  simp only [List.length_append]
  rw [Nat.min_eq_left (by omega), Nat.min_eq_left (by omega), List.drop_left, Nat.add_sub_cancel_left, List.take_left]
theorem cp_bs : cp "\\" = [92] := rfl
theorem apart_mid : ∀ (d : List TK) (t : TK) (r : List TK), apart (d ++ t :: .star :: r) → t ≠ .star
  | [], t, r, h => by rintro rfl; exact h
  | [.star], t, r, h => by rintro rfl; exact h
  | .star :: .star :: d, t, r, h => h.elim
  | .star :: .qm :: d, t, r, h => apart_mid (.qm :: d) t r h
  | .star :: .lit c :: d, t, r, h => apart_mid (.lit c :: d) t r h
  | .star :: .one c :: d, t, r, h => apart_mid (.one c :: d) t r h
  | .star :: .neg c :: d, t, r, h => apart_mid (.neg c :: d) t r h
  | .qm :: d, t, r, h => apart_mid d t r h
  | .lit c :: d, t, r, h => apart_mid d t r h
  | .one c :: d, t, r, h => apart_mid d t r h
  | .neg c :: d, t, r, h => apart_mid d t r h
theorem part_text {z : Addr} {t : TK} (h : t ≠ .star) : ∃ y, part z t = U y := by
  cases t with
  | star => exact absurd rfl h
  | _ => exact ⟨_, rfl⟩
theorem c_transl (Λ : Law G mg mb) {toks : List TK} {z : Addr} {x : TS} {m : List (Str × Value)} {o2 k : List (Addr × O)} (hA : rm 4 A) (hx : ttOk x) (hz : (z, O.raw plainO) ∈ o2 ++ k) (hok : ∀ t ∈ toks, okT t) (hap : apart toks) (hl : toks.length ≤ 10)
    (h : ∀ x' a, ttOk x' → K (.ref a) ⟨m, (a, .list (toks.map (part z))) :: (tt x' ++ o2), k⟩) : Call G A L ⟨m, tt x ++ o2, k⟩ (.ref 84) [U (pat toks), .ref z, U [46]] K := by
  have ho := Λ.X 84 _ (by k_is)
  have hpl := pat_len toks
  refine call_less ?_
  refine call_defO (tt x) ["pat", "STAR", "QUESTION_MARK"] [("QUESTION_MARK", U [46]), ("STAR", .ref z), ("pat", U (pat toks))] Λ.Γ ho Λ.off rfl rfl (Λ.code ?hc) ?hcT hA.d rfl ?bind ?loc rfl ?body ?cell ?co ?gen ?k
  walk_at "enter"
  clear ho; intro L' env
  walk_at "go"
  refine ⟨by simp, fun ra => ?_⟩
  walk_at "go"
  refine ev_append_of (lod_local (by rfl) ⟨ra, _, rfl, .inl (.head _), fun u => ?_⟩)
  walk_at "go"
  refine ex_swap2 ?h0 ?_ ?q1 ?q2 (hs := ?q3) (hk := ?q4) (hx := ?q5) (hy := ?q6) (hl := ?q7) (hne := ?q8) (hs1 := ?q9) (hs2 := ?q10)
  case h0 => exact hA.h
  case q1 => rfl
  case q2 => rfl
  case q3 => rfl
  case q4 => rfl
  case q5 => rfl
  case q6 => rfl
  case q7 => rfl
  case q8 => decide
  case q9 => rfl
  case q10 => rfl
  walk_at "go"
  refine ⟨by simp, fun tp => ⟨tp, _, rfl, .tup (.inl (.head _)), rfl, ?_⟩⟩
  refine stos_cons (sto_local (stos_cons (sto_local (stos_nil ?_))))
  walk_at "go"
  refine ex1_le [false] ⟨[("pat", U (pat toks)), ("STAR", .ref z), ("QUESTION_MARK", U [46]), ("res", .ref ra), ("add", .ref u), ("i", I 0), ("n", I (pat toks).length)], (u, .raw (bobj "list.append" (.ref ra))) :: (ra, .list []) :: tt x, o2 ++ k⟩ (ex_while ?_) (by repeat (first | exact trivial | refine ⟨rfl, ?_⟩)) rfl (by walk_at "kn")
  refine wh_inv (fun n τ => ∃ done rest x', toks = done ++ rest ∧ n = rest.length ∧ ttOk x' ∧ τ = ⟨[("pat", U (pat toks)), ("STAR", .ref z), ("QUESTION_MARK", U [46]), ("res", .ref ra), ("add", .ref u), ("i", I (pat done).length), ("n", I (pat toks).length)], (u, .raw (bobj "list.append" (.ref ra))) :: (ra, .list (done.map (part z))) :: tt x', o2 ++ k⟩) ?_ toks.length _ ⟨[], toks, x, rfl, rfl, hx, rfl⟩
  rintro n τ ⟨done, rest, x', e, rfl, hx', rfl⟩ ih
  refine wh_turn ?_
  walk_at "go"
  rcases rest with _ | ⟨t, rest⟩
  · rw [List.append_nil] at e
    subst e
    refine iff' (by simp) ?_
    walk_at "go"
    refine ⟨by simp, ?_⟩
    walk_at "go"
    exact ⟨[false], ⟨m, (ra, .list (toks.map (part z))) :: (tt x' ++ o2), k⟩, ⟨fun _ _ q => q, rfl, fun p hp => .inr hp⟩, h x' ra hx'⟩
  · have hpe : pat toks = pat done ++ (src t ++ pat rest) := by rw [e]; unfold pat; simp
    have hts : toks.length = done.length + rest.length + 1 := by rw [e]; simp; omega
    have hs1 := (src_len t).1
    have hpl2 : (pat toks).length = (pat done).length + (src t).length + (pat rest).length := by rw [hpe]; simp; omega
    have hnx : (done ++ [t]).map (part z) = done.map (part z) ++ [part z t] := by simp
    have hpx : pat (done ++ [t]) = pat done ++ src t := by unfold pat; simp
    have htt : toks = (done ++ [t]) ++ rest := by rw [e]; simp
    refine ift (by simp; omega) ?_
    have hch : ∀ (j c : Nat), (src t)[j]? = some c → (pat toks)[((pat done).length : Int).toNat + j]? = some c := by
      intro j c hj
      rw [Int.toNat_natCast, hpe, List.getElem?_append_right (by omega), Nat.add_sub_cancel_left, List.getElem?_append_left (List.getElem?_eq_some_iff.mp hj).1]
      exact hj
    have hokt := hok t (by rw [e]; simp)
    by_cases hbr : ∃ st, src t = 91 :: (st ++ [93]) ∧ ((∃ c, t = .one c ∧ st = [c] ∧ c ∈ [42, 63, 91]) ∨ (∃ c, t = .neg c ∧ st = [33, c] ∧ c ∈ [42, 91, 63, 93, 45, 33, 94, 97]))
    · obtain ⟨st, hsr, hst⟩ := hbr
      have hsl : (src t).length = st.length + 2 := by rw [hsr]; simp
      have hst2 : 1 ≤ st.length ∧ st.length ≤ 2 := by rcases hst with ⟨c, _, rfl, _⟩ | ⟨c, _, rfl, _⟩ <;> simp
      have hat : ∀ (j c : Nat), st[j]? = some c → (pat toks)[(((pat done).length + 1 + j : Nat) : Int).toNat]? = some c := by
        intro j c hj
        have := hch (j + 1) c (by rw [hsr, List.getElem?_cons_succ, List.getElem?_append_left (List.getElem?_eq_some_iff.mp hj).1]; exact hj)
        rw [Int.toNat_natCast] at this ⊢
        rw [show (pat done).length + 1 + j = (pat done).length + (j + 1) by omega]
        exact this
      have hend : (pat toks)[(((pat done).length + 1 + st.length : Nat) : Int).toNat]? = some 93 := by
        have := hch (st.length + 1) 93 (by rw [hsr, List.getElem?_cons_succ]; simp)
        rw [Int.toNat_natCast] at this ⊢
        rw [show (pat done).length + 1 + st.length = (pat done).length + (st.length + 1) by omega]
        exact this
      refine ex_cons (ex_assign (ev_sub (ev_name (lod_local (by rfl) (ev_name (lod_local (by rfl) (itm_str (c := 91) (by omega) (hch 0 91 (by rw [hsr]; rfl)) (by omega) (sto_local (nx_next ?_)))))))))
      refine ex_cons (ex_assign (ev_binop (ev_name (lod_local (by rfl) (ev_int (op_add_int (sto_local (nx_next ?_))))))))
      rw [show ((pat done).length : Int) + 1 = (((pat done).length + 1 : Nat) : Int) by omega]
      generalize hi0 : (pat done).length + 1 = i0 at hat hend ⊢
      refine ex_cons (ex_if ?_)
      walk_at "go"
      refine iff' rfl ?_
      walk_at "go"
      refine iff' rfl ?_
      refine ex_cons (ex_if ?_)
      walk_at "go"
      refine ift rfl ?_
      refine ex_cons (ex_assign (ev_name (lod_local (by rfl) (sto_local (nx_next ?_)))))
      have hn0 : i0 + st.length < (pat toks).length := by omega
      have hn1 : (pat toks).length ≤ 1000 := by omega
      refine ex_cut (fun τ => τ = ⟨[("pat", U (pat toks)), ("STAR", .ref z), ("QUESTION_MARK", U [46]), ("res", .ref ra), ("add", .ref u), ("i", I i0), ("j", I (i0 + (if st.head? = some 33 then 1 else 0) : Nat)), ("n", I (pat toks).length)], (u, .raw (bobj "list.append" (.ref ra))) :: (ra, .list (done.map (part z))) :: tt x', o2 ++ k⟩) ?_ ?_
      · refine ex1_gen fun KF hKF => ?_
        walk_at "go"
        refine ift (by simp; omega) ?_
        walk_at "go"
        rcases hst with ⟨c, rfl, rfl, hc⟩ | ⟨c, rfl, rfl, hc⟩
        · have hc3 : c ≠ 33 := by simp at hc; omega
          refine itm_str (c := c) (by omega) (by simpa using hat 0 c rfl) (by omega) ?_
          walk_at "go"
          refine iff' (by simp [cp_bang, hc3]) (iff' rfl ?_)
          walk_at "go"
          refine hKF _ _ ?_
          rw [show (if [c].head? = some 33 then 1 else 0) = 0 by simp [hc3]]
          exact ⟨rfl, [], _, by walk_at "le", rfl⟩
        · refine itm_str (c := 33) (by omega) (by simpa using hat 0 33 rfl) (by omega) ?_
          walk_at "go"
          refine ift rfl ?_
          walk_at "go"
          refine ift rfl ?_
          walk_at "go"
          refine hKF _ _ ?_
          rw [show (if [33, c].head? = some 33 then 1 else 0) = 1 by simp]
          exact ⟨rfl, [], _, by walk_at "le", rfl⟩
      rintro τ rfl
      refine ex_cut (fun τ => τ = ⟨[("pat", U (pat toks)), ("STAR", .ref z), ("QUESTION_MARK", U [46]), ("res", .ref ra), ("add", .ref u), ("i", I i0), ("j", I (i0 + (if st = [33, 93] then 2 else if st.head? = some 33 then 1 else 0) : Nat)), ("n", I (pat toks).length)], (u, .raw (bobj "list.append" (.ref ra))) :: (ra, .list (done.map (part z))) :: tt x', o2 ++ k⟩) ?_ ?_
      · rcases hst with ⟨c, rfl, rfl, hc⟩ | ⟨c, rfl, rfl, hc⟩
        · have hc3 : c ≠ 33 ∧ c ≠ 93 := by simp at hc; omega
          rw [show (if [c].head? = some 33 then 1 else 0) = 0 by simp [hc3], show (if [c] = [33, 93] then 2 else 0) = 0 by simp]
          refine ex1_gen fun KF hKF => ?_
          walk_at "go"
          refine ift (by simp; omega) ?_
          walk_at "go"
          refine itm_str (c := c) (by omega) (by simpa using hat 0 c rfl) (by omega) ?_
          walk_at "go"
          refine iff' (by simp [cp_rb, hc3]) (iff' rfl ?_)
          walk_at "go"
          first | exact hKF _ _ ⟨rfl, [], _, by walk_at "le", rfl⟩ | exact ⟨rfl, [], _, by walk_at "le", rfl⟩
        · rw [show (if [33, c].head? = some 33 then 1 else 0) = 1 by simp]
          refine ex1_gen fun KF hKF => ?_
          walk_at "go"
          refine ift (by simp; simp at hn0; omega) ?_
          walk_at "go"
          refine itm_str (c := c) (by omega) (by simpa using hat 1 c rfl) (by omega) ?_
          walk_at "go"
          by_cases hc9 : c = 93
          · subst hc9
            refine ift rfl ?_
            walk_at "go"
            refine ift rfl ?_
            walk_at "go"
            first | exact hKF _ _ ⟨rfl, [], _, by walk_at "le", rfl⟩ | exact ⟨rfl, [], _, by walk_at "le", rfl⟩
          · refine iff' (by simp [cp_rb, hc9]) (iff' rfl ?_)
            walk_at "go"
            refine hKF _ _ ?_
            rw [show (if [33, c] = [33, 93] then 2 else 1) = 1 by simp [hc9]]
            exact ⟨rfl, [], _, by walk_at "le", rfl⟩
      rintro τ rfl
      refine ex_cut (fun τ => τ = ⟨[("pat", U (pat toks)), ("STAR", .ref z), ("QUESTION_MARK", U [46]), ("res", .ref ra), ("add", .ref u), ("i", I i0), ("j", I (i0 + st.length : Nat)), ("n", I (pat toks).length)], (u, .raw (bobj "list.append" (.ref ra))) :: (ra, .list (done.map (part z))) :: tt x', o2 ++ k⟩) ?_ ?_
      · refine ex1_gen fun KF hKF => ?_
        have hj : (if st = [33, 93] then 2 else if st.head? = some 33 then 1 else 0) = st.length ∨ ((if st = [33, 93] then 2 else if st.head? = some 33 then 1 else 0) + 1 = st.length ∧ ∃ c, st[(if st = [33, 93] then 2 else if st.head? = some 33 then 1 else 0)]? = some c ∧ c ≠ 93) := by
          rcases hst with ⟨c, rfl, rfl, hc⟩ | ⟨c, rfl, rfl, hc⟩
          · have hc3 : c ≠ 33 ∧ c ≠ 93 := by simp at hc; omega
            rw [show (if [c] = [33, 93] then 2 else if [c].head? = some 33 then 1 else 0) = 0 by simp [hc3]]
            exact .inr ⟨rfl, c, rfl, hc3.2⟩
          · by_cases hc9 : c = 93
            · subst hc9; exact .inl rfl
            · rw [show (if [33, c] = [33, 93] then 2 else if [33, c].head? = some 33 then 1 else 0) = 1 by simp [hc9]]
              exact .inr ⟨rfl, c, rfl, hc9⟩
        refine ex_while ?_
        refine wh_inv (fun n τ => ∃ h2 : Nat, n = st.length - h2 ∧ (h2 = st.length ∨ (h2 + 1 = st.length ∧ ∃ c, st[h2]? = some c ∧ c ≠ 93)) ∧ τ = ⟨[("pat", U (pat toks)), ("STAR", .ref z), ("QUESTION_MARK", U [46]), ("res", .ref ra), ("add", .ref u), ("i", I i0), ("j", I (i0 + h2 : Nat)), ("n", I (pat toks).length)], (u, .raw (bobj "list.append" (.ref ra))) :: (ra, .list (done.map (part z))) :: tt x', o2 ++ k⟩) ?_ _ _ ⟨_, rfl, hj, rfl⟩
        clear hj
        rintro n τ ⟨h2, rfl, hj, rfl⟩ ih2
        refine wh_turn ?_
        walk_at "go"
        refine ift (by simp; omega) ?_
        walk_at "go"
        rcases hj with rfl | ⟨hj1, c, hjc, hc9⟩
        · refine itm_str (c := 93) (by omega) hend (by omega) ?_
          walk_at "go"
          refine iff' rfl (iff' rfl ?_)
          first | exact hKF _ _ ⟨rfl, [], _, .rfl', rfl⟩ | exact ⟨rfl, [], _, .rfl', rfl⟩
        · refine itm_str (c := c) (by omega) (hat h2 c hjc) (by omega) ?_
          walk_at "go"
          refine ift (by simp [cp_rb, hc9]) ?_
          walk_at "go"
          refine ift rfl ?_
          walk_at "go"
          exact wh_le [] ⟨[("pat", U (pat toks)), ("STAR", .ref z), ("QUESTION_MARK", U [46]), ("res", .ref ra), ("add", .ref u), ("i", I i0), ("j", I (i0 + (h2 + 1) : Nat)), ("n", I (pat toks).length)], (u, .raw (bobj "list.append" (.ref ra))) :: (ra, .list (done.map (part z))) :: tt x', o2 ++ k⟩ (ih2 (st.length - (h2 + 1)) _ (by omega) ⟨h2 + 1, rfl, .inl hj1, rfl⟩) (by repeat (first | exact trivial | refine ⟨rfl, ?_⟩)) rfl (by walk_at "kn")
      rintro τ rfl
      refine ex_cons (ex_if ?_)
      walk_at "go"
      refine iff' (by simp; omega) ?_
      have hcut : cut (pat toks) (some (i0 : Int)) (some ((i0 + st.length : Nat) : Int)) = st := by
        have e9 : pat toks = (pat done ++ [91]) ++ (st ++ ([93] ++ pat rest)) := by rw [hpe, hsr]; simp
        rw [e9]
        exact cut_mid _ _ _ _ _ (by simp; omega) (by simp; omega)
      refine ex_cons (ex_assign (ev_slice (ev_name (lod_local (by rfl) (evo_some (ev_name (lod_local (by rfl) (evo_some (ev_name (lod_local (by rfl) (slc_str (some _) (some _) (by omega) (sto_local (nx_next ?_)))))))))))))
      rw [hcut]
      refine ex_cut (fun τ => ∃ x'', ttOk x'' ∧ τ = ⟨[("pat", U (pat toks)), ("STAR", .ref z), ("QUESTION_MARK", U [46]), ("res", .ref ra), ("add", .ref u), ("i", I i0), ("j", I (i0 + st.length : Nat)), ("n", I (pat toks).length), ("stuff", U (if 45 ∈ st then [33, 92, 45] else st))], (u, .raw (bobj "list.append" (.ref ra))) :: (ra, .list (done.map (part z))) :: tt x'', o2 ++ k⟩) ?_ ?_
      · refine ex1_gen fun KF hKF => ?_
        walk_at "go"
        by_cases hd : 45 ∈ st
        · have hs45 : st = [33, 45] := by
            rcases hst with ⟨c, _, rfl, hc⟩ | ⟨c, _, rfl, hc⟩ <;> simp at hc hd ⊢ <;> omega
          subst hs45
          refine iff' (by simp) ?_
          rw [if_pos hd] at hKF
          walk_at "go"
          refine ⟨by simp, fun ch => ?_⟩
          walk_at "go"
          refine itm_str (c := 33) (by omega) (by simpa using hat 0 33 rfl) (by omega) ?_
          walk_at "go"
          refine ift rfl ?_
          walk_at "go"
          refine ex_while (wh_turn ?_)
          walk_at "go"
          refine ift rfl ?_
          walk_at "go"
          refine call_find_none (lo := i0 + 2) (by simp at hn0; omega) ?_
          walk_at "go"
          refine ift rfl ?_
          walk_at "go"
          rw [hcut]
          refine tru_str (by simp) ?_
          refine ift rfl ?_
          walk_at "go"
          refine call_append 0 rfl (by simp) ?_
          walk_at "go"
          refine ex_for ?_
          walk_at "go"
          refine call_len_list (by walk_at "mem") (by simp) ?_
          walk_at "go"
          refine call_range3e rfl fun r t1 t2 t3 => ?_
          refine ⟨[], itr_range0 hA.h (.inl (.head _)), forT_nil (nx_next ?_)⟩
          refine ex_cons (ex_assign (ev_dashjoin (P := 79) (l := ch) 4 Λ.Γ Λ.bm Λ.tb Λ.ct hA.deeper.h hA.deeper.d rfl hx'.1 (by rfl) (.inl (.tail _ (.head _))) ?_ ?_))
          · intro env' A' E' s₂ m₂ t Q he hn hm hq
            exact elt_dash (by rw [he]) (by show env'.scope.names.lookup _ = _; rw [he]; rfl) hn hm rfl rfl hq
          · intro ps' hps ht'
            walk_at "go"
            refine hKF _ _ ⟨rfl, [false, false], _, by walk_at "le", ⟨ps', x'.lam⟩, ⟨ht', ?_⟩, rfl⟩
            have hsame : codeAmong posL ps'.toList = codeAmong posL x'.ps.toList := by
              rcases hps with rfl | ⟨c', rfl⟩
              · rfl
              · rw [Array.toList_append]
                exact among_other (by rfl) _ hx'.1
            have hx2 := hx'.2
            rw [← hsame] at hx2
            exact hx2
        · rw [if_neg hd] at hKF
          refine ift (by simpa using hd) ?_
          walk_at "go"
          refine call_replace_none (c := 92) ?_ ?_
          · rcases hst with ⟨c, _, rfl, hc⟩ | ⟨c, _, rfl, hc⟩ <;> simp at hc ⊢ <;> omega
          walk_at "go"
          first | exact hKF _ _ ⟨rfl, [], _, by walk_at "le", x', hx', rfl⟩ | exact ⟨rfl, [], _, by walk_at "le", x', hx', rfl⟩
      rintro τ ⟨x'', hx'', rfl⟩
      have hin : (if 45 ∈ st then [33, 92, 45] else st) ∈ inner := by
        rcases hst with ⟨c, _, rfl, hc⟩ | ⟨c, _, rfl, hc⟩
        · simp at hc; rcases hc with rfl | rfl | rfl <;> decide
        · simp at hc; rcases hc with rfl | rfl | rfl | rfl | rfl | rfl | rfl | rfl <;> decide
      refine ex_cut (fun τ => ∃ x3, ttOk x3 ∧ τ = ⟨[("pat", U (pat toks)), ("STAR", .ref z), ("QUESTION_MARK", U [46]), ("res", .ref ra), ("add", .ref u), ("i", I i0), ("j", I (i0 + st.length : Nat)), ("n", I (pat toks).length), ("stuff", U (if 45 ∈ st then [33, 92, 45] else st))], (u, .raw (bobj "list.append" (.ref ra))) :: (ra, .list (done.map (part z))) :: tt x3, o2 ++ k⟩) ?_ ?_
      · refine ex1_gen fun KF hKF => ?_
        refine ex_assign (ev_meth "re.Pattern" "re.Pattern.sub" plainAttrs_pat slot_sub type_sub ?_)
        refine ev_name (lod_glob Λ.Γ (gl_twin Λ) ⟨isT_pat Λ, ?_⟩)
        refine evs_cons (ev_lamT (pre := [(u, .raw (bobj "list.append" (.ref ra))), (ra, .list (done.map (part z)))]) Λ hx'' fun x3 f c' oc ctv hx3 hl3 => ?_)
        walk_at "go"
        refine call_sub Λ (.inl (.head _)) hin ?_
        walk_at "go"
        first | exact hKF _ _ ⟨rfl, [false], _, by walk_at "le", x3, hx3, rfl⟩ | exact ⟨rfl, [false], _, by walk_at "le", x3, hx3, rfl⟩
      rintro τ ⟨x3, hx3, rfl⟩
      walk_at "go"
      rcases hst with ⟨c, rfl, rfl, hc⟩ | ⟨c, rfl, rfl, hc⟩
      · have hc3 : c ≠ 33 ∧ c ≠ 45 ∧ c ≠ 94 := by simp at hc; omega
        have hpi : ((pat (done ++ [TK.one c])).length : Int) = ((i0 + 1 : Nat) : Int) + 1 := by rw [hpx]; simp [src]; omega
        rw [show (if 45 ∈ [c] then [33, 92, 45] else [c]) = [c] by simp [hc3, Ne.symm hc3.2.1]]
        refine tru_str (by simp) ?_
        refine iff' rfl ?_
        walk_at "go"
        refine iff' (by simp [cp_bang, hc3]) ?_
        walk_at "go"
        refine itm_str (c := c) (by omega) rfl (by simp) ?_
        walk_at "go"
        refine iff' (by simp [cp_bang, hc3]) ?_
        walk_at "go"
        refine itm_str (c := c) (by omega) rfl (by simp) ?_
        walk_at "go"
        refine ⟨by simp, fun tq => ?_⟩
        walk_at "go"
        refine cmp_in_tuple (ys := [cp "^", cp "["]) (by walk_at "mem") ?_
        walk_at "go"
        by_cases h91 : c = 91
        · subst h91
          refine ift rfl ?_
          walk_at "go"
          refine op_add_str (by decide) ?_
          walk_at "go"
          refine ev_callbound (id := "list.append") (self := .ref ra) (lod_local (by rfl) ⟨rfl, ?_⟩)
          refine evs_cons (ev_joined (jp_cons ?_))
          walk_at "go"
          refine ⟨_, rfl, by simp [cp_lb], jp_cons (ev_fmt ?_)⟩
          walk_at "go"
          refine ⟨_, rfl, by simp [cp_lb, cp_bs], _, rfl, by simp [cp_lb, cp_bs], jp_cons ?_⟩
          walk_at "go"
          refine ⟨_, rfl, by simp [cp_lb, cp_bs, cp_rb], jp_nil (by simp [cp_lb, cp_bs, cp_rb]) ?_⟩
          walk_at "go"
          refine ⟨.inl (.tail _ (.head _)), call_add 2 rfl (.inl (.tail _ (.head _))) (by simp; omega) ?_⟩
          walk_at "go"
          exact wh_le [false] ⟨[("pat", U (pat toks)), ("STAR", .ref z), ("QUESTION_MARK", U [46]), ("res", .ref ra), ("add", .ref u), ("i", I ((i0 + 1 : Nat) + 1)), ("n", I (pat toks).length)], _, o2 ++ k⟩ (ih rest.length _ (Nat.lt_succ_self _) ⟨_, rest, x3, htt, rfl, hx3, by rw [hpi, hnx]; rfl⟩) (by repeat (first | exact trivial | refine ⟨rfl, ?_⟩)) rfl (by walk_at "kn")
        · refine iff' (by simp [cp_caret, cp_lb]; omega) ?_
          walk_at "go"
          refine ev_callbound (id := "list.append") (self := .ref ra) (lod_local (by rfl) ⟨rfl, ?_⟩)
          refine evs_cons (ev_joined (jp_cons ?_))
          walk_at "go"
          refine ⟨_, rfl, by simp [cp_lb], jp_cons (ev_fmt ?_)⟩
          walk_at "go"
          refine ⟨_, rfl, by simp [cp_lb, cp_bs], _, rfl, by simp [cp_lb, cp_bs], jp_cons ?_⟩
          walk_at "go"
          refine ⟨_, rfl, by simp [cp_lb, cp_bs, cp_rb], jp_nil (by simp [cp_lb, cp_bs, cp_rb]) ?_⟩
          walk_at "go"
          refine ⟨.inl (.tail _ (.head _)), call_add 2 rfl (.inl (.tail _ (.head _))) (by simp; omega) ?_⟩
          walk_at "go"
          exact wh_le [false] ⟨[("pat", U (pat toks)), ("STAR", .ref z), ("QUESTION_MARK", U [46]), ("res", .ref ra), ("add", .ref u), ("i", I ((i0 + 1 : Nat) + 1)), ("n", I (pat toks).length)], _, o2 ++ k⟩ (ih rest.length _ (Nat.lt_succ_self _) ⟨_, rest, x3, htt, rfl, hx3, by rw [hpi, hnx]; rw [show part z (TK.one c) = U (([] ++ cp "[") ++ [c] ++ cp "]") by simp [part, h91, cp_lb, cp_rb]]; rfl⟩) (by repeat (first | exact trivial | refine ⟨rfl, ?_⟩)) rfl (by walk_at "kn")
      · have hpi : ((pat (done ++ [TK.neg c])).length : Int) = ((i0 + 2 : Nat) : Int) + 1 := by rw [hpx]; simp [src]; omega
        have hr : ∃ r, (if 45 ∈ [33, c] then [33, 92, 45] else [33, c]) = 33 :: r ∧ 1 ≤ r.length ∧ r.length ≤ 2 ∧ r = (if c = 45 then [92, 45] else [c]) := by
          by_cases h45 : c = 45
          · subst h45; exact ⟨[92, 45], rfl, by decide, by decide, rfl⟩
          · exact ⟨[c], by simp [Ne.symm h45], by simp, by simp, by simp [h45]⟩
        obtain ⟨r, hr1, hr2, hr3, hr4⟩ := hr
        rw [hr1]
        refine tru_str (by simp; omega) ?_
        refine iff' rfl ?_
        walk_at "go"
        refine iff' (by cases r with | nil => simp at hr2 | cons a b => simp [cp_bang]) ?_
        walk_at "go"
        refine itm_str (c := 33) (by omega) rfl (by simp; omega) ?_
        walk_at "go"
        refine ift rfl ?_
        walk_at "go"
        have hcr : cut (33 :: r) (some 1) none = r := by
          unfold cut kms_lo kms_hi
          dsimp only
          rw [if_neg (by omega)]
          simp
        rw [hcr]
        refine op_add_str (by simp [cp_caret]; omega) ?_
        walk_at "go"
        refine ev_callbound (id := "list.append") (self := .ref ra) (lod_local (by rfl) ⟨rfl, ?_⟩)
        refine evs_cons (ev_joined (jp_cons ?_))
        walk_at "go"
        refine ⟨_, rfl, by simp [cp_lb], jp_cons (ev_fmt ?_)⟩
        walk_at "go"
        refine ⟨_, rfl, by simp [cp_lb, cp_caret]; omega, _, rfl, by simp [cp_lb, cp_caret]; omega, jp_cons ?_⟩
        walk_at "go"
        refine ⟨_, rfl, by simp [cp_lb, cp_caret, cp_rb]; omega, jp_nil (by simp [cp_lb, cp_caret, cp_rb]; omega) ?_⟩
        walk_at "go"
        refine ⟨.inl (.head _), call_add 1 rfl (.inl (.head _)) (by simp; omega) ?_⟩
        walk_at "go"
        exact wh_le [] ⟨[("pat", U (pat toks)), ("STAR", .ref z), ("QUESTION_MARK", U [46]), ("res", .ref ra), ("add", .ref u), ("i", I ((i0 + 2 : Nat) + 1)), ("n", I (pat toks).length)], _, o2 ++ k⟩ (ih rest.length _ (Nat.lt_succ_self _) ⟨_, rest, x3, htt, rfl, hx3, by rw [hpi, hnx]; rw [show part z (TK.neg c) = U (([] ++ cp "[") ++ (cp "^" ++ r) ++ cp "]") by simp [part, hr4, cp_lb, cp_caret, cp_rb]]; rfl⟩) (by repeat (first | exact trivial | refine ⟨rfl, ?_⟩)) rfl (by walk_at "kn")
    walk_at "go"
    rcases t with _ | _ | c | c | c
    · refine itm_str (c := 42) (by omega) (hch 0 42 rfl) (by omega) ?_
      walk_at "go"
      refine ift rfl ?_
      walk_at "go"
      refine tru_list (by walk_at "mem") (by simp; omega) ?_
      have hpi : ((pat (done ++ [TK.star])).length : Int) = (pat done).length + 1 := by rw [hpx]; simp [src]
      rcases List.eq_nil_or_concat done with hd | ⟨d', t', hd⟩
      · subst hd
        refine ift rfl (ift rfl ?_)
        walk_at "go"
        refine ev_callbound (id := "list.append") (self := .ref ra) (lod_local (by rfl) ⟨rfl, ?_⟩)
        walk_at "go"
        refine ⟨.inl (.head _), call_add 1 rfl (.inl (.head _)) (by simp) ?_⟩
        walk_at "go"
        refine wh_le [] ⟨[("pat", U (pat toks)), ("STAR", .ref z), ("QUESTION_MARK", U [46]), ("res", .ref ra), ("add", .ref u), ("i", I ((pat []).length + 1)), ("n", I (pat toks).length)], _, o2 ++ k⟩ (ih rest.length _ (by simp) ⟨_, rest, x', htt, rfl, hx', by rw [hpi, hnx]; rfl⟩) (by repeat (first | exact trivial | refine ⟨rfl, ?_⟩)) rfl (by walk_at "kn")
      · rw [List.concat_eq_append] at hd
        subst hd
        have hne := apart_mid d' t' rest (by rw [e] at hap; simpa using hap)
        obtain ⟨y, hy⟩ := part_text (z := z) hne
        refine iff' (by simp) ?_
        walk_at "go"
        refine itm_list_neg (d := part z t') (by walk_at "mem") (by decide) (by simp; omega) (by simp at hts ⊢; omega) ?_ ?_
        · rw [List.length_map, List.length_append, List.length_singleton, show (-1 + ((d'.length + 1 : Nat) : Int)).toNat = d'.length by omega]
          simp
        walk_at "go"
        rw [hy]
        refine cmp_isnot_str ?_
        walk_at "go"
        refine ift rfl (ift rfl ?_)
        walk_at "go"
        refine ev_callbound (id := "list.append") (self := .ref ra) (lod_local (by rfl) ⟨rfl, ?_⟩)
        walk_at "go"
        refine ⟨.inl (.head _), call_add 1 rfl (.inl (.head _)) (by simp at hts ⊢; omega) ?_⟩
        walk_at "go"
        refine wh_le [] ⟨[("pat", U (pat toks)), ("STAR", .ref z), ("QUESTION_MARK", U [46]), ("res", .ref ra), ("add", .ref u), ("i", I ((pat (d' ++ [t'])).length + 1)), ("n", I (pat toks).length)], _, o2 ++ k⟩ (ih rest.length _ (by simp) ⟨_, rest, x', htt, rfl, hx', by rw [hpi, hnx]; rfl⟩) (by repeat (first | exact trivial | refine ⟨rfl, ?_⟩)) rfl (by walk_at "kn")
    · refine itm_str (c := 63) (by omega) (hch 0 63 rfl) (by omega) ?_
      walk_at "go"
      refine iff' rfl ?_
      walk_at "go"
      refine ift rfl ?_
      have hpi : ((pat (done ++ [TK.qm])).length : Int) = (pat done).length + 1 := by rw [hpx]; simp [src]
      walk_at "go"
      refine ev_callbound (id := "list.append") (self := .ref ra) (lod_local (by rfl) ⟨rfl, ?_⟩)
      walk_at "go"
      refine ⟨.inl (.head _), call_add 1 rfl (.inl (.head _)) (by simp; omega) ?_⟩
      walk_at "go"
      refine wh_le [] ⟨[("pat", U (pat toks)), ("STAR", .ref z), ("QUESTION_MARK", U [46]), ("res", .ref ra), ("add", .ref u), ("i", I ((pat done).length + 1)), ("n", I (pat toks).length)], _, o2 ++ k⟩ (ih rest.length _ (by simp) ⟨_, rest, x', htt, rfl, hx', by rw [hpi, hnx]; rfl⟩) (by repeat (first | exact trivial | refine ⟨rfl, ?_⟩)) rfl (by walk_at "kn")
    · have hc : c ≠ 42 ∧ c ≠ 63 ∧ c ≠ 91 := by
        simp [okT] at hokt
        omega
      refine itm_str (c := c) (by omega) (hch 0 c rfl) (by omega) ?_
      walk_at "go"
      refine iff' (by simp [cp_ast, hc]) ?_
      walk_at "go"
      refine iff' (by simp [cp_qm, hc]) ?_
      walk_at "go"
      refine iff' (by simp [cp_lb, hc]) ?_
      have hpi : ((pat (done ++ [TK.lit c])).length : Int) = (pat done).length + 1 := by rw [hpx]; simp [src]
      walk_at "go"
      refine ev_callbound (id := "list.append") (self := .ref ra) (lod_local (by rfl) ⟨rfl, ?_⟩)
      walk_at "go"
      refine c_escape Λ hA.deeper.less hokt ?_
      walk_at "go"
      refine ⟨.inl (.head _), call_add 1 rfl (.inl (.head _)) (by simp; omega) ?_⟩
      walk_at "go"
      refine wh_le [] ⟨[("pat", U (pat toks)), ("STAR", .ref z), ("QUESTION_MARK", U [46]), ("res", .ref ra), ("add", .ref u), ("i", I ((pat done).length + 1)), ("n", I (pat toks).length)], _, o2 ++ k⟩ (ih rest.length _ (by simp) ⟨_, rest, x', htt, rfl, hx', by rw [hpi, hnx]; rfl⟩) (by repeat (first | exact trivial | refine ⟨rfl, ?_⟩)) rfl (by walk_at "kn")
    · exact absurd ⟨[c], rfl, .inl ⟨c, rfl, rfl, hokt⟩⟩ hbr
    · exact absurd ⟨[33, c], rfl, .inr ⟨c, rfl, rfl, hokt⟩⟩ hbr
end
section
variable {G : Gd} {mg mb : Str → Option Value} {A : Around} {env : Env} {L L' : Addr} {σ : St} {K : Value → St → Prop} {KF : Flow → St → Prop}
/-- a part's text -/
noncomputable def tx : TK → List Nat
  | .star => []
  | .qm => [46]
  | .lit c => esc c
  | .one c => [91] ++ (if c = 91 then [92, 91] else [c]) ++ [93]
  | .neg c => [91, 94] ++ (if c = 45 then [92, 45] else [c]) ++ [93]
theorem part_tx {z : Addr} {t : TK} (h : t ≠ .star) : part z t = U (tx t) := by
  cases t with
  | star => exact absurd rfl h
  | _ => rfl
theorem tx_len (t : TK) : (tx t).length ≤ 5 := by
  cases t with
  | star => simp [tx]
  | qm => simp [tx]
  | lit c => unfold tx esc; dsimp only; split <;> simp
  | one c => unfold tx; dsimp only; split <;> simp
  | neg c => unfold tx; dsimp only; split <;> simp
theorem mid_at {α β : Type} (f : α → β) (a b : List α) (t : α) (n : Nat) (hn : n = a.length) : ((a ++ t :: b).map f)[((n : Nat) : Int).toNat]? = some (f t) := by
  subst hn
  rw [Int.toNat_natCast, List.map_append, List.getElem?_append_right (by simp)]
  simp
/-- what a translated text is made of -/
inductive LX where
  | rp
  | gs
  | st
  | tok (t : TK)
noncomputable def ltx : LX → List Nat
  | .rp => [41]
  | .gs => [40, 63, 62, 46, 42, 63]
  | .st => [46, 42]
  | .tok t => tx t
/-- how the parts are joined, from a star on -/
inductive JoinT : List TK → List LX → Prop
  | nil : JoinT [] []
  | fin : JoinT [.star] [.st]
  | last {f : List TK} : (∀ t ∈ f, t ≠ .star) → f ≠ [] → JoinT (.star :: f) (.st :: f.map .tok)
  | more {f r : List TK} {l : List LX} : (∀ t ∈ f, t ≠ .star) → f ≠ [] → JoinT (.star :: r) l → JoinT (.star :: (f ++ .star :: r)) (.gs :: (f.map .tok ++ .rp :: l))
theorem joins_head {r : List TK} {l : List LX} (h : JoinT r l) : r = [] ∨ ∃ r', r = .star :: r' := by
  cases h with
  | nil => exact .inl rfl
  | fin => exact .inr ⟨_, rfl⟩
  | last _ _ => exact .inr ⟨_, rfl⟩
  | more _ _ _ => exact .inr ⟨_, rfl⟩
theorem join_cases {r : List TK} {l : List LX} (h : JoinT r l) : (r = [] ∧ l = []) ∨ (r = [.star] ∧ l = [.st]) ∨ ∃ f r2, r = .star :: (f ++ r2) ∧ f ≠ [] ∧ (∀ t ∈ f, t ≠ .star) ∧ ((r2 = [] ∧ l = .st :: f.map .tok) ∨ ∃ r3 l3, r2 = .star :: r3 ∧ JoinT r2 l3 ∧ l = .gs :: (f.map .tok ++ .rp :: l3)) := by
  cases h with
  | nil => exact .inl ⟨rfl, rfl⟩
  | fin => exact .inr (.inl ⟨rfl, rfl⟩)
  | last hf hne => exact .inr (.inr ⟨_, [], by simp, hne, hf, .inl ⟨rfl, rfl⟩⟩)
  | more hf hne hr => exact .inr (.inr ⟨_, _, rfl, hne, hf, .inr ⟨_, _, rfl, hr, rfl⟩⟩)
noncomputable def ltxs (l : List LX) : List Nat := l.flatMap ltx
theorem cp_gs : cp "(?>.*?" = [40, 63, 62, 46, 42, 63] := rfl
theorem cp_hd : cp "(?s:" = [40, 63, 115, 58] := rfl
theorem cp_tl : cp ")\\Z" = [41, 92, 90] := rfl
theorem jn_nil : ∀ ws : List (List Nat), jn [] ws = ws.flatten
  | [] => rfl
  | [w] => by simp [jn]
  | w :: v :: r => by rw [jn, jn_nil (v :: r)]; simp
theorem ltxs_append (a b : List LX) : ltxs (a ++ b) = ltxs a ++ ltxs b := by unfold ltxs; simp
theorem ltxs_cons (x : LX) (l : List LX) : ltxs (x :: l) = ltx x ++ ltxs l := by unfold ltxs; simp
theorem toks_text (f : List TK) : ltxs (f.map .tok) = (f.map tx).flatten := by
  unfold ltxs
  induction f with
  | nil => rfl
  | cons t f ih => rw [List.map_cons, List.flatMap_cons, ih]; simp [ltx]
theorem flat_len (f : List TK) : ((f.map tx).map List.length).sum ≤ 5 * f.length := by
  induction f with
  | nil => simp
  | cons t f ih =>
    have := tx_len t
    simp at ih ⊢; omega
theorem c_joinp (Λ : Law G mg mb) {pre rest : List TK} {L : List LX} {z inp : Addr} (hA : rm 4 A) (hJ : JoinT rest L) (hp : ∀ t ∈ pre, t ≠ .star) (hl : (pre ++ rest).length ≤ 10) (hi : σ.has inp (.list ((pre ++ rest).map (part z)))) (hz : σ.has z (.raw plainO))
    (h : K (U ([40, 63, 115, 58] ++ ltxs (pre.map .tok ++ L) ++ [41, 92, 90])) σ) : Call G A L' σ (.ref 91) [.ref inp, .ref z] K := by
  have ho := Λ.X 91 _ (by k_is)
  refine call_plain h ?_
  refine call_def ["inp", "STAR"] [("STAR", .ref z), ("inp", .ref inp)] Λ.Γ ho Λ.off rfl rfl (Λ.code ?hc) ?hcT hA.d rfl ?bind ?loc rfl ?body ?cell ?co ?gen ?k
  walk_at "enter"
  clear ho; intro L' env
  have hik : (inp, O.list ((pre ++ rest).map (part z))) ∈ σ.own ++ σ.kn := List.mem_append.mpr hi
  walk_at "go"
  refine ⟨by simp, fun ra => ?_⟩
  walk_at "go"
  refine ev_append_of (lod_local (by rfl) ⟨ra, _, rfl, .inl (.head _), fun u => ?_⟩)
  walk_at "go"
  refine ex_swap2 ?h0 ?_ ?q1 ?q2 (hs := ?q3) (hk := ?q4) (hx := ?q5) (hy := ?q6) (hl := ?q7) (hne := ?q8) (hs1 := ?q9) (hs2 := ?q10)
  case h0 => exact hA.h
  case q1 => rfl
  case q2 => rfl
  case q3 => rfl
  case q4 => rfl
  case q5 => rfl
  case q6 => rfl
  case q7 => rfl
  case q8 => decide
  case q9 => rfl
  case q10 => rfl
  walk_at "go"
  refine call_len_list (.inr hik) (by simp at hl ⊢; omega) ?_
  walk_at "go"
  refine ⟨by simp, fun tp => ⟨tp, _, rfl, .tup (.inl (.head _)), rfl, ?_⟩⟩
  refine stos_cons (sto_local (stos_cons (sto_local (stos_nil ?_))))
  rw [List.length_map]
  generalize hN : (pre ++ rest).length = N at hl ⊢
  refine nx_next ?_
  refine ex_cut (fun τ => τ = ⟨[("inp", .ref inp), ("STAR", .ref z), ("res", .ref ra), ("add", .ref u), ("i", I (pre.length : Nat)), ("n", I N)], [(u, .raw (bobj "list.append" (.ref ra))), (ra, .list ((pre.map tx).map U))], σ.own ++ σ.kn⟩) ?_ ?_
  · refine ex1_gen fun KF hKF => ?_
    refine ex1_le [false] ⟨[("inp", .ref inp), ("STAR", .ref z), ("res", .ref ra), ("add", .ref u), ("i", I (0 : Nat)), ("n", I N)], [(u, .raw (bobj "list.append" (.ref ra))), (ra, .list [])], σ.own ++ σ.kn⟩ (ex_while ?_) (by repeat (first | exact trivial | refine ⟨rfl, ?_⟩)) rfl (by walk_at "kn")
    refine wh_inv (fun n τ => ∃ d r, pre = d ++ r ∧ n = r.length ∧ τ = ⟨[("inp", .ref inp), ("STAR", .ref z), ("res", .ref ra), ("add", .ref u), ("i", I (d.length : Nat)), ("n", I N)], [(u, .raw (bobj "list.append" (.ref ra))), (ra, .list ((d.map tx).map U))], σ.own ++ σ.kn⟩) ?_ _ _ ⟨[], pre, rfl, rfl, rfl⟩
    rintro n τ ⟨d, r, e, rfl, rfl⟩ ih
    have hdl : d.length + r.length = pre.length := by rw [e]; simp
    have hNl : pre.length + rest.length = N := by rw [← hN]; simp
    refine wh_turn ?_
    walk_at "go"
    rcases r with _ | ⟨t, r⟩
    · rw [List.append_nil] at e
      subst e
      rcases joins_head hJ with hr | ⟨r', hr⟩
      · subst hr
        refine iff' (by simp at hNl ⊢; omega) ?_
        refine iff' rfl ?_
        first | exact hKF _ _ ⟨rfl, [], _, .rfl', rfl⟩ | exact ⟨rfl, [], _, .rfl', rfl⟩
      · subst hr
        refine ift (by simp at hNl ⊢; omega) ?_
        walk_at "go"
        refine itm_list (.inr hik) (by omega) (by omega) (mid_at (part z) pre r' .star _ rfl) ?_
        walk_at "go"
        refine cmp_isnot_self ?_
        walk_at "go"
        refine iff' rfl (iff' rfl ?_)
        first | exact hKF _ _ ⟨rfl, [], _, .rfl', rfl⟩ | exact ⟨rfl, [], _, .rfl', rfl⟩
    · have ht : t ≠ .star := hp t (by rw [e]; simp)
      have hat : ((pre ++ rest).map (part z))[((d.length : Nat) : Int).toNat]? = some (U (tx t)) := by
        rw [e, List.append_assoc, List.cons_append, mid_at _ _ _ _ _ rfl, part_tx ht]
      refine ift (by simp at hdl hNl ⊢; omega) ?_
      walk_at "go"
      refine itm_list (.inr hik) (by omega) (by omega) hat ?_
      walk_at "go"
      refine cmp_isnot_str ?_
      walk_at "go"
      refine ift rfl ?_
      walk_at "go"
      refine ift rfl ?_
      walk_at "go"
      refine ev_callbound (id := "list.append") (self := .ref ra) (lod_local (by rfl) ⟨rfl, ?_⟩)
      walk_at "go"
      refine itm_list (.inr hik) (by omega) (by omega) hat ?_
      walk_at "go"
      refine ⟨.inl (.head _), call_add 1 rfl (.inl (.head _)) (by simp; omega) ?_⟩
      walk_at "go"
      exact wh_le [] ⟨[("inp", .ref inp), ("STAR", .ref z), ("res", .ref ra), ("add", .ref u), ("i", I (d.length + 1 : Nat)), ("n", I N)], _, σ.own ++ σ.kn⟩ (ih r.length _ (Nat.lt_succ_self _) ⟨d ++ [t], r, by rw [e]; simp, rfl, by rw [List.length_append, List.map_append, List.map_append]; rfl⟩) (by repeat (first | exact trivial | refine ⟨rfl, ?_⟩)) rfl (by walk_at "kn")
  rintro τ rfl
  refine ex_cut (fun τ => ∃ ws : List (List Nat), ws.flatten = ltxs (pre.map .tok ++ L) ∧ (ws.map List.length).sum ≤ 1000 ∧ τ = ⟨[("inp", .ref inp), ("STAR", .ref z), ("res", .ref ra), ("add", .ref u), ("i", I N), ("n", I N)], [(u, .raw (bobj "list.append" (.ref ra))), (ra, .list (ws.map U))], σ.own ++ σ.kn⟩) ?_ ?_
  · refine ex1_gen fun KF hKF => ?_
    refine ex_while ?_
    refine wh_inv (fun n τ => ∃ (d r : List TK) (ws : List (List Nat)) (l : List LX), pre ++ rest = d ++ r ∧ JoinT r l ∧ n = r.length ∧ ws.flatten ++ ltxs l = ltxs (pre.map .tok ++ L) ∧ ws.length ≤ 2 * d.length ∧ (ws.map List.length).sum ≤ 20 * d.length ∧ τ = ⟨[("inp", .ref inp), ("STAR", .ref z), ("res", .ref ra), ("add", .ref u), ("i", I (d.length : Nat)), ("n", I N)], [(u, .raw (bobj "list.append" (.ref ra))), (ra, .list (ws.map U))], σ.own ++ σ.kn⟩) ?_ _ _ ⟨pre, rest, pre.map tx, L, rfl, hJ, rfl, ?_, by simp; omega, ?_, rfl⟩
    rotate_left
    · rw [← toks_text]; unfold ltxs; simp
    · have := flat_len pre; omega
    rintro n τ ⟨d, r, ws, l, e, hJr, rfl, hw1, hw2, hw3, rfl⟩ ih
    have hdl : d.length + r.length = N := by rw [← hN, e]; simp
    refine wh_turn ?_
    walk_at "go"
    rcases join_cases hJr with ⟨rfl, rfl⟩ | ⟨rfl, rfl⟩ | ⟨f, r2, rfl, hne, hf, hr2⟩
    · have hdN : d.length = N := by simp at hdl; omega
      refine iff' (by simp; omega) ?_
      first | exact hKF _ _ ⟨rfl, [], _, .rfl', ws, by simpa [ltxs] using hw1, by omega, by rw [hdN]⟩ | exact ⟨rfl, [], _, .rfl', ws, by simpa [ltxs] using hw1, by omega, by rw [hdN]⟩
    · have hdN : (d.length : Int) + 1 = N := by simp at hdl; omega
      refine ift (by simp; omega) ?_
      walk_at "go"
      refine itm_list (.inr hik) (by omega) (by omega) (by rw [e]; exact mid_at (part z) d [] .star _ rfl) ?_
      walk_at "go"
      refine cmp_is_self ?_
      walk_at "go"
      refine ⟨rfl, ?_⟩
      walk_at "go"
      rw [hdN]
      refine ift (by simp) ?_
      walk_at "go"
      refine ev_callbound (id := "list.append") (self := .ref ra) (lod_local (by rfl) ⟨rfl, ?_⟩)
      walk_at "go"
      refine ⟨.inl (.head _), call_add 1 rfl (.inl (.head _)) (by simp; omega) ?_⟩
      walk_at "go"
      refine hKF _ _ ⟨rfl, [], ⟨[("inp", .ref inp), ("STAR", .ref z), ("res", .ref ra), ("add", .ref u), ("i", I N), ("n", I N)], [(u, .raw (bobj "list.append" (.ref ra))), (ra, .list (ws.map U ++ [U (cp ".*")]))], σ.own ++ σ.kn⟩, by walk_at "le", ws ++ [[46, 42]], by rw [← hw1]; simp [ltxs, ltx], by simp; omega, by rw [List.map_append]; rfl⟩
    · have hfl : 1 ≤ f.length := List.length_pos_iff.mpr hne
      have hdN : d.length + 1 + f.length + r2.length = N := by simp at hdl; omega
      obtain ⟨t0, f0, hf0⟩ : ∃ t0 f0, f = t0 :: f0 := by
        cases f with
        | nil => exact absurd rfl hne
        | cons a b => exact ⟨a, b, rfl⟩
      refine ift (by simp; omega) ?_
      walk_at "go"
      refine itm_list (.inr hik) (by omega) (by omega) (by rw [e]; exact mid_at (part z) d _ .star _ rfl) ?_
      walk_at "go"
      refine cmp_is_self ?_
      walk_at "go"
      refine ⟨rfl, ?_⟩
      walk_at "go"
      refine iff' (by simp; omega) ?_
      walk_at "go"
      refine itm_list (d := U (tx t0)) (.inr hik) (by omega) (by omega) (by
        rw [e, hf0, show d ++ TK.star :: (t0 :: f0 ++ r2) = (d ++ [.star]) ++ t0 :: (f0 ++ r2) by simp]
        rw [show ((d.length : Int) + 1) = ((d.length + 1 : Nat) : Int) by omega, mid_at _ _ _ _ _ (by simp), part_tx (hf t0 (by rw [hf0]; simp))]) ?_
      walk_at "go"
      refine cmp_isnot_str ?_
      walk_at "go"
      refine ⟨rfl, nx_next ?_⟩
      refine ex_cons (ex_assign (ev_list (evs_nil ⟨by simp, fun fa => sto_local (nx_next ?_)⟩)))
      refine ex_cut (fun τ => τ = ⟨[("inp", .ref inp), ("STAR", .ref z), ("res", .ref ra), ("add", .ref u), ("i", I (d.length + 1 + f.length : Nat)), ("n", I N), ("fixed", .ref fa)], [(fa, .list ((f.map tx).map U)), (u, .raw (bobj "list.append" (.ref ra))), (ra, .list (ws.map U))], σ.own ++ σ.kn⟩) ?_ ?_
      · refine ex1_gen fun KF hKF => ?_
        refine ex1_le [] ⟨[("inp", .ref inp), ("STAR", .ref z), ("res", .ref ra), ("add", .ref u), ("i", I (d.length + 1 + ([] : List TK).length : Nat)), ("n", I N), ("fixed", .ref fa)], [(fa, .list []), (u, .raw (bobj "list.append" (.ref ra))), (ra, .list (ws.map U))], σ.own ++ σ.kn⟩ (ex_while ?_) (by repeat (first | exact trivial | refine ⟨rfl, ?_⟩)) rfl (by walk_at "kn")
        refine wh_inv (fun n τ => ∃ g h, f = g ++ h ∧ n = h.length ∧ τ = ⟨[("inp", .ref inp), ("STAR", .ref z), ("res", .ref ra), ("add", .ref u), ("i", I (d.length + 1 + g.length : Nat)), ("n", I N), ("fixed", .ref fa)], [(fa, .list ((g.map tx).map U)), (u, .raw (bobj "list.append" (.ref ra))), (ra, .list (ws.map U))], σ.own ++ σ.kn⟩) ?_ _ _ ⟨[], f, rfl, rfl, rfl⟩
        rintro n τ ⟨g, h2, ef, rfl, rfl⟩ ih2
        have hgl : g.length + h2.length = f.length := by rw [ef]; simp
        refine wh_turn ?_
        walk_at "go"
        rcases h2 with _ | ⟨t, h2⟩
        · rw [List.append_nil] at ef
          subst ef
          rcases hr2 with ⟨rfl, _⟩ | ⟨r3, l3, rfl, _, _⟩
          · refine iff' (by simp at hdN ⊢; omega) ?_
            refine iff' rfl ?_
            first | exact hKF _ _ ⟨rfl, [], _, .rfl', rfl⟩ | exact ⟨rfl, [], _, .rfl', rfl⟩
          · refine ift (by simp at hdN ⊢; omega) ?_
            walk_at "go"
            refine itm_list (.inr hik) (by omega) (by omega) (by
              rw [e, show d ++ TK.star :: (f ++ TK.star :: r3) = (d ++ .star :: f) ++ .star :: r3 by simp]
              exact mid_at _ _ _ _ _ (by simp; omega)) ?_
            walk_at "go"
            refine cmp_isnot_self ?_
            walk_at "go"
            refine iff' rfl (iff' rfl ?_)
            first | exact hKF _ _ ⟨rfl, [], _, .rfl', rfl⟩ | exact ⟨rfl, [], _, .rfl', rfl⟩
        · have ht : t ≠ .star := hf t (by rw [ef]; simp)
          have hat : ((pre ++ rest).map (part z))[((d.length + 1 + g.length : Nat) : Int).toNat]? = some (U (tx t)) := by
            rw [e, ef, show d ++ TK.star :: (g ++ t :: h2 ++ r2) = (d ++ .star :: g) ++ t :: (h2 ++ r2) by simp, mid_at _ _ _ _ _ (by simp; omega), part_tx ht]
          refine ift (by simp at hgl ⊢; omega) ?_
          walk_at "go"
          refine itm_list (.inr hik) (by omega) (by omega) hat ?_
          walk_at "go"
          refine cmp_isnot_str ?_
          walk_at "go"
          refine ift rfl ?_
          walk_at "go"
          refine ift rfl ?_
          walk_at "go"
          refine itm_list (.inr hik) (by omega) (by omega) hat ?_
          walk_at "go"
          refine call_append 0 rfl (by simp; omega) ?_
          walk_at "go"
          exact wh_le [] ⟨[("inp", .ref inp), ("STAR", .ref z), ("res", .ref ra), ("add", .ref u), ("i", I (d.length + 1 + g.length + 1 : Nat)), ("n", I N), ("fixed", .ref fa)], _, σ.own ++ σ.kn⟩ (ih2 h2.length _ (Nat.lt_succ_self _) ⟨g ++ [t], h2, by rw [ef]; simp, rfl, by rw [List.length_append, List.map_append, List.map_append]; rfl⟩) (by repeat (first | exact trivial | refine ⟨rfl, ?_⟩)) rfl (by walk_at "kn")
      rintro τ rfl
      walk_at "go"
      have hfs := flat_len f
      refine call_join (by walk_at "mem") (by rw [cp_empty]; show _ + _ * 0 ≤ _; omega) ?_
      rw [cp_empty, jn_nil]
      have hff : (f.map tx).flatten.length = ((f.map tx).map List.length).sum := by rw [List.length_flatten]
      have hdf : (d ++ TK.star :: f).length = d.length + 1 + f.length := by simp; omega
      have htf := toks_text f
      generalize (f.map tx).flatten = ft at hff htf ⊢
      walk_at "go"
      rcases hr2 with ⟨rfl, rfl⟩ | ⟨r3, l3, er2, hJ3, rfl⟩
      · refine ift (by simp at hdN ⊢; omega) ?_
        walk_at "go"
        refine ev_callbound (id := "list.append") (self := .ref ra) (lod_local (by rfl) ⟨rfl, ?_⟩)
        walk_at "go"
        refine ⟨.inl (.tail _ (.head _)), call_add 2 rfl (.inl (.tail _ (.head _))) (by simp; omega) ?_⟩
        walk_at "go"
        refine ev_callbound (id := "list.append") (self := .ref ra) (lod_local (by rfl) ⟨rfl, ?_⟩)
        walk_at "go"
        refine ⟨.inl (.tail _ (.head _)), call_add 2 rfl (.inl (.tail _ (.head _))) (by simp; omega) ?_⟩
        walk_at "go"
        refine wh_le [false] ⟨[("inp", .ref inp), ("STAR", .ref z), ("res", .ref ra), ("add", .ref u), ("i", I (d.length + 1 + f.length : Nat)), ("n", I N)], [(u, .raw (bobj "list.append" (.ref ra))), (ra, .list (ws.map U ++ [U (cp ".*")] ++ [U ft]))], σ.own ++ σ.kn⟩ (ih 0 _ (by simp) ⟨d ++ .star :: f, [], ws ++ [[46, 42]] ++ [ft], [], by rw [e]; simp, .nil, rfl, ?_, ?_, ?_, ?_⟩) (by repeat (first | exact trivial | refine ⟨rfl, ?_⟩)) rfl (by walk_at "kn")
        · rw [← hw1, ltxs_cons, htf]; simp [ltxs, ltx]
        · simp; omega
        · simp; omega
        · rw [hdf, List.map_append, List.map_append]; rfl
      · have hr2l : 1 ≤ r2.length := by rw [er2]; simp
        refine iff' (by simp; omega) ?_
        walk_at "go"
        refine ev_callbound (id := "list.append") (self := .ref ra) (lod_local (by rfl) ⟨rfl, ?_⟩)
        refine evs_cons (ev_joined (jp_cons ?_))
        walk_at "go"
        refine ⟨_, rfl, by simp [cp_gs], jp_cons (ev_fmt ?_)⟩
        walk_at "go"
        refine ⟨_, rfl, by omega, _, rfl, by simp [cp_gs]; omega, jp_cons ?_⟩
        walk_at "go"
        refine ⟨_, rfl, by simp [cp_gs, cp_rp]; omega, jp_nil (by simp [cp_gs, cp_rp]; omega) ?_⟩
        walk_at "go"
        refine ⟨.inl (.tail _ (.head _)), call_add 2 rfl (.inl (.tail _ (.head _))) (by simp; omega) ?_⟩
        walk_at "go"
        refine wh_le [false] ⟨[("inp", .ref inp), ("STAR", .ref z), ("res", .ref ra), ("add", .ref u), ("i", I (d.length + 1 + f.length : Nat)), ("n", I N)], [(u, .raw (bobj "list.append" (.ref ra))), (ra, .list (ws.map U ++ [U (([] ++ cp "(?>.*?") ++ ft ++ cp ")")]))], σ.own ++ σ.kn⟩ (ih r2.length _ (by simp; omega) ⟨d ++ .star :: f, r2, ws ++ [([] ++ cp "(?>.*?") ++ ft ++ cp ")"], l3, by rw [e]; simp, hJ3, rfl, ?_, ?_, ?_, ?_⟩) (by repeat (first | exact trivial | refine ⟨rfl, ?_⟩)) rfl (by walk_at "kn")
        · rw [← hw1, ltxs_cons, ltxs_append, ltxs_cons, htf, cp_gs, cp_rp]; simp [ltx]
        · simp; omega
        · simp [cp_gs, cp_rp]; omega
        · rw [hdf, List.map_append]; rfl
  rintro τ ⟨ws, hw1, hw2, rfl⟩
  walk_at "go"
  refine ⟨by simp, ?_⟩
  walk_at "go"
  refine call_join (by walk_at "mem") (by rw [cp_empty]; show _ + _ * 0 ≤ _; omega) ?_
  rw [cp_empty, jn_nil]
  have hwl : ws.flatten.length = (ws.map List.length).sum := by rw [List.length_flatten]
  rw [hw1] at hwl ⊢
  walk_at "go"
  refine ev_joined (jp_cons ?_)
  walk_at "go"
  refine ⟨_, rfl, by simp [cp_hd], jp_cons (ev_fmt ?_)⟩
  walk_at "go"
  refine ⟨_, rfl, by omega, _, rfl, by simp [cp_hd]; omega, jp_cons ?_⟩
  walk_at "go"
  refine ⟨_, rfl, by simp [cp_hd, cp_tl]; omega, jp_nil (by simp [cp_hd, cp_tl]; omega) ?_⟩
  exact ⟨by rw [cp_hd, cp_tl]; rfl, _, rfl⟩
end
section
variable {G : Gd} {mg mb : Str → Option Value} {A : Around} {env : Env} {L L' : Addr} {σ : St} {K : Value → St → Prop} {KF : Flow → St → Prop}
theorem c_translate (Λ : Law G mg mb) {toks pre rest : List TK} {lx : List LX} {x : TS} {m : List (Str × Value)} {o2 k : List (Addr × O)} (hA : rm 6 A) (hx : ttOk x) (e : toks = pre ++ rest) (hJ : JoinT rest lx) (hp : ∀ t ∈ pre, t ≠ .star) (hok : ∀ t ∈ toks, okT t) (hap : apart toks) (hl : toks.length ≤ 10)
    (h : ∀ x', ttOk x' → K (U ([40, 63, 115, 58] ++ ltxs (pre.map .tok ++ lx) ++ [41, 92, 90])) ⟨m, tt x' ++ o2, k⟩) : Call G A L ⟨m, tt x ++ o2, k⟩ (.ref 65) [U (pat toks)] K := by
  have ho := Λ.X 65 _ (by k_is)
  refine call_less ?_
  refine call_defO (tt x) ["pat"] [("pat", U (pat toks))] Λ.Γ ho Λ.off rfl rfl (Λ.code ?hc) ?hcT hA.d rfl ?bind ?loc rfl ?body ?cell ?co ?gen ?k
  walk_at "enter"
  clear ho; intro L' env
  walk_at "go"
  refine call_object fun z => ?_
  walk_at "go"
  rw [cp_dot]
  refine call_perm (o' := tt x ++ [(z, .raw plainO)]) (List.perm_append_singleton _ _).symm ?_
  refine c_transl Λ hA.deeper.less hx (.head _) hok hap hl fun x' a hx' => ?_
  walk_at "go"
  subst e
  refine c_joinp Λ hA.deeper.less hJ hp hl (.inl (.head _)) (.inl (List.mem_cons_of_mem _ (List.mem_append_right _ (.head _)))) ?_
  walk_at "go"
  have h2 := h x' hx'
  obtain ⟨ps, lam⟩ := x'
  rcases lam with _ | ⟨c', oc⟩
  · exact ⟨[false, true, false], ⟨m, tt ⟨ps, none⟩ ++ o2, k⟩, ⟨fun _ _ q => q, rfl, fun p hp => .inr hp⟩, h2⟩
  · exact ⟨[false, true, true, false], ⟨m, tt ⟨ps, some (c', oc)⟩ ++ o2, k⟩, ⟨fun _ _ q => q, rfl, fun p hp => .inr hp⟩, h2⟩
/-- what a translated text's piece says -/
noncomputable def itm : LX → Option (List Nat × List Nat)
  | .rp => none
  | .gs => some (cp "star", [])
  | .st => some (cp "star", [])
  | .tok .star => some (cp "star", [])
  | .tok .qm => some (cp "any", [])
  | .tok (.lit c) => some (cp "one", [c])
  | .tok (.one c) => some (cp "one", [c])
  | .tok (.neg c) => some (cp "other", [c])
theorem call_made2 {f : Value} {as : List Value} {ob : O} {oa : Addr → O} (h : ∀ a b, K (.ref a) ((σ.put b ob).put a (oa b))) (k : Call G A L σ f as fun v σ' => ∃ bs a b τ, v = .ref a ∧ σ' = σ.leave τ ∧ bs.length = τ.own.length ∧ pkT bs τ.own = [(a, oa b), (b, ob)]) : Call G A L σ f as K := call_less fun vs hvs =>
  (k vs hvs).mono fun v σ' ⟨bs, a, b, τ, e, e', hl, hp⟩ => by
    obtain ⟨m, o, kn⟩ := σ; obtain ⟨m', j, kn'⟩ := τ
    subst e'
    refine ⟨bs, ⟨m, (a, oa b) :: (b, ob) :: o, kn⟩, ⟨fun x d q => q, ?_, fun p hp => .inr hp⟩, by rw [e]; exact h a b⟩
    show (a, oa b) :: (b, ob) :: o = pkT bs (j ++ o)
    have : ∀ (bs : List Bool) (j : List (Addr × O)), bs.length = j.length → pkT bs (j ++ o) = pkT bs j ++ o := by
      intro bs
      induction bs with
      | nil => intro j hj; cases j <;> simp_all [pkT]
      | cons b bs ih =>
        intro j hj
        cases j with
        | nil => simp at hj
        | cons p j =>
          have := ih j (by simpa using hj)
          cases b <;> simp [pkT, this]
    rw [this _ _ hl]
    have hp' : pkT bs j = [(a, oa b), (b, ob)] := hp
    rw [hp']; rfl
noncomputable def itv (t : TK) : List Nat × List Nat := (itm (.tok t)).getD ([], [])
theorem c_item (Λ : Law G mg mb) {p r : List Nat} {t : TK} (hA : rm 1 A) (ht : t ≠ .star) (hok : okT t) (hz : (p ++ (tx t ++ r)).length ≤ 10000)
    (h : ∀ a b, K (.ref a) ((σ.put b (.tuple [U (itv t).1, U (itv t).2])).put a (.tuple [.ref b, I (p.length + (tx t).length : Nat)]))) : Call G A L σ (.ref 206) [U (p ++ (tx t ++ r)), I p.length] K := by
  have ho := Λ.X 206 _ (by k_is)
  refine call_made2 h ?_
  refine call_def ["body", "place"] [("place", I p.length), ("body", U (p ++ (tx t ++ r)))] Λ.Γ ho Λ.off rfl rfl (Λ.code ?hc) ?hcT hA.d rfl ?bind ?loc rfl ?body ?cell ?co ?gen ?k
  walk_at "enter"
  clear ho; intro L' env
  have hat : ∀ (j : Nat) (k : Int) (c : Nat), k = ((p.length + j : Nat) : Int) → (tx t)[j]? = some c → (p ++ (tx t ++ r))[k.toNat]? = some c := by
    rintro j k c rfl hj
    rw [Int.toNat_natCast, List.getElem?_append_right (by omega), Nat.add_sub_cancel_left, List.getElem?_append_left (List.getElem?_eq_some_iff.mp hj).1]
    exact hj
  have hidx : ∀ (lo k : Nat), lo ≤ k → (tx t)[k]? = some 93 → (∀ i, lo ≤ i → i < k → (tx t)[i]? ≠ some 93) → (p.length + lo ≤ p.length + k) ∧ (p ++ (tx t ++ r))[p.length + k]? = some 93 ∧ ∀ i, p.length + lo ≤ i → i < p.length + k → (p ++ (tx t ++ r))[i]? ≠ some 93 := by
    intro lo k hlo hk hn
    refine ⟨by omega, ?_, fun i h1 h2 => ?_⟩
    · have := hat k _ 93 rfl hk
      rwa [Int.toNat_natCast] at this
    · have hkl := (List.getElem?_eq_some_iff.mp hk).1
      rw [List.getElem?_append_right (by omega), List.getElem?_append_left (by omega)]
      exact hn _ (by omega) (by omega)
  generalize hB : p ++ (tx t ++ r) = B at hat hidx hz ⊢
  walk_at "go"
  rcases t with _ | _ | c | c | c
  · exact absurd rfl ht
  · refine itm_str (c := 46) (by omega) (hat 0 _ 46 rfl rfl) (by omega) ?_
    walk_at "go"
    refine ift rfl ?_
    walk_at "go"
    refine ⟨by simp, fun b => ?_⟩
    walk_at "go"
    refine ⟨by simp, fun a => ?_⟩
    walk_at "go"
    exact ⟨[true, true], a, b, _, rfl, rfl, rfl, rfl⟩
  · by_cases hc : c ∈ [93, 45, 94]
    · have htx : tx (.lit c) = [92, c] := by unfold tx esc; dsimp only; rw [if_pos hc]
      rw [htx] at hat hidx ⊢
      refine itm_str (c := 92) (by omega) (hat 0 _ 92 rfl rfl) (by omega) ?_
      walk_at "go"
      refine iff' rfl ?_
      walk_at "go"
      refine itm_str (c := 92) (by omega) (hat 0 _ 92 rfl rfl) (by omega) ?_
      walk_at "go"
      refine iff' rfl ?_
      walk_at "go"
      refine itm_str (c := 92) (by omega) (hat 0 _ 92 rfl rfl) (by omega) ?_
      walk_at "go"
      refine ift rfl ?_
      walk_at "go"
      refine itm_str (c := c) (by omega) (hat 1 _ c (by omega) rfl) (by omega) ?_
      walk_at "go"
      refine ⟨by simp, fun b => ?_⟩
      walk_at "go"
      refine ⟨by simp, fun a => ?_⟩
      walk_at "go"
      exact ⟨[true, true], a, b, _, rfl, rfl, rfl, rfl⟩
    · have htx : tx (.lit c) = [c] := by unfold tx esc; dsimp only; rw [if_neg hc]
      have hc2 : c ≠ 46 ∧ c ≠ 91 ∧ c ≠ 92 := by
        simp [okT] at hok hc
        omega
      rw [htx] at hat hidx ⊢
      refine itm_str (c := c) (by omega) (hat 0 _ c rfl rfl) (by omega) ?_
      walk_at "go"
      refine iff' (by simp [cp_dot, hc2]) ?_
      walk_at "go"
      refine itm_str (c := c) (by omega) (hat 0 _ c rfl rfl) (by omega) ?_
      walk_at "go"
      refine iff' (by simp [cp_lb, hc2]) ?_
      walk_at "go"
      refine itm_str (c := c) (by omega) (hat 0 _ c rfl rfl) (by omega) ?_
      walk_at "go"
      refine iff' (by simp [cp_bs, hc2]) ?_
      walk_at "go"
      refine itm_str (c := c) (by omega) (hat 0 _ c rfl rfl) (by omega) ?_
      walk_at "go"
      refine ⟨by simp, fun b => ?_⟩
      walk_at "go"
      refine ⟨by simp, fun a => ?_⟩
      walk_at "go"
      exact ⟨[true, true], a, b, _, rfl, rfl, rfl, rfl⟩
  · by_cases h91 : c = 91
    · subst h91
      have htx : tx (.one 91) = [91, 92, 91, 93] := rfl
      rw [htx] at hat hidx ⊢
      obtain ⟨h1, h2, h3⟩ := hidx 2 3 (by omega) rfl (by
        intro i hi1 hi2
        obtain rfl : i = 2 := by omega
        decide)
      refine itm_str (c := 91) (by omega) (hat 0 _ 91 rfl rfl) (by omega) ?_
      walk_at "go"
      refine iff' rfl ?_
      walk_at "go"
      refine itm_str (c := 91) (by omega) (hat 0 _ 91 rfl rfl) (by omega) ?_
      walk_at "go"
      refine ift rfl ?_
      walk_at "go"
      refine itm_str (c := 92) (by omega) (hat 1 _ 92 (by omega) rfl) (by omega) ?_
      walk_at "go"
      refine iff' rfl ?_
      walk_at "go"
      refine iff' rfl ?_
      walk_at "go"
      refine call_index2 (c := 93) (lo := p.length + 2) (k := p.length + 3) h1 h2 h3 ?_
      walk_at "go"
      refine itm_str (c := 91) (by omega) (hat 2 _ 91 (by omega) rfl) (by omega) ?_
      walk_at "go"
      refine ⟨by simp, fun b => ?_⟩
      walk_at "go"
      refine ⟨by simp, fun a => ?_⟩
      walk_at "go"
      exact ⟨[true, true], a, b, _, rfl, rfl, rfl, rfl⟩
    · have htx : tx (.one c) = [91, c, 93] := by simp [tx, h91]
      have hc2 : c ≠ 94 := by
        simp [okT] at hok
        omega
      rw [htx] at hat hidx ⊢
      obtain ⟨h1, h2, h3⟩ := hidx 2 2 (by omega) rfl (by
        intro i hi1 hi2
        omega
        )
      refine itm_str (c := 91) (by omega) (hat 0 _ 91 rfl rfl) (by omega) ?_
      walk_at "go"
      refine iff' rfl ?_
      walk_at "go"
      refine itm_str (c := 91) (by omega) (hat 0 _ 91 rfl rfl) (by omega) ?_
      walk_at "go"
      refine ift rfl ?_
      walk_at "go"
      refine itm_str (c := c) (by omega) (hat 1 _ c (by omega) rfl) (by omega) ?_
      walk_at "go"
      refine iff' (by simp [cp_caret, hc2]) ?_
      walk_at "go"
      refine iff' rfl ?_
      walk_at "go"
      refine call_index2 (c := 93) (lo := p.length + 2) (k := p.length + 2) h1 h2 h3 ?_
      walk_at "go"
      refine itm_str (c := c) (by omega) (hat 1 _ c (by omega) rfl) (by omega) ?_
      walk_at "go"
      refine ⟨by simp, fun b => ?_⟩
      walk_at "go"
      refine ⟨by simp, fun a => ?_⟩
      walk_at "go"
      exact ⟨[true, true], a, b, _, rfl, rfl, rfl, rfl⟩
  · by_cases h45 : c = 45
    · subst h45
      have htx : tx (.neg 45) = [91, 94, 92, 45, 93] := rfl
      rw [htx] at hat hidx ⊢
      obtain ⟨h1, h2, h3⟩ := hidx 3 4 (by omega) rfl (by
        intro i hi1 hi2
        obtain rfl : i = 3 := by omega
        decide)
      refine itm_str (c := 91) (by omega) (hat 0 _ 91 rfl rfl) (by omega) ?_
      walk_at "go"
      refine iff' rfl ?_
      walk_at "go"
      refine itm_str (c := 91) (by omega) (hat 0 _ 91 rfl rfl) (by omega) ?_
      walk_at "go"
      refine ift rfl ?_
      walk_at "go"
      refine itm_str (c := 94) (by omega) (hat 1 _ 94 (by omega) rfl) (by omega) ?_
      walk_at "go"
      refine ift rfl ?_
      walk_at "go"
      refine ift rfl ?_
      walk_at "go"
      refine call_index2 (c := 93) (lo := p.length + 3) (k := p.length + 4) h1 h2 h3 ?_
      walk_at "go"
      refine itm_str (c := 45) (by omega) (hat 3 _ 45 (by omega) rfl) (by omega) ?_
      walk_at "go"
      refine ⟨by simp, fun b => ?_⟩
      walk_at "go"
      refine ⟨by simp, fun a => ?_⟩
      walk_at "go"
      exact ⟨[true, true], a, b, _, rfl, rfl, rfl, rfl⟩
    · have htx : tx (.neg c) = [91, 94, c, 93] := by simp [tx, h45]
      rw [htx] at hat hidx ⊢
      obtain ⟨h1, h2, h3⟩ := hidx 3 3 (by omega) rfl (by
        intro i hi1 hi2
        omega
        )
      refine itm_str (c := 91) (by omega) (hat 0 _ 91 rfl rfl) (by omega) ?_
      walk_at "go"
      refine iff' rfl ?_
      walk_at "go"
      refine itm_str (c := 91) (by omega) (hat 0 _ 91 rfl rfl) (by omega) ?_
      walk_at "go"
      refine ift rfl ?_
      walk_at "go"
      refine itm_str (c := 94) (by omega) (hat 1 _ 94 (by omega) rfl) (by omega) ?_
      walk_at "go"
      refine ift rfl ?_
      walk_at "go"
      refine ift rfl ?_
      walk_at "go"
      refine call_index2 (c := 93) (lo := p.length + 3) (k := p.length + 3) h1 h2 h3 ?_
      walk_at "go"
      refine itm_str (c := c) (by omega) (hat 2 _ c (by omega) rfl) (by omega) ?_
      walk_at "go"
      refine ⟨by simp, fun b => ?_⟩
      walk_at "go"
      refine ⟨by simp, fun a => ?_⟩
      walk_at "go"
      exact ⟨[true, true], a, b, _, rfl, rfl, rfl, rfl⟩
end
section
variable {G : Gd} {A : Around} {env : Env} {σ : St} {KF : Flow → St → Prop}
theorem swapped3 {x y z : Str} {p1 p2 p4 p' p3 : Pos} {k k2 : Nat} {v1 v2 v3 : Expr} (hk : env.blockKind = .function) (hx : env.kindOf x = some .local) (hy : env.kindOf y = some .local) (hz : env.kindOf z = some .local) (hl : (p2.line == p1.line) = true) (hl2 : (p4.line == p1.line) = true) (hed : [x, y, z].eraseDups = [x, y, z])
    (hs1 : isStar v1 = false) (hs2 : isStar v2 = false) (hs3 : isStar v3 = false)
    (hf : [v1, v2, v3].all (foldedForSure 8) = false) (hc : [v1, v2, v3].all (constantsAlone 8) = false) : swappedStores [.Tuple [.Name x p1, .Name y p2, .Name z p4] k p'] (.Tuple [v1, v2, v3] k2 p3) env = pure (some [x, y, z]) := by
  have hl1 : (p1.line == p1.line) = true := by simp
  have hm : (some NameKind.local == some NameKind.local && true) = true := rfl
  have h1 : (!([Expr.Name x p1, Expr.Name y p2, Expr.Name z p4].length == 2 || [Expr.Name x p1, Expr.Name y p2, Expr.Name z p4].length == 3) || [v1, v2, v3].length != [Expr.Name x p1, Expr.Name y p2, Expr.Name z p4].length || ScopeKind.function != ScopeKind.function) = false := rfl
  have h2 : ([x, y, z].length != [Expr.Name x p1, Expr.Name y p2, Expr.Name z p4].length || [x, y, z].length != [x, y, z].length) = false := by simp
  unfold swappedStores
  simp only [pure_bind, List.head?_cons, Option.map_some, Option.getD_some, List.filterMap_cons, List.filterMap_nil, Expr.pos, hx, hy, hz, hl, hl2, hl1, hk, hm, if_true, hed, hf, hc, h2]
  rw [if_neg (by rw [h1]; decide), if_neg (by simp only [List.any_cons, List.any_nil, Bool.or_false, Bool.or_eq_true, not_or, Bool.not_eq_true]; exact ⟨(by cases v1 <;> first | rfl | (simp [isStar] at hs1)), (by cases v2 <;> first | rfl | (simp [isStar] at hs2)), (by cases v3 <;> first | rfl | (simp [isStar] at hs3))⟩)]
  simp only [Bool.false_eq_true, if_false]
theorem ex_swap3 {x y z : Str} {p1 p2 p4 p' p3 p : Pos} {k k2 : Nat} {v1 v2 v3 : Expr} (hA : A.handled = none) (h : Ev G A env σ (.Tuple [v1, v2, v3] k2 p3) fun d σ₁ => ∃ a ds, d = .ref a ∧ Items σ₁ a ds ∧ [x, y, z].length = ds.length ∧ Stos G A env σ₁ [z, y, x] ds.reverse fun σ₂ => KF .next σ₂)
    (hf : [v1, v2, v3].all (foldedForSure 8) = false) (hc : [v1, v2, v3].all (constantsAlone 8) = false)
    (hk : env.blockKind = .function) (hx : env.kindOf x = some .local) (hy : env.kindOf y = some .local) (hz : env.kindOf z = some .local) (hl : (p2.line == p1.line) = true) (hl2 : (p4.line == p1.line) = true) (hed : [x, y, z].eraseDups = [x, y, z])
    (hs1 : isStar v1 = false) (hs2 : isStar v2 = false) (hs3 : isStar v3 = false)
    (hs : swapsWithSole [.Tuple [.Name x p1, .Name y p2, .Name z p4] k p'] (.Tuple [v1, v2, v3] k2 p3) p.line env = pure false) : Ex1 G A env σ (.Assign [.Tuple [.Name x p1, .Name y p2, .Name z p4] k p'] (.Tuple [v1, v2, v3] k2 p3) p) KF :=
  ex_swap [x, y, z] hA h (swapped3 hk hx hy hz hl hl2 hed hs1 hs2 hs3 hf hc) hs
end
section
variable {G : Gd} {mg mb : Str → Option Value} {A : Around} {env : Env} {L L' : Addr} {σ : St} {K : Value → St → Prop} {KF : Flow → St → Prop}
theorem tx_head {t : TK} (h : t ≠ .star) (hok : okT t) : ∃ c w, tx t = c :: w ∧ c ≠ 40 ∧ c ≠ 41 ∧ (c = 46 → t = .qm ∧ w = []) := by
  cases t with
  | star => exact absurd rfl h
  | qm => exact ⟨46, [], rfl, by decide, by decide, fun _ => ⟨rfl, rfl⟩⟩
  | lit c =>
    simp [okT] at hok
    unfold tx esc
    dsimp only
    split
    · exact ⟨92, [c], rfl, by decide, by decide, fun h => by omega⟩
    · exact ⟨c, [], rfl, by omega, by omega, fun h => by omega⟩
  | one c => exact ⟨91, _, rfl, by decide, by decide, fun h => by omega⟩
  | neg c => exact ⟨91, _, rfl, by decide, by decide, fun h => by omega⟩
theorem cut_at {α : Type} (a b : List α) (n : Nat) : cut (a ++ b) (some (a.length : Int)) (some ((a.length : Int) + n)) = b.take n := by
  unfold cut kms_lo kms_hi
  dsimp only
  rw [if_neg (by omega), if_neg (by omega), Int.toNat_natCast, show ((a.length : Int) + n).toNat = a.length + n by omega]
  simp only [List.length_append]
  rw [show min a.length (a.length + b.length) = a.length by omega, List.drop_left]
  by_cases h : n ≤ b.length
  · rw [Nat.min_eq_left (by omega), Nat.add_sub_cancel_left]
  · rw [Nat.min_eq_right (by omega), Nat.add_sub_cancel_left, List.take_of_length_le (by omega), List.take_of_length_le (by omega)]
theorem cut_body (h b t : List Nat) (h4 : h.length = 4) (t3 : t.length = 3) : cut (h ++ b ++ t) (some 4) (some (-3)) = b := by
  unfold cut kms_lo kms_hi
  dsimp only
  rw [if_pos (by decide), if_neg (by decide)]
  simp only [List.length_append, h4, t3]
  rw [show (4 : Int).toNat = 4 from rfl, show (-(-3 : Int)).toNat = 3 from rfl, Nat.min_eq_left (by omega), List.append_assoc, show 4 = h.length from h4.symm, List.drop_left, h4]
  rw [show 4 + b.length + 3 - 3 - 4 = b.length by omega, List.take_left]
noncomputable def tupO (p : Addr × List Nat × List Nat) : Addr × O := (p.1, .tuple [U p.2.1, U p.2.2])
theorem c_item' (Λ : Law G mg mb) {B p r : List Nat} {t : TK} (hB : B = p ++ (tx t ++ r)) (hA : rm 1 A) (ht : t ≠ .star) (hok : okT t) (hz : B.length ≤ 10000)
    (h : ∀ a b, K (.ref a) ((σ.put b (.tuple [U (itv t).1, U (itv t).2])).put a (.tuple [.ref b, I (p.length + (tx t).length : Nat)]))) : Call G A L σ (.ref 206) [U B, I p.length] K := by
  subst hB
  exact c_item Λ hA ht hok hz h
theorem cp_ds : cp ".*" = [46, 42] := rfl
theorem itm_tok {t : TK} (h : t ≠ .star) : itm (.tok t) = some (itv t) := by
  cases t with
  | star => exact absurd rfl h
  | _ => rfl
theorem c_items (Λ : Law G mg mb) {toks pre rest : List TK} {lx : List LX} {x : TS} {m : List (Str × Value)} {o2 k : List (Addr × O)} (hA : rm 7 A) (hx : ttOk x) (e : toks = pre ++ rest) (hJ : JoinT rest lx) (hp : ∀ t ∈ pre, t ≠ .star) (hok : ∀ t ∈ toks, okT t) (hap : apart toks) (hl : toks.length ≤ 10)
    (hlx : ∀ t, .tok t ∈ pre.map LX.tok ++ lx → t ≠ .star ∧ okT t) (hqm : ∀ d r, pre.map LX.tok ++ lx = d ++ .tok .qm :: r → (ltxs r).head? ≠ some 42) (hll : (pre.map LX.tok ++ lx).length ≤ 100)
    (h : ∀ x' ia (its : List (Addr × List Nat × List Nat)), ttOk x' → its.map (·.2) = (pre.map LX.tok ++ lx).filterMap itm → K (.ref ia) ⟨m, (ia, .list (its.map fun p => .ref p.1)) :: (its.reverse.map tupO ++ (tt x' ++ o2)), k⟩) : Call G A L ⟨m, tt x ++ o2, k⟩ (.ref 213) [U (pat toks)] K := by
  have ho := Λ.X 213 _ (by k_is)
  refine call_less ?_
  refine call_defO (tt x) ["pattern"] [("pattern", U (pat toks))] Λ.Γ ho Λ.off rfl rfl (Λ.code ?hc) ?hcT hA.d rfl ?bind ?loc rfl ?body ?cell ?co ?gen ?k
  walk_at "enter"
  clear ho; intro L' env
  walk_at "go"
  refine call_perm (o' := tt x ++ []) (by simp) ?_
  refine c_translate Λ hA.deeper.less hx e hJ hp hok hap hl fun x' hx' => ?_
  rw [List.append_nil]
  generalize hAA : pre.map LX.tok ++ lx = AA at hlx hqm hll h ⊢
  have hln : (ltxs AA).length ≤ 1000 := by
    have : ∀ l : List LX, (ltxs l).length ≤ 6 * l.length := by
      intro l
      induction l with
      | nil => simp [ltxs]
      | cons y l ih =>
        rw [ltxs_cons, List.length_append, List.length_cons]
        have : (ltx y).length ≤ 6 := by
          cases y with
          | tok t => have := tx_len t; show (tx t).length ≤ 6; omega
          | _ => simp [ltx]
        omega
    have := this AA
    omega
  walk_at "go"
  refine ex_swap3 ?h0 ?_ ?q1 ?q2 ?q4 ?q5 ?q6 ?q7 ?q8 ?q9 ?q10 ?q11 ?q12 ?q13 ?q14
  case h0 => exact hA.h
  case q1 => rfl
  case q2 => rfl
  case q4 => rfl
  case q5 => rfl
  case q6 => rfl
  case q7 => rfl
  case q8 => rfl
  case q9 => rfl
  case q10 => decide
  case q11 => rfl
  case q12 => rfl
  case q13 => rfl
  case q14 => rfl
  walk_at "go"
  rw [cut_body [40, 63, 115, 58] (ltxs AA) [41, 92, 90] rfl rfl]
  refine ⟨by simp, fun ia => ?_⟩
  walk_at "go"
  refine ⟨by simp, fun tp => ⟨tp, _, rfl, .tup (.inl (.head _)), rfl, ?_⟩⟩
  refine stos_cons (sto_local (stos_cons (sto_local (stos_cons (sto_local (stos_nil (nx_next ?_)))))))
  refine ex_cut (fun τ => ∃ its : List (Addr × List Nat × List Nat), its.map (·.2) = AA.filterMap itm ∧ τ = ⟨[("text", U ([40, 63, 115, 58] ++ ltxs AA ++ [41, 92, 90])), ("body", U (ltxs AA)), ("items", .ref ia)], (ia, .list (its.map fun p => .ref p.1)) :: (its.reverse.map tupO ++ tt x'), o2 ++ k⟩) ?_ ?_
  · refine ex1_gen fun KF hKF => ?_
    refine ex1_le [false] ⟨[("text", U ([40, 63, 115, 58] ++ ltxs AA ++ [41, 92, 90])), ("body", U (ltxs AA)), ("items", .ref ia), ("place", I (0 : Nat))], (ia, .list []) :: tt x', o2 ++ k⟩ (ex_while ?_) (by repeat (first | exact trivial | refine ⟨rfl, ?_⟩)) rfl (by walk_at "kn")
    refine wh_inv (fun n τ => ∃ (d r : List LX) (its : List (Addr × List Nat × List Nat)), AA = d ++ r ∧ n = r.length ∧ its.map (·.2) = d.filterMap itm ∧ τ = ⟨[("text", U ([40, 63, 115, 58] ++ ltxs AA ++ [41, 92, 90])), ("body", U (ltxs AA)), ("items", .ref ia), ("place", I ((ltxs d).length : Nat))], (ia, .list (its.map fun p => .ref p.1)) :: (its.reverse.map tupO ++ tt x'), o2 ++ k⟩) ?_ _ _ ⟨[], AA, [], rfl, rfl, rfl, rfl⟩
    rintro n τ ⟨d, r, its, eA, rfl, hits, rfl⟩ ih
    have hil : its.length ≤ 100 := by
      have h1 := congrArg List.length hits
      rw [List.length_map] at h1
      have h2 := List.length_filterMap_le itm d
      have h3 : d.length ≤ AA.length := by rw [eA]; simp
      omega
    have eB : ltxs AA = ltxs d ++ ltxs r := by rw [eA, ltxs_append]
    refine wh_turn ?_
    walk_at "go"
    rcases r with _ | ⟨y, r⟩
    · rw [List.append_nil] at eA
      subst eA
      refine iff' (by simp) ?_
      first | exact hKF _ _ ⟨rfl, [], ⟨[("text", U ([40, 63, 115, 58] ++ ltxs AA ++ [41, 92, 90])), ("body", U (ltxs AA)), ("items", .ref ia)], (ia, .list (its.map fun p => .ref p.1)) :: (its.reverse.map tupO ++ tt x'), o2 ++ k⟩, by walk_at "le", its, hits, rfl⟩ | exact ⟨rfl, [], ⟨[("text", U ([40, 63, 115, 58] ++ ltxs AA ++ [41, 92, 90])), ("body", U (ltxs AA)), ("items", .ref ia)], (ia, .list (its.map fun p => .ref p.1)) :: (its.reverse.map tupO ++ tt x'), o2 ++ k⟩, by walk_at "le", its, hits, rfl⟩
    · rw [ltxs_cons] at eB
      have eD : ltxs (d ++ [y]) = ltxs d ++ ltx y := by rw [ltxs_append, ltxs_cons]; simp [ltxs]
      have hlB : (ltxs AA).length = (ltxs d).length + ((ltx y).length + (ltxs r).length) := by rw [eB]; simp
      have hy1 : 1 ≤ (ltx y).length := by
        cases y with
        | tok t =>
          obtain ⟨c, w, ew, _⟩ := tx_head (hlx t (by rw [eA]; simp)).1 (hlx t (by rw [eA]; simp)).2
          show 1 ≤ (tx t).length
          rw [ew]; simp
        | _ => simp [ltx]
      have hat : ∀ c, (ltx y)[0]? = some c → (ltxs AA)[(((ltxs d).length : Nat) : Int).toNat]? = some c := by
        intro c hc
        rw [Int.toNat_natCast, eB, List.getElem?_append_right (by omega), Nat.sub_self, List.getElem?_append_left (by omega)]
        exact hc
      refine ift (by simp; omega) ?_
      walk_at "go"
      rcases y with _ | _ | _ | t
      · refine itm_str (c := 41) (by omega) (hat 41 rfl) (by omega) ?_
        walk_at "go"
        refine ift rfl ?_
        walk_at "go"
        exact wh_le [] ⟨[("text", U ([40, 63, 115, 58] ++ ltxs AA ++ [41, 92, 90])), ("body", U (ltxs AA)), ("items", .ref ia), ("place", I (((ltxs d).length + 1 : Nat)))], (ia, .list (its.map fun p => .ref p.1)) :: (its.reverse.map tupO ++ tt x'), o2 ++ k⟩ (ih r.length _ (Nat.lt_succ_self _) ⟨d ++ [.rp], r, its, by rw [eA]; simp, rfl, by rw [hits]; simp [itm], by rw [eD, List.length_append]; rfl⟩) (by repeat (first | exact trivial | refine ⟨rfl, ?_⟩)) rfl (by walk_at "kn")
      · refine itm_str (c := 40) (by omega) (hat 40 rfl) (by omega) ?_
        walk_at "go"
        refine iff' rfl ?_
        walk_at "go"
        rw [show cut (ltxs AA) (some ((ltxs d).length : Int)) (some (((ltxs d).length : Int) + 6)) = (ltx .gs ++ ltxs r).take 6 from by rw [eB]; exact cut_at _ _ 6]
        refine ift (by simp [ltx, cp_gs]) (ift rfl ?_)
        walk_at "go"
        refine ⟨by simp, fun b => ?_⟩
        walk_at "go"
        refine call_append 1 rfl (by simp; omega) ?_
        walk_at "go"
        refine itm_str (c := 40) (by omega) (hat 40 rfl) (by omega) ?_
        walk_at "go"
        refine ift rfl ?_
        walk_at "go"
        rw [cp_empty]
        refine wh_le [] ⟨[("text", U ([40, 63, 115, 58] ++ ltxs AA ++ [41, 92, 90])), ("body", U (ltxs AA)), ("items", .ref ia), ("place", I ((ltxs d).length + 6 : Nat))], (b, .tuple [U (cp "star"), U []]) :: (ia, .list ((its.map fun p => .ref p.1) ++ [.ref b])) :: (its.reverse.map tupO ++ tt x'), o2 ++ k⟩ ?_ (by repeat (first | exact trivial | refine ⟨rfl, ?_⟩)) rfl (by walk_at "kn")
        refine wh_perm (List.Perm.swap _ _ _) ?_
        exact ih r.length _ (Nat.lt_succ_self _) ⟨d ++ [.gs], r, its ++ [(b, cp "star", [])], by rw [eA]; simp, rfl, by rw [List.map_append, hits]; simp [itm], by rw [eD, List.length_append]; simp [tupO, ltx]⟩
      · refine itm_str (c := 46) (by omega) (hat 46 rfl) (by omega) ?_
        walk_at "go"
        refine iff' rfl ?_
        walk_at "go"
        rw [show cut (ltxs AA) (some ((ltxs d).length : Int)) (some (((ltxs d).length : Int) + 6)) = (ltx .st ++ ltxs r).take 6 from by rw [eB]; exact cut_at _ _ 6]
        refine iff' (by simp [ltx, cp_gs]) ?_
        walk_at "go"
        rw [show cut (ltxs AA) (some ((ltxs d).length : Int)) (some (((ltxs d).length : Int) + 2)) = (ltx .st ++ ltxs r).take 2 from by rw [eB]; exact cut_at _ _ 2]
        refine ift (by simp [ltx, cp_ds]) (ift rfl ?_)
        walk_at "go"
        refine ⟨by simp, fun b => ?_⟩
        walk_at "go"
        refine call_append 1 rfl (by simp; omega) ?_
        walk_at "go"
        refine itm_str (c := 46) (by omega) (hat 46 rfl) (by omega) ?_
        walk_at "go"
        refine iff' rfl ?_
        walk_at "go"
        rw [cp_empty]
        refine wh_le [] ⟨[("text", U ([40, 63, 115, 58] ++ ltxs AA ++ [41, 92, 90])), ("body", U (ltxs AA)), ("items", .ref ia), ("place", I ((ltxs d).length + 2 : Nat))], (b, .tuple [U (cp "star"), U []]) :: (ia, .list ((its.map fun p => .ref p.1) ++ [.ref b])) :: (its.reverse.map tupO ++ tt x'), o2 ++ k⟩ ?_ (by repeat (first | exact trivial | refine ⟨rfl, ?_⟩)) rfl (by walk_at "kn")
        refine wh_perm (List.Perm.swap _ _ _) ?_
        exact ih r.length _ (Nat.lt_succ_self _) ⟨d ++ [.st], r, its ++ [(b, cp "star", [])], by rw [eA]; simp, rfl, by rw [List.map_append, hits]; simp [itm], by rw [eD, List.length_append]; simp [tupO, ltx]⟩
      · obtain ⟨ht, hokt⟩ := hlx t (by rw [eA]; simp)
        obtain ⟨c, w, ew, hc1, hc2, hc3⟩ := tx_head ht hokt
        have eL : ltx (.tok t) = c :: w := ew
        refine itm_str (c := c) (by omega) (hat c (by rw [eL]; rfl)) (by omega) ?_
        walk_at "go"
        refine iff' (by simp [cp_rp, hc2]) ?_
        walk_at "go"
        rw [show cut (ltxs AA) (some ((ltxs d).length : Int)) (some (((ltxs d).length : Int) + 6)) = (ltx (.tok t) ++ ltxs r).take 6 from by rw [eB]; exact cut_at _ _ 6]
        refine iff' (by rw [eL]; simp [cp_gs, hc1]) ?_
        walk_at "go"
        rw [show cut (ltxs AA) (some ((ltxs d).length : Int)) (some (((ltxs d).length : Int) + 2)) = (ltx (.tok t) ++ ltxs r).take 2 from by rw [eB]; exact cut_at _ _ 2]
        have h2 : ((ltx (.tok t) ++ ltxs r).take 2 == cp ".*") = false := by
          rw [eL, cp_ds]
          by_cases h46 : c = 46
          · obtain ⟨rfl, rfl⟩ := hc3 h46
            have := hqm d r eA
            cases hr : ltxs r with
            | nil => simp
            | cons a b =>
              rw [hr] at this
              simp at this ⊢
              intro _ ha
              exact this ha
          · simp [h46]
        refine iff' h2 ?_
        walk_at "go"
        refine iff' rfl ?_
        walk_at "go"
        refine c_item' Λ eB hA.deeper.less ht hokt (by omega) fun a b => ?_
        refine asg_tuple hA.h (.tup (.inl (.head _))) rfl ?_
        walk_at "go"
        refine call_append 2 rfl (by simp; omega) ?_
        walk_at "go"
        refine wh_le [false] ⟨[("text", U ([40, 63, 115, 58] ++ ltxs AA ++ [41, 92, 90])), ("body", U (ltxs AA)), ("items", .ref ia), ("place", I ((ltxs d).length + (tx t).length : Nat))], (b, .tuple [U (itv t).1, U (itv t).2]) :: (ia, .list ((its.map fun p => .ref p.1) ++ [.ref b])) :: (its.reverse.map tupO ++ tt x'), o2 ++ k⟩ ?_ (by repeat (first | exact trivial | refine ⟨rfl, ?_⟩)) rfl (by walk_at "kn")
        refine wh_perm (List.Perm.swap _ _ _) ?_
        exact ih r.length _ (Nat.lt_succ_self _) ⟨d ++ [.tok t], r, its ++ [(b, itv t)], by rw [eA]; simp, rfl, by rw [List.map_append, hits]; simp [itm_tok ht], by rw [eD, List.length_append]; simp [tupO, ltx]⟩
  rintro τ ⟨its, hits, rfl⟩
  walk_at "go"
  refine op_add_str (by simp [cp_hd]; omega) ?_
  walk_at "go"
  refine op_add_str (by simp [cp_hd, cp_tl]; omega) ?_
  walk_at "go"
  refine ift (by simp [cp_hd, cp_tl]) ?_
  walk_at "go"
  exact ⟨[], ⟨m, (ia, .list (its.map fun p => .ref p.1)) :: (its.reverse.map tupO ++ (tt x' ++ o2)), k⟩, ⟨fun _ _ q => q, by show _ = pkT [] _; rw [show ∀ l, pkT [] l = l from fun l => by unfold pkT; rfl]; simp, fun p hp => .inr hp⟩, h x' ia its hx' hits⟩
end
section
variable {G : Gd} {mg mb : Str → Option Value} {A : Around} {env : Env} {L L' : Addr} {σ : St} {K : Value → St → Prop} {KF : Flow → St → Prop}
/-- a name as a pattern says it -/
noncomputable def sg (c : Nat) : TK := if c ∈ [42, 63, 91] then .one c else .lit c
noncomputable def menu : List Nat := [42, 91, 63, 93, 45, 33, 94, 97]
structure PT where
  pre : List TK
  rest : List TK
  lx : List LX
noncomputable def ptOf (n one two : Nat) : PT :=
  match n with
  | 0 => ⟨[], [.star, sg one], [.st, .tok (sg one)]⟩
  | 1 => ⟨[.lit 47, .qm], [], []⟩
  | 2 => ⟨[.lit 47, sg two], [.star], [.st]⟩
  | 3 => ⟨[], [.star, .neg two], [.st, .tok (.neg two)]⟩
  | 4 => ⟨[], [.star, .lit 47, sg one, .lit 47, .star], [.gs, .tok (.lit 47), .tok (sg one), .tok (.lit 47), .rp, .st]⟩
  | 5 => ⟨[.lit 47, .qm, .lit 47, .qm], [], []⟩
  | _ => ⟨[], [.star, sg two, .star, sg one], [.gs, .tok (sg two), .rp, .st, .tok (sg one)]⟩
noncomputable def PT.toks (p : PT) : List TK := p.pre ++ p.rest
noncomputable def PT.lxs (p : PT) : List LX := p.pre.map .tok ++ p.lx
theorem sg_ne (c : Nat) : sg c ≠ .star := by unfold sg; split <;> simp
theorem sg_ok {c : Nat} (h : c ∈ menu) : okT (sg c) := by
  unfold sg
  simp [menu] at h
  rcases h with rfl | rfl | rfl | rfl | rfl | rfl | rfl | rfl <;> simp [okT]
theorem sg_qm (c : Nat) : sg c ≠ .qm := by unfold sg; split <;> simp
structure PTok (p : PT) : Prop where
  j : JoinT p.rest p.lx
  pre : ∀ t ∈ p.pre, t ≠ .star
  ok : ∀ t ∈ p.toks, okT t
  ap : apart p.toks
  len : p.toks.length ≤ 10
  tk : ∀ t, .tok t ∈ p.lxs → t ≠ .star ∧ okT t
  qm : ∀ d r, p.lxs = d ++ .tok .qm :: r → (ltxs r).head? ≠ some 42
  ll : p.lxs.length ≤ 100
theorem no_qm {l : List LX} (h : LX.tok .qm ∉ l) : ∀ d r, l = d ++ .tok .qm :: r → (ltxs r).head? ≠ some 42 := fun d r e => absurd (by rw [e]; simp) h
noncomputable def qmOk : List LX → Bool
  | [] => true
  | .tok .qm :: r => ((ltxs r).head? != some 42) && qmOk r
  | _ :: r => qmOk r
theorem qm_of : ∀ {l : List LX}, qmOk l = true → ∀ d r, l = d ++ .tok .qm :: r → (ltxs r).head? ≠ some 42
  | [], _, d, r, e => by simp at e
  | x :: l, h, [], r, e => by
    obtain ⟨rfl, rfl⟩ := List.cons.inj e
    unfold qmOk at h
    simp at h
    exact h.1
  | x :: l, h, y :: d, r, e => by
    obtain ⟨rfl, e2⟩ := List.cons.inj e
    refine qm_of (l := l) ?_ d r e2
    cases x with
    | tok t =>
      cases t with
      | qm => unfold qmOk at h; simp at h; exact h.2
      | _ => exact h
    | _ => exact h
theorem sg_apart (c : Nat) (r : List TK) : apart (sg c :: r) = apart r := by unfold sg; split <;> rfl
theorem apart_ss (c : Nat) (r : List TK) : apart (.star :: sg c :: r) = apart r := by unfold sg; split <;> rfl
theorem pt_ok {n one two : Nat} (hn : n < 7) (h1 : one ∈ menu) (h2 : two ∈ menu) : PTok (ptOf n one two) := by
  have o1 := sg_ok h1
  have o2 := sg_ok h2
  have n1 := sg_ne one
  have n2 := sg_ne two
  have q1 := sg_qm one
  have q2 := sg_qm two
  have hm2 : okT (.neg two) := by simp [menu] at h2; simp [okT]; omega
  refine lt7 hn ?_ ?_ ?_ ?_ ?_ ?_ ?_
  · exact ⟨.last (f := [sg one]) (by simpa using n1) (by simp), by simp [ptOf], by simpa [ptOf, PT.toks, okT] using o1, by show apart [.star, sg one]; rw [apart_ss]; trivial, by simp [ptOf, PT.toks], by simp [ptOf, PT.lxs]; exact ⟨n1, o1⟩, no_qm (by simp [ptOf, PT.lxs]; exact fun h => q1 h.symm), by simp [ptOf, PT.lxs]⟩
  · exact ⟨.nil, by simp [ptOf], by simp [ptOf, PT.toks, okT], trivial, by simp [ptOf, PT.toks], by simp [ptOf, PT.lxs, okT], qm_of (by rfl), by simp [ptOf, PT.lxs]⟩
  · exact ⟨.fin, by simpa [ptOf] using n2, by simp [ptOf, PT.toks]; exact ⟨by simp [okT], o2, trivial⟩, by show apart [.lit 47, sg two, .star]; show apart [sg two, .star]; rw [sg_apart]; trivial, by simp [ptOf, PT.toks], by simp [ptOf, PT.lxs]; exact ⟨by simp [okT], n2, o2⟩, no_qm (by simp [ptOf, PT.lxs]; exact fun h => q2 h.symm), by simp [ptOf, PT.lxs]⟩
  · exact ⟨.last (f := [.neg two]) (by simp) (by simp), by simp [ptOf], by simp [ptOf, PT.toks]; exact ⟨trivial, hm2⟩, trivial, by simp [ptOf, PT.toks], by simp [ptOf, PT.lxs]; exact hm2, no_qm (by simp [ptOf, PT.lxs]), by simp [ptOf, PT.lxs]⟩
  · exact ⟨.more (f := [.lit 47, sg one, .lit 47]) (r := []) (by simpa using n1) (by simp) .fin, by simp [ptOf], by simp [ptOf, PT.toks]; exact ⟨trivial, by simp [okT], o1, by simp [okT], trivial⟩, by show apart [.lit 47, sg one, .lit 47, .star]; show apart [sg one, .lit 47, .star]; rw [sg_apart]; trivial, by simp [ptOf, PT.toks], by simp [ptOf, PT.lxs]; exact ⟨by simp [okT], ⟨n1, o1⟩, by simp [okT]⟩, no_qm (by simp [ptOf, PT.lxs]; exact fun h => q1 h.symm), by simp [ptOf, PT.lxs]⟩
  · exact ⟨.nil, by simp [ptOf], by simp [ptOf, PT.toks, okT], trivial, by simp [ptOf, PT.toks], by simp [ptOf, PT.lxs, okT], qm_of (by rfl), by simp [ptOf, PT.lxs]⟩
  · exact ⟨.more (f := [sg two]) (r := [sg one]) (by simpa using n2) (by simp) (.last (f := [sg one]) (by simpa using n1) (by simp)), by simp [ptOf], by simp [ptOf, PT.toks]; exact ⟨trivial, o2, trivial, o1⟩, by show apart [.star, sg two, .star, sg one]; rw [apart_ss, apart_ss]; trivial, by simp [ptOf, PT.toks], by simp [ptOf, PT.lxs]; exact ⟨⟨n2, o2⟩, n1, o1⟩, no_qm (by simp [ptOf, PT.lxs]; exact ⟨fun h => q2 h.symm, fun h => q1 h.symm⟩), by simp [ptOf, PT.lxs]⟩
inductive Dd where
  | step (told : List Nat)
  | jump (its : List (List Nat × List Nat))
noncomputable def stepOf (n one two : Nat) : List Nat :=
  match n with
  | 0 => [46, 46]
  | 1 => [one]
  | 2 => [two]
  | 3 => [46, 47, two]
  | 4 => [46, 46, 47, one]
  | 5 => [one, 47, 47, two]
  | _ => [47, one]
noncomputable def deedOf (one two : Nat) (cell : Int) : Dd :=
  if cell.fmod 4 < 3 then .step (stepOf ((cell.fdiv 4).fmod 7).toNat one two) else .jump ((ptOf ((cell.fdiv 4).fmod 7).toNat one two).lxs.filterMap itm)
/-- a deed made: its tuple, and what a jump holds -/
structure DI where
  t : Addr
  d : Dd
  ia : Addr
  its : List (Addr × List Nat × List Nat)
noncomputable def DI.objs (D : DI) : List (Addr × O) :=
  match D.d with
  | .step told => [(D.t, .tuple [U (cp "step"), U told])]
  | .jump _ => (D.t, .tuple [U (cp "jump"), .ref D.ia]) :: (D.ia, .list (D.its.map fun p => .ref p.1)) :: D.its.reverse.map tupO
noncomputable def DI.ok (D : DI) : Prop :=
  match D.d with
  | .step _ => True
  | .jump l => D.its.map (·.2) = l
theorem cp_dsl : cp "./" = [46, 47] := rfl
theorem cp_ddsl : cp "../" = [46, 46, 47] := rfl
theorem cp_ss : cp "//" = [47, 47] := rfl
theorem cp_asq : cp "*?[" = [42, 63, 91] := rfl
theorem cp_asb : cp "*[!" = [42, 91, 33] := rfl
theorem cp_assl : cp "*/" = [42, 47] := rfl
theorem cp_slas : cp "/*" = [47, 42] := rfl
theorem cp_sq : cp "/?" = [47, 63] := rfl
theorem cp_sqsq : cp "/?/?" = [47, 63, 47, 63] := rfl
theorem pkT_keep (r : List (Addr × O)) (bs : List Bool) : ∀ l : List (Addr × O), pkT (l.map (fun _ => true) ++ bs) (l ++ r) = l ++ pkT bs r
  | [] => rfl
  | p :: l => by
    show pkT (true :: (l.map (fun _ => true) ++ bs)) (p :: (l ++ r)) = _
    rw [pkT, pkT_keep r bs l]
    rfl
theorem pkT_nil' (l : List (Addr × O)) : pkT [] l = l := by unfold pkT; rfl
theorem pkT_f (p : Addr × O) (bs : List Bool) (l : List (Addr × O)) : pkT (false :: bs) (p :: l) = pkT bs l := rfl
theorem pkT_mid5 {p q j1 j2 j3 j4 j5 : Addr × O} {a b o : List (Addr × O)} : (p :: q :: (a ++ b)) ++ o = pkT ((p :: q :: (a ++ b)).map (fun _ => true) ++ [false, false, false, false, false]) ((p :: q :: (a ++ (b ++ [j1, j2, j3, j4, j5]))) ++ o) := by
  have e : (p :: q :: (a ++ (b ++ [j1, j2, j3, j4, j5]))) ++ o = (p :: q :: (a ++ b)) ++ (j1 :: j2 :: j3 :: j4 :: j5 :: o) := by
    simp only [List.cons_append, List.append_assoc, List.nil_append]
  rw [e, pkT_keep, pkT_f, pkT_f, pkT_f, pkT_f, pkT_f, pkT_nil']
theorem DI.objs_jump (t ia : Addr) (l : List (List Nat × List Nat)) (its : List (Addr × List Nat × List Nat)) (x o2 : List (Addr × O)) : DI.objs ⟨t, .jump l, ia, its⟩ ++ (x ++ o2) = ((t, O.tuple [U (cp "jump"), .ref ia]) :: (ia, .list (its.map fun p => .ref p.1)) :: (its.reverse.map tupO ++ x)) ++ o2 := by
  unfold DI.objs
  simp only [List.cons_append, List.append_assoc]
theorem c_deed (Λ : Law G mg mb) {cell : Int} {one two : Nat} {x : TS} {m : List (Str × Value)} {o2 k : List (Addr × O)} (hA : rm 8 A) (hx : ttOk x) (h1 : one ∈ menu) (h2 : two ∈ menu)
    (h : ∀ x' (D : DI), ttOk x' → D.d = deedOf one two cell → D.ok → K (.ref D.t) ⟨m, D.objs ++ (tt x' ++ o2), k⟩) : Call G A L ⟨m, tt x ++ o2, k⟩ (.ref 223) [I cell, U [one], U [two]] K := by
  have ho := Λ.X 223 _ (by k_is)
  have hn0 : 0 ≤ (cell.fdiv 4).fmod 7 := Int.fmod_nonneg_of_pos _ (by decide)
  have hn7 : (cell.fdiv 4).fmod 7 < 7 := Int.fmod_lt_of_pos _ (by decide)
  obtain ⟨n, hn⟩ := Int.eq_ofNat_of_zero_le hn0
  have hn7' : n < 7 := by omega
  have hdd : deedOf one two cell = if cell.fmod 4 < 3 then .step (stepOf n one two) else .jump ((ptOf n one two).lxs.filterMap itm) := by
    unfold deedOf; rw [hn]; rfl
  rw [hdd] at h
  refine call_less ?_
  refine call_defO (tt x) ["cell", "one", "two"] [("two", U [two]), ("one", U [one]), ("cell", I cell)] Λ.Γ ho Λ.off rfl rfl (Λ.code ?hc) ?hcT hA.d rfl ?bind ?loc rfl ?body ?cell ?co ?gen ?k
  walk_at "enter"
  clear ho; intro L' env
  walk_at "go"
  rw [hn]
  by_cases h3 : cell.fmod 4 < 3
  · rw [if_pos h3] at h
    refine ift (by simpa using h3) ?_
    walk_at "go"
    refine op_add_str (by simp [cp_dsl]) ?_
    walk_at "go"
    refine op_add_str (by simp [cp_ddsl]) ?_
    walk_at "go"
    refine op_add_str (by simp [cp_ss]) ?_
    walk_at "go"
    refine op_add_str (by simp [cp_ss]) ?_
    walk_at "go"
    refine op_add_str (by simp [cp_slash]) ?_
    walk_at "go"
    refine ⟨by simp, fun a => ?_⟩
    walk_at "go"
    refine itm_list (d := U (stepOf n one two)) (.inl (.head _)) (Int.natCast_nonneg n) (by omega) ?_ ?_
    · rw [Int.toNat_natCast, cp_dsl, cp_ddsl, cp_ss, cp_slash, cp_dd]
      refine lt7 hn7' ?_ ?_ ?_ ?_ ?_ ?_ ?_
      · rfl
      · rfl
      · rfl
      · rfl
      · rfl
      · rfl
      · rfl
    walk_at "go"
    refine ⟨by simp, fun t => ?_⟩
    walk_at "go"
    exact ⟨[true, false], ⟨m, (t, .tuple [U (cp "step"), U (stepOf n one two)]) :: (tt x ++ o2), k⟩, ⟨fun _ _ q => q, by simp [pkT], fun p hp => .inr hp⟩, h x ⟨t, .step (stepOf n one two), 0, []⟩ hx rfl trivial⟩
  · rw [if_neg h3] at h
    refine iff' (by simpa using h3) ?_
    walk_at "go"
    refine ex_unpack (ev_comp ?_)
    walk_at "go"
    refine ⟨by simp, fun tp => ?_⟩
    refine ⟨_, itr_tuple hA.deeper.h (.head _), by simp, fun C => ?_⟩
    refine comp_inv (ι := Nat) (fun c => U [c]) (fun c => some (U (src (sg c)))) _ [one, two] [] ?_ ?_
    · intro c hc
      walk_at "go"
      rw [if_pos rfl]
      walk_at "go"
      have hasq : c ∈ cp "*?[" ↔ c ∈ [42, 63, 91] := by rw [cp_asq]
      by_cases hq : c ∈ [42, 63, 91]
      · rw [if_pos (by simpa using hasq.mpr hq)]
        walk_at "go"
        refine op_add_str (by simp [cp_lb]) ?_
        walk_at "go"
        refine op_add_str (by simp [cp_lb, cp_rb]) ?_
        exact ⟨by unfold sg; rw [if_pos hq, cp_lb, cp_rb]; rfl, [], by walk_at "le"⟩
      · rw [if_neg (by simpa using fun h => hq (hasq.mp h))]
        walk_at "go"
        exact ⟨by unfold sg; rw [if_neg hq]; rfl, [], by walk_at "le"⟩
    · intro D
      have e : (([] : List Value) ++ List.filterMap (fun c => some (U (src (sg c)))) [one, two]) = [U (src (sg one)), U (src (sg two))] := rfl
      rw [e]
      refine asg_tuple hA.deeper.h (.lst (.inl (.head _))) rfl ?_
      walk_at "go"
      have l1 := (src_len (sg one)).2
      have l2 := (src_len (sg two)).2
      refine op_add_str (by simp [cp_ast]; omega) ?_
      walk_at "go"
      refine op_add_str (by simp [cp_slash]; omega) ?_
      walk_at "go"
      refine op_add_str (by simp [cp_slash, cp_ast]; omega) ?_
      walk_at "go"
      refine op_add_str (by simp [cp_asb]) ?_
      walk_at "go"
      refine op_add_str (by simp [cp_asb, cp_rb]) ?_
      walk_at "go"
      refine op_add_str (by simp [cp_assl]; omega) ?_
      walk_at "go"
      refine op_add_str (by simp [cp_assl, cp_slas]; omega) ?_
      walk_at "go"
      refine ⟨by simp, fun a => ?_⟩
      walk_at "go"
      refine op_add_str (by simp [cp_ast]; omega) ?_
      walk_at "go"
      refine op_add_str (by simp [cp_ast]; omega) ?_
      walk_at "go"
      refine op_add_str (by simp [cp_ast]; omega) ?_
      walk_at "go"
      refine ⟨by simp, fun b => ?_⟩
      walk_at "go"
      refine op_add_list (.inl (.tail _ (.head _))) (.inl (.head _)) (by simp) fun c => ?_
      walk_at "go"
      refine itm_list (d := U (pat (ptOf n one two).toks)) (.inl (.head _)) (Int.natCast_nonneg n) (by omega) ?_ ?_
      · rw [Int.toNat_natCast, cp_asb, cp_assl, cp_slas, cp_slash, cp_ast, cp_rb, cp_sq, cp_sqsq]
        refine lt7 hn7' ?_ ?_ ?_ ?_ ?_ ?_ ?_
        · simp [ptOf, PT.toks, pat, src]
        · simp [ptOf, PT.toks, pat, src]
        · simp [ptOf, PT.toks, pat, src]
        · simp [ptOf, PT.toks, pat, src]
        · simp [ptOf, PT.toks, pat, src]
        · simp [ptOf, PT.toks, pat, src]
        · simp [ptOf, PT.toks, pat, src]
      walk_at "go"
      have P := pt_ok hn7' h1 h2
      refine call_perm (o' := tt x ++ _) (List.perm_append_comm (l₁ := [_, _, _, _, _])) ?_
      refine c_items Λ hA.deeper.less hx rfl P.j P.pre P.ok P.ap P.len P.tk P.qm P.ll fun x' ia its hx' hits => ?_
      walk_at "go"
      refine ⟨by simp, fun t => ?_⟩
      walk_at "go"
      refine ⟨((t, O.tuple [U (cp "jump"), .ref ia]) :: (ia, .list (its.map fun p => .ref p.1)) :: (its.reverse.map tupO ++ tt x')).map (fun _ => true) ++ [false, false, false, false, false], ⟨m, ((t, O.tuple [U (cp "jump"), .ref ia]) :: (ia, .list (its.map fun p => .ref p.1)) :: (its.reverse.map tupO ++ tt x')) ++ o2, k⟩, ⟨fun _ _ q => q, ?_, fun p hp => .inr hp⟩, ?_⟩
      · exact pkT_mid5
      · have := h x' ⟨t, .jump ((ptOf n one two).lxs.filterMap itm), ia, its⟩ hx' rfl hits
        rw [DI.objs_jump] at this
        exact this
end
section
variable {G : Gd} {mg mb : Str → Option Value} {A : Around} {env : Env} {L L' : Addr} {σ : St} {K : Value → St → Prop} {KF : Flow → St → Prop}
/-- each once, in the order of their first places -/
noncomputable def dd (ws : List (List Nat)) : List (Str × Value) := ws.foldl (fun es w => sto1 es (Sx w) .none) []
theorem c_dedup (Λ : Law G mg mb) {a : Addr} {ws : List (List Nat)} (hA : rm 2 A) (ha : σ.has a (.list (ws.map U))) (hz : ws.length ≤ 100000)
    (h : ∀ d, K (.ref d) (σ.put d (.dict (dd ws)))) : Call G A L σ (.ref 46) [.ref a] K := by
  have ho := Λ.X 46 _ (by k_is)
  refine call_made h ?_
  refine call_defB ["params", "unhashable_fallback"] (fun as' σ₁ => as' = [.ref a, .bool false] ∧ σ₁ = σ) Λ.Γ ho Λ.off rfl rfl (Λ.code ?hc) ?hcT hA.d ?hb ?loc ?body ?cell ?co ?gen ?k
  case hc => kernel_rfl
  case hcT => intro c e; cases e; exact Λ.off
  case loc => decide
  case cell => decide
  case co => rfl
  case gen => rfl
  case k => rfl
  case hb =>
    intro vs hvs s q
    obtain ⟨v, rfl, hv⟩ := one_of hvs
    unfold bindArgs
    repeat wp_step
    have h39 := q.base 39 _ (Λ.X 39 _ (by k_is)) Λ.off
    refine wpAny_load h39 ?_
    refine wpAny_of_eq (a := some (.bool false)) (nsLook_of (by rfl)) ?_
    repeat wp_step
    exact ⟨[v, .bool false], σ, rfl, q, .rfl', by rw [show [v, Value.bool false].map nv = [nv v, .bool false] from rfl, hv], rfl⟩
  case body =>
  clear ho
  rintro as' σ₁ ⟨rfl, rfl⟩ L' env
  walk_at "go"
  refine ex_try ?_
  walk_at "go"
  refine ev_fromkeys Λ.Γ Λ.tb Λ.X (gn_dict Λ) (bl_dict Λ) (by k_is) fun u => ?_
  walk_at "go"
  refine ⟨.inl (.head _), ?_⟩
  refine call_fk Λ.Γ hA.h (.inl (.head _)) (.inr ?_) hz fun d => ?_
  · exact List.mem_append.mpr ha
  walk_at "go"
  exact ⟨[true, false], d, _, rfl, rfl, rfl, rfl⟩
end
section
variable {G : Gd} {mg mb : Str → Option Value} {A : Around} {env : Env} {L L' : Addr} {σ : St} {K : Value → St → Prop} {KF : Flow → St → Prop}
theorem c_get_sep (Λ : Law G mg mb) {x : List Nat} (hA : rm 0 A) (h : K (U [47]) σ) : Call G A L σ (.ref 178) [U x] K := by
  have ho := Λ.X 178 _ (by k_is)
  refine call_plain h ?_
  refine call_def ["path"] [("path", U x)] Λ.Γ ho Λ.off rfl rfl (Λ.code ?hc) ?hcT hA.d rfl ?bind ?loc rfl ?body ?cell ?co ?gen ?k
  walk_at "enter"
  clear ho; intro L' env
  walk_at "go"
  rw [if_neg (by decide)]
  walk_at "go"
  exact ⟨rfl, _, rfl⟩
theorem c_fspath (Λ : Law G mg mb) {x : List Nat} (hA : rm 0 A) (h : K (U x) σ) : Call G A L σ (.ref 164) [U x] K := by
  have ho := Λ.X 164 _ (by k_is)
  refine call_plain h ?_
  refine call_def ["path"] [("path", U x)] Λ.Γ ho Λ.off rfl rfl (Λ.code ?hc) ?hcT hA.d rfl ?bind ?loc rfl ?body ?cell ?co ?gen ?k
  walk_at "enter"
  clear ho; intro L' env
  walk_at "go"
  refine ⟨by decide, fun a => ?_⟩
  walk_at "go"
  refine call_issub_str (.inl (.head _)) ?_
  walk_at "go"
  rw [if_pos (by decide)]
  walk_at "go"
  exact ⟨rfl, _, rfl⟩
/-- p begins with just one slash -/
theorem c_splitroot (Λ : Law G mg mb) {r : List Nat} (hA : rm 1 A) (hz : r.length ≤ 999999) (hr : r.head? ≠ some 47) (h : ∀ a, K (.ref a) (σ.put a (.tuple [U [], U [47], U r]))) : Call G A L σ (.ref 192) [U (47 :: r)] K := by
  have ho := Λ.X 192 _ (by k_is)
  refine call_made h ?_
  refine call_def ["p"] [("p", U (47 :: r))] Λ.Γ ho Λ.off rfl rfl (Λ.code ?hc) ?hcT hA.d rfl ?bind ?loc rfl ?body ?cell ?co ?gen ?k
  walk_at "enter"
  clear ho; intro L' env
  walk_at "go"
  refine c_fspath Λ hA.deeper ?_
  walk_at "go"
  rw [if_neg (by decide)]
  walk_at "go"
  walk_at "go"
  rw [if_neg (by simp [cut, kms_lo, kms_hi, cp_slash])]
  walk_at "go"
  walk_at "go"
  rw [if_pos (by cases r <;> simp_all [cut, kms_lo, kms_hi, cp_slash])]
  rw [if_pos (by decide)]
  walk_at "go"
  walk_at "go"
  refine ⟨by simp, fun a => ?_⟩
  walk_at "go"
  exact ⟨[true], a, _, rfl, rfl, rfl, by simp [pkT, cut, kms_lo, kms_hi, cp_slash, cp_empty]⟩
end
section
variable {G : Gd} {mg mb : Str → Option Value} {A : Around} {env : Env} {L L' : Addr} {σ : St} {K : Value → St → Prop} {KF : Flow → St → Prop}
/-- a step of normpath, at a path that begins with a slash -/
noncomputable def nstep (ns : List (List Nat)) (c : List Nat) : List (List Nat) :=
  if c = [] ∨ c = [46] then ns else if c ≠ [46, 46] ∨ ns.getLast? = some [46, 46] then ns ++ [c] else ns.dropLast
noncomputable def wt (ns : List (List Nat)) : Nat := (ns.map List.length).sum + ns.length
theorem wt_append (a b : List (List Nat)) : wt (a ++ b) = wt a + wt b := by
  unfold wt; simp; omega
theorem wt_cons (w : List Nat) (b : List (List Nat)) : wt (w :: b) = w.length + 1 + wt b := by
  unfold wt; simp; omega
theorem wt_step (ns : List (List Nat)) (c : List Nat) : wt (nstep ns c) ≤ wt ns + c.length + 1 := by
  unfold nstep
  split
  · omega
  · split
    · rw [wt_append, wt_cons]; simp [wt]; omega
    · rcases List.eq_nil_or_concat ns with rfl | ⟨p, y, rfl⟩
      · simp [wt]
      · rw [List.concat_eq_append, List.dropLast_concat, wt_append]; omega
theorem wt_fold : ∀ (ws ns : List (List Nat)), wt (ws.foldl nstep ns) ≤ wt ns + wt ws
  | [], ns => by simp [wt]
  | w :: ws, ns => by
    have h1 := wt_fold ws (nstep ns w)
    have h2 := wt_step ns w
    rw [List.foldl_cons, wt_cons]; omega
theorem wt_spl (c : Nat) : ∀ x : List Nat, wt (spl c x) ≤ x.length + 1
  | [] => by simp [spl, wt]
  | d :: r => by
    have ih := wt_spl c r
    rw [spl]
    split
    · rw [wt_cons]; simp; omega
    · split
      · simp [wt]
      · rename_i e; rw [e, wt_cons] at ih; rw [wt_cons]; simp; omega
theorem wt_len (ns : List (List Nat)) : ns.length ≤ wt ns := by unfold wt; omega
theorem c_normpath (Λ : Law G mg mb) {r : List Nat} (hA : rm 3 A) (hz : r.length ≤ 50000) (hr : r.head? ≠ some 47) (h : K (U (47 :: jn [47] ((spl 47 r).foldl nstep []))) σ) : Call G A L σ (.ref 199) [U (47 :: r)] K := by
  have ho := Λ.X 199 _ (by k_is)
  refine call_plain h ?_
  refine call_def ["path"] [("path", U (47 :: r))] Λ.Γ ho Λ.off rfl rfl (Λ.code ?hc) ?hcT hA.d rfl ?bind ?loc rfl ?body ?cell ?co ?gen ?k
  walk_at "enter"
  clear ho; intro L' env
  walk_at "go"
  refine c_fspath Λ hA.deeper.less ?_
  walk_at "go"
  rw [if_neg (by decide)]
  walk_at "go"
  refine tru_str (by simp; omega) ?_
  rw [if_neg (by simp)]
  walk_at "go"
  refine c_splitroot Λ hA.deeper.less (by omega) hr fun a => ?_
  walk_at "go"
  refine asg_tuple hA.h (.tup (by walk_at "mem")) rfl ?_
  walk_at "go"
  refine call_split (by omega) fun b => ?_
  walk_at "go"
  refine ⟨by simp, fun c => ?_⟩
  walk_at "go"
  refine ex1_le [true, false, false] ⟨[("new_comps", .ref c), ("comps", .ref b), ("initial_slashes", U [47]), ("dotdot", U [46, 46]), ("dot", U [46]), ("sep", U [47])], [(c, .list [])], (b, .list ((spl 47 r).map U)) :: (σ.own ++ σ.kn)⟩ (ex_for ?_)
    (by repeat (first | exact trivial | refine ⟨rfl, ?_⟩)) rfl (by walk_at "kn")
  walk_at "go"
  refine ⟨_, itr_list hA.h (.head _), ?_⟩
  refine for_inv (ι := List Nat) U (fun done => ⟨[("new_comps", .ref c), ("comps", .ref b), ("initial_slashes", U [47]), ("dotdot", U [46, 46]), ("dot", U [46]), ("sep", U [47])], [(c, .list ((done.foldl nstep []).map U))], (b, .list ((spl 47 r).map U)) :: (σ.own ++ σ.kn)⟩) (spl 47 r) ?_ ?_
  · intro done x rest e
    have hx : x.length ≤ 50000 := Nat.le_trans (spl_mem 47 r x (by rw [e]; simp)) hz
    rw [List.foldl_append, List.foldl_cons, List.foldl_nil]
    have hns : (done.foldl nstep []).length ≤ 60000 := by
      have h1 := wt_fold done []
      have h2 := wt_spl 47 r
      rw [e, wt_append, wt_cons] at h2
      have h3 := wt_len (done.foldl nstep [])
      have h4 : wt [] = 0 := rfl
      omega
    generalize done.foldl nstep [] = ns at hns ⊢
    walk_at "go"
    refine tru_str (by omega) ?_
    by_cases h1 : x = []
    · subst h1
      refine ift rfl (ift rfl ?_)
      walk_at "go"
      exact ⟨.inr rfl, [], by rw [show nstep ns [] = ns from rfl]; walk_at "le"⟩
    refine iff' (by simpa using h1) ?_
    walk_at "go"
    by_cases h2 : x = [46]
    · subst h2
      refine ift rfl (ift rfl ?_)
      walk_at "go"
      exact ⟨.inr rfl, [], by rw [show nstep ns [46] = ns from rfl]; walk_at "le"⟩
    refine iff' (by simpa using h2) ?_
    walk_at "go"
    refine iff' rfl ?_
    walk_at "go"
    by_cases h3 : x = [46, 46]
    · subst h3
      refine iff' rfl ?_
      walk_at "go"
      refine tru_str (by simp) ?_
      refine iff' rfl ?_
      refine iff' rfl ?_
      walk_at "go"
      refine tru_list (by walk_at "mem") (by rw [List.length_map]; omega) ?_
      rcases List.eq_nil_or_concat ns with rfl | ⟨p, y, rfl⟩
      · refine iff' rfl (iff' rfl ?_)
        walk_at "go"
        refine iff' rfl ?_
        walk_at "go"
        refine tru_list (by walk_at "mem") (by simp) ?_
        refine iff' rfl ?_
        walk_at "go"
        exact ⟨.inl rfl, [], by rw [show nstep [] [46, 46] = [] from rfl]; walk_at "le"⟩
      · rw [List.concat_eq_append] at hns ⊢
        have hp : p.length ≤ 60000 := by simp at hns; omega
        refine ift (by simp) ?_
        walk_at "go"
        refine itm_list_neg (d := U y) (by walk_at "mem") (by decide) (by simp; omega) (by simp; omega) ?_ ?_
        · rw [List.map_append, List.length_append, List.length_map, List.map_cons, List.map_nil, List.length_singleton, show (-1 + ((p.length + 1 : Nat) : Int)).toNat = (p.map U).length by rw [List.length_map]; omega]
          simp
        walk_at "go"
        by_cases h4 : y = [46, 46]
        · subst h4
          refine ift rfl ?_
          walk_at "go"
          refine ift rfl (ift rfl ?_)
          walk_at "go"
          refine call_append 0 rfl (by simp; omega) ?_
          walk_at "go"
          refine ⟨.inl rfl, [], ?_⟩
          have e1 : (nstep (p ++ [[46, 46]]) [46, 46]) = p ++ [[46, 46]] ++ [[46, 46]] := by simp [nstep]
          rw [e1, List.map_append]
          walk_at "le"
        · refine iff' (by simpa using h4) (iff' rfl ?_)
          walk_at "go"
          refine iff' rfl ?_
          walk_at "go"
          refine tru_list (by walk_at "mem") (by simp; omega) ?_
          refine ift (by simp) ?_
          walk_at "go"
          refine call_pop (d := U y) (ds := p.map U) 0 (by simp) (by simp; omega) ?_
          walk_at "go"
          refine ⟨.inl rfl, [], ?_⟩
          have e1 : (nstep (p ++ [y]) [46, 46]) = p := by simp [nstep, h4]
          rw [e1]
          walk_at "le"
    · refine ift (by simpa using h3) (ift rfl ?_)
      walk_at "go"
      refine call_append 0 rfl (by simp; omega) ?_
      walk_at "go"
      refine ⟨.inl rfl, [], ?_⟩
      have e1 : nstep ns x = ns ++ [x] := by simp [nstep, h1, h2, h3]
      rw [e1, List.map_append]
      walk_at "le"
  · walk_at "go"
    have hw : wt ((spl 47 r).foldl nstep []) ≤ 50001 := by
      have h1 := wt_fold (spl 47 r) []
      have h2 := wt_spl 47 r
      have h4 : wt [] = 0 := rfl
      omega
    have hj := jn_len [47] ((spl 47 r).foldl nstep [])
    unfold wt at hw
    refine call_join (by walk_at "mem") (by simp; omega) ?_
    refine op_add_str (by simp at hj ⊢; omega) ?_
    walk_at "go"
    refine tru_str (by simp at hj ⊢; omega) ?_
    refine ift rfl ?_
    walk_at "go"
    exact ⟨rfl, _, rfl⟩
end
section
variable {G : Gd} {mg mb : Str → Option Value} {A : Around} {env : Env} {L L' : Addr} {σ : St} {K : Value → St → Prop} {KF : Flow → St → Prop}
theorem c_join (Λ : Law G mg mb) {x y : List Nat} (hA : rm 1 A) (hx : x.length ≤ 10000) (hy : y.length ≤ 10000) (hx0 : x ≠ [])
    (h : K (U (if sw y [47] = true then y else if ew x [47] = true then x ++ y else x ++ ([47] ++ y))) σ) : Call G A L σ (.ref 185) [U x, U y] K := by
  have ho := Λ.X 185 _ (by k_is)
  refine call_plain h ?_
  refine call_defB ["a", "p"] (fun as' σ₁ => ∃ t, as' = [U x, .ref t] ∧ σ₁ = σ.put t (.tuple [U y])) Λ.Γ ho Λ.off rfl rfl (Λ.code ?hc) ?hcT hA.d ?hb ?loc ?body ?cell ?co ?gen ?k
  case hc => kernel_rfl
  case hcT => intro c e; cases e; exact Λ.off
  case loc => decide
  case cell => decide
  case co => rfl
  case gen => rfl
  case k => rfl
  case hb =>
    intro vs hvs s q
    obtain ⟨v, u, rfl, hv, hu⟩ := two_of hvs
    unfold bindArgs
    repeat wp_step
    exact ⟨[v, .ref s.heap.objs.size], _, rfl, q.add (t := s.toks) (o := .tuple [U y]) (fun b o e => Heap.get?_push_of_some _ e) (fresh_size _) ⟨[u], ⟨_, Heap.get?_push_size _ rfl, rfl, _, rfl⟩, by rw [← hu]; rfl⟩, .add (fun b o e => Heap.get?_push_of_some _ e) (fresh_size _), ⟨s.heap.objs.size, by rw [← hv]; rfl, rfl⟩⟩
  case body =>
  clear ho
  rintro as' σ₁ ⟨t, rfl, rfl⟩ L' env
  walk_at "go"
  refine c_fspath Λ hA.deeper.less ?_
  walk_at "go"
  refine c_get_sep Λ hA.deeper.less ?_
  walk_at "go"
  refine ex_try ?_
  walk_at "go"
  refine ex_for ?_
  walk_at "go"
  refine ⟨_, itr_tuple hA.h (.head _), ?_⟩
  walk_at "go"
  refine c_fspath Λ hA.deeper.less ?_
  walk_at "go"
  by_cases h1 : sw y [47] = true
  · refine ift h1 (ift rfl ?_)
    walk_at "go"
    exact ⟨by rw [if_pos h1]; rfl, ⟨[], [(t, .tuple [U y])], []⟩, rfl⟩
  · have h1' : sw y [47] = false := by simpa using h1
    refine iff' h1' ?_
    walk_at "go"
    refine tru_str (by omega) ?_
    refine iff' (by simpa using hx0) ?_
    walk_at "go"
    refine iff' rfl ?_
    walk_at "go"
    by_cases h2 : ew x [47] = true
    · refine ift h2 ?_
      walk_at "go"
      refine iop_add_str (by omega) ?_
      walk_at "go"
      exact ⟨by rw [if_neg h1, if_pos h2]; rfl, ⟨[], [(t, .tuple [U y])], []⟩, rfl⟩
    · refine iff' (by simpa using h2) ?_
      walk_at "go"
      refine op_add_str (by simp; omega) ?_
      refine iop_add_str (by simp; omega) ?_
      walk_at "go"
      exact ⟨by rw [if_neg h1, if_neg h2]; rfl, ⟨[], [(t, .tuple [U y])], []⟩, rfl⟩
end
section
variable {G : Gd} {mg mb : Str → Option Value} {A : Around} {env : Env} {L L' : Addr} {σ : St} {K : Value → St → Prop} {KF : Flow → St → Prop}
/-- a step of the law's reader, upon the places reached -/
noncomputable def tstep (path : List Nat) (spots : List Nat) (it : List Nat × List Nat) : List Nat :=
  if it.1 = cp "star" then (if spots = [] then [] else (List.range (path.length + 1 - mn spots)).map (mn spots + ·))
  else (spots.filter (fun s => decide (s < path.length))).filterMap fun s => if (it.1 == cp "any" || (((path[s]?.map fun c => [c]).getD [] == it.2) == (it.1 == cp "one"))) = true then some (s + 1) else none
noncomputable def takes (its : List (List Nat × List Nat)) (path : List Nat) : Bool := decide (path.length ∈ its.foldl (tstep path) [0])
theorem tstep_ok {path spots : List Nat} {it : List Nat × List Nat} (h : spots.length ≤ path.length + 1 ∧ ∀ s ∈ spots, s ≤ path.length) : (tstep path spots it).length ≤ path.length + 1 ∧ ∀ s ∈ tstep path spots it, s ≤ path.length := by
  unfold tstep
  split
  · split
    · simp
    · constructor
      · simp
      · intro s hs
        simp only [List.mem_map, List.mem_range] at hs
        obtain ⟨i, hi, rfl⟩ := hs
        omega
  · constructor
    · exact Nat.le_trans (List.length_filterMap_le _ _) (Nat.le_trans (List.length_filter_le _ _) h.1)
    · intro s hs
      rw [List.mem_filterMap] at hs
      obtain ⟨a, ha, e⟩ := hs
      have ha' := (List.mem_filter.mp ha).2
      simp only [decide_eq_true_eq] at ha'
      split at e
      · cases e; omega
      · cases e
theorem tfold_ok {path : List Nat} : ∀ (its : List (List Nat × List Nat)) (spots : List Nat), (spots.length ≤ path.length + 1 ∧ ∀ s ∈ spots, s ≤ path.length) → (its.foldl (tstep path) spots).length ≤ path.length + 1 ∧ ∀ s ∈ its.foldl (tstep path) spots, s ≤ path.length
  | [], _, h => h
  | it :: its, spots, h => tfold_ok its _ (tstep_ok h)
theorem c_takes (Λ : Law G mg mb) {it : Addr} {its : List (Addr × List Nat × List Nat)} {path : List Nat} (hA : rm 1 A) (hp : path.length ≤ 10000) (hn : its.length ≤ 1000)
    (hit : σ.has it (.list (its.map fun p => .ref p.1))) (hall : ∀ p ∈ its, σ.has p.1 (.tuple [U p.2.1, U p.2.2])) (h : K (.bool (takes (its.map (·.2)) path)) σ) : Call G A L σ (.ref 218) [.ref it, U path] K := by
  have ho := Λ.X 218 _ (by k_is)
  refine call_plain h ?_
  refine call_defC ["items", "path"] [("items", .ref it)] (fun L' => [(L' + 3, .cell none), (L' + 2, .cell none), (L' + 1, .cell (some (U path)))]) Λ.Γ ho Λ.off rfl rfl (Λ.code ?hc) ?hcT hA.d rfl ?bind ?clo ?kind ?nd ?ms ?how ?body ?co ?gen ?k
  walk_at "enterC"
  clear ho; intro L' env
  walk_at "go"
  refine ⟨by simp, fun sp => ?_⟩
  walk_at "go"
  refine ex_for ?_
  walk_at "go"
  have hkn : ∀ p ∈ σ.own ++ σ.kn, p ∈ σ.own ++ σ.kn := fun p hp => hp
  refine ⟨_, itr_list hA.h (List.mem_append.mpr hit), ?_⟩
  refine for_invP (ι := Addr × List Nat × List Nat) (fun p => .ref p.1) (fun done σ₁ => ∃ sp k s spots, spots = (done.map (·.2)).foldl (tstep path) [0] ∧
    σ₁ = ⟨[("spots", .ref sp), ("items", .ref it)], [(sp, .list (spots.map fun n : Nat => I n)), (L' + 3, .cell s), (L' + 2, .cell k), (L' + 1, .cell (some (U path)))], σ.own ++ σ.kn⟩) its ?_ ?_ ?_
  · exact ⟨sp, _, _, [0], rfl, rfl⟩
  · rintro done ⟨pa, pk, ps⟩ rest σ₁ e ⟨sp, k, s, spots, es, rfl⟩
    have hmem := hall (pa, pk, ps) (by rw [e]; simp)
    refine asg_tuple hA.h (.tup (.inr (List.mem_append.mpr hmem))) rfl ?_
    walk_at "go"
    have ok := tfold_ok (path := path) (done.map (·.2)) [0] ⟨by simp, by simp⟩
    rw [← es] at ok
    have e1 : (done ++ [(pa, pk, ps)]).map (·.2) = done.map (·.2) ++ [(pk, ps)] := by simp
    rw [e1]
    simp only [List.foldl_append, List.foldl_cons, List.foldl_nil]
    rw [← es]
    clear es
    by_cases h1 : pk = cp "star"
    · refine ift (by simpa using h1) ?_
      walk_at "go"
      refine tru_list (by walk_at "mem") (by simp; omega) ?_
      by_cases h2 : spots = []
      · subst h2
        refine iff' rfl ?_
        walk_at "go"
        refine ⟨by simp, fun b => ?_⟩
        walk_at "go"
        exact ⟨.inl rfl, [true, false, true, true, true], _, by walk_at "le", b, _, _, [], by simp [tstep, h1], rfl⟩
      · refine ift (by simpa using h2) ?_
        walk_at "go"
        refine call_min (ns := spots.map fun n : Nat => (n : Int)) hA.h (by rw [List.map_map]; walk_at "mem") (by simpa using h2) fun M hM hle => ?_
        have hMn : M = (mn spots : Int) := by
          obtain ⟨m, hm, rfl⟩ := List.mem_map.mp hM
          have h3 := mn_le hm
          have h4 := hle (mn spots : Nat) (List.mem_map.mpr ⟨_, mn_mem h2, rfl⟩)
          omega
        subst hMn
        have hml := ok.2 _ (mn_mem h2)
        walk_at "go"
        refine call_listrange hA.h (by walk_at "mem") (by omega) (by omega) (by omega) fun c => ?_
        have e3 : ((List.range (((path.length : Int) + 1 - (mn spots : Int)).toNat)).map fun (i : Nat) => (mn spots : Int) + (i : Int)).map I = ((List.range (path.length + 1 - mn spots)).map (mn spots + ·)).map fun n : Nat => I n := by
          rw [show (((path.length : Int) + 1 - (mn spots : Int)).toNat) = path.length + 1 - mn spots by omega, List.map_map, List.map_map]
          exact List.map_congr_left fun i _ => by show I (_ + _) = I ((mn spots + i : Nat) : Int); rw [Int.natCast_add]
        rw [e3]
        walk_at "go"
        refine ⟨.inl rfl, [true, false, false, true, true, true], _, ?_, c, some (U pk), some (U ps), (List.range (path.length + 1 - mn spots)).map (mn spots + ·), by simp [tstep, h1, h2], rfl⟩
        refine le_of (by repeat (first | exact trivial | refine ⟨rfl, ?_⟩)) rfl (by walk_at "kn")
    · refine iff' (by simpa using h1) ?_
      walk_at "go"
      refine ex_assign_comp ?_
      walk_at "go"
      refine ⟨spots.map fun n : Nat => I n, itr_list hA.h (by walk_at "memk"), by simp; omega, fun C => ?_⟩
      refine comp_inv (ι := Nat) (fun n => I n) (fun n => if n < path.length then some (I n) else none) _ spots [] ?_ ?_
      · intro n hn
        walk_at "go"
        by_cases h3 : n < path.length
        · rw [if_pos (by simpa using h3)]
          walk_at "go"
          exact ⟨by rw [if_pos h3], [], by walk_at "le"⟩
        · rw [if_neg (by simpa using h3)]
          exact ⟨by rw [if_neg h3], [], by walk_at "le"⟩
      · intro D
        have e4 : ([] : List Value) ++ spots.filterMap (fun n => if n < path.length then some (I n) else none) = (spots.filter fun n => decide (n < path.length)).map fun n : Nat => I n := by
          rw [List.nil_append, ← List.filterMap_eq_map, List.filterMap_filter]
          simp
        rw [e4]
        have hlt : ∀ n ∈ spots.filter (fun n => decide (n < path.length)), n < path.length := fun n hn => by simpa using (List.mem_filter.mp hn).2
        have hfl : (spots.filter fun n => decide (n < path.length)).length ≤ path.length + 1 := Nat.le_trans (List.length_filter_le _ _) ok.1
        have hts : tstep path spots (pk, ps) = (spots.filter fun n => decide (n < path.length)).filterMap fun s => if (pk == cp "any" || (((path[s]?.map fun c => [c]).getD [] == ps) == (pk == cp "one"))) = true then some (s + 1) else none := by
          unfold tstep; rw [if_neg h1]
        rw [hts]
        generalize (spots.filter fun n => decide (n < path.length)) = fits at hlt hfl ⊢
        walk_at "go"
        refine ex_assign_comp ?_
        walk_at "go"
        refine ⟨fits.map fun n : Nat => I n, itr_list hA.h (by walk_at "memk"), by simp; omega, fun C => ?_⟩
        refine comp_inv (ι := Nat) (fun n => I n) (fun s => if (pk == cp "any" || (((path[s]?.map fun c => [c]).getD [] == ps) == (pk == cp "one"))) = true then some (I (s + 1 : Nat)) else none) _ fits [] ?_ ?_
        · intro n hn
          have hn' := hlt n hn
          walk_at "go"
          by_cases h4 : pk = cp "any"
          · subst h4
            refine ift rfl (ift rfl ?_)
            walk_at "go"
            exact ⟨by simp, [], by walk_at "le"⟩
          · have h4' : (pk == cp "any") = false := by simpa using h4
            refine iff' h4' ?_
            walk_at "go"
            refine itm_str (c := path[n]) (by omega) (by simp) (by omega) ?_
            walk_at "go"
            have e6 : (path[n]?.map fun c => [c]).getD [] = [path[n]] := by simp [hn']
            rw [e6, h4', Bool.false_or]
            by_cases h5 : (([path[n]] == ps) == (pk == cp "one")) = true
            rotate_left
            · have h5 : (([path[n]] == ps) == (pk == cp "one")) = false := by simpa using h5
              rw [h5]
              refine iff' rfl ?_
              walk_at "go"
              refine iff' rfl ?_
              exact ⟨by simp, [], by walk_at "le"⟩
            · rw [h5]
              refine ift rfl (ift rfl ?_)
              walk_at "go"
              exact ⟨by simp, [], by walk_at "le"⟩
        · intro E
          have e5 : ([] : List Value) ++ fits.filterMap (fun s => if (pk == cp "any" || (((path[s]?.map fun c => [c]).getD [] == ps) == (pk == cp "one"))) = true then some (I (s + 1 : Nat)) else none) = (fits.filterMap fun s => if (pk == cp "any" || (((path[s]?.map fun c => [c]).getD [] == ps) == (pk == cp "one"))) = true then some (s + 1) else none).map fun n : Nat => I n := by
            rw [List.nil_append, List.map_filterMap]
            congr 1
            funext s
            split <;> rfl
          rw [e5]
          walk_at "go"
          exact ⟨.inl rfl, [true, false, false, true, true, true], _, by walk_at "le", E, some (U pk), some (U ps), _, rfl, rfl⟩
  · rintro σ₁ ⟨sp, k, s, spots, es, rfl⟩
    walk_at "go"
    refine cmp_in_ints (ns := spots.map fun n : Nat => (n : Int)) (by rw [List.map_map]; walk_at "mem") ?_
    walk_at "go"
    refine ⟨?_, _, rfl⟩
    unfold takes
    rw [← es]
    show Value.bool _ = Value.bool _
    congr 1
    rw [List.any_map]
    simp only [Function.comp_def]
    rw [Bool.eq_iff_iff]
    simp
    constructor
    · rintro ⟨a, ha, e⟩
      have : a = path.length := by omega
      rw [← this]; exact ha
    · intro h; exact ⟨_, h, rfl⟩
end
section
variable {G : Gd} {mg mb : Str → Option Value} {A : Around} {env : Env} {L L' : Addr} {σ : St} {K : Value → St → Prop} {KF : Flow → St → Prop}
/-- the table of code of _law_latest: its lambda made, or not yet -/
noncomputable def lt : Option (Addr × Obj) → List (Addr × O)
  | none => [(244, .raw (tabObj #[]))]
  | some (c', oc) => [(c', .raw oc), (244, .raw (tabObj (#[] ++ #[rawInt 307, rawInt 29, .ref c'])))]
noncomputable def ltOk : Option (Addr × Obj) → Prop
  | none => True
  | some (_, oc) => okC oc (("_law_latest" : Str) ++ ".<locals>." ++ "<lambda>")
noncomputable def keyOf (es : List (Str × Value)) (x : Str) : Int := match es.lookup x with | some (.int t _) => -t | _ => 0
theorem perm_unique {α : Type} {f : α → Int} : ∀ {l1 l2 : List α}, l1.Perm l2 → l1.Pairwise (fun a b => f a ≤ f b) → l2.Pairwise (fun a b => f a < f b) → l1 = l2
  | [], l2, p, _, _ => by rw [p.symm.eq_nil]
  | a :: l1, [], p, _, _ => by exact absurd p.eq_nil (by simp)
  | a :: l1, b :: l2, p, h1, h2 => by
    have h1' := List.pairwise_cons.mp h1
    have h2' := List.pairwise_cons.mp h2
    have hab : a = b := by
      rcases List.mem_cons.mp (p.mem_iff.mp (.head _)) with e | hm
      · exact e
      · have l1 := h2'.1 a hm
        rcases List.mem_cons.mp (p.mem_iff.mpr (.head _)) with e | hm2
        · exact e.symm
        · have l2 := h1'.1 b hm2
          omega
    subst hab
    rw [perm_unique (List.Perm.cons_inv p) h1'.2 h2'.2]
theorem cut_take {α : Type} (l : List α) (n : Nat) : cut l none (some (n : Int)) = l.take n := by
  unfold cut kms_lo kms_hi
  simp only [List.drop_zero, Nat.sub_zero]
  rw [if_neg (by omega), Int.toNat_natCast]
  by_cases h : n ≤ l.length
  · rw [Nat.min_eq_left h]
  · rw [Nat.min_eq_right (by omega), List.take_of_length_le (Nat.le_refl _), List.take_of_length_le (by omega)]
theorem c_latest (Λ : Law G mg mb) {d : Addr} {es : List (Str × Value)} {R : List (List Nat)} {time : List Nat → Int} {size : Nat} {x : Option (Addr × Obj)} {m : List (Str × Value)} {o2 k : List (Addr × O)} (hA : rm 4 A) (hx : ltOk x)
    (hd : (d, O.dict es) ∈ o2 ++ k) (h64 : es.length < 64) (hR : (R.map Sx).Perm (es.map (·.1))) (ht : ∀ w ∈ R, es.lookup (Sx w) = some (I (time w))) (hs : R.Pairwise fun a b => time b < time a)
    (h : ∀ x' a, ltOk x' → K (.ref a) ⟨m, (a, .list ((R.take size).map U)) :: (lt x' ++ o2), k⟩) : Call G A L ⟨m, lt x ++ o2, k⟩ (.ref 249) [.ref d, I size] K := by
  have ho := Λ.X 249 _ (by k_is)
  refine call_less ?_
  refine call_defCO (lt x) ["times", "size"] [("size", I size)] (fun L' => [(L' + 1, .cell (some (.ref d)))]) Λ.Γ ho Λ.off rfl rfl (Λ.code ?hc) ?hcT hA.d rfl ?bind ?clo ?kind ?nd ?ms ?how ?body ?co ?gen ?k
  walk_at "enterC"
  clear ho; intro L' env
  walk_at "go"
  refine ev_callbi_kw Λ.Γ (gn_sorted Λ) (bl_sorted Λ) ?_
  walk_at "go"
  rcases x with _ | ⟨c', oc⟩
  · refine ev_lambda_new 1 Λ.Γ Λ.bm Λ.tb Λ.cl rfl trivial rfl fun f c' oc ctv hok => ?_
    have hd' : d ∈ (o2 ++ k).map (·.1) := List.mem_map.mpr ⟨_, hd, rfl⟩
    refine call_sorted (es := es) (key := keyOf es) hA.h (.inr hd) h64 (fun kS a x ks hxm => ?_) fun D ws hp hpw => ?_
    · refine call_lambda ["word"] [("word", .str x 0)] Λ.Γ (.inr (.tail _ (.tail _ (.head _)))) (.inr (.tail _ (.tail _ (.tail _ (.head _))))) hok hA.deeper.in2.d rfl ?bind2 ?loc2 rfl ?body2 ?cell2 rfl rfl rfl
      case bind2 => exact ar1 fun _ => rfl
      case loc2 => decide
      case cell2 => decide
      case body2 =>
        intro L2 env2
        walk_at "go"
        have hxl : ∃ t, es.lookup x = some (I t) := by
          have := hR.mem_iff.mpr hxm
          obtain ⟨w, hw, rfl⟩ := List.mem_map.mp this
          exact ⟨_, ht w hw⟩
        obtain ⟨t, hxt⟩ := hxl
        have hxe : (Value.str x 0) = U x.cps.toList := rfl
        rw [hxe]
        refine itm_dict (es := es) (v := I t) (.inr (.tail _ (.tail _ (.tail _ (.tail _ (.tail _ (.tail _ hd))))))) (by exact hxt) ?_
        walk_at "go"
        exact ⟨by unfold keyOf; rw [hxt], [], ⟨fun _ _ h => h, rfl, fun p hp => nomatch hp⟩⟩
    · have hws : ws = R.map Sx := by
        refine perm_unique (f := keyOf es) (hp.trans hR.symm) hpw ?_
        rw [List.pairwise_map]
        refine hs.imp_of_mem fun {a b} ha hb hab => ?_
        unfold keyOf
        rw [ht a ha, ht b hb]
        show -(time a) < -(time b)
        omega
      subst hws
      have hRl : R.length < 64 := by
        have := hR.length_eq
        rw [List.length_map, List.length_map] at this
        omega
      walk_at "go"
      refine slc_list none (some (size : Int)) (.inl (.head _)) (by simp; omega) fun b => ?_
      walk_at "go"
      refine ⟨[true, false, false, true, false, true], _, ?_, h (some (c', oc)) b (hok)⟩
      have e1 : cut ((R.map Sx).map fun x => Value.str x 0) none (some (size : Int)) = (R.take size).map U := by
        rw [cut_take, List.map_map, ← List.map_take]; rfl
      rw [e1]
      exact ⟨fun x d q => q, rfl, fun p hp => .inr hp⟩
  · have hok : okC oc (("_law_latest" : Str) ++ ".<locals>." ++ "<lambda>") := hx
    refine ev_lambda_hit (ps := #[] ++ #[rawInt 307, rawInt 29, .ref c']) (c' := c') Λ.Γ Λ.bm Λ.tb Λ.cl Λ.t1 (.inl (.tail _ (.tail _ (.head _)))) trivial rfl fun f ctv => ?_
    have hd' : d ∈ (o2 ++ k).map (·.1) := List.mem_map.mpr ⟨_, hd, rfl⟩
    refine call_sorted (es := es) (key := keyOf es) hA.h (.inr hd) h64 (fun kS a x ks hxm => ?_) fun D ws hp hpw => ?_
    · refine call_lambda ["word"] [("word", .str x 0)] Λ.Γ (.inr (.tail _ (.tail _ (.head _)))) (.inr (.tail _ (.tail _ (.tail _ (.tail _ (.head _)))))) hok hA.deeper.in2.d rfl ?bind2 ?loc2 rfl ?body2 ?cell2 rfl rfl rfl
      case bind2 => exact ar1 fun _ => rfl
      case loc2 => decide
      case cell2 => decide
      case body2 =>
        intro L2 env2
        walk_at "go"
        have hxl : ∃ t, es.lookup x = some (I t) := by
          have := hR.mem_iff.mpr hxm
          obtain ⟨w, hw, rfl⟩ := List.mem_map.mp this
          exact ⟨_, ht w hw⟩
        obtain ⟨t, hxt⟩ := hxl
        have hxe : (Value.str x 0) = U x.cps.toList := rfl
        rw [hxe]
        refine itm_dict (es := es) (v := I t) (.inr (.tail _ (.tail _ (.tail _ (.tail _ (.tail _ (.tail _ hd))))))) (by exact hxt) ?_
        walk_at "go"
        exact ⟨by unfold keyOf; rw [hxt], [], ⟨fun _ _ h => h, rfl, fun p hp => nomatch hp⟩⟩
    · have hws : ws = R.map Sx := by
        refine perm_unique (f := keyOf es) (hp.trans hR.symm) hpw ?_
        rw [List.pairwise_map]
        refine hs.imp_of_mem fun {a b} ha hb hab => ?_
        unfold keyOf
        rw [ht a ha, ht b hb]
        show -(time a) < -(time b)
        omega
      subst hws
      have hRl : R.length < 64 := by
        have := hR.length_eq
        rw [List.length_map, List.length_map] at this
        omega
      walk_at "go"
      refine slc_list none (some (size : Int)) (.inl (.head _)) (by simp; omega) fun b => ?_
      walk_at "go"
      refine ⟨[true, false, false, false, true, true], _, ?_, h (some (c', oc)) b (hx)⟩
      have e1 : cut ((R.map Sx).map fun x => Value.str x 0) none (some (size : Int)) = (R.take size).map U := by
        rw [cut_take, List.map_map, ← List.map_take]; rfl
      rw [e1]
      exact ⟨fun x d q => q, rfl, fun p hp => .inr hp⟩
end
section
variable {G : Gd} {mg mb : Str → Option Value} {A : Around} {env : Env} {L L' : Addr} {σ : St} {K : Value → St → Prop} {KF : Flow → St → Prop}
/-- each once, in the order of their first places -/
noncomputable def uq (ws : List (List Nat)) : List (List Nat) := ws.foldl (fun acc w => if w ∈ acc then acc else acc ++ [w]) []
theorem Sx_inj' {a b : List Nat} (h : Sx a = Sx b) : a = b := by
  have : (Sx a).cps.toList = (Sx b).cps.toList := by rw [h]
  simpa using this
theorem dd_fold : ∀ (ws acc : List (List Nat)), ws.foldl (fun es w => sto1 es (Sx w) .none) (acc.map fun w => (Sx w, Value.none)) = (ws.foldl (fun acc w => if w ∈ acc then acc else acc ++ [w]) acc).map fun w => (Sx w, Value.none)
  | [], acc => rfl
  | w :: ws, acc => by
    rw [List.foldl_cons, List.foldl_cons, ← dd_fold ws]
    congr 1
    unfold sto1
    have e : (acc.map fun w => (Sx w, Value.none)).any (fun kv => decide (kv.1 = Sx w)) = decide (w ∈ acc) := by
      rw [Bool.eq_iff_iff]
      simp only [List.any_map, List.any_eq_true, Function.comp, decide_eq_true_eq]
      constructor
      · rintro ⟨x, hx, e⟩; rw [← Sx_inj' e]; exact hx
      · intro hm; exact ⟨w, hm, rfl⟩
    rw [e]
    by_cases q : w ∈ acc
    · rw [if_pos (by simpa using q), if_pos q, List.map_map]
      apply List.map_congr_left
      intro u _
      show (if Sx u = Sx w then (Sx u, Value.none) else (Sx u, Value.none)) = _
      split <;> rfl
    · rw [if_neg (by simpa using q), if_neg q, List.map_append]; rfl
theorem dd_keys (ws : List (List Nat)) : (dd ws).map (fun e => Value.str e.1 0) = (uq ws).map U := by
  have := dd_fold ws []
  unfold dd uq
  rw [show ([] : List (Str × Value)) = ([] : List (List Nat)).map fun w => (Sx w, Value.none) from rfl, this, List.map_map]
  rfl
theorem uq_len (ws : List (List Nat)) : (uq ws).length ≤ ws.length := by
  have : ∀ (ws acc : List (List Nat)), (ws.foldl (fun acc w => if w ∈ acc then acc else acc ++ [w]) acc).length ≤ acc.length + ws.length := by
    intro ws
    induction ws with
    | nil => intro acc; simp
    | cons w ws ih =>
      intro acc
      rw [List.foldl_cons]
      refine Nat.le_trans (ih _) ?_
      split <;> simp <;> omega
  simpa [uq] using this ws []
noncomputable def bk (size : Nat) (here : List Nat) (B : List (List Nat)) : List (List Nat) := (uq (here :: B)).take size
noncomputable def joined (l told : List Nat) : List Nat := if sw told [47] = true then told else if ew l [47] = true then l ++ told else l ++ ([47] ++ told)
structure Jr (size : Nat) (ds : List Dd) (J : List Dd → List (List Nat) → List (List Nat) → Prop) : Prop where
  start : J [] [[47]] [[47]]
  bound : ∀ done V B, J done V B → V ≠ [] ∧ V.length ≤ 100 ∧ B.length ≤ 100 ∧ ∀ p ∈ B, p.length ≤ 10000
  step : ∀ done told rest V l B, ds = done ++ .step told :: rest → J done (V ++ [l]) B → l ≠ [] ∧ l.length ≤ 10000 ∧ told.length ≤ 10000 ∧ ∃ r, joined l told = 47 :: r ∧ r.length ≤ 50000 ∧ r.head? ≠ some 47 ∧ J (done ++ [.step told]) (V ++ [l] ++ [47 :: jn [47] ((spl 47 r).foldl nstep [])]) (bk size (47 :: jn [47] ((spl 47 r).foldl nstep [])) B)
  jump : ∀ done its rest V l B, ds = done ++ .jump its :: rest → J done (V ++ [l]) B → its.length ≤ 1000 ∧ J (done ++ [.jump its]) (V ++ [l] ++ [((B.drop 1).filter (takes its) ++ [l]).headD []]) (bk size (((B.drop 1).filter (takes its) ++ [l]).headD []) B)
theorem cut_drop1 (B : List (List Nat)) : cut (B.map U) (some 1) none = (B.drop 1).map U := by
  unfold cut kms_lo kms_hi
  cases B with
  | nil => simp
  | cons b B =>
    simp
    rw [List.take_of_length_le (by simp)]
theorem cut_last1 (V : List (List Nat)) (l : List Nat) : cut (V.map U ++ [U l]) (some (-1)) none = [U l] := by
  unfold cut kms_lo kms_hi
  simp
theorem filt_u (P : List Nat → Bool) (l : List (List Nat)) : l.filterMap (fun w => if P w = true then some (U w) else none) = (l.filter P).map U := by
  rw [← List.filterMap_eq_map, List.filterMap_filter]
  rfl
theorem c_session (Λ : Law G mg mb) {da : Addr} {Ds : List DI} {size : Nat} {J : List Dd → List (List Nat) → List (List Nat) → Prop} {m : List (Str × Value)} {o2 k : List (Addr × O)} (hA : rm 6 A) (hd : (da, O.list (Ds.map fun D => .ref D.t)) ∈ o2 ++ k) (hok : ∀ D ∈ Ds, D.ok ∧ ∀ p ∈ D.objs, p ∈ o2 ++ k) (hl : Ds.length ≤ 10)
    (j : Jr size (Ds.map (·.d)) J)
    (h : ∀ t v b V B, J (Ds.map (·.d)) V B → K (.ref t) ⟨m, (t, .tuple [.ref v, .ref b]) :: (b, .list (B.map U)) :: (v, .list (V.map U)) :: o2, k⟩) : Call G A L ⟨m, o2, k⟩ (.ref 228) [.ref da, I size] K := by
  have ho := Λ.X 228 _ (by k_is)
  refine call_less ?_
  show Call G A L ⟨m, [] ++ o2, k⟩ (.ref 228) [.ref da, I size] _
  refine call_defCO [] ["deeds", "size"] [("size", I size), ("deeds", .ref da)] (fun L' => [(L' + 1, .cell none)]) Λ.Γ ho Λ.off rfl rfl (Λ.code ?hc) ?hcT hA.d rfl ?bind ?clo ?kind ?nd ?ms ?how ?body ?co ?gen ?k
  walk_at "enterC"
  clear ho; intro L' env
  walk_at "go"
  refine ex_swap2 ?h0 ?_ ?q1 ?q2 (hs := ?q3) (hk := ?q4) (hx := ?q5) (hy := ?q6) (hl := ?q7) (hne := ?q8) (hs1 := ?q9) (hs2 := ?q10)
  case h0 => exact hA.h
  case q1 => rfl
  case q2 => rfl
  case q3 => rfl
  case q4 => rfl
  case q5 => rfl
  case q6 => rfl
  case q7 => rfl
  case q8 => decide
  case q9 => rfl
  case q10 => rfl
  walk_at "go"
  refine ⟨by simp, fun vl => ?_⟩
  walk_at "go"
  refine ⟨by simp, fun bl => ?_⟩
  walk_at "go"
  refine ⟨by simp, fun tp => ⟨tp, _, rfl, .tup (.inl (.head _)), rfl, ?_⟩⟩
  refine stos_cons (sto_local (stos_cons (sto_local (stos_nil ?_))))
  walk_at "go"
  refine ex1_le [false] ⟨[("visits", .ref vl), ("book", .ref bl), ("size", I size), ("deeds", .ref da)], (bl, .list ([[47]].map U)) :: (vl, .list ([[47]].map U)) :: (L' + 1, .cell none) :: [], o2 ++ k⟩ (ex_for ?_) (by repeat (first | exact trivial | refine ⟨rfl, ?_⟩)) rfl (by walk_at "kn")
  walk_at "go"
  refine ⟨Ds.map fun D => .ref D.t, itr_list hA.h hd, ?_⟩
  refine for_invP (ι := DI) (fun D => .ref D.t) (fun done σ₁ => ∃ bl V B c, J (done.map (·.d)) V B ∧
    σ₁ = ⟨[("visits", .ref vl), ("book", .ref bl), ("size", I size), ("deeds", .ref da)], (bl, .list (B.map U)) :: (vl, .list (V.map U)) :: (L' + 1, .cell c) :: [], o2 ++ k⟩) Ds ?_ ?_ ?_
  · exact ⟨_, _, _, _, j.start, rfl⟩
  · rintro done D rest σ₁ e ⟨bl, V', B, c, hJ, rfl⟩
    obtain ⟨hDok, hDo⟩ := hok D (by rw [e]; simp)
    obtain ⟨hV0, hVl, hBl, hBp⟩ := j.bound _ _ _ hJ
    obtain ⟨V, l, rfl⟩ : ∃ V l, V' = V ++ [l] := by
      rcases List.eq_nil_or_concat V' with h0 | ⟨p, y, h0⟩
      · exact absurd h0 hV0
      · exact ⟨p, y, by rw [h0, List.concat_eq_append]⟩
    rw [List.map_append, List.map_cons, List.map_nil]
    obtain ⟨Dt, Dd', ia, its⟩ := D
    have e2 : Ds.map (·.d) = done.map (·.d) ++ Dd' :: rest.map (·.d) := by rw [e]; simp
    obtain ⟨kd, td, hmem, hkt⟩ : ∃ kd td, (Dt, O.tuple [U kd, td]) ∈ o2 ++ k ∧ match Dd' with | .step told => kd = cp "step" ∧ td = U told | .jump _ => kd = cp "jump" ∧ td = .ref ia := by
      cases Dd' with
      | step told => exact ⟨_, _, hDo _ (.head _), rfl, rfl⟩
      | jump il => exact ⟨_, _, hDo _ (.head _), rfl, rfl⟩
    refine asg_tuple hA.h (.tup (.inr hmem)) rfl ?_
    refine asgs_cons (asg_name (sto_local (asgs_cons (asg_name (sto_cell 2 rfl rfl (asgs_nil ?_))))))
    rw [show (done ++ [(⟨Dt, Dd', ia, its⟩ : DI)]).map (·.d) = done.map (·.d) ++ [Dd'] by simp]
    generalize done.map (·.d) = dn at hJ e2 ⊢
    generalize rest.map (·.d) = rs at e2
    refine ex_cut (fun τ => ∃ here, J (dn ++ [Dd']) (V ++ [l] ++ [here]) (bk size here B) ∧ τ = ⟨[("here", U here), ("visits", .ref vl), ("book", .ref bl), ("size", I size), ("deeds", .ref da)], (bl, .list (B.map U)) :: (vl, .list (V.map U ++ [U l])) :: (L' + 1, .cell (some td)) :: [], o2 ++ k⟩) ?_ ?_
    · refine ex1_gen fun KF hKF => ?_
      walk_at "go"
      cases Dd' with
      | step told =>
        obtain ⟨rfl, rfl⟩ := hkt
        obtain ⟨hl0, hll, htl, r, hjr, hrl, hrh, hJ'⟩ := j.step _ _ _ _ _ _ e2 hJ
        have hjr' : (if sw told [47] = true then told else if ew l [47] = true then l ++ told else l ++ ([47] ++ told)) = 47 :: r := hjr
        refine ift (by simp) ?_
        walk_at "go"
        refine itm_list_neg (d := U l) (.inl (.tail _ (.head _))) (by decide) (by simp; omega) (by simp at hVl ⊢; omega) ?_ ?_
        · rw [List.length_append, List.length_map, List.length_singleton, show (-1 + ((V.length + 1 : Nat) : Int)).toNat = (V.map U).length by rw [List.length_map]; omega]
          simp
        walk_at "go"
        refine c_join Λ hA.deeper.less hll htl hl0 ?_
        rw [hjr']
        walk_at "go"
        refine c_normpath Λ hA.deeper.less hrl hrh ?_
        walk_at "go"
        first | exact hKF _ _ ⟨rfl, [], _, by walk_at "le", _, hJ', rfl⟩ | exact ⟨rfl, [], _, by walk_at "le", _, hJ', rfl⟩
      | jump il =>
        obtain ⟨rfl, rfl⟩ := hkt
        have hDok' : its.map (·.2) = il := hDok
        subst hDok'
        obtain ⟨hil, hJ'⟩ := j.jump _ _ _ _ _ _ e2 hJ
        refine iff' (by simp [cp_step, cp_jump]) ?_
        walk_at "go"
        refine ev_comp ?_
        walk_at "go"
        refine slc_list (some 1) none (.inl (.head _)) (by rw [List.length_map]; omega) fun x => ?_
        rw [cut_drop1]
        refine ⟨(B.drop 1).map U, itr_list hA.h (.head _), by simp; omega, fun C => ?_⟩
        refine comp_inv (ι := List Nat) U (fun w => if takes (its.map (·.2)) w = true then some (U w) else none) _ (B.drop 1) [] ?_ ?_
        · intro w hw
          have hwl := hBp w (List.mem_of_mem_drop hw)
          walk_at "go"
          refine c_takes (its := its) Λ hA.deeper.less hwl (by simpa using hil) (.inr (.tail _ (.tail _ (.tail _ (.tail _ (hDo _ (.tail _ (.head _)))))))) (fun p hp => .inr (.tail _ (.tail _ (.tail _ (.tail _ (hDo _ (.tail _ (.tail _ (List.mem_map.mpr ⟨p, List.mem_reverse.mpr hp, rfl⟩))))))))) ?_
          walk_at "go"
          by_cases ht : takes (its.map (·.2)) w = true
          · rw [if_pos ht]
            walk_at "go"
            exact ⟨by rw [if_pos ht], [], by walk_at "le"⟩
          · rw [if_neg ht]
            exact ⟨by rw [if_neg ht], [], by walk_at "le"⟩
        · intro D
          have e5 : ([] : List Value) ++ (B.drop 1).filterMap (fun w => if takes (its.map (·.2)) w = true then some (U w) else none) = ((B.drop 1).filter (takes (its.map (·.2)))).map U := by
            rw [List.nil_append]; exact filt_u _ _
          rw [e5]
          have hsl : ((B.drop 1).filter (takes (its.map (·.2)))).length ≤ 100 := Nat.le_trans (List.length_filter_le _ _) (by simp; omega)
          generalize (B.drop 1).filter (takes (its.map (·.2))) = fit at hsl hJ' ⊢
          walk_at "go"
          refine slc_list (some (-1)) none (.inl (.tail _ (.tail _ (.tail _ (.head _))))) (by simp at hVl ⊢; omega) fun y => ?_
          rw [cut_last1]
          walk_at "go"
          refine op_add_list (.inl (.tail _ (.head _))) (.inl (.head _)) (by simp; omega) fun z => ?_
          walk_at "go"
          refine itm_list (d := U ((fit ++ [l]).headD [])) (.inl (.head _)) (by decide) (by decide) ?_ ?_
          · cases fit <;> rfl
          walk_at "go"
          first | exact hKF _ _ ⟨rfl, [false, false, false, false], _, by walk_at "le", _, hJ', rfl⟩ | exact ⟨rfl, [false, false, false, false], _, by walk_at "le", _, hJ', rfl⟩
    rintro τ ⟨here, hJ', rfl⟩
    walk_at "go"
    refine call_append 1 rfl (by simp at hVl ⊢; omega) ?_
    walk_at "go"
    refine ⟨by simp, fun x => ?_⟩
    walk_at "go"
    refine op_add_list (.inl (.head _)) (.inl (.tail _ (.head _))) (by simp; omega) fun y => ?_
    walk_at "go"
    rw [show [U here] ++ B.map U = (here :: B).map U from rfl]
    refine c_dedup Λ hA.deeper.less (.inl (.head _)) (by simp; omega) fun d => ?_
    walk_at "go"
    have hul := uq_len (here :: B)
    refine call_listdict hA.h (.inl (.head _)) ?_ fun z => ?_
    · have := congrArg List.length (dd_keys (here :: B))
      rw [List.length_map, List.length_map] at this
      rw [this]; simp at hul; omega
    rw [dd_keys]
    walk_at "go"
    refine slc_list none (some (size : Int)) (.inl (.head _)) (by rw [List.length_map]; simp at hul; omega) fun w => ?_
    rw [cut_take, ← List.map_take, show List.map U V ++ [U l] ++ [U here] = (V ++ [l] ++ [here]).map U by simp]
    walk_at "go"
    exact ⟨.inl rfl, [true, false, false, false, false, false], ⟨[("visits", .ref vl), ("book", .ref w), ("size", I size), ("deeds", .ref da)], (w, .list ((bk size here B).map U)) :: (vl, .list ((V ++ [l] ++ [here]).map U)) :: (L' + 1, .cell (some td)) :: [], o2 ++ k⟩, by walk_at "le", _, _, _, _, hJ', rfl⟩
  · rintro σ₁ ⟨bl, V, B, c, hJ, rfl⟩
    walk_at "go"
    refine ⟨by simp, fun t => ?_⟩
    walk_at "go"
    refine ⟨[true, true, true, false], ⟨m, (t, .tuple [.ref vl, .ref bl]) :: (bl, .list (B.map U)) :: (vl, .list (V.map U)) :: o2, k⟩, ⟨fun _ _ q => q, ?_, fun p hp => .inr hp⟩, ?_⟩
    · rfl
    · exact h t vl bl V B hJ
end
/-- the words seen last, and when -/
structure TwInv (es : List (Str × Value)) (ws R : List (List Nat)) (time : List Nat → Int) : Prop where
  ne : ws ≠ []
  perm : (R.map Sx).Perm (es.map (·.1))
  at_ : ∀ w ∈ R, es.lookup (Sx w) = some (I (time w))
  dec : R.Pairwise fun a b => time b < time a
  lt_ : ∀ w ∈ R, time w < ws.length
  len : R.length ≤ ws.length
  wlen : ∀ w ∈ ws, w.length ≤ 4 * ws.length
  sub : ∀ w ∈ R, w ∈ ws
theorem Sx_inj {a b : List Nat} (h : Sx a = Sx b) : a = b := by
  have : (Sx a).cps.toList = (Sx b).cps.toList := by rw [h]
  simpa using this
theorem lookup_map_upd (k : Str) (v : Value) : ∀ (es : List (Str × Value)) (x : Str), x ≠ k → (es.map fun kv => if kv.1 = k then (kv.1, v) else kv).lookup x = es.lookup x
  | [], x, _ => rfl
  | (a, b) :: r, x, h => by
    rw [List.map_cons]
    by_cases q : a = k
    · subst q
      rw [if_pos rfl, List.lookup_cons, List.lookup_cons, show (x == a) = false by simp [h]]
      exact lookup_map_upd a v r x h
    · rw [if_neg q, List.lookup_cons, List.lookup_cons, lookup_map_upd k v r x h]
theorem lookup_map_hit (k : Str) (v : Value) : ∀ (es : List (Str × Value)), k ∈ es.map (·.1) → (es.map fun kv => if kv.1 = k then (kv.1, v) else kv).lookup k = some v
  | [], h => by simp at h
  | (a, b) :: r, h => by
    rw [List.map_cons]
    by_cases q : a = k
    · subst q
      rw [if_pos rfl, List.lookup_cons]
      simp
    · rw [if_neg q, List.lookup_cons, show (k == a) = false by simp; exact fun e => q e.symm]
      refine lookup_map_hit k v r ?_
      rcases List.mem_cons.mp h with e | h
      · exact absurd e.symm q
      · exact h
theorem lookup_append_hit {k : Str} {v : Value} : ∀ {es : List (Str × Value)}, k ∉ es.map (·.1) → (es ++ [(k, v)]).lookup k = some v
  | [], _ => by simp
  | (a, b) :: r, h => by
    have h1 : k ≠ a := fun e => h (by rw [e]; exact .head _)
    rw [List.cons_append, List.lookup_cons, show (k == a) = false by simp [h1]]
    exact lookup_append_hit fun hm => h (.tail _ hm)
theorem lookup_append_old {k x : Str} {v : Value} (hx : x ≠ k) : ∀ {es : List (Str × Value)}, (es ++ [(k, v)]).lookup x = es.lookup x
  | [] => by simp [hx]
  | (a, b) :: r => by
    rw [List.cons_append, List.lookup_cons, List.lookup_cons, lookup_append_old hx (es := r)]
theorem tw_next {es : List (Str × Value)} {ws R : List (List Nat)} {time : List Nat → Int} (h : TwInv es ws R time) {w' : List Nat} (hw : w'.length ≤ 4 * (ws.length + 1)) :
    TwInv (sto1 es (Sx w') (I (ws.length : Int))) (ws ++ [w']) (w' :: R.filter (· != w')) (fun w => if w = w' then (ws.length : Int) else time w) := by
  have hnd : R.Nodup := h.dec.imp fun {a b} hab e => by subst e; omega
  have hkey : (Sx w' ∈ es.map (·.1)) ↔ w' ∈ R := by
    rw [← h.perm.mem_iff]
    constructor
    · intro hm
      obtain ⟨u, hu, e⟩ := List.mem_map.mp hm
      rw [← Sx_inj e]; exact hu
    · intro hm; exact List.mem_map.mpr ⟨_, hm, rfl⟩
  have hany : es.any (fun kv => decide (kv.1 = Sx w')) = decide (w' ∈ R) := by
    rw [Bool.eq_iff_iff]
    simp only [List.any_eq_true, decide_eq_true_eq]
    rw [← hkey]
    simp
  have hne : ∀ u ∈ R.filter (· != w'), u ∈ R ∧ u ≠ w' := fun u hu => by simpa using List.mem_filter.mp hu
  refine ⟨by simp, ?_, ?_, ?_, ?_, ?_, ?_, ?_⟩
  · have hkeys : (sto1 es (Sx w') (I (ws.length : Int))).map (·.1) = if w' ∈ R then es.map (·.1) else es.map (·.1) ++ [Sx w'] := by
      unfold sto1
      rw [hany]
      by_cases q : w' ∈ R
      · simp only [q, decide_true, if_true]
        rw [List.map_map]
        refine List.map_congr_left fun p _ => ?_
        show (if p.1 = Sx w' then (p.1, _) else p).1 = p.1
        split <;> rfl
      · simp [q]
    rw [hkeys]
    by_cases q : w' ∈ R
    · rw [if_pos q]
      refine List.Perm.trans (List.Perm.map _ ?_) h.perm
      have e1 : R.filter (· != w') = R.erase w' := (List.Nodup.erase_eq_filter hnd w').symm
      rw [e1]
      exact (List.perm_cons_erase q).symm
    · rw [if_neg q]
      have e1 : R.filter (· != w') = R := by
        rw [List.filter_eq_self]
        intro a ha
        have : a ≠ w' := fun e => q (e ▸ ha)
        simp [this]
      rw [e1, List.map_cons]
      exact (List.Perm.cons _ h.perm).trans (List.perm_append_singleton _ _).symm
  · intro w hm
    rcases List.mem_cons.mp hm with rfl | hm
    · rw [if_pos rfl]
      unfold sto1
      rw [hany]
      by_cases q : w ∈ R
      · simp only [q, decide_true, if_true]
        exact lookup_map_hit _ _ _ (hkey.mpr q)
      · simp only [q, decide_false, Bool.false_eq_true, if_false]
        exact lookup_append_hit fun hm => q (hkey.mp hm)
    · obtain ⟨h1, h2⟩ := hne w hm
      rw [if_neg h2]
      have h3 : Sx w ≠ Sx w' := fun e => h2 (Sx_inj e)
      unfold sto1
      split
      · rw [lookup_map_upd _ _ _ _ h3]; exact h.at_ w h1
      · rw [lookup_append_old h3]; exact h.at_ w h1
  · refine List.pairwise_cons.mpr ⟨fun u hu => ?_, ?_⟩
    · obtain ⟨h1, h2⟩ := hne u hu
      rw [if_neg h2, if_pos rfl]
      exact h.lt_ u h1
    · refine (h.dec.sublist List.filter_sublist).imp_of_mem fun {a b} ha hb hab => ?_
      rw [if_neg (hne a ha).2, if_neg (hne b hb).2]
      exact hab
  · intro w hm
    rw [List.length_append, List.length_singleton]
    rcases List.mem_cons.mp hm with rfl | hm
    · rw [if_pos rfl]; omega
    · obtain ⟨h1, h2⟩ := hne w hm
      rw [if_neg h2]
      have := h.lt_ w h1
      omega
  · have h1 := List.length_filter_le (· != w') R
    have h2 := h.len
    rw [List.length_append, List.length_singleton, List.length_cons]; omega
  · intro w hm
    rw [List.length_append, List.length_singleton]
    rcases List.mem_append.mp hm with hm | hm
    · have := h.wlen w hm; omega
    · rw [List.mem_singleton.mp hm]; exact hw
  · intro w hm
    rcases List.mem_cons.mp hm with rfl | hm
    · simp
    · exact List.mem_append_left _ (h.sub w (hne w hm).1)
theorem tw_start : TwInv [(Str.ofString "", I 0)] [[]] [[]] (fun _ => 0) where
  ne := by simp
  perm := by exact List.Perm.refl _
  at_ := fun w hw => by rw [List.mem_singleton.mp hw]; rfl
  dec := by simp
  lt_ := fun w hw => by simp
  len := by simp
  wlen := fun w hw => by rw [List.mem_singleton.mp hw]; simp
  sub := fun w hw => hw
section
variable {G : Gd} {mg mb : Str → Option Value} {A : Around} {env : Env} {L L' : Addr} {σ : St} {K : Value → St → Prop} {KF : Flow → St → Prop}
noncomputable def mstep (w : List Nat) (m : Nat) : List Nat := if m = 47 then [] else if m = 94 then w.dropLast else w ++ [m]
theorem mstep_len (w : List Nat) (m : Nat) : (mstep w m).length ≤ w.length + 1 := by
  unfold mstep; split
  · simp
  · split <;> simp; omega
theorem mfold_len : ∀ (ms w : List Nat), (ms.foldl mstep w).length ≤ w.length + ms.length
  | [], w => by simp
  | m :: ms, w => by
    have h1 := mfold_len ms (mstep w m)
    have h2 := mstep_len w m
    rw [List.foldl_cons]; simp; omega
theorem cut_dropLast (w : List Nat) : cut w none (some (-1)) = w.dropLast := by
  unfold cut kms_lo kms_hi
  rw [List.dropLast_eq_take]
  simp
theorem c_moved (Λ : Law G mg mb) {w ms : List Nat} (hA : rm 1 A) (hw : w.length ≤ 10000) (hm : ms.length ≤ 10000) (h : K (U (ms.foldl mstep w)) σ) : Call G A L σ (.ref 235) [U w, U ms] K := by
  have ho := Λ.X 235 _ (by k_is)
  refine call_plain h ?_
  refine call_def ["word", "moves"] [("moves", U ms), ("word", U w)] Λ.Γ ho Λ.off rfl rfl (Λ.code ?hc) ?hcT hA.d rfl ?bind ?loc rfl ?body ?cell ?co ?gen ?k
  walk_at "enter"
  clear ho; intro L' env
  walk_at "go"
  refine ex1_le [] ⟨[("word", U w), ("moves", U ms)], [], σ.own ++ σ.kn⟩ (ex_for ?_) (by repeat (first | exact trivial | refine ⟨rfl, ?_⟩)) rfl (by walk_at "kn")
  walk_at "go"
  refine ⟨_, itr_str hA.h, ?_⟩
  refine for_inv (ι := Nat) (fun c => S ⟨#[c]⟩) (fun done => ⟨[("word", U (done.foldl mstep w)), ("moves", U ms)], [], σ.own ++ σ.kn⟩) ms ?_ ?_
  · intro done x rest e
    rw [List.foldl_append, List.foldl_cons, List.foldl_nil]
    have hl : (done.foldl mstep w).length ≤ 20000 := by
      have := mfold_len done w
      have h2 := congrArg List.length e
      simp at h2; omega
    generalize done.foldl mstep w = v at hl ⊢
    walk_at "go"
    by_cases h1 : x = 47
    · subst h1
      refine ift rfl ?_
      walk_at "go"
      exact ⟨.inl rfl, [], by rw [show mstep v 47 = [] from rfl]; walk_at "le"⟩
    refine iff' (by simp [cp_slash, h1]) ?_
    walk_at "go"
    by_cases h2 : x = 94
    · subst h2
      refine ift rfl ?_
      walk_at "go"
      walk_at "go"
      walk_at "go"
      exact ⟨.inl rfl, [], by rw [show mstep v 94 = v.dropLast from rfl, cut_dropLast]; walk_at "le"⟩
    refine iff' (by simp [cp_caret, h2]) ?_
    walk_at "go"
    refine iop_add_str (by simp; omega) ?_
    walk_at "go"
    exact ⟨.inl rfl, [], by rw [show mstep v x = v ++ [x] by simp [mstep, h1, h2]]; walk_at "le"⟩
  · walk_at "go"
    exact ⟨rfl, _, rfl⟩
end
section
variable {G : Gd} {mg mb : Str → Option Value} {A : Around} {env : Env} {L L' : Addr} {σ : St} {K : Value → St → Prop} {KF : Flow → St → Prop}
/-- what a pattern means, by the names alone -/
noncomputable def means (w : List Nat) : List Bool := [cut w (some (-1)) none == [120], (w.length : Int) == 1, cut w none (some 1) == [121], cut w (some (-1)) none != [121], decide (120 ∈ cut w none (some (-1))), (w.length : Int) == 2, (cut w (some (-1)) none == [120]) && decide (121 ∈ w)]
noncomputable def meant (w : List Nat) (n : Nat) : Bool := (means w)[n]?.getD false
theorem c_meant (Λ : Law G mg mb) {w : List Nat} {n : Nat} (hA : rm 1 A) (hw : w.length ≤ 10000) (hn : n < 7) (h : K (.bool (meant w n)) σ) : Call G A L σ (.ref 242) [U w, I n] K := by
  have ho := Λ.X 242 _ (by k_is)
  refine call_plain h ?_
  refine call_def ["word", "number"] [("number", I n), ("word", U w)] Λ.Γ ho Λ.off rfl rfl (Λ.code ?hc) ?hcT hA.d rfl ?bind ?loc rfl ?body ?cell ?co ?gen ?k
  walk_at "enter"
  clear ho; intro L' env
  walk_at "go"
  refine ⟨by simp, fun a => ?_⟩
  walk_at "go"
  by_cases hx : (cut w (some (-1)) none == [120]) = true
  · refine ift hx ?_
    walk_at "go"
    refine ⟨by simp, fun b => ?_⟩
    walk_at "go"
    refine op_add_list (by walk_at "mem") (by walk_at "mem") (by simp) fun c => ?_
    walk_at "go"
    refine itm_list (d := .bool (meant w n)) (by walk_at "mem") (by omega) (by omega) ?_ ?_
    · rw [Int.toNat_natCast]
      have key : ([cut w (some (-1)) none == [120], (w.length : Int) == 1, cut w none (some 1) == [121], cut w (some (-1)) none != [121], decide (120 ∈ cut w none (some (-1))), (w.length : Int) == 2, decide (121 ∈ w)] : List Bool) = means w := by
        unfold means; rw [hx]; rfl
      show (([cut w (some (-1)) none == [120], (w.length : Int) == 1, cut w none (some 1) == [121], cut w (some (-1)) none != [121], decide (120 ∈ cut w none (some (-1))), (w.length : Int) == 2, decide (121 ∈ w)] : List Bool).map Value.bool)[n]? = _
      rw [key, List.getElem?_map]
      unfold meant
      rw [List.getElem?_eq_getElem (show n < (means w).length from hn)]
      rfl
    walk_at "go"
    exact ⟨rfl, _, rfl⟩
  · have hx : (cut w (some (-1)) none == [120]) = false := by simpa using hx
    refine iff' hx ?_
    walk_at "go"
    refine ⟨by simp, fun b => ?_⟩
    walk_at "go"
    refine op_add_list (by walk_at "mem") (by walk_at "mem") (by simp) fun c => ?_
    walk_at "go"
    refine itm_list (d := .bool (meant w n)) (by walk_at "mem") (by omega) (by omega) ?_ ?_
    · rw [Int.toNat_natCast]
      have key : ([cut w (some (-1)) none == [120], (w.length : Int) == 1, cut w none (some 1) == [121], cut w (some (-1)) none != [121], decide (120 ∈ cut w none (some (-1))), (w.length : Int) == 2, (cut w (some (-1)) none == [120])] : List Bool) = means w := by
        unfold means; rw [hx]; rfl
      show (([cut w (some (-1)) none == [120], (w.length : Int) == 1, cut w none (some 1) == [121], cut w (some (-1)) none != [121], decide (120 ∈ cut w none (some (-1))), (w.length : Int) == 2, (cut w (some (-1)) none == [120])] : List Bool).map Value.bool)[n]? = _
      rw [key, List.getElem?_map]
      unfold meant
      rw [List.getElem?_eq_getElem (show n < (means w).length from hn)]
      rfl
    walk_at "go"
    exact ⟨rfl, _, rfl⟩
end
section
variable {G : Gd} {mg mb : Str → Option Value} {A : Around} {env : Env} {L L' : Addr} {σ : St} {K : Value → St → Prop} {KF : Flow → St → Prop}
noncomputable def mvs (n : Nat) : List Nat := ([[94], [120], [121], [121], [94, 120], [120, 121], [47, 120]] : List (List Nat))[n]?.getD []
/-- a step of the plain twin: the words so far, and those seen last, the last first -/
noncomputable def twStep (size : Nat) (st : List (List Nat) × List (List Nat)) (cell : Int) : List (List Nat) × List (List Nat) :=
  let here := st.1.getLastD []
  let n := ((cell.fdiv 4).fmod 7).toNat
  let h' := if cell.fmod 4 < 3 then (mvs n).foldl mstep here else ((((st.2.take size).filter (· != here)).filter (meant · n)) ++ [here]).headD []
  (st.1 ++ [h'], h' :: st.2.filter (· != h'))
theorem c_latest' (Λ : Law G mg mb) {d : Addr} {es : List (Str × Value)} {R : List (List Nat)} {time : List Nat → Int} {size : Nat} {x : Option (Addr × Obj)} {m : List (Str × Value)} {F k : List (Addr × O)} (hA : rm 4 A) (hx : ltOk x)
    (hd : (d, O.dict es) ∈ F ++ k) (h64 : es.length < 64) (hR : (R.map Sx).Perm (es.map (·.1))) (ht : ∀ w ∈ R, es.lookup (Sx w) = some (I (time w))) (hs : R.Pairwise fun a b => time b < time a)
    (h : ∀ x' a, ltOk x' → K (.ref a) ⟨m, (a, .list ((R.take size).map U)) :: (F ++ lt x'), k⟩) : Call G A L ⟨m, F ++ lt x, k⟩ (.ref 249) [.ref d, I size] K :=
  call_perm List.perm_append_comm (call_permR (c_latest Λ hA hx hd h64 hR ht hs fun x' a hx' => ⟨_, List.Perm.cons _ List.perm_append_comm, h x' a hx'⟩))
theorem sto1_len (es : List (Str × Value)) (k : Str) (v : Value) : (sto1 es k v).length ≤ es.length + 1 := by
  unfold sto1
  split <;> simp
theorem c_twin (Λ : Law G mg mb) {ca : Addr} {cells : List Int} {size : Nat} {x : Option (Addr × Obj)} {m : List (Str × Value)} {o2 k : List (Addr × O)} (hA : rm 6 A) (hx : ltOk x) (hc : (ca, O.list (cells.map I)) ∈ o2 ++ k) (hl : cells.length ≤ 10)
    (h : ∀ x' t w b, ltOk x' → K (.ref t) ⟨m, (t, .tuple [.ref w, .ref b]) :: (w, .list (((cells.foldl (twStep size) ([[]], [[]])).1).map U)) :: (b, .list ((((cells.foldl (twStep size) ([[]], [[]])).2).take size).map U)) :: (lt x' ++ o2), k⟩) :
    Call G A L ⟨m, lt x ++ o2, k⟩ (.ref 254) [.ref ca, I size] K := by
  have ho := Λ.X 254 _ (by k_is)
  refine call_less (call_permR ?_)
  refine call_defCO (lt x) ["cells", "size"] [("size", I size), ("cells", .ref ca)] (fun L' => [(L' + 2, .cell none), (L' + 1, .cell none)]) Λ.Γ ho Λ.off rfl rfl (Λ.code ?hc) ?hcT hA.d rfl ?bind ?clo ?kind ?nd ?ms ?how ?body ?co ?gen ?k
  walk_at "enterC"
  clear ho; intro L' env
  walk_at "go"
  refine ex_swap2 ?h0 ?_ ?q1 ?q2 (hs := ?q3) (hk := ?q4) (hx := ?q5) (hy := ?q6) (hl := ?q7) (hne := ?q8) (hs1 := ?q9) (hs2 := ?q10)
  case h0 => exact hA.h
  case q1 => rfl
  case q2 => rfl
  case q3 => rfl
  case q4 => rfl
  case q5 => rfl
  case q6 => rfl
  case q7 => rfl
  case q8 => decide
  case q9 => rfl
  case q10 => rfl
  walk_at "go"
  refine ⟨by simp, fun wl => ?_⟩
  walk_at "go"
  refine ev_dict1 Λ.Γ fun td => ?_
  walk_at "go"
  refine ⟨by simp, fun tp => ⟨tp, _, rfl, .tup (.inl (.head _)), rfl, ?_⟩⟩
  refine stos_cons (sto_local (stos_cons (sto_local (stos_nil ?_))))
  walk_at "go"
  refine ex1_le [false] ⟨[("words", .ref wl), ("times", .ref td), ("size", I size), ("cells", .ref ca)], (td, .dict [(Str.ofString "", I 0)]) :: (wl, .list ([[]].map U)) :: (L' + 2, .cell none) :: (L' + 1, .cell none) :: lt x, o2 ++ k⟩ (ex_for ?_) (by repeat (first | exact trivial | refine ⟨rfl, ?_⟩)) rfl (by walk_at "kn")
  walk_at "go"
  refine ⟨cells.map I, itr_list hA.h hc, ?_⟩
  refine for_invP (ι := Int) I (fun done σ₁ => ∃ es time x' hc nc, ltOk x' ∧ TwInv es (done.foldl (twStep size) ([[]], [[]])).1 (done.foldl (twStep size) ([[]], [[]])).2 time ∧ (done.foldl (twStep size) ([[]], [[]])).1.length = done.length + 1 ∧ es.length ≤ done.length + 1 ∧
    σ₁ = ⟨[("words", .ref wl), ("times", .ref td), ("size", I size), ("cells", .ref ca)], (td, .dict es) :: (wl, .list ((done.foldl (twStep size) ([[]], [[]])).1.map U)) :: (L' + 2, .cell hc) :: (L' + 1, .cell nc) :: lt x', o2 ++ k⟩) cells ?_ ?_ ?_
  · exact ⟨_, _, x, _, _, hx, tw_start, rfl, by simp, rfl⟩
  · rintro done cell rest σ₁ e ⟨es, time, x', hc, nc, hx', inv, hwl, hel, rfl⟩
    have hdl : done.length ≤ 10 := by
      have := congrArg List.length e
      simp at this; omega
    simp only [List.foldl_append, List.foldl_cons, List.foldl_nil]
    generalize done.foldl (twStep size) ([[]], [[]]) = st at inv hwl ⊢
    obtain ⟨ws, R⟩ := st
    dsimp only at inv hwl ⊢
    have hn0 : 0 ≤ (cell.fdiv 4).fmod 7 := Int.fmod_nonneg_of_pos _ (by decide)
    have hn7 : (cell.fdiv 4).fmod 7 < 7 := Int.fmod_lt_of_pos _ (by decide)
    obtain ⟨n, hn⟩ := Int.eq_ofNat_of_zero_le hn0
    have hn7' : n < 7 := by omega
    obtain ⟨p, y, rfl⟩ : ∃ p y, ws = p ++ [y] := by
      rcases List.eq_nil_or_concat ws with h0 | ⟨p, y, h0⟩
      · exact absurd h0 inv.ne
      · exact ⟨p, y, by rw [h0, List.concat_eq_append]⟩
    have hyl : y.length ≤ 4 * (p ++ [y]).length := inv.wlen y (by simp)
    rw [hwl] at hyl
    have hts : ∀ h', h' = (if cell.fmod 4 < 3 then (mvs n).foldl mstep y else ((((R.take size).filter (· != y)).filter (meant · n)) ++ [y]).headD []) → twStep size (p ++ [y], R) cell = ((p ++ [y]) ++ [h'], h' :: R.filter (· != h')) := by
      rintro h' rfl
      unfold twStep
      dsimp only
      rw [hn, List.getLastD_concat]
      rfl
    refine asg_name (sto_local ?_)
    refine ex_cut (fun τ => τ = ⟨[("cell", I cell), ("words", .ref wl), ("times", .ref td), ("size", I size), ("cells", .ref ca)], (td, .dict es) :: (wl, .list ((p ++ [y]).map U)) :: (L' + 2, .cell (some (I n))) :: (L' + 1, .cell (some (U y))) :: lt x', o2 ++ k⟩) ?_ ?_
    · refine ex1_gen fun KF hKF => ?_
      refine ex_unpack ?_ rfl ?hw
      case hw => exact swapped0 rfl rfl rfl rfl rfl
      walk_at "go"
      refine itm_list_neg (d := U y) (by walk_at "mem") (by decide) (by simp; omega) (by simp at hwl ⊢; omega) ?_ ?_
      · rw [List.map_append, List.length_append, List.length_map, List.map_cons, List.map_nil, List.length_singleton, show (-1 + ((p.length + 1 : Nat) : Int)).toNat = (p.map U).length by rw [List.length_map]; omega]
        simp
      walk_at "go"
      refine ⟨by simp, fun tp2 => ?_⟩
      refine asg_tuple hA.h (.tup (.inl (.head _))) rfl ?_
      walk_at "go"
      rw [hn]
      first | exact hKF _ _ ⟨rfl, [false], _, by walk_at "le", rfl⟩ | exact ⟨rfl, [false], _, by walk_at "le", rfl⟩
    rintro τ rfl
    refine ex_cut (fun τ => ∃ h' x'', ltOk x'' ∧ h'.length ≤ 4 * ((p ++ [y]).length + 1) ∧ twStep size (p ++ [y], R) cell = ((p ++ [y]) ++ [h'], h' :: R.filter (· != h')) ∧ τ = ⟨[("words", .ref wl), ("times", .ref td), ("size", I size), ("cells", .ref ca)], (td, .dict es) :: (wl, .list ((p ++ [y]).map U)) :: (L' + 2, .cell (some (I n))) :: (L' + 1, .cell (some (U h'))) :: lt x'', o2 ++ k⟩) ?_ ?_
    · refine ex1_gen fun KF hKF => ?_
      walk_at "go"
      by_cases h3 : cell.fmod 4 < 3
      · refine ift (by simpa using h3) ?_
        walk_at "go"
        refine ⟨by simp, fun ml => ?_⟩
        walk_at "go"
        refine itm_list (d := U (mvs n)) (.inl (.head _)) (by omega) (by omega) ?_ ?_
        · rw [Int.toNat_natCast]
          refine lt7 hn7' ?_ ?_ ?_ ?_ ?_ ?_ ?_
          · rfl
          · rfl
          · rfl
          · rfl
          · rfl
          · rfl
          · rfl
        walk_at "go"
        have hml : (mvs n).length ≤ 2 := by
          refine lt7 hn7' ?_ ?_ ?_ ?_ ?_ ?_ ?_
          · decide
          · decide
          · decide
          · decide
          · decide
          · decide
          · decide
        refine c_moved Λ hA.deeper.less (by simp at hwl hyl ⊢; omega) (by omega) ?_
        have hfl := mfold_len (mvs n) y
        walk_at "go"
        first | exact hKF _ _ ⟨rfl, [false], _, by walk_at "le", (mvs n).foldl mstep y, x', hx', by rw [hwl]; omega, hts _ (by rw [if_pos h3]), rfl⟩ | exact ⟨rfl, [false], _, by walk_at "le", (mvs n).foldl mstep y, x', hx', by rw [hwl]; omega, hts _ (by rw [if_pos h3]), rfl⟩
      · refine iff' (by simpa using h3) ?_
        walk_at "go"
        refine ex_assign_comp ?_
        walk_at "go"
        refine c_latest' (F := [(td, .dict es), (wl, .list ((p ++ [y]).map U)), (L' + 2, .cell (some (I n))), (L' + 1, .cell (some (U y)))]) Λ hA.deeper.less hx' (.head _) (by omega) inv.perm inv.at_ inv.dec fun x'' a hx'' => ?_
        have htl : (R.take size).length ≤ 20 := by
          have hRl := inv.len
          rw [hwl] at hRl
          rw [List.length_take]; omega
        refine ⟨(R.take size).map U, itr_list hA.h (.head _), by rw [List.length_map]; omega, fun C => ?_⟩
        refine comp_inv (ι := List Nat) U (fun w => if (w != y) = true then some (U w) else none) _ (R.take size) [] ?_ ?_
        · intro w hw
          walk_at "go"
          by_cases h4 : (w != y) = true
          · rw [if_pos h4]
            walk_at "go"
            exact ⟨by rw [if_pos h4], [], by walk_at "le"⟩
          · rw [if_neg h4]
            exact ⟨by rw [if_neg h4], [], by walk_at "le"⟩
        · intro D
          have e4 : ([] : List Value) ++ (R.take size).filterMap (fun w => if (w != y) = true then some (U w) else none) = ((R.take size).filter (· != y)).map U := by
            rw [List.nil_append, ← List.filterMap_eq_map, List.filterMap_filter]
            rfl
          rw [e4]
          have hsub : ∀ w ∈ (R.take size).filter (· != y), w ∈ p ++ [y] := fun w hw => inv.sub w (List.mem_of_mem_take (List.mem_filter.mp hw).1)
          have hsl : ((R.take size).filter (· != y)).length ≤ 20 := Nat.le_trans (List.length_filter_le _ _) htl
          generalize (R.take size).filter (· != y) = seen at hsub hsl hts ⊢
          walk_at "go"
          refine ev_comp ?_
          walk_at "go"
          refine ⟨seen.map U, itr_list hA.h (.head _), by simp; omega, fun C' => ?_⟩
          refine comp_inv (ι := List Nat) U (fun w => if meant w n = true then some (U w) else none) _ seen [] ?_ ?_
          · intro w hw
            have hwl' := inv.wlen w (hsub w hw)
            walk_at "go"
            refine c_meant Λ hA.deeper.less (by omega) hn7' ?_
            walk_at "go"
            by_cases h5 : meant w n = true
            · rw [if_pos h5]
              walk_at "go"
              exact ⟨by rw [if_pos h5], [], by walk_at "le"⟩
            · rw [if_neg h5]
              exact ⟨by rw [if_neg h5], [], by walk_at "le"⟩
          · intro D2
            have e5 : ([] : List Value) ++ seen.filterMap (fun w => if meant w n = true then some (U w) else none) = (seen.filter (meant · n)).map U := by
              rw [List.nil_append, ← List.filterMap_eq_map, List.filterMap_filter]
              rfl
            rw [e5]
            have hsub2 : ∀ w ∈ seen.filter (meant · n), w ∈ p ++ [y] := fun w hw => hsub w (List.mem_filter.mp hw).1
            have hsl2 : (seen.filter (meant · n)).length ≤ 20 := Nat.le_trans (List.length_filter_le _ _) hsl
            generalize seen.filter (meant · n) = fit at hsub2 hsl2 hts ⊢
            walk_at "go"
            refine ⟨by simp, fun b => ?_⟩
            walk_at "go"
            refine op_add_list (by walk_at "mem") (by walk_at "mem") (by simp; omega) fun c => ?_
            walk_at "go"
            refine itm_list (d := U ((fit ++ [y]).headD [])) (.inl (.head _)) (by omega) (by omega) ?_ ?_
            · cases fit <;> rfl
            have hin : (fit ++ [y]).headD [] ∈ p ++ [y] := by
              cases fit with
              | nil => simp
              | cons z r => exact hsub2 z (.head _)
            have hbd := inv.wlen _ hin
            walk_at "go"
            first | exact hKF _ _ ⟨rfl, [false, false, false, false, false], _, by walk_at "le", (fit ++ [y]).headD [], x'', hx'', by omega, hts _ (by rw [if_neg h3]), rfl⟩ | exact ⟨rfl, [false, false, false, false, false], _, by walk_at "le", (fit ++ [y]).headD [], x'', hx'', by omega, hts _ (by rw [if_neg h3]), rfl⟩
    rintro τ ⟨h', x'', hx'', hl', hst, rfl⟩
    walk_at "go"
    refine call_len_list (by walk_at "mem") (by rw [List.length_map]; omega) ?_
    walk_at "go"
    refine sti_dict 0 rfl (by omega) ?_
    walk_at "go"
    refine call_append 1 rfl (by rw [List.length_map]; omega) ?_
    walk_at "go"
    refine ⟨.inl rfl, [], _, .rfl', ?_⟩
    rw [hst]
    dsimp only
    have inv' := tw_next inv hl'
    rw [List.length_map]
    refine ⟨_, _, x'', some (I n), some (U h'), hx'', inv', by rw [List.length_append, hwl]; simp, ?_, ?_⟩
    · have := sto1_len es (Sx h') (I ((p ++ [y]).length : Int))
      rw [show (done ++ [cell]).length = done.length + 1 by simp]; omega
    · rw [List.map_append (l₁ := p ++ [y])]; rfl
  · rintro σ₁ ⟨es, time, x', hc, nc, hx', inv, hwl, hel, rfl⟩
    walk_at "go"
    generalize cells.foldl (twStep size) ([[]], [[]]) = st at inv hwl h ⊢
    obtain ⟨ws, R⟩ := st
    dsimp only at inv hwl h ⊢
    refine c_latest' (F := [(td, .dict es), (wl, .list (ws.map U)), (L' + 2, .cell hc), (L' + 1, .cell nc)]) Λ hA.deeper.less hx' (.head _) (by omega) inv.perm inv.at_ inv.dec fun x'' a hx'' => ?_
    walk_at "go"
    refine ⟨by simp, fun t => ?_⟩
    walk_at "go"
    refine ⟨(t, .tuple [.ref wl, .ref a]) :: (wl, .list (ws.map U)) :: (a, .list ((R.take size).map U)) :: (L' + 2, .cell hc) :: (L' + 1, .cell nc) :: (td, .dict es) :: (lt x'' ++ o2), ?_, [true, true, true, false, false, false], _, ?_, h x'' t wl a hx''⟩
    · refine List.Perm.cons _ ?_
      show List.Perm ((a, O.list ((R.take size).map U)) :: (td, O.dict es) :: (wl, O.list (ws.map U)) :: (L' + 2, O.cell hc) :: (L' + 1, O.cell nc) :: (lt x'' ++ o2)) _
      exact (List.perm_middle (l₁ := [_, _])).trans (.cons _ (.cons _ (List.perm_middle (l₁ := [_, _])).symm))
    · exact ⟨fun _ _ q => q, rfl, fun p hp => .inr hp⟩
end
section
variable {G : Gd} {mg mb : Str → Option Value} {A : Around} {env : Env} {L L' : Addr} {σ : St} {K : Value → St → Prop} {KF : Flow → St → Prop}
/-- the path of a word -/
noncomputable def pth (one two : Nat) (w : List Nat) : List Nat := 47 :: jn [47] (w.map fun l => if l = 120 then [one] else [two])
theorem pth_sum (one two : Nat) (w : List Nat) : ((w.map fun l => if l = 120 then [one] else [two]).map List.length).sum = w.length := by
  induction w with
  | nil => rfl
  | cons a w ih => simp only [List.map_cons, List.sum_cons, ih, List.length_cons]; split <;> simp <;> omega
theorem pth_len (one two : Nat) (w : List Nat) : (pth one two w).length ≤ 2 * w.length + 1 := by
  have h := jn_len [47] (w.map fun l => if l = 120 then [one] else [two])
  rw [pth_sum] at h
  unfold pth
  simp at h ⊢; omega
theorem c_paths (Λ : Law G mg mb) {ws : Addr} {l : List (List Nat)} {one two : Nat} (hA : rm 1 A) (hl : l.length ≤ 1000) (hw : ∀ w ∈ l, w.length ≤ 10000)
    (hws : σ.has ws (.list (l.map U))) (h : ∀ a, K (.ref a) (σ.put a (.list ((l.map (pth one two)).map U)))) : Call G A L σ (.ref 259) [.ref ws, U [one], U [two]] K := by
  have ho := Λ.X 259 _ (by k_is)
  refine call_made h ?_
  refine call_defC ["words", "one", "two"] [("words", .ref ws)] (fun L' => [(L' + 2, .cell (some (U [two]))), (L' + 1, .cell (some (U [one])))]) Λ.Γ ho Λ.off rfl rfl (Λ.code ?hc) ?hcT hA.d rfl ?bind ?clo ?kind ?nd ?ms ?how ?body ?co ?gen ?k
  walk_at "enterC"
  clear ho; intro L' env
  walk_at "go"
  refine ev_comp ?_
  walk_at "go"
  refine ⟨_, itr_list hA.h (.tail _ (.tail _ (List.mem_append.mpr hws : (ws, O.list (l.map U)) ∈ σ.own ++ σ.kn))), by simp; omega, fun C => ?_⟩
  refine comp_inv (ι := List Nat) U (fun w => some (U (pth one two w))) _ l [] ?_ ?_
  · intro w hm
    have hw' := hw w hm
    walk_at "go"
    rw [if_pos rfl]
    walk_at "go"
    refine ev_comp ?_
    walk_at "go"
    refine ⟨_, itr_str hA.h, by simp; omega, fun C' => ?_⟩
    refine comp_inv (ι := Nat) (fun c => S ⟨#[c]⟩) (fun c => some (U (if c = 120 then [one] else [two]))) _ w [] ?_ ?_
    · intro c hc
      walk_at "go"
      rw [if_pos rfl]
      walk_at "go"
      by_cases h1 : c = 120
      · subst h1
        refine ift rfl ?_
        walk_at "go"
        exact ⟨by simp, [], by walk_at "le"⟩
      · refine iff' (by simp [cp_x, h1]) ?_
        walk_at "go"
        exact ⟨by simp [h1], [], by walk_at "le"⟩
    · intro D
      have e1 : ([] : List Value) ++ w.filterMap (fun c => some (U (if c = 120 then [one] else [two]))) = (w.map fun l => if l = 120 then [one] else [two]).map U := by
        rw [List.nil_append, List.map_map]; simp [List.filterMap_eq_map', Function.comp_def]
      rw [e1]
      walk_at "go"
      rw [cp_slash]
      refine call_join (by walk_at "mem") (by rw [pth_sum]; simp; omega) ?_
      have h2 := pth_len one two w
      unfold pth at h2
      refine op_add_str (by simp at h2 ⊢; omega) ?_
      exact ⟨rfl, [false], by walk_at "le"⟩
  · intro D
    have e1 : ([] : List Value) ++ l.filterMap (fun w => some (U (pth one two w))) = (l.map (pth one two)).map U := by
      rw [List.nil_append, List.map_map]; simp [List.filterMap_eq_map', Function.comp_def]
    rw [e1]
    walk_at "go"
    exact ⟨[true, false, false], D, _, rfl, rfl, rfl, rfl⟩
end
section
variable {G : Gd} {mg mb : Str → Option Value} {A : Around} {env : Env} {L L' : Addr} {σ : St} {K : Value → St → Prop} {KF : Flow → St → Prop}
structure TwB (n : Nat) (st : List (List Nat) × List (List Nat)) : Prop where
  len : st.1.length = n + 1
  wl : ∀ w ∈ st.1, w.length ≤ 2 * n ∧ ∀ c ∈ w, c = 120 ∨ c = 121
  sub : ∀ w ∈ st.2, w ∈ st.1
  rl : st.2.length ≤ n + 1
  hd : st.2.head? = st.1.getLast?
  nd : st.2.Nodup
theorem mstep_xy {w : List Nat} {m : Nat} (h : ∀ c ∈ w, c = 120 ∨ c = 121) (hm : m ∈ [47, 94, 120, 121]) : ∀ c ∈ mstep w m, c = 120 ∨ c = 121 := by
  intro c hc
  unfold mstep at hc
  split at hc
  · simp at hc
  · split at hc
    · exact h c ((List.dropLast_sublist w).subset hc)
    · rcases List.mem_append.mp hc with hc | hc
      · exact h c hc
      · simp at hm hc; omega
theorem mfold_xy : ∀ {ms w : List Nat}, (∀ c ∈ w, c = 120 ∨ c = 121) → (∀ m ∈ ms, m ∈ [47, 94, 120, 121]) → ∀ c ∈ ms.foldl mstep w, c = 120 ∨ c = 121
  | [], w, h, _ => h
  | m :: ms, w, h, hm => mfold_xy (ms := ms) (mstep_xy h (hm m (.head _))) (fun m hq => hm m (.tail _ hq))
theorem mvs_ok (n : Nat) : (mvs n).length ≤ 2 ∧ ∀ m ∈ mvs n, m ∈ [47, 94, 120, 121] := by
  match n with
  | 0 => simp [mvs]
  | 1 => simp [mvs]
  | 2 => simp [mvs]
  | 3 => simp [mvs]
  | 4 => simp [mvs]
  | 5 => simp [mvs]
  | 6 => simp [mvs]
  | k + 7 => simp [mvs]
theorem mvs_step {n : Nat} {w : List Nat} (h : ∀ c ∈ w, c = 120 ∨ c = 121) : ((mvs n).foldl mstep w).length ≤ w.length + 2 ∧ ∀ c ∈ (mvs n).foldl mstep w, c = 120 ∨ c = 121 :=
  ⟨by have := mfold_len (mvs n) w; have := (mvs_ok n).1; omega, mfold_xy h (mvs_ok n).2⟩
theorem twB_next {size n : Nat} {st : List (List Nat) × List (List Nat)} (h : TwB n st) (c : Int) : TwB (n + 1) (twStep size st c) := by
  obtain ⟨ws, R⟩ := st
  obtain ⟨hlen, hwl, hsub, hrl, hhd, hnd⟩ := h
  dsimp only at hlen hwl hsub hrl hhd hnd
  obtain ⟨p, y, rfl⟩ : ∃ p y, ws = p ++ [y] := by
    rcases List.eq_nil_or_concat ws with h0 | ⟨p, y, h0⟩
    · rw [h0] at hlen; simp at hlen
    · exact ⟨p, y, by rw [h0, List.concat_eq_append]⟩
  have hy := hwl y (by simp)
  have key : ∃ h', (h'.length ≤ 2 * (n + 1) ∧ ∀ c ∈ h', c = 120 ∨ c = 121) ∧ twStep size (p ++ [y], R) c = ((p ++ [y]) ++ [h'], h' :: R.filter (· != h')) := by
    refine ⟨_, ?_, rfl⟩
    dsimp only
    rw [List.getLastD_concat]
    split
    · have := mvs_step (n := ((c.fdiv 4).fmod 7).toNat) hy.2
      exact ⟨by omega, this.2⟩
    · have hin : ∀ f g : List Nat → Bool, ((((R.take size).filter f).filter g) ++ [y]).headD [] ∈ p ++ [y] := by
        intro f g
        have hf : ∀ w ∈ ((R.take size).filter f).filter g, w ∈ p ++ [y] := fun w hw => hsub w (List.mem_of_mem_take (List.mem_filter.mp (List.mem_filter.mp hw).1).1)
        generalize ((R.take size).filter f).filter g = fit at hf
        cases fit with
        | nil => simp
        | cons z r => exact hf z (.head _)
      have q : ∀ v, v ∈ p ++ [y] → v.length ≤ 2 * (n + 1) ∧ ∀ c ∈ v, c = 120 ∨ c = 121 := fun v hv => ⟨by have := (hwl v hv).1; omega, (hwl v hv).2⟩
      exact q _ (hin _ _)
  obtain ⟨h', hh, e⟩ := key
  rw [e]
  refine ⟨by simp at hlen ⊢; omega, ?_, ?_, ?_, by simp, ?_⟩
  · intro w hw
    rcases List.mem_append.mp hw with hw | hw
    · have := hwl w hw; exact ⟨by omega, this.2⟩
    · rw [List.mem_singleton.mp hw]; exact hh
  · intro w hw
    rcases List.mem_cons.mp hw with rfl | hw
    · simp
    · exact List.mem_append_left _ (hsub w (List.mem_filter.mp hw).1)
  · have := List.length_filter_le (· != h') R
    simp; omega
  · refine List.nodup_cons.mpr ⟨?_, hnd.sublist List.filter_sublist⟩
    intro hm
    simpa using (List.mem_filter.mp hm).2
theorem twB_fold (size : Nat) : ∀ (cs : List Int) (n : Nat) (st : List (List Nat) × List (List Nat)), TwB n st → TwB (n + cs.length) (cs.foldl (twStep size) st)
  | [], n, st, h => h
  | c :: cs, n, st, h => by
    have := twB_fold size cs (n + 1) _ (twB_next (size := size) h c)
    rw [List.foldl_cons, List.length_cons, show n + (cs.length + 1) = n + 1 + cs.length by omega]
    exact this
theorem twB_all (size : Nat) (cs : List Int) : TwB cs.length (cs.foldl (twStep size) ([[]], [[]])) := by
  have := twB_fold size cs 0 ([[]], [[]]) ⟨rfl, by simp, by simp, by simp, rfl, by simp⟩
  rwa [Nat.zero_add] at this
theorem tw_bound (size : Nat) (cs : List Int) : (cs.foldl (twStep size) ([[]], [[]])).1.length = cs.length + 1 ∧ (∀ w ∈ (cs.foldl (twStep size) ([[]], [[]])).1, w.length ≤ 2 * cs.length ∧ ∀ c ∈ w, c = 120 ∨ c = 121) ∧ (∀ w ∈ (cs.foldl (twStep size) ([[]], [[]])).2, w ∈ (cs.foldl (twStep size) ([[]], [[]])).1) ∧ (cs.foldl (twStep size) ([[]], [[]])).2.length ≤ cs.length + 1 :=
  let h := twB_all size cs
  ⟨h.len, h.wl, h.sub, h.rl⟩
theorem menu_small {c : Nat} (h : c ∈ menu) : c < 128 := by
  simp [menu] at h; omega
theorem jn_small {sep : List Nat} (hs : ∀ c ∈ sep, c < 128) : ∀ {ws : List (List Nat)}, (∀ w ∈ ws, ∀ c ∈ w, c < 128) → ∀ c ∈ jn sep ws, c < 128
  | [], _, c, hc => by simp [jn] at hc
  | [w], h, c, hc => h w (.head _) c hc
  | w :: v :: r, h, c, hc => by
    rw [jn, List.mem_append, List.mem_append] at hc
    rcases hc with (hc | hc) | hc
    · exact h w (.head _) c hc
    · exact hs c hc
    · exact jn_small hs (ws := v :: r) (fun w hw => h w (.tail _ hw)) c hc
theorem pth_small {one two : Nat} (h1 : one ∈ menu) (h2 : two ∈ menu) (w : List Nat) : ∀ c ∈ pth one two w, c < 128 := by
  intro c hc
  unfold pth at hc
  rcases List.mem_cons.mp hc with rfl | hc
  · decide
  · refine jn_small (by simp) ?_ c hc
    intro v hv
    obtain ⟨l, _, rfl⟩ := List.mem_map.mp hv
    intro c hc
    split at hc
    · rw [List.mem_singleton.mp hc]; exact menu_small h1
    · rw [List.mem_singleton.mp hc]; exact menu_small h2
theorem pth_ok {one two : Nat} (h1 : one ∈ menu) (h2 : two ∈ menu) (ws : List (List Nat)) : ∀ w ∈ ws.map (pth one two), PyData.strOk ⟨w.toArray⟩ = true := by
  intro w hw
  obtain ⟨u, _, rfl⟩ := List.mem_map.mp hw
  have := pth_small h1 h2 u
  unfold PyData.strOk
  simp only [List.all_toArray, List.all_eq_true, decide_eq_true_eq]
  intro c hc
  have := this c hc
  omega
end
section
variable {G : Gd} {mg mb : Str → Option Value} {A : Around} {env : Env} {L L' : Addr} {σ : St} {K : Value → St → Prop} {KF : Flow → St → Prop}
/-- what an item takes -/
noncomputable def okc (it : List Nat × List Nat) (c : Nat) : Bool := it.1 == cp "any" || (([c] == it.2) == (it.1 == cp "one"))
noncomputable def mt : List (List Nat × List Nat) → List Nat → Prop
  | [], p => p = []
  | it :: r, p => if it.1 = cp "star" then ∃ a b, p = a ++ b ∧ mt r b else ∃ c q, p = c :: q ∧ okc it c = true ∧ mt r q
theorem mt_fold {path : List Nat} : ∀ (its : List (List Nat × List Nat)) (spots : List Nat), (spots.length ≤ path.length + 1 ∧ ∀ s ∈ spots, s ≤ path.length) → (path.length ∈ its.foldl (tstep path) spots ↔ ∃ s ∈ spots, mt its (path.drop s))
  | [], spots, h => by
    show path.length ∈ spots ↔ ∃ s ∈ spots, path.drop s = []
    constructor
    · intro hm; exact ⟨_, hm, by simp⟩
    · rintro ⟨s, hs, e⟩
      have h1 := h.2 s hs
      have h2 : path.length ≤ s := by simpa using e
      rw [show path.length = s by omega]; exact hs
  | it :: r, spots, h => by
    rw [List.foldl_cons, mt_fold r _ (tstep_ok h)]
    by_cases hst : it.1 = cp "star"
    · have e1 : ∀ p, mt (it :: r) p ↔ ∃ a b, p = a ++ b ∧ mt r b := fun p => by rw [mt, if_pos hst]
      simp only [e1]
      unfold tstep
      rw [if_pos hst]
      by_cases h0 : spots = []
      · subst h0; simp
      · rw [if_neg h0]
        have hmm := mn_mem h0
        constructor
        · rintro ⟨s', hs', hm⟩
          obtain ⟨i, hi, rfl⟩ := List.mem_map.mp hs'
          refine ⟨_, hmm, (path.drop (mn spots)).take i, path.drop (mn spots + i), ?_, hm⟩
          rw [← List.drop_drop, List.take_append_drop]
        · rintro ⟨s, hs, a, b, e, hm⟩
          have h1 := h.2 s hs
          have h2 := mn_le hs
          have h3 := congrArg List.length e
          rw [List.length_drop, List.length_append] at h3
          refine ⟨s + a.length, List.mem_map.mpr ⟨s + a.length - mn spots, List.mem_range.mpr (by omega), by omega⟩, ?_⟩
          rw [← List.drop_drop, e, List.drop_append_of_le_length (Nat.le_refl _), List.drop_length, List.nil_append]
          exact hm
    · have e1 : ∀ p, mt (it :: r) p ↔ ∃ c q, p = c :: q ∧ okc it c = true ∧ mt r q := fun p => by rw [mt, if_neg hst]
      simp only [e1]
      unfold tstep
      rw [if_neg hst]
      constructor
      · rintro ⟨s', hs', hm⟩
        obtain ⟨s, hs, e⟩ := List.mem_filterMap.mp hs'
        obtain ⟨hs1, hs2⟩ := List.mem_filter.mp hs
        have hlt : s < path.length := by simpa using hs2
        split at e
        · rename_i hc
          cases e
          refine ⟨s, hs1, path[s], path.drop (s + 1), List.drop_eq_getElem_cons hlt, ?_, hm⟩
          rw [List.getElem?_eq_getElem hlt] at hc
          exact hc
        · cases e
      · rintro ⟨s, hs, c, q, e, hc, hm⟩
        have hlt : s < path.length := by
          apply Classical.byContradiction
          intro hn
          rw [List.drop_eq_nil_of_le (by omega)] at e
          cases e
        rw [List.drop_eq_getElem_cons hlt] at e
        obtain ⟨rfl, rfl⟩ := List.cons.inj e
        refine ⟨s + 1, List.mem_filterMap.mpr ⟨s, List.mem_filter.mpr ⟨hs, by simpa using hlt⟩, ?_⟩, hm⟩
        rw [List.getElem?_eq_getElem hlt]
        exact if_pos hc
theorem takes_mt (its : List (List Nat × List Nat)) (path : List Nat) : takes its path = true ↔ mt its path := by
  unfold takes
  rw [decide_eq_true_eq, mt_fold its [0] ⟨by simp, by simp⟩]
  simp
end
section
variable {G : Gd} {mg mb : Str → Option Value} {A : Around} {env : Env} {L L' : Addr} {σ : St} {K : Value → St → Prop} {KF : Flow → St → Prop}
/-- a letter's name -/
noncomputable def nm (one two l : Nat) : Nat := if l = 120 then one else two
noncomputable def pp (one two : Nat) (w : List Nat) : List Nat := w.flatMap fun l => [47, nm one two l]
theorem pp_cons (one two l : Nat) (w : List Nat) : pp one two (l :: w) = 47 :: nm one two l :: pp one two w := rfl
theorem pp_append (one two : Nat) (u w : List Nat) : pp one two (u ++ w) = pp one two u ++ pp one two w := by unfold pp; rw [List.flatMap_append]
theorem pp_last (one two l : Nat) (u : List Nat) : pp one two (u ++ [l]) = (pp one two u ++ [47]) ++ [nm one two l] := by
  rw [pp_append, List.append_assoc]; rfl
theorem pth_pp {one two : Nat} : ∀ {w : List Nat}, w ≠ [] → pth one two w = pp one two w
  | [], h => absurd rfl h
  | [l], _ => by
    show 47 :: (if l = 120 then [one] else [two]) = [47, nm one two l]
    unfold nm; split <;> rfl
  | l :: v :: r, _ => by
    have ih := pth_pp (one := one) (two := two) (w := v :: r) (by simp)
    rw [pp_cons, ← ih]
    show 47 :: ((if l = 120 then [one] else [two]) ++ [47] ++ jn [47] ((v :: r).map fun l => if l = 120 then [one] else [two])) = _
    unfold nm pth; split <;> rfl
theorem pth_nil (one two : Nat) : pth one two [] = [47] := rfl
structure Nm (one two : Nat) : Prop where
  h1 : one ∈ menu
  h2 : two ∈ menu
  ne : one ≠ two
theorem Nm.n1 {one two : Nat} (N : Nm one two) : one ≠ 47 := by have := N.h1; simp [menu] at this; omega
theorem Nm.n2 {one two : Nat} (N : Nm one two) : two ≠ 47 := by have := N.h2; simp [menu] at this; omega
theorem Nm.nm47 {one two : Nat} (N : Nm one two) (l : Nat) : nm one two l ≠ 47 := by unfold nm; split <;> first | exact N.n1 | exact N.n2
theorem Nm.nm1 {one two l : Nat} (N : Nm one two) : nm one two l = one ↔ l = 120 := by
  unfold nm
  split
  · simp [*]
  · have := N.ne
    constructor
    · intro e; exact absurd e.symm this
    · intro e; contradiction
theorem Nm.nm2 {one two l : Nat} (N : Nm one two) (hl : l = 120 ∨ l = 121) : nm one two l = two ↔ l = 121 := by
  unfold nm
  split
  · have := N.ne
    constructor
    · intro e; exact absurd e this
    · intro e; omega
  · simp; omega
noncomputable def its (n one two : Nat) : List (List Nat × List Nat) := (ptOf n one two).lxs.filterMap itm
theorem itm_sg (c : Nat) : itm (.tok (sg c)) = some (cp "one", [c]) := by unfold sg; split <;> rfl
theorem okc_one (c x : Nat) : okc (cp "one", [c]) x = true ↔ x = c := by
  unfold okc
  simp [cp_one, cp_any]
theorem okc_other (c x : Nat) : okc (cp "other", [c]) x = true ↔ x ≠ c := by
  unfold okc
  simp [cp_one, cp_any, cp_other]
theorem okc_any (x : Nat) : okc (cp "any", []) x = true := by simp [okc]
theorem mt_star (r : List (List Nat × List Nat)) (s p : List Nat) : mt ((cp "star", s) :: r) p ↔ ∃ a b, p = a ++ b ∧ mt r b := by rw [mt, if_pos rfl]
theorem mt_one (r : List (List Nat × List Nat)) (c : Nat) (p : List Nat) : mt ((cp "one", [c]) :: r) p ↔ ∃ q, p = c :: q ∧ mt r q := by
  rw [mt, if_neg (by simp [cp_one, cp_star])]
  simp only [okc_one]
  constructor
  · rintro ⟨c', q, e, rfl, h⟩; exact ⟨q, e, h⟩
  · rintro ⟨q, e, h⟩; exact ⟨c, q, e, rfl, h⟩
theorem mt_other (r : List (List Nat × List Nat)) (c : Nat) (p : List Nat) : mt ((cp "other", [c]) :: r) p ↔ ∃ x q, p = x :: q ∧ x ≠ c ∧ mt r q := by
  rw [mt, if_neg (by simp [cp_other, cp_star])]
  simp only [okc_other]
theorem mt_any (r : List (List Nat × List Nat)) (p : List Nat) : mt ((cp "any", []) :: r) p ↔ ∃ x q, p = x :: q ∧ mt r q := by
  rw [mt, if_neg (by simp [cp_any, cp_star])]
  simp only [okc_any]
  simp
theorem mt_nil (p : List Nat) : mt [] p ↔ p = [] := Iff.rfl
theorem mt_tail (s p : List Nat) : mt [(cp "star", s)] p := by
  rw [mt_star]; exact ⟨p, [], by simp, rfl⟩
theorem cut_m1 (u : List Nat) (l : Nat) : cut (u ++ [l]) (some (-1)) none = [l] := by
  unfold cut kms_lo kms_hi
  simp
theorem cut_m1_nil : cut ([] : List Nat) (some (-1)) none = [] := rfl
theorem last_split (w : List Nat) : w = [] ∨ ∃ u l, w = u ++ [l] := by
  rcases List.eq_nil_or_concat w with h0 | ⟨p, y, h0⟩
  · exact .inl h0
  · exact .inr ⟨p, y, by rw [h0, List.concat_eq_append]⟩
theorem its_eq (one two : Nat) : its 0 one two = [(cp "star", []), (cp "one", [one])] ∧ its 1 one two = [(cp "one", [47]), (cp "any", [])] ∧ its 2 one two = [(cp "one", [47]), (cp "one", [two]), (cp "star", [])] ∧ its 3 one two = [(cp "star", []), (cp "other", [two])] ∧
    its 4 one two = [(cp "star", []), (cp "one", [47]), (cp "one", [one]), (cp "one", [47]), (cp "star", [])] ∧ its 5 one two = [(cp "one", [47]), (cp "any", []), (cp "one", [47]), (cp "any", [])] ∧ its 6 one two = [(cp "star", []), (cp "one", [two]), (cp "star", []), (cp "one", [one])] := by
  have e1 : itm .st = some (cp "star", []) := rfl
  have e2 : itm .gs = some (cp "star", []) := rfl
  have e3 : itm .rp = none := rfl
  have e4 : ∀ c, itm (.tok (.lit c)) = some (cp "one", [c]) := fun _ => rfl
  have e5 : ∀ c, itm (.tok (.neg c)) = some (cp "other", [c]) := fun _ => rfl
  have e6 : itm (.tok .qm) = some (cp "any", []) := rfl
  refine ⟨?_, ?_, ?_, ?_, ?_, ?_, ?_⟩ <;> simp [its, ptOf, PT.lxs, List.filterMap_cons, itm_sg, e1, e2, e3, e4, e5, e6]
theorem m0 {one two : Nat} (N : Nm one two) {w : List Nat} (hw : ∀ c ∈ w, c = 120 ∨ c = 121) : mt (its 0 one two) (pth one two w) ↔ meant w 0 = true := by
  rw [(its_eq one two).1, mt_star]
  simp only [mt_one, mt_nil]
  have e0 : meant w 0 = (cut w (some (-1)) none == [120]) := rfl
  rw [e0]
  rcases last_split w with rfl | ⟨u, l, rfl⟩
  · rw [pth_nil, cut_m1_nil]
    constructor
    · rintro ⟨a, b, e, q, rfl, rfl⟩
      have := congrArg List.getLast? e
      simp at this
      exact absurd this.symm N.n1
    · intro h; simp at h
  · rw [pth_pp (by simp), pp_last, cut_m1]
    constructor
    · rintro ⟨a, b, e, q, rfl, rfl⟩
      have := (List.append_inj' e rfl).2
      simp only [List.cons.injEq, and_true] at this
      simp [N.nm1.mp this]
    · intro h
      have hl : l = 120 := by simpa using h
      exact ⟨_, _, rfl, [], by rw [N.nm1.mpr hl], rfl⟩
theorem m3 {one two : Nat} (N : Nm one two) {w : List Nat} (hw : ∀ c ∈ w, c = 120 ∨ c = 121) : mt (its 3 one two) (pth one two w) ↔ meant w 3 = true := by
  rw [(its_eq one two).2.2.2.1, mt_star]
  simp only [mt_other, mt_nil]
  have e0 : meant w 3 = (cut w (some (-1)) none != [121]) := rfl
  rw [e0]
  rcases last_split w with rfl | ⟨u, l, rfl⟩
  · rw [pth_nil, cut_m1_nil]
    exact ⟨fun _ => rfl, fun _ => ⟨[], [47], rfl, 47, [], rfl, N.n2.symm, rfl⟩⟩
  · rw [pth_pp (by simp), pp_last, cut_m1]
    have hl := hw l (by simp)
    constructor
    · rintro ⟨a, b, e, x, q, rfl, hx, rfl⟩
      have := (List.append_inj' e rfl).2
      simp only [List.cons.injEq, and_true] at this
      simp
      intro h
      exact hx (by rw [← this]; exact (N.nm2 hl).mpr h)
    · intro h
      have hl' : l ≠ 121 := by simpa using h
      exact ⟨_, _, rfl, _, [], rfl, fun q => hl' ((N.nm2 hl).mp q), rfl⟩
theorem m1 {one two : Nat} (N : Nm one two) {w : List Nat} : mt (its 1 one two) (pth one two w) ↔ meant w 1 = true := by
  rw [(its_eq one two).2.1]
  simp only [mt_one, mt_any, mt_nil]
  have e0 : meant w 1 = ((w.length : Int) == 1) := rfl
  rw [e0]
  rcases w with _ | ⟨l, _ | ⟨v, r⟩⟩
  · rw [pth_nil]; simp
  · rw [pth_pp (by simp)]; simp [pp]
  · rw [pth_pp (by simp)]; simp [pp]; omega
theorem m5 {one two : Nat} (N : Nm one two) {w : List Nat} : mt (its 5 one two) (pth one two w) ↔ meant w 5 = true := by
  rw [(its_eq one two).2.2.2.2.2.1]
  simp only [mt_one, mt_any, mt_nil]
  have e0 : meant w 5 = ((w.length : Int) == 2) := rfl
  rw [e0]
  rcases w with _ | ⟨l, _ | ⟨v, _ | ⟨x, r⟩⟩⟩
  · rw [pth_nil]; simp
  · rw [pth_pp (by simp)]; simp [pp]
  · rw [pth_pp (by simp)]; simp [pp]
    exact ⟨_, _, ⟨rfl, rfl⟩, _, rfl, _, rfl⟩
  · rw [pth_pp (by simp)]
    constructor
    · rintro ⟨q, e, x, q2, rfl, q3, rfl, y, q4, rfl, rfl⟩
      have h := congrArg List.length e
      simp [pp_cons] at h
    · intro h; simp at h; omega
theorem m2 {one two : Nat} (N : Nm one two) {w : List Nat} (hw : ∀ c ∈ w, c = 120 ∨ c = 121) : mt (its 2 one two) (pth one two w) ↔ meant w 2 = true := by
  rw [(its_eq one two).2.2.1]
  simp only [mt_one]
  have e0 : meant w 2 = (cut w none (some 1) == [121]) := rfl
  rw [e0, show cut w none (some 1) = w.take 1 from cut_take w 1]
  rcases w with _ | ⟨l, r⟩
  · rw [pth_nil]; simp
  · rw [pth_pp (by simp), pp_cons]
    have hl := hw l (by simp)
    constructor
    · rintro ⟨q, e, q2, e2, _⟩
      simp only [List.cons.injEq, true_and] at e
      rw [← e] at e2
      simp only [List.cons.injEq] at e2
      simp [(N.nm2 hl).mp e2.1]
    · intro h
      have hl' : l = 121 := by simpa using h
      exact ⟨_, rfl, pp one two r, by rw [(N.nm2 hl).mpr hl'], mt_tail _ _⟩
end
section
variable {G : Gd} {mg mb : Str → Option Value} {A : Around} {env : Env} {L L' : Addr} {σ : St} {K : Value → St → Prop} {KF : Flow → St → Prop}
theorem pp_inner {one two : Nat} (N : Nm one two) : ∀ w : List Nat, (∃ a q, pp one two w = a ++ 47 :: one :: 47 :: q) ↔ 120 ∈ w.dropLast
  | [] => by
    constructor
    · rintro ⟨a, q, e⟩
      have := congrArg List.length e
      simp [pp] at this
    · intro h; simp at h
  | [l] => by
    constructor
    · rintro ⟨a, q, e⟩
      have := congrArg List.length e
      simp [pp] at this
      omega
    · intro h; simp at h
  | l :: v :: r => by
    have ih := pp_inner N (v :: r)
    rw [List.dropLast_cons₂, pp_cons, List.mem_cons, ← ih]
    constructor
    · rintro ⟨a, q, e⟩
      match a, e with
      | [], e =>
        simp only [List.nil_append, List.cons.injEq, true_and] at e
        exact .inl (N.nm1.mp e.1).symm
      | [x], e =>
        simp only [List.cons_append, List.nil_append, List.cons.injEq] at e
        exact absurd e.2.1 (N.nm47 l)
      | x :: y :: a', e =>
        simp only [List.cons_append, List.cons.injEq] at e
        exact .inr ⟨a', q, e.2.2⟩
    · rintro (h | ⟨a, q, e⟩)
      · exact ⟨[], nm one two v :: pp one two r, by rw [N.nm1.mpr h.symm]; rfl⟩
      · exact ⟨47 :: nm one two l :: a, q, by rw [e]; rfl⟩
theorem m4 {one two : Nat} (N : Nm one two) {w : List Nat} : mt (its 4 one two) (pth one two w) ↔ meant w 4 = true := by
  rw [(its_eq one two).2.2.2.2.1, mt_star]
  simp only [mt_one]
  have e0 : meant w 4 = decide (120 ∈ cut w none (some (-1))) := rfl
  rw [e0, cut_dropLast, decide_eq_true_eq]
  by_cases hw : w = []
  · subst hw
    rw [pth_nil]
    constructor
    · rintro ⟨a, b, e, q, rfl, q2, rfl, q3, rfl, _⟩
      have := congrArg List.length e
      simp at this
      omega
    · intro h; simp at h
  · rw [pth_pp hw, ← pp_inner N w]
    constructor
    · rintro ⟨a, b, e, q, rfl, q2, rfl, q3, rfl, _⟩
      exact ⟨a, q3, e⟩
    · rintro ⟨a, q, e⟩
      exact ⟨a, _, e, _, rfl, _, rfl, _, rfl, mt_tail _ _⟩
theorem mem_pp {one two : Nat} (N : Nm one two) {u : List Nat} (hu : ∀ c ∈ u, c = 120 ∨ c = 121) : two ∈ pp one two u ↔ 121 ∈ u := by
  unfold pp
  rw [List.mem_flatMap]
  constructor
  · rintro ⟨l, hl, hm⟩
    simp only [List.mem_cons, List.not_mem_nil, or_false] at hm
    rcases hm with h | h
    · exact absurd h N.n2
    · rw [← (N.nm2 (hu l hl)).mp h.symm]; exact hl
  · intro h
    exact ⟨121, h, by rw [(N.nm2 (.inr rfl)).mpr rfl]; simp⟩
theorem m6 {one two : Nat} (N : Nm one two) {w : List Nat} (hw : ∀ c ∈ w, c = 120 ∨ c = 121) : mt (its 6 one two) (pth one two w) ↔ meant w 6 = true := by
  rw [(its_eq one two).2.2.2.2.2.2, mt_star]
  simp only [mt_one, mt_star, mt_nil]
  have e0 : meant w 6 = ((cut w (some (-1)) none == [120]) && decide (121 ∈ w)) := rfl
  rw [e0]
  rcases last_split w with rfl | ⟨u, l, rfl⟩
  · rw [pth_nil]
    constructor
    · rintro ⟨a, b, e, q, rfl, a2, b2, rfl, q3, rfl, rfl⟩
      have := congrArg List.length e
      simp at this
      omega
    · intro h; simp at h
  · rw [pth_pp (by simp), pp_last, cut_m1]
    have hu : ∀ c ∈ u, c = 120 ∨ c = 121 := fun c hc => hw c (by simp [hc])
    constructor
    · rintro ⟨a, b, e, q, rfl, a2, b2, rfl, q3, rfl, rfl⟩
      have e' : (pp one two u ++ [47]) ++ [nm one two l] = (a ++ two :: a2) ++ [one] := by rw [e]; simp
      obtain ⟨e1, e2⟩ := List.append_inj' e' rfl
      simp only [List.cons.injEq, and_true] at e2
      have hm : two ∈ pp one two u ++ [47] := by rw [e1]; simp
      have hm' : two ∈ pp one two u := by
        rcases List.mem_append.mp hm with h | h
        · exact h
        · exact absurd (List.mem_singleton.mp h) N.n2
      simp [N.nm1.mp e2, (mem_pp N hu).mp hm']
    · intro h
      simp at h
      obtain ⟨rfl, h⟩ := h
      have h' : 121 ∈ u := by
        rcases h with h | h
        · exact h
        · exact absurd h (by decide)
      obtain ⟨s, t, est⟩ := List.append_of_mem ((mem_pp N hu).mpr h')
      refine ⟨s, two :: (t ++ [47] ++ [one]), ?_, _, rfl, t ++ [47], [one], rfl, [], rfl, rfl⟩
      rw [est, N.nm1.mpr rfl]; simp
theorem meant_takes {one two : Nat} (N : Nm one two) {w : List Nat} (hw : ∀ c ∈ w, c = 120 ∨ c = 121) {n : Nat} (hn : n < 7) : takes (its n one two) (pth one two w) = meant w n := by
  rw [Bool.eq_iff_iff, takes_mt]
  refine lt7 hn ?_ ?_ ?_ ?_ ?_ ?_ ?_
  · exact m0 N hw
  · exact m1 N
  · exact m2 N hw
  · exact m3 N hw
  · exact m4 N
  · exact m5 N
  · exact m6 N hw
end
section
variable {G : Gd} {mg mb : Str → Option Value} {A : Around} {env : Env} {L L' : Addr} {σ : St} {K : Value → St → Prop} {KF : Flow → St → Prop}
noncomputable def cw (one two : Nat) (w : List Nat) : List (List Nat) := w.map fun l => [nm one two l]
theorem pth_cw (one two : Nat) (w : List Nat) : pth one two w = 47 :: jn [47] (cw one two w) := by
  unfold pth cw
  congr 2
  apply List.map_congr_left
  intro l _
  unfold nm; split <;> rfl
theorem Nm.nm46 {one two : Nat} (N : Nm one two) (l : Nat) : nm one two l ≠ 46 := by
  have h1 := N.h1; have h2 := N.h2
  simp [menu] at h1 h2
  unfold nm; split <;> omega
noncomputable def good (c : List Nat) : Prop := c ≠ [] ∧ c ≠ [46] ∧ c ≠ [46, 46] ∧ 47 ∉ c
theorem good_nm {one two : Nat} (N : Nm one two) (l : Nat) : good [nm one two l] := ⟨by simp, by simp; exact N.nm46 l, by simp, by simp; exact (N.nm47 l).symm⟩
theorem good_cw {one two : Nat} (N : Nm one two) (w : List Nat) : ∀ c ∈ cw one two w, good c := by
  intro c hc
  obtain ⟨l, _, rfl⟩ := List.mem_map.mp hc
  exact good_nm N l
theorem nstep_good {acc : List (List Nat)} {c : List Nat} (h : good c) : nstep acc c = acc ++ [c] := by
  unfold nstep
  rw [if_neg (fun e => e.elim h.1 h.2.1), if_pos (.inl h.2.2.1)]
theorem nfold_good : ∀ (ws acc : List (List Nat)), (∀ c ∈ ws, good c) → ws.foldl nstep acc = acc ++ ws
  | [], acc, _ => by simp
  | c :: ws, acc, h => by
    rw [List.foldl_cons, nstep_good (h c (.head _)), nfold_good ws _ fun c hc => h c (.tail _ hc)]
    simp
theorem spl_cat (w r : List Nat) (h : 47 ∉ w) : spl 47 (w ++ 47 :: r) = w :: spl 47 r := by
  induction w with
  | nil => simp [spl]
  | cons d w ih =>
    have h1 : d ≠ 47 := fun e => h (e ▸ .head _)
    rw [List.cons_append, spl, if_neg h1, ih fun hm => h (.tail _ hm)]
theorem spl_jnc : ∀ (ws : List (List Nat)) (t : List Nat), ws ≠ [] → (∀ c ∈ ws, 47 ∉ c) → spl 47 (jn [47] ws ++ 47 :: t) = ws ++ spl 47 t
  | [], _, h, _ => absurd rfl h
  | [w], t, _, h => by rw [jn, spl_cat w t (h w (.head _))]; rfl
  | w :: v :: r, t, _, h => by
    rw [jn, List.append_assoc, List.append_assoc, List.singleton_append, spl_cat w _ (h w (.head _)), spl_jnc (v :: r) t (by simp) fun c hc => h c (.tail _ hc)]
    rfl
theorem dots {one two : Nat} (N : Nm one two) (w : List Nat) : nstep (cw one two w) [46, 46] = cw one two w.dropLast := by
  unfold nstep
  rw [if_neg (by simp), if_neg]
  · unfold cw; rw [List.map_dropLast]
  · rintro (h | h)
    · exact h rfl
    · have := (good_cw N w _ (List.mem_of_getLast? h)).2.2.1
      exact this rfl
theorem dot (acc : List (List Nat)) : nstep acc [46] = acc := by simp [nstep]
theorem nought (acc : List (List Nat)) : nstep acc [] = acc := by simp [nstep]
theorem cw_snoc (one two l : Nat) (w : List Nat) : cw one two w ++ [[nm one two l]] = cw one two (w ++ [l]) := by simp [cw]
theorem told_steps {one two : Nat} (N : Nm one two) {n : Nat} (hn : n < 6) (y : List Nat) : (spl 47 (stepOf n one two)).foldl nstep (cw one two y) = cw one two ((mvs n).foldl mstep y) := by
  have o1 : [one] = [nm one two 120] := rfl
  have o2 : [two] = [nm one two 121] := rfl
  have g1 := good_nm N 120
  have g2 := good_nm N 121
  have n1 := N.n1
  have n2 := N.n2
  refine lt6 hn ?_ ?_ ?_ ?_ ?_ ?_
  · rw [show spl 47 (stepOf 0 one two) = [[46, 46]] from rfl]
    simp only [List.foldl_cons, List.foldl_nil, mvs, List.getElem?_cons_zero, Option.getD_some]
    rw [dots N]; rfl
  · rw [show spl 47 (stepOf 1 one two) = [[one]] by simp [stepOf, spl, n1]]
    show nstep (cw one two y) [one] = cw one two (y ++ [120])
    rw [o1, nstep_good g1, cw_snoc]
  · rw [show spl 47 (stepOf 2 one two) = [[two]] by simp [stepOf, spl, n2]]
    show nstep (cw one two y) [two] = cw one two (y ++ [121])
    rw [o2, nstep_good g2, cw_snoc]
  · rw [show spl 47 (stepOf 3 one two) = [[46], [two]] by simp [stepOf, spl, n2]]
    show nstep (nstep (cw one two y) [46]) [two] = cw one two (y ++ [121])
    rw [dot, o2, nstep_good g2, cw_snoc]
  · rw [show spl 47 (stepOf 4 one two) = [[46, 46], [one]] by simp [stepOf, spl, n1]]
    show nstep (nstep (cw one two y) [46, 46]) [one] = cw one two (y.dropLast ++ [120])
    rw [dots N, o1, nstep_good g1, cw_snoc]
  · rw [show spl 47 (stepOf 5 one two) = [[one], [], [two]] by simp [stepOf, spl, n1, n2]]
    show nstep (nstep (nstep (cw one two y) [one]) []) [two] = cw one two (y ++ [120] ++ [121])
    rw [o1, nstep_good g1, nought, o2, nstep_good g2, cw_snoc, cw_snoc]
theorem told_head {one two : Nat} (N : Nm one two) {n : Nat} (hn : n < 6) : ∃ c t, stepOf n one two = c :: t ∧ c ≠ 47 ∧ t.length ≤ 4 := by
  refine lt6 hn ?_ ?_ ?_ ?_ ?_ ?_
  · exact ⟨_, _, rfl, by decide, by simp⟩
  · exact ⟨_, _, rfl, N.n1, by simp⟩
  · exact ⟨_, _, rfl, N.n2, by simp⟩
  · exact ⟨_, _, rfl, by decide, by simp⟩
  · exact ⟨_, _, rfl, by decide, by simp⟩
  · exact ⟨_, _, rfl, N.n1, by simp⟩
theorem step_ok {one two : Nat} (N : Nm one two) {y : List Nat} {n : Nat} (hn : n < 7) (hl : y.length ≤ 100) : ∃ r, joined (pth one two y) (stepOf n one two) = 47 :: r ∧ r.length ≤ 50000 ∧ r.head? ≠ some 47 ∧ 47 :: jn [47] ((spl 47 r).foldl nstep []) = pth one two ((mvs n).foldl mstep y) := by
  by_cases h6 : n = 6
  · subst h6
    refine ⟨[one], by simp [joined, stepOf, sw], by simp, by simpa using N.n1, ?_⟩
    rw [show spl 47 [one] = [[one]] by simp [spl, N.n1]]
    show 47 :: jn [47] (nstep [] [one]) = pth one two [120]
    rw [show [one] = [nm one two 120] from rfl, nstep_good (good_nm N 120), pth_cw]
    rfl
  · have hn6 : n < 6 := by omega
    obtain ⟨c, t, et, hc, htl⟩ := told_head N hn6
    have hs := told_steps N hn6 y
    rw [et] at hs ⊢
    have hsw : sw (c :: t) [47] = false := by simp [sw]; exact hc
    rw [pth_cw one two ((mvs n).foldl mstep y), ← hs]
    rcases last_split y with rfl | ⟨u, l, rfl⟩
    · refine ⟨c :: t, ?_, by simp; omega, by simpa using hc, rfl⟩
      rw [pth_nil]
      simp [joined, hsw, ew]
    · have hew : ew (pth one two (u ++ [l])) [47] = false := by
        rw [pth_pp (by simp), pp_last]
        simp [ew]
        exact N.nm47 l
      have hjl : (jn [47] (cw one two (u ++ [l]))).length ≤ 300 := by
        have h1 := pth_len one two (u ++ [l])
        rw [pth_cw] at h1
        simp at h1 hl ⊢; omega
      refine ⟨jn [47] (cw one two (u ++ [l])) ++ 47 :: (c :: t), ?_, by simp; omega, ?_, ?_⟩
      · unfold joined
        rw [hsw, hew, pth_cw]; simp
      · cases u with
        | nil => simp [cw, jn]; exact N.nm47 l
        | cons a u =>
          have : ∃ z, jn [47] (cw one two (a :: u ++ [l])) = nm one two a :: z := by
            cases u with
            | nil => exact ⟨_, rfl⟩
            | cons b u => exact ⟨_, rfl⟩
          obtain ⟨z, ez⟩ := this
          rw [ez]; simp; exact N.nm47 a
      · rw [spl_jnc _ _ (by simp [cw]) (fun c hc => (good_cw N _ c hc).2.2.2), List.foldl_append, nfold_good _ [] (good_cw N _), List.nil_append]
end
/-- what holds at the top, with no frame of the caller's -/
structure Sat0 (G : Gd) (o k : List (Addr × O)) (s : Shared) : Prop where
  base : ∀ b ob, G.h₀.get? b = some ob → s.heap.get? b = some ob
  own : ∀ p ∈ o, Holds (G.prog, G.w) s.heap p.1 p.2 ∧ G.h₀.get? p.1 = none
  kn : ∀ p ∈ k, Holds (G.prog, G.w) s.heap p.1 p.2 ∧ p.1 ∉ o.map (·.1)
  nd : (o.map (·.1)).Nodup
section
variable {G : Gd} {A : Around} {mg mb : Str → Option Value} {K : Value → St → Prop}
theorem top_defCO {s : Shared} (hTb : G.Tb = []) (o1 : List (Addr × O)) {k : List (Addr × O)} (q : Sat0 G o1 k s) {f : Addr} {fo : Obj} {fd : FuncData} {body : List Stmt} {as : List Value} (names : List Str) (ms : List (Str × Value)) (ow : Addr → List (Addr × O)) (Γ : Gnd G mg mb) (ho : G.h₀.get? f = some fo) (hd : fo.data = .func fd) (hbody : fd.body = .stmts body) (hcd : G.h₀.CodeRec fd.code fd.qualname)
    (hroom : A.depth < recursionLimit) (hn : names.length = as.length) (hb : ∀ vs : List Value, vs.length = names.length → bindArgs fd ⟨vs, []⟩ = pure (names.zip vs)) (hclo : fd.closure = [])
    (hkind : ∀ n, ∀ x ∈ names, fd.scope.names.lookup x = some .local ∨ (fd.scope.names.lookup x = some .cell ∧ ((cellsFrom n fd.scope.names []).lookup x).isSome = true))
    (hnd : ∀ n, ((cellsFrom n fd.scope.names []).map (·.1)).Nodup)
    (hms : msL (fun n => fd.scope.names.lookup n) (names.zip as) [] = ms)
    (how : ∀ L', (cellsFrom (L' + 1) fd.scope.names []).map (fun x => (x.2, O.cell (bindC (fun n => fd.scope.names.lookup n) (names.zip as) (fun _ => none) x.1))) = ow L')
    (h : ∀ L', let env := callEnvC fd L' f; Ex G (A.deeper env) env ⟨ms, ow L' ++ o1, k⟩ body fun fl σ' => K (retv fl) σ')
    (hco : fd.scope.isCoroutine = false) (hgen : fd.scope.isGenerator = false) (hk : fd.scope.kind = .function) (vs : List Value) (hvs : vs.map nv = as) :
    wpAny (model G.prog G.w) A (call (.ref f) vs) (fun v s' => ∃ σ' L, K (nv v) σ' ∧ Sat G L σ' s' ∧ (∃ h g t, s' = { s with heap := h, gens := g, toks := t }) ∧ (AllBare s.gens → AllBare s'.gens) ∧ ∀ b ob, s.heap.get? b = some ob → b ∉ o1.map (·.1) → s'.heap.get? b = some ob) (fun _ _ => False) s := by
  have ho' : s.heap.get? f = some fo := q.base _ _ ho
  have hcd' : s.heap.CodeRec fd.code fd.qualname := by
    obtain ⟨c, o, us, t, e, g, r⟩ := hcd
    exact ⟨c, o, us, t, e, q.base _ _ g, r⟩
  refine wpAny_call (codeAny_call_function hroom ho' hd hco hgen hbody hcd' ?_)
  have hlen : vs.length = names.length := by rw [hn, ← hvs, List.length_map]
  rw [hb vs hlen, hclo]
  refine wpAny_pure (wpAny_newFunctionEnv_cells hk (fun x hx => hkind _ _ (List.of_mem_zip hx).1) fun env he s₁ x => ?_)
  subst he
  have noL : s.heap.NoLimit := let ⟨mc, a, b⟩ := Γ.nolimit; ⟨mc, a.at' fun o e => q.base _ _ e, b⟩
  refine ⟨noL.keeps x.toInCall.keep, codeAny_func ?_⟩
  have hLn := fresh_size s.heap
  obtain ⟨h₁, tk, rfl, up⟩ := x.done
  have hns₁ := x.toInCall.ns
  have hzip : nb (names.zip vs) = names.zip as := by rw [nb_zip, hvs]
  have noT : ∀ {a}, a ∉ G.Tb := fun {a} => by rw [hTb]; simp
  have not_h₀ : ∀ {a}, s.heap.get? a = none → G.h₀.get? a = none := fun {a} e => by
    cases e' : G.h₀.get? a with
    | none => rfl
    | some o => rw [q.base _ _ e'] at e; cases e
  have hcellsIn : ∀ p ∈ ow s.heap.objs.size, Holds (G.prog, G.w) h₁ p.1 p.2 ∧ s.heap.objs.size < p.1 := fun p hp => by
    rw [← how] at hp
    obtain ⟨y, hy, rfl⟩ := List.mem_map.mp hp
    have hl : (cellsFrom (s.heap.objs.size + 1) fd.scope.names []).lookup y.1 = some y.2 := lookup_of_mem_nodup (hnd _) hy
    refine ⟨⟨_, x.cell y.1 y.2 hl, ?_⟩, x.above y.1 y.2 hy⟩
    rw [← hzip]
    exact bindC_nb _ _ _ _
  have hnone : ∀ {a : Addr}, s.heap.objs.size < a → s.heap.get? a = none := fun {a} ha => by
    cases e : s.heap.get? a with
    | none => rfl
    | some o => exact absurd (Heap.lt_size e) (Nat.not_lt.mpr (Nat.le_of_lt ha))
  have hapart : ((ow s.heap.objs.size).map (·.1)).Nodup := by
    rw [← how, List.map_map]
    have := x.apart
    show List.Pairwise _ _
    rw [List.pairwise_map]
    exact this
  have liveO : ∀ p, (p ∈ o1 ∨ p ∈ k) → ∃ ob, s.heap.get? p.1 = some ob := fun p hp => by
    rcases hp with hp | hp
    · exact (q.own p hp).1.live
    · exact (q.kn p hp).1.live
  have apO : ∀ p, (p ∈ o1 ∨ p ∈ k) → p.1 ∉ (ow s.heap.objs.size).map (·.1) := fun p hp hm => by
    obtain ⟨r, hr, e⟩ := List.mem_map.mp hm
    have hr' := hnone (hcellsIn r hr).2
    obtain ⟨ob, e'⟩ := liveO p hp
    rw [← e, hr'] at e'; cases e'
  have ne_L : ∀ {a : Addr} {o : O}, Holds (G.prog, G.w) s.heap a o → a ≠ s.heap.objs.size := fun hh e => by
    obtain ⟨ob, e'⟩ := hh.live
    rw [e, hLn] at e'; cases e'
  have xin : Sat G s.heap.objs.size ⟨ms, ow s.heap.objs.size ++ o1, k⟩ { s with heap := h₁, toks := tk } := by
    refine ⟨fun b o e _ => up _ _ (q.base _ _ e), fun P hP => absurd hP noT, ⟨_, hns₁, fun x d e => ?_⟩, not_h₀ hLn, fun p hp => ?_, fun p hp => ?_, ?_⟩
    · rw [← hms, ← hzip] at e
      exact msL_ok _ _ _ _ (fun x d e => by simp at e) x d e
    · rcases List.mem_append.mp hp with hp | hp
      · obtain ⟨a, b⟩ := hcellsIn p hp
        exact ⟨a, Nat.ne_of_gt b, not_h₀ (hnone b)⟩
      · exact ⟨(q.own p hp).1.at fun ob e => up _ _ e, ne_L (q.own p hp).1, (q.own p hp).2⟩
    · refine ⟨(q.kn p hp).1.at fun ob e => up _ _ e, ne_L (q.kn p hp).1, noT, fun hm => ?_⟩
      rw [List.map_append] at hm
      rcases List.mem_append.mp hm with hm | hm
      · exact apO p (.inr hp) hm
      · exact (q.kn p hp).2 hm
    · rw [List.map_append]
      refine List.nodup_append.mpr ⟨hapart, q.nd, fun a ha b hb e => ?_⟩
      subst e
      obtain ⟨p, hp, rfl⟩ := List.mem_map.mp hb
      exact apO p (.inl hp) ha
  refine wpAny_mono (h s.heap.objs.size _ xin) (fun fl s' hz => ?_) fun _ _ e => e.elim
  obtain ⟨σ', x', y', k'⟩ := hz
  have same : ∃ h g t, s' = { s with heap := h, gens := g, toks := t } := by
    obtain ⟨h, g, t, e⟩ := y'.same
    exact ⟨h, g, t, e⟩
  have keep : ∀ b ob, s.heap.get? b = some ob → b ∉ o1.map (·.1) → s'.heap.get? b = some ob := fun b ob e hb => by
    refine y'.keep b ob (up _ _ e) (fun q' => by rw [show b = s.heap.objs.size from q', hLn] at e; cases e) (fun hm => ?_) noT
    rw [List.map_append] at hm
    rcases List.mem_append.mp hm with hm | hm
    · obtain ⟨r, hr, e'⟩ := List.mem_map.mp hm
      rw [← e', hnone (hcellsIn r hr).2] at e; cases e
    · exact hb hm
  cases fl <;> exact ⟨σ', _, k', x', same, y'.bare, keep⟩
end
section
variable {G : Gd} {mg mb : Str → Option Value} {A : Around} {env : Env} {L L' : Addr} {σ : St} {K : Value → St → Prop} {KF : Flow → St → Prop}
theorem comp_invP {KL : List Value → St → Prop} {ι : Type} (val : ι → Value) (inv : List ι → List Value → St → Prop) (xs : List ι) {t elt : Expr} (h0 : inv [] [] σ)
    (hb : ∀ done x rest acc σ, xs = done ++ x :: rest → inv done acc σ → Asg G A env σ t (val x) fun σ₁ => Ev G A env σ₁ elt fun y σ₂ => ∃ bs τ, Le bs τ σ₂ ∧ inv (done ++ [x]) (acc ++ [y]) τ)
    (hk : ∀ acc σ, inv xs acc σ → KL acc σ) : CompT G A env t [] elt (xs.map val) [] σ KL := by
  have main : ∀ (rest done : List ι) (acc : List Value) (σ : St), xs = done ++ rest → inv done acc σ → CompT G A env t [] elt (rest.map val) acc σ KL := by
    intro rest
    induction rest with
    | nil =>
      intro done acc σ e hi
      rw [List.append_nil] at e
      subst e
      exact hk acc σ hi
    | cons x rest ih =>
      intro done acc σ e hi
      have h1 := hb done x rest acc σ e hi
      show Asg G A env σ t (val x) fun σ₁ => Tsts G A env σ₁ [] _
      intro v hv
      refine (h1 v hv).mono fun _ σ₁ k => ?_
      refine tsts_nil ?_
      rw [if_pos rfl]
      refine ev_less (T.mono k fun y σ₂ ⟨bs, τ, le, hi'⟩ => ⟨bs, τ, le, ?_⟩)
      exact ih (done ++ [x]) _ τ (by rw [e, List.append_assoc]; rfl) hi'
  exact main xs [] [] σ rfl h0
noncomputable def cellsOf (script : List Int) : List Int :=
  let d := (script.take 6).map fun c => c.fmod 1000000
  d ++ ([4, 20, 24, 8, 19] : List Int).drop d.length
noncomputable def pickOf (cells : List Int) : Int := (cells.map fun c => c.fdiv 28).sum
noncomputable def oneOf (p : Int) : Nat := menu[(p.fmod 8).toNat]?.getD 0
noncomputable def twoOf (p : Int) : Nat := menu[((p + 1 + (p.fdiv 8).fmod 7).fmod 8).toNat]?.getD 0
noncomputable def JJ (size one two : Nat) (cells : List Int) (dn : List Dd) (V B : List (List Nat)) : Prop :=
  ∃ cs rs, cells = cs ++ rs ∧ dn = cs.map (deedOf one two) ∧ V = ((cs.foldl (twStep size) ([[]], [[]])).1).map (pth one two) ∧ B = (((cs.foldl (twStep size) ([[]], [[]])).2).take size).map (pth one two)
theorem ex_cutP {st : Stmt} {r : List Stmt} (P : St → Prop) (h1 : Ex1 G A env σ st fun f σ' => f = .next ∧ ∃ bs τ, Le bs τ σ' ∧ ∃ o', τ.own.Perm o' ∧ P ⟨τ.m, o', τ.kn⟩) (h2 : ∀ τ, P τ → Ex G A env τ r KF) : Ex G A env σ (st :: r) KF :=
  ex_cut (fun τ => ∃ o', τ.own.Perm o' ∧ P ⟨τ.m, o', τ.kn⟩) h1 (fun τ ⟨o', hp, p⟩ => ex_perm hp (h2 _ p))
theorem perm_deeds {α : Type} {d c t n : α} {T o X F : List α} (hp : o.Perm F) : (d :: ((T ++ o) ++ (c :: t :: n :: X))).Perm (n :: t :: (X ++ (T ++ (c :: d :: F)))) := by
  classical
  rw [List.perm_iff_count]
  intro a
  have := hp.count_eq a
  simp only [List.count_append, List.count_cons, List.count_nil, this]
  omega
theorem cut_cells {dw : List Int} (h : dw.length ≤ 6) : cut [I 4, I 20, I 24, I 8, I 19] (some (((dw.map I).length : Nat) : Int)) none = (([4, 20, 24, 8, 19] : List Int).drop dw.length).map I := by
  rw [List.length_map]
  generalize dw.length = n at h
  refine lt7 (by omega : n < 7) ?_ ?_ ?_ ?_ ?_ ?_ ?_
  · rfl
  · rfl
  · rfl
  · rfl
  · rfl
  · rfl
  · rfl
theorem cells_eq {dw : List Int} (h : dw.length ≤ 6) : dw.map I ++ cut [I 4, I 20, I 24, I 8, I 19] (some (((dw.map I).length : Nat) : Int)) none = (dw ++ ([4, 20, 24, 8, 19] : List Int).drop dw.length).map I := by
  rw [cut_cells h, List.map_append]
theorem cp_menu : cp "*[?]-!^a" = menu := rfl
theorem menu_get {i : Int} (h0 : 0 ≤ i) (h8 : i < 8) : (cp "*[?]-!^a")[i.toNat]? = some (menu[i.toNat]?.getD 0) := by
  obtain ⟨n, rfl⟩ := Int.eq_ofNat_of_zero_le h0
  rw [Int.toNat_natCast, cp_menu]
  have hn : n < 8 := by omega
  refine lt8 hn ?_ ?_ ?_ ?_ ?_ ?_ ?_ ?_
  · rfl
  · rfl
  · rfl
  · rfl
  · rfl
  · rfl
  · rfl
  · rfl
theorem JJ_end {size one two : Nat} {cells : List Int} {V B : List (List Nat)} (h : JJ size one two cells (cells.map (deedOf one two)) V B) : V = ((cells.foldl (twStep size) ([[]], [[]])).1).map (pth one two) ∧ B = (((cells.foldl (twStep size) ([[]], [[]])).2).take size).map (pth one two) := by
  obtain ⟨cs, rs, ec, ed, eV, eB⟩ := h
  have h1 := congrArg List.length ed
  have h2 := congrArg List.length ec
  rw [List.length_map, List.length_map] at h1
  rw [List.length_append] at h2
  have : rs = [] := List.eq_nil_of_length_eq_zero (by omega)
  subst this
  rw [List.append_nil] at ec
  subst ec
  exact ⟨eV, eB⟩
theorem c_law_top (Λ : Law G mg mb) {sa : Addr} {script : List Int} {x : Option (Addr × Obj)} {y : TS} {k : List (Addr × O)} {s : Shared} (q : Sat0 G (lt x ++ tt y) k s) (hA : rm 9 A) (hx : ltOk x) (hy : ttOk y) (hs : (sa, O.list (script.map I)) ∈ k) (hl : script.length ≤ 63)
    (hJ : ∀ size : Nat, size ∈ [2, 3, 9] → ∀ one two, one = oneOf (pickOf (cellsOf script)) → two = twoOf (pickOf (cellsOf script)) → Jr size ((cellsOf script).map (deedOf one two)) (JJ size one two (cellsOf script))) :
    wpAny (model G.prog G.w) A (call (.ref 264) [.ref sa]) (fun v s' => ∃ σ' L, (nv v = .bool true ∧ ∃ c1 c2 x' y' R, σ'.own = c1 :: c2 :: (lt x' ++ (tt y' ++ R))) ∧ Sat G L σ' s' ∧ (∃ h g t, s' = { s with heap := h, gens := g, toks := t }) ∧ (AllBare s.gens → AllBare s'.gens) ∧ ∀ b ob, s.heap.get? b = some ob → b ∉ (lt x ++ tt y).map (·.1) → s'.heap.get? b = some ob) (fun _ _ => False) s := by
  have ho := Λ.X 264 _ (by k_is)
  refine top_defCO (K := fun v σ' => v = .bool true ∧ ∃ c1 c2 x' y' R, σ'.own = c1 :: c2 :: (lt x' ++ (tt y' ++ R))) Λ.tb (lt x ++ tt y) q ["script"] [("script", .ref sa)] (fun L' => [(L' + 2, .cell none), (L' + 1, .cell none)]) Λ.Γ ho rfl rfl (Λ.code ?hc) hA.d rfl ?bind ?clo ?kind ?nd ?ms ?how ?body ?co ?gen ?k _ rfl
  case hc => kernel_rfl
  case bind => exact ar1 fun _ => rfl
  case clo => rfl
  case kind => intro n; walk_at "kind1"; exact fun _ h => absurd h List.not_mem_nil
  case nd => intro n; exact of_decide_eq_true (by kernel_rfl)
  case ms => rfl
  case how => intro L'; rfl
  case co => rfl
  case gen => rfl
  case k => rfl
  clear ho; intro L' env
  refine ex_cut (fun τ => ∃ dr, τ = ⟨[("script", .ref sa), ("drawn", .ref dr)], (dr, .list (((script.take 6).map fun c => c.fmod 1000000).map I)) :: (L' + 2, .cell none) :: (L' + 1, .cell none) :: (lt x ++ tt y), k⟩) ?_ ?_
  · refine ex1_gen fun KF hKF => ?_
    refine ex_assign_comp ?_
    walk_at "go"
    refine slc_list none (some 6) (.inr hs) (by rw [List.length_map]; omega) fun a => ?_
    rw [show cut (script.map I) none (some 6) = (script.take 6).map I from by rw [List.map_take]; exact cut_take _ 6]
    refine ⟨(script.take 6).map I, itr_list hA.h (.head _), by simp; omega, fun C => ?_⟩
    refine comp_inv (ι := Int) I (fun c => some (I (c.fmod 1000000))) _ (script.take 6) [] ?_ ?_
    · intro c hc
      walk_at "go"
      rw [if_pos rfl]
      walk_at "go"
      refine op_pow_int (by decide) (by decide) ?_
      walk_at "go"
      first | exact hKF _ _ ⟨rfl, [], by walk_at "le"⟩ | exact ⟨rfl, [], by walk_at "le"⟩
    · intro D
      rw [List.nil_append, show (script.take 6).filterMap (fun c => some (I (c.fmod 1000000))) = ((script.take 6).map fun c => c.fmod 1000000).map I by rw [List.map_map]; simp [List.filterMap_eq_map', Function.comp_def]]
      walk_at "go"
      first | exact hKF _ _ ⟨rfl, [true, false], _, by walk_at "le", D, rfl⟩ | exact ⟨rfl, [true, false], _, by walk_at "le", D, rfl⟩
  rintro τ ⟨dr, rfl⟩
  have hdl : ((script.take 6).map fun c => c.fmod 1000000).length ≤ 6 := by simp; omega
  generalize hdd : (script.take 6).map (fun c => c.fmod 1000000) = dw at hdl
  have hcells : cellsOf script = dw ++ ([4, 20, 24, 8, 19] : List Int).drop dw.length := by rw [← hdd]; rfl
  generalize cellsOf script = cells at hcells hJ
  have hcl : cells.length ≤ 6 := by rw [hcells]; simp; omega
  refine ex_cut (fun τ => ∃ ca, τ = ⟨[("script", .ref sa), ("cells", .ref ca)], (ca, .list (cells.map I)) :: (L' + 2, .cell none) :: (L' + 1, .cell none) :: (lt x ++ tt y), k⟩) ?_ ?_
  · refine ex1_gen fun KF hKF => ?_
    walk_at "go"
    refine ⟨by simp, fun a => ?_⟩
    walk_at "go"
    refine call_len_list (.inl (.tail _ (.head _))) (by simp; omega) ?_
    walk_at "go"
    refine slc_list (some _) none (.inl (.head _)) (by simp) fun b => ?_
    walk_at "go"
    refine op_add_list (.inl (.tail _ (.tail _ (.head _)))) (.inl (.head _)) (by rw [cut_cells hdl]; simp; omega) fun c => ?_
    rw [cells_eq hdl, ← hcells]
    walk_at "go"
    first | exact hKF _ _ ⟨rfl, [true, false, false, false], _, by walk_at "le", c, rfl⟩ | exact ⟨rfl, [true, false, false, false], _, by walk_at "le", c, rfl⟩
  rintro τ ⟨ca, rfl⟩
  refine ex_cut (fun τ => τ = ⟨[("script", .ref sa), ("cells", .ref ca), ("pick", I (pickOf cells))], (ca, .list (cells.map I)) :: (L' + 2, .cell none) :: (L' + 1, .cell none) :: (lt x ++ tt y), k⟩) ?_ ?_
  · refine ex1_gen fun KF hKF => ?_
    walk_at "go"
    refine ev_comp ?_
    walk_at "go"
    refine ⟨cells.map I, itr_list hA.h (.head _), by simp; omega, fun C => ?_⟩
    refine comp_inv (ι := Int) I (fun c => some (I (c.fdiv 28))) _ cells [] ?_ ?_
    · intro c hc
      walk_at "go"
      rw [if_pos rfl]
      walk_at "go"
      first | exact hKF _ _ ⟨rfl, [], by walk_at "le"⟩ | exact ⟨rfl, [], by walk_at "le"⟩
    · intro D
      rw [List.nil_append, show cells.filterMap (fun c => some (I (c.fdiv 28))) = (cells.map fun c => c.fdiv 28).map I by rw [List.map_map]; simp [List.filterMap_eq_map', Function.comp_def]]
      walk_at "go"
      refine call_sum hA.h (.inl (.head _)) ?_
      walk_at "go"
      first | exact hKF _ _ ⟨rfl, [false], _, by walk_at "le", rfl⟩ | exact ⟨rfl, [false], _, by walk_at "le", rfl⟩
  rintro τ rfl
  generalize pickOf cells = pk at hJ ⊢
  obtain ⟨one, hone⟩ : ∃ one, one = oneOf pk := ⟨_, rfl⟩
  obtain ⟨two, htwo⟩ : ∃ two, two = twoOf pk := ⟨_, rfl⟩
  have hJ' := fun size hs => hJ size hs one two hone htwo
  clear hJ
  have g1 := menu_get (Int.fmod_nonneg_of_pos pk (b := 8) (by decide)) (Int.fmod_lt_of_pos pk (b := 8) (by decide))
  have g2 := menu_get (Int.fmod_nonneg_of_pos (pk + 1 + (pk.fdiv 8).fmod 7) (b := 8) (by decide)) (Int.fmod_lt_of_pos (pk + 1 + (pk.fdiv 8).fmod 7) (b := 8) (by decide))
  rw [show menu[((pk.fmod 8).toNat)]?.getD 0 = one from hone.symm] at g1
  rw [show menu[(((pk + 1 + (pk.fdiv 8).fmod 7).fmod 8).toNat)]?.getD 0 = two from htwo.symm] at g2
  have hm1 : one ∈ menu := List.mem_of_getElem? g1
  have hm2 : two ∈ menu := List.mem_of_getElem? g2
  refine ex_cut (fun τ => τ = ⟨[("script", .ref sa), ("cells", .ref ca), ("pick", I pk)], (ca, .list (cells.map I)) :: (L' + 2, .cell none) :: (L' + 1, .cell (some (U [one]))) :: (lt x ++ tt y), k⟩) ?_ ?_
  · refine ex1_gen fun KF hKF => ?_
    walk_at "go"
    refine itm_str (c := one) (Int.fmod_nonneg_of_pos _ (by decide)) g1 (by decide) ?_
    walk_at "go"
    first | exact hKF _ _ ⟨rfl, [], _, by walk_at "le", rfl⟩ | exact ⟨rfl, [], _, by walk_at "le", rfl⟩
  rintro τ rfl
  refine ex_cutP (fun τ => τ = ⟨[("script", .ref sa), ("cells", .ref ca)], tt y ++ ((ca, .list (cells.map I)) :: (L' + 2, .cell (some (U [two]))) :: (L' + 1, .cell (some (U [one]))) :: lt x), k⟩) ?_ ?_
  · refine ex1_gen fun KF hKF => ?_
    walk_at "go"
    refine itm_str (c := two) (Int.fmod_nonneg_of_pos _ (by decide)) g2 (by decide) ?_
    walk_at "go"
    first | exact hKF _ _ ⟨rfl, [], ⟨[("script", .ref sa), ("cells", .ref ca)], (ca, .list (cells.map I)) :: (L' + 2, .cell (some (U [two]))) :: (L' + 1, .cell (some (U [one]))) :: (lt x ++ tt y), k⟩, by walk_at "le", _, List.perm_append_comm (l₁ := (ca, O.list (cells.map I)) :: (L' + 2, O.cell (some (U [two]))) :: (L' + 1, O.cell (some (U [one]))) :: lt x), rfl⟩ | exact ⟨rfl, [], ⟨[("script", .ref sa), ("cells", .ref ca)], (ca, .list (cells.map I)) :: (L' + 2, .cell (some (U [two]))) :: (L' + 1, .cell (some (U [one]))) :: (lt x ++ tt y), k⟩, by walk_at "le", _, List.perm_append_comm (l₁ := (ca, O.list (cells.map I)) :: (L' + 2, O.cell (some (U [two]))) :: (L' + 1, O.cell (some (U [one]))) :: lt x), rfl⟩
  rintro τ rfl
  refine ex_cutP (fun τ => ∃ (dl : Addr) (Ds : List DI) (y' : TS), ttOk y' ∧ Ds.map (·.d) = cells.map (deedOf one two) ∧ (∀ D ∈ Ds, D.ok) ∧ τ = ⟨[("script", .ref sa), ("cells", .ref ca), ("deeds", .ref dl)], (L' + 1, .cell (some (U [one]))) :: (L' + 2, .cell (some (U [two]))) :: (lt x ++ (tt y' ++ ((ca, .list (cells.map I)) :: (dl, .list (Ds.map fun D => .ref D.t)) :: Ds.flatMap DI.objs))), k⟩) ?_ ?_
  · refine ex1_gen fun KF hKF => ?_
    refine ex_assign_compO (tt y) ?_
    walk_at "go"
    refine ⟨_, _, _, cells.map I, rfl, itr_list hA.h (.head _), by simp; omega, fun C => ?_⟩
    refine comp_invP (ι := Int) I (fun done acc τ => ∃ (Ds : List DI) (y' : TS) (o : List (Addr × O)), ttOk y' ∧ acc = Ds.map (fun D => .ref D.t) ∧ Ds.map (·.d) = done.map (deedOf one two) ∧ (∀ D ∈ Ds, D.ok) ∧ o.Perm (Ds.flatMap DI.objs) ∧ τ = ⟨[], tt y' ++ o, ((ca, .list (cells.map I)) :: (L' + 2, .cell (some (U [two]))) :: (L' + 1, .cell (some (U [one]))) :: lt x) ++ k⟩) cells ?_ ?_ ?_
    · exact ⟨[], y, [], hy, rfl, rfl, by simp, .refl _, by simp⟩
    · rintro done c rest acc τ e ⟨Ds, y', o, hy', rfl, hds, hok, hp, rfl⟩
      walk_at "go"
      refine call_permR (c_deed (x := y') (o2 := o) Λ hA.deeper hy' hm1 hm2 fun y'' D hy'' hD hDok => ⟨tt y'' ++ (D.objs ++ o), List.perm_append_comm_assoc _ _ _, [], _, by walk_at "le", Ds ++ [D], y'', D.objs ++ o, hy'', by simp [nv], by rw [List.map_append, List.map_append, hds]; simp [hD], ?_, ?_, rfl⟩)
      · intro E hE
        rcases List.mem_append.mp hE with hE | hE
        · exact hok E hE
        · rw [List.mem_singleton.mp hE]; exact hDok
      · rw [List.flatMap_append]
        exact List.perm_append_comm.trans (by simpa using hp.append_right D.objs)
    · rintro acc τ ⟨Ds, y', o, hy', rfl, hds, hok, hp, rfl⟩
      intro D
      walk_at "go"
      first | exact hKF _ _ ⟨rfl, [], ⟨[("script", .ref sa), ("cells", .ref ca), ("deeds", .ref D)], (D, .list (Ds.map fun D => .ref D.t)) :: ((tt y' ++ o) ++ ((ca, .list (cells.map I)) :: (L' + 2, .cell (some (U [two]))) :: (L' + 1, .cell (some (U [one]))) :: lt x)), k⟩, by walk_at "le", _, perm_deeds hp, D, Ds, y', hy', hds, hok, rfl⟩ | exact ⟨rfl, [], ⟨[("script", .ref sa), ("cells", .ref ca), ("deeds", .ref D)], (D, .list (Ds.map fun D => .ref D.t)) :: ((tt y' ++ o) ++ ((ca, .list (cells.map I)) :: (L' + 2, .cell (some (U [two]))) :: (L' + 1, .cell (some (U [one]))) :: lt x)), k⟩, by walk_at "le", _, perm_deeds hp, D, Ds, y', hy', hds, hok, rfl⟩
  rintro τ ⟨dl, Ds, y', hy', hds, hok, rfl⟩
  generalize hR : ((ca, O.list (cells.map I)) :: (dl, .list (Ds.map fun D => .ref D.t)) :: Ds.flatMap DI.objs) = R
  have hRc : (ca, O.list (cells.map I)) ∈ R := by rw [← hR]; simp
  have hRd : (dl, O.list (Ds.map fun D => .ref D.t)) ∈ R := by rw [← hR]; simp
  have hRo : ∀ D ∈ Ds, ∀ p ∈ D.objs, p ∈ R := fun D hD p hp => by
    rw [← hR]
    exact .tail _ (.tail _ (List.mem_flatMap.mpr ⟨D, hD, hp⟩))
  clear hR
  refine ex_cut (fun τ => ∃ x', ltOk x' ∧ τ = ⟨[], (L' + 1, .cell (some (U [one]))) :: (L' + 2, .cell (some (U [two]))) :: (lt x' ++ (tt y' ++ R)), k⟩) ?_ ?_
  · refine ex1_gen fun KF hKF => ?_
    refine ex_for (ev_less ?_)
    walk_at "go"
    refine ⟨by simp, fun tp => ⟨[false], ⟨[("cells", .ref ca), ("deeds", .ref dl)], (L' + 1, .cell (some (U [one]))) :: (L' + 2, .cell (some (U [two]))) :: (lt x ++ (tt y' ++ R)), (tp, .tuple [I 2, I 3, I 9]) :: k⟩, ⟨subM_ok (by repeat (first | exact trivial | refine ⟨rfl, ?_⟩)), rfl, by walk_at "kn"⟩, ([2, 3, 9] : List Nat).map fun (n : Nat) => I (n : Int), itr_tuple hA.h (.head _), ?_⟩⟩
    refine for_invP (ι := Nat) (fun (n : Nat) => I (n : Int)) (fun done τ => ∃ x', ltOk x' ∧ τ = ⟨[("cells", .ref ca), ("deeds", .ref dl)], (L' + 1, .cell (some (U [one]))) :: (L' + 2, .cell (some (U [two]))) :: (lt x' ++ (tt y' ++ R)), (tp, .tuple [I 2, I 3, I 9]) :: k⟩) [2, 3, 9] ?_ ?_ ?_
    · exact ⟨x, hx, rfl⟩
    · rintro done size rest τ e ⟨x', hx', rfl⟩
      have hsz : size ∈ [2, 3, 9] := by rw [e]; simp
      have J := hJ' size hsz
      generalize hX : tt y' ++ R = X
      have hXR : ∀ p ∈ R, p ∈ X := fun p hp => by rw [← hX]; exact List.mem_append_right _ hp
      walk_at "go"
      refine c_session (Ds := Ds) Λ hA.deeper.less (List.mem_append_left _ (.tail _ (.tail _ (List.mem_append_right _ (hXR _ hRd))))) (fun D hD => ⟨hok D hD, fun p hp => List.mem_append_left _ (.tail _ (.tail _ (List.mem_append_right _ (hXR _ (hRo D hD p hp)))))⟩) ?_ (by rw [hds]; exact J) fun t v b V B hVB => ?_
      · have := congrArg List.length hds
        rw [List.length_map, List.length_map] at this
        omega
      rw [hds] at hVB
      obtain ⟨rfl, rfl⟩ := JJ_end hVB
      refine asg_tuple hA.h (.tup (.inl (.head _))) rfl ?_
      walk_at "go"
      refine call_perm (List.perm_append_comm_assoc [_, _, _, _, _] (lt x') X) ?_
      refine call_permR (c_twin Λ hA.deeper.less hx' (List.mem_append_left _ (List.mem_append_right _ (hXR _ hRc))) (by omega) fun x'' t2 w b2 hx'' => ⟨_, .cons _ (.cons _ (.cons _ (List.perm_append_comm_assoc (lt x'') _ X))), ?_⟩)
      obtain ⟨q1, q2, q3, q4⟩ := tw_bound size cells
      generalize cells.foldl (twStep size) ([[]], [[]]) = st at q1 q2 q3 q4 ⊢
      obtain ⟨ws, R1⟩ := st
      dsimp only at q1 q2 q3 q4 ⊢
      have hw1 : ∀ w ∈ ws, w.length ≤ 10000 := fun w hw => by have := (q2 w hw).1; omega
      have hw2 : ∀ w ∈ R1.take size, w.length ≤ 10000 := fun w hw => hw1 w (q3 w (List.mem_of_mem_take hw))
      have hl2 : (R1.take size).length ≤ 1000 := by rw [List.length_take]; omega
      have ok1 := pth_ok hm1 hm2 ws
      have ok2 := pth_ok hm1 hm2 (R1.take size)
      generalize R1.take size = LA at hw2 hl2 ok2 ⊢
      refine asg_tuple hA.h (.tup (.inl (.head _))) rfl ?_
      walk_at "go"
      refine c_paths Λ hA.deeper.less (by omega) hw1 (.inl (.tail _ (.head _))) fun a => ?_
      walk_at "go"
      refine cmp_ne_strs ok1 (by have := hA.deeper (env := env).u; omega) (by walk_at "mem") (.inl (.head _)) ?_
      walk_at "go"
      rw [if_neg (by decide)]
      walk_at "go"
      refine c_paths Λ hA.deeper.less hl2 hw2 (.inl (.tail _ (.tail _ (.tail _ (.head _))))) fun a2 => ?_
      walk_at "go"
      refine cmp_ne_strs ok2 (by have := hA.deeper (env := env).u; omega) (by walk_at "mem") (.inl (.head _)) ?_
      walk_at "go"
      rw [if_neg (by decide)]
      walk_at "go"
      refine iff' rfl ?_
      walk_at "go"
      first | exact hKF _ _ ⟨.inl rfl, [false, false, false, false, false, false, false, false], ⟨[("cells", .ref ca), ("deeds", .ref dl)], (L' + 1, .cell (some (U [one]))) :: (L' + 2, .cell (some (U [two]))) :: (lt x'' ++ X), (tp, .tuple [I 2, I 3, I 9]) :: k⟩, by walk_at "le", x'', hx'', rfl⟩ | exact ⟨.inl rfl, [false, false, false, false, false, false, false, false], ⟨[("cells", .ref ca), ("deeds", .ref dl)], (L' + 1, .cell (some (U [one]))) :: (L' + 2, .cell (some (U [two]))) :: (lt x'' ++ X), (tp, .tuple [I 2, I 3, I 9]) :: k⟩, by walk_at "le", x'', hx'', rfl⟩
    · rintro τ ⟨x', hx', rfl⟩
      first | exact hKF _ _ ⟨rfl, [], ⟨[], (L' + 1, .cell (some (U [one]))) :: (L' + 2, .cell (some (U [two]))) :: (lt x' ++ (tt y' ++ R)), k⟩, by walk_at "le", x', hx', rfl⟩ | exact ⟨rfl, [], ⟨[], (L' + 1, .cell (some (U [one]))) :: (L' + 2, .cell (some (U [two]))) :: (lt x' ++ (tt y' ++ R)), k⟩, by walk_at "le", x', hx', rfl⟩
  rintro τ ⟨x', hx', rfl⟩
  walk_at "go"
  exact ⟨rfl, _, _, x', y', R, rfl⟩
end
section
variable {G : Gd} {mg mb : Str → Option Value} {A : Around} {env : Env} {L L' : Addr} {σ : St} {K : Value → St → Prop} {KF : Flow → St → Prop}
theorem Nm.nm_inj {one two a b : Nat} (N : Nm one two) (ha : a = 120 ∨ a = 121) (hb : b = 120 ∨ b = 121) (h : nm one two a = nm one two b) : a = b := by
  rcases ha with rfl | rfl
  · rw [N.nm1.mpr rfl] at h
    exact (N.nm1.mp h.symm).symm
  · rw [(N.nm2 (.inr rfl)).mpr rfl] at h
    exact ((N.nm2 hb).mp h.symm).symm
theorem pp_inj {one two : Nat} (N : Nm one two) : ∀ {u w : List Nat}, (∀ c ∈ u, c = 120 ∨ c = 121) → (∀ c ∈ w, c = 120 ∨ c = 121) → pp one two u = pp one two w → u = w
  | [], [], _, _, _ => rfl
  | [], _ :: _, _, _, h => by simp [pp] at h
  | _ :: _, [], _, _, h => by simp [pp] at h
  | a :: u, b :: w, hu, hw, h => by
    rw [pp_cons, pp_cons] at h
    simp only [List.cons.injEq, true_and] at h
    rw [N.nm_inj (hu a (.head _)) (hw b (.head _)) h.1, pp_inj N (fun c hc => hu c (.tail _ hc)) (fun c hc => hw c (.tail _ hc)) h.2]
theorem pth_inj {one two : Nat} (N : Nm one two) {u w : List Nat} (hu : ∀ c ∈ u, c = 120 ∨ c = 121) (hw : ∀ c ∈ w, c = 120 ∨ c = 121) (h : pth one two u = pth one two w) : u = w := by
  rcases u with _ | ⟨a, u⟩
  · rcases w with _ | ⟨b, w⟩
    · rfl
    · rw [pth_nil, pth_pp (by simp), pp_cons] at h; simp at h
  · rcases w with _ | ⟨b, w⟩
    · rw [pth_nil, pth_pp (by simp), pp_cons] at h; simp at h
    · rw [pth_pp (by simp), pth_pp (by simp)] at h
      exact pp_inj N hu hw h
theorem uq_fold : ∀ (L acc : List (List Nat)), L.Nodup → L.foldl (fun acc w => if w ∈ acc then acc else acc ++ [w]) acc = acc ++ L.filter (fun w => decide (w ∉ acc))
  | [], acc, _ => by simp
  | w :: L, acc, h => by
    have h' := List.nodup_cons.mp h
    rw [List.foldl_cons, uq_fold L _ h'.2]
    by_cases q : w ∈ acc
    · rw [if_pos q, List.filter_cons, if_neg (by simpa using q)]
    · rw [if_neg q, List.filter_cons, if_pos (by simpa using q), List.append_assoc]
      congr 1
      show w :: _ = w :: _
      congr 1
      apply List.filter_congr
      intro x hx
      have : x ≠ w := fun e => h'.1 (e ▸ hx)
      simp [this]
theorem uq_nodup {h : List Nat} {L : List (List Nat)} (hn : L.Nodup) : uq (h :: L) = h :: L.filter (· != h) := by
  unfold uq
  rw [List.foldl_cons, uq_fold L _ hn]
  simp only [List.not_mem_nil, if_false, List.nil_append, List.mem_singleton, List.singleton_append]
  congr 1
  apply List.filter_congr
  intro x _
  by_cases q : x = h <;> simp [q]
theorem filter_id' {h : List Nat} {L : List (List Nat)} (hn : h ∉ L) : L.filter (· != h) = L := by
  rw [List.filter_eq_self]
  intro a ha
  have : a ≠ h := fun e => hn (e ▸ ha)
  simpa using this
theorem tf {h : List Nat} : ∀ (R : List (List Nat)) (m : Nat), R.Nodup → ((R.take (m + 1)).filter (· != h)).take m = (R.filter (· != h)).take m
  | [], m, _ => by simp
  | a :: R, m, hn => by
    have hn' := List.nodup_cons.mp hn
    rw [List.take_succ_cons, List.filter_cons, List.filter_cons]
    by_cases q : a = h
    · subst q
      rw [if_neg (by simp), if_neg (by simp), filter_id' hn'.1, filter_id' fun hm => hn'.1 (List.mem_of_mem_take hm), List.take_take, Nat.min_self]
    · rw [if_pos (by simpa using q), if_pos (by simpa using q)]
      cases m with
      | zero => simp
      | succ k => rw [List.take_succ_cons, List.take_succ_cons, tf R k hn'.2]
theorem bk_ok {one two : Nat} (N : Nm one two) {size : Nat} (hs : 1 ≤ size) {R : List (List Nat)} {h' : List Nat} (hn : R.Nodup) (hR : ∀ w ∈ R, ∀ c ∈ w, c = 120 ∨ c = 121) (hh : ∀ c ∈ h', c = 120 ∨ c = 121) :
    bk size (pth one two h') ((R.take size).map (pth one two)) = ((h' :: R.filter (· != h')).take size).map (pth one two) := by
  obtain ⟨m, rfl⟩ : ∃ m, size = m + 1 := ⟨size - 1, by omega⟩
  have hL : (R.take (m + 1)).Nodup := hn.sublist (List.take_sublist _ _)
  have hLx : ∀ w ∈ R.take (m + 1), ∀ c ∈ w, c = 120 ∨ c = 121 := fun w hw => hR w (List.mem_of_mem_take hw)
  have hm : ((R.take (m + 1)).map (pth one two)).Nodup := by
    refine List.pairwise_map.mpr (List.Pairwise.imp_of_mem ?_ hL)
    intro a b ha hb hab e
    exact hab (pth_inj N (hLx a ha) (hLx b hb) e)
  unfold bk
  rw [uq_nodup hm, List.filter_map, List.take_succ_cons, List.take_succ_cons, List.map_cons, ← List.map_take]
  congr 2
  rw [← tf R m hn]
  congr 1
  apply List.filter_congr
  intro x hx
  show (pth one two x != pth one two h') = (x != h')
  rw [Bool.eq_iff_iff, bne_iff_ne, bne_iff_ne]
  exact not_congr ⟨fun e => pth_inj N (hLx x hx) hh e, fun e => by rw [e]⟩
theorem unp {size one two : Nat} {cells : List Int} {dn rest : List Dd} {d : Dd} {V B : List (List Nat)} {l : List Nat} (e : cells.map (deedOf one two) = dn ++ d :: rest) (j : JJ size one two cells dn (V ++ [l]) B) :
    ∃ cs c rs p y R, cells = cs ++ c :: rs ∧ dn = cs.map (deedOf one two) ∧ d = deedOf one two c ∧ cs.foldl (twStep size) ([[]], [[]]) = (p ++ [y], R) ∧ V = p.map (pth one two) ∧ l = pth one two y ∧ B = (R.take size).map (pth one two) ∧ TwB cs.length (p ++ [y], R) := by
  obtain ⟨cs, rs, ec, rfl, eV, eB⟩ := j
  have T := twB_all size cs
  generalize hst : cs.foldl (twStep size) ([[]], [[]]) = st at eV eB T
  obtain ⟨ws, R⟩ := st
  dsimp only at eV eB
  rw [ec, List.map_append] at e
  have e' := List.append_cancel_left e
  rcases rs with _ | ⟨c, rs⟩
  · simp at e'
  · rw [List.map_cons] at e'
    obtain ⟨e1, e2⟩ := List.cons.inj e'
    rcases List.eq_nil_or_concat ws with h0 | ⟨p, y, h0⟩
    · subst h0; simp at eV
    · rw [List.concat_eq_append] at h0
      subst h0
      rw [List.map_append] at eV
      obtain ⟨e3, e4⟩ := List.append_inj' eV rfl
      exact ⟨cs, c, rs, p, y, R, ec, rfl, e1.symm, hst, e3, (List.cons.inj e4).1, eB, T⟩
theorem JJ_next {one two : Nat} (N : Nm one two) {size : Nat} (hs : 1 ≤ size) {cells cs rs : List Int} {c : Int} {p R : List (List Nat)} {y h' : List Nat} (ec : cells = cs ++ c :: rs) (hst : cs.foldl (twStep size) ([[]], [[]]) = (p ++ [y], R)) (T : TwB cs.length (p ++ [y], R))
    (hh : twStep size (p ++ [y], R) c = ((p ++ [y]) ++ [h'], h' :: R.filter (· != h'))) : JJ size one two cells (cs.map (deedOf one two) ++ [deedOf one two c]) (p.map (pth one two) ++ [pth one two y] ++ [pth one two h']) (bk size (pth one two h') ((R.take size).map (pth one two))) := by
  have T' := twB_next (size := size) T c
  rw [hh] at T'
  refine ⟨cs ++ [c], rs, by rw [ec]; simp, by simp, ?_, ?_⟩
  · rw [List.foldl_append, hst]
    show _ = (twStep size (p ++ [y], R) c).1.map _
    rw [hh]; simp
  · rw [List.foldl_append, hst]
    show _ = ((twStep size (p ++ [y], R) c).2.take size).map _
    rw [hh]
    exact bk_ok N hs T.nd (fun w hw => (T.wl w (T.sub w hw)).2) (T'.wl h' (by simp)).2
theorem jr_ok {one two : Nat} (N : Nm one two) {size : Nat} (hs : 1 ≤ size) {cells : List Int} (hl : cells.length ≤ 6) : Jr size (cells.map (deedOf one two)) (JJ size one two cells) := by
  refine ⟨⟨[], cells, rfl, rfl, rfl, ?_⟩, ?_, ?_, ?_⟩
  · obtain ⟨m, rfl⟩ : ∃ m, size = m + 1 := ⟨size - 1, by omega⟩
    show [[47]] = (([[]] : List (List Nat)).take (m + 1)).map (pth one two)
    rw [List.take_succ_cons]
    simp [pth, jn]
  · rintro dn V B ⟨cs, rs, ec, _, eV, eB⟩
    have T := twB_all size cs
    have hcs : cs.length ≤ 6 := by rw [ec] at hl; simp at hl; omega
    refine ⟨?_, ?_, ?_, ?_⟩
    · intro h0
      have h1 := T.len
      have := congrArg List.length eV
      rw [h0, List.length_map] at this
      simp at this; omega
    · rw [eV, List.length_map, T.len]; omega
    · rw [eB, List.length_map, List.length_take]
      have := T.rl
      omega
    · intro p hp
      rw [eB] at hp
      obtain ⟨w, hw, rfl⟩ := List.mem_map.mp hp
      have h1 := (T.wl w (T.sub w (List.mem_of_mem_take hw))).1
      have h2 := pth_len one two w
      omega
  · intro dn told rest V l B e j
    obtain ⟨cs, c, rs, p, y, R, ec, rfl, ed, hst, rfl, rfl, rfl, T⟩ := unp e j
    have hcs : cs.length ≤ 6 := by rw [ec] at hl; simp at hl; omega
    have hy := T.wl y (by simp)
    have hyl := pth_len one two y
    have h3 : c.fmod 4 < 3 := by
      apply Classical.byContradiction
      intro h3
      unfold deedOf at ed
      rw [if_neg h3] at ed
      cases ed
    have hn0 : 0 ≤ (c.fdiv 4).fmod 7 := Int.fmod_nonneg_of_pos _ (by decide)
    have hn7 : (c.fdiv 4).fmod 7 < 7 := Int.fmod_lt_of_pos _ (by decide)
    have et : told = stepOf ((c.fdiv 4).fmod 7).toNat one two := by
      unfold deedOf at ed
      rw [if_pos h3] at ed
      cases ed; rfl
    obtain ⟨r, er, hrl, hrh, hpr⟩ := step_ok N (y := y) (n := ((c.fdiv 4).fmod 7).toNat) (by omega) (by have := hy.1; omega)
    refine ⟨by unfold pth; simp, by have := hy.1; omega, ?_, r, by rw [et]; exact er, hrl, hrh, ?_⟩
    · rw [et]; unfold stepOf; split <;> simp
    · rw [hpr, ed]
      refine JJ_next N hs ec hst T ?_
      unfold twStep
      dsimp only
      rw [List.getLastD_concat, if_pos h3]
  · intro dn il rest V l B e j
    obtain ⟨cs, c, rs, p, y, R, ec, rfl, ed, hst, rfl, rfl, rfl, T⟩ := unp e j
    have h3 : ¬ c.fmod 4 < 3 := by
      intro h3
      unfold deedOf at ed
      rw [if_pos h3] at ed
      cases ed
    have hn0 : 0 ≤ (c.fdiv 4).fmod 7 := Int.fmod_nonneg_of_pos _ (by decide)
    have hn7 : (c.fdiv 4).fmod 7 < 7 := Int.fmod_lt_of_pos _ (by decide)
    have hn7' : ((c.fdiv 4).fmod 7).toNat < 7 := by omega
    have et : il = its ((c.fdiv 4).fmod 7).toNat one two := by
      unfold deedOf at ed
      rw [if_neg h3] at ed
      cases ed; rfl
    refine ⟨?_, ?_⟩
    · rw [et]
      exact Nat.le_trans (List.length_filterMap_le _ _) (Nat.le_trans (pt_ok hn7' N.h1 N.h2).ll (by decide))
    · obtain ⟨m, rfl⟩ : ∃ m, size = m + 1 := ⟨size - 1, by omega⟩
      have hhd : R.head? = some y := by have := T.hd; simpa using this
      obtain ⟨R', rfl⟩ : ∃ R', R = y :: R' := by
        cases R with
        | nil => simp at hhd
        | cons a R' => simp at hhd; exact ⟨R', by rw [hhd]⟩
      have hyR := (List.nodup_cons.mp T.nd).1
      have hx : ∀ w ∈ R'.take m, ∀ c ∈ w, c = 120 ∨ c = 121 := fun w hw => (T.wl w (T.sub w (.tail _ (List.mem_of_mem_take hw)))).2
      have ef : (((y :: R').take (m + 1)).map (pth one two)).drop 1 = (R'.take m).map (pth one two) := by simp
      have eg : ((R'.take m).map (pth one two)).filter (takes il) = ((R'.take m).filter (meant · ((c.fdiv 4).fmod 7).toNat)).map (pth one two) := by
        rw [List.filter_map]
        congr 1
        apply List.filter_congr
        intro w hw
        show takes il (pth one two w) = _
        rw [et]; exact meant_takes N (hx w hw) hn7'
      have eh : ((y :: R').take (m + 1)).filter (· != y) = R'.take m := by
        rw [List.take_succ_cons, List.filter_cons, if_neg (by simp), filter_id' fun hm => hyR (List.mem_of_mem_take hm)]
      have ek : ∀ F : List (List Nat), (F.map (pth one two) ++ [pth one two y]).headD [] = pth one two ((F ++ [y]).headD []) := by
        intro F; cases F <;> rfl
      rw [ef, eg, ek, ed]
      refine JJ_next N hs ec hst T ?_
      unfold twStep
      dsimp only
      rw [List.getLastD_concat, if_neg h3, eh]
theorem names_ok (p : Int) : Nm (oneOf p) (twoOf p) := by
  have h8 : ∀ i : Int, 0 ≤ i.fmod 8 ∧ i.fmod 8 < 8 := fun i => ⟨Int.fmod_nonneg_of_pos _ (by decide), Int.fmod_lt_of_pos _ (by decide)⟩
  have g1 := menu_get (h8 p).1 (h8 p).2
  have g2 := menu_get (h8 (p + 1 + (p.fdiv 8).fmod 7)).1 (h8 (p + 1 + (p.fdiv 8).fmod 7)).2
  refine ⟨List.mem_of_getElem? g1, List.mem_of_getElem? g2, ?_⟩
  have hj0 : 0 ≤ (p.fdiv 8).fmod 7 := Int.fmod_nonneg_of_pos _ (by decide)
  have hj7 : (p.fdiv 8).fmod 7 < 7 := Int.fmod_lt_of_pos _ (by decide)
  unfold oneOf twoOf
  have key : (p.fmod 8).toNat ≠ ((p + 1 + (p.fdiv 8).fmod 7).fmod 8).toNat := by
    generalize (p.fdiv 8).fmod 7 = j at hj0 hj7
    have a1 := h8 p
    have a2 := h8 (p + 1 + j)
    rw [Int.fmod_eq_emod_of_nonneg _ (by decide : (0 : Int) ≤ 8)] at a1 a2 ⊢
    rw [Int.fmod_eq_emod_of_nonneg _ (by decide : (0 : Int) ≤ 8)]
    omega
  have b1 := h8 p
  have b2 := h8 (p + 1 + (p.fdiv 8).fmod 7)
  generalize hi : (p.fmod 8).toNat = i at key
  generalize hk : ((p + 1 + (p.fdiv 8).fmod 7).fmod 8).toNat = k at key
  have hd : ∀ i < 8, ∀ k < 8, i ≠ k → menu[i]?.getD 0 ≠ menu[k]?.getD 0 := by decide
  exact hd i (by omega) k (by omega) key
end
theorem law_of {q : Program} {loose : List Str} {mean : ExcName → Option Value} {mg mb : Str → Option Value} {pr : Program} {w : World} {h : Heap} (KX : (hd.heap_1 w.params).In h) (T : Top q loose mean mg mb h) (hT : TabsAt [(248, 244), (83, 79)] h) :
    Law ⟨pr, w, ghostOf h [(248, 244), (83, 79)], []⟩ mg mb := by
  have GT := ghost_top hT T
  refine ⟨ghost_K hT KX (by kernel_rfl), ⟨GT.g, GT.b, GT.nolimit, nofun, nofun, nofun⟩, rfl, T.builtins, fun P hP hn => ?_, hideAll_none _ (.head _), hideAll_none _ (.tail _ (.head _))⟩
  obtain ⟨bm, ob, a1, a2, a3, a4, a5, a6⟩ := GT.bmain
  refine ⟨bm, ob, a1, a2, fun e => ?_, fun e => ?_, a3, a4, a5, a6⟩
  · obtain ⟨o, es, ep, e1, e2, _⟩ := GT.g
    rw [← e] at e1
    rw [a3] at e1
    cases e1
    rw [a6] at e2; cases e2
  · subst e
    rw [a3] at hn; cases hn
theorem ints_nv : ∀ {vs : List Value} {ns : List Int}, IntsAre vs ns → vs.map nv = ns.map I
  | _, _, .nil => rfl
  | _, _, .cons n t r => by rw [List.map_cons, List.map_cons, ints_nv r]; rfl
theorem script_holds {P : Program × World} {Q : Params} {h : Heap} {a : Addr} {vs : List Value} {ns : List Int} {xs : List PyData} (hL : h.IsList a vs.toArray) (hI : IntsAre vs ns) (W : Well Q h (.ref a) (ofPy (.list xs))) : Holds P h a (.list (ns.map I)) := by
  have W' : Well Q h (.ref a) (.list (ofPys xs)) := W
  obtain ⟨o, e1, e2, n, e3⟩ := hL
  cases W' with
  | list e _ =>
    rw [e] at e1
    cases e1
    cases e3
    exact ⟨vs, ⟨_, e⟩, ints_nv hI⟩
theorem lt_grown {x : Option (Addr × Obj)} : ∃ ps, ((244 : Addr), O.raw (tabObj ps)) ∈ lt x := by
  match x with
  | none => exact ⟨_, .head _⟩
  | some (c, o) => exact ⟨_, .tail _ (.head _)⟩
theorem oldK_end {h h' : Heap} (hT : TabsAt [(248, 244), (83, 79)] h) (keep : ∀ b o, h.get? b = some o → b ∉ [244, 79] → h'.get? b = some o)
    (grown : ∀ b ∈ [244, 79], ∃ ps, h'.get? b = some (tabObj ps)) : OldK h h' := by
  have tab : ∀ b o, b ∈ [244, 79] → h.get? b = some o → isCodeTable h b ∧ o = tabObj #[] := fun b o hb e => by
    obtain ⟨c, hq⟩ : ∃ c, (c, b) ∈ [((248 : Addr), (244 : Addr)), (83, 79)] := by
      rcases hb with _ | ⟨_, _ | ⟨_, hb⟩⟩
      · exact ⟨_, .head _⟩
      · exact ⟨_, .tail _ (.head _)⟩
      · cases hb
    obtain ⟨h1, h2⟩ := hT _ hq
    rw [e] at h2
    exact ⟨(h1.tab (hT _ hq).2).isCodeTable, Option.some.inj h2⟩
  refine ⟨fun b o e => ?_, fun b o e => ?_⟩ <;> by_cases hb : b ∈ [244, 79]
  · obtain ⟨ht, rfl⟩ := tab b o hb e
    obtain ⟨ps, hP⟩ := grown b hb
    exact .inr (.inl ⟨ht, rfl, #[], ps, rfl, by rw [Array.empty_append]; exact hP⟩)
  · exact .inl (keep b o e hb)
  · obtain ⟨ps, hP⟩ := grown b hb
    exact ⟨_, hP⟩
  · exact ⟨o, keep b o e hb⟩
theorem entry_run {q : Program} {loose : List Str} {mean : ExcName → Option Value} {mg mb : Str → Option Value} {pr : Program} {w : World} {s : Shared} (KX : (hd.heap_1 w.params).In s.heap) (T : Top q loose mean mg mb s.heap) (hT : TabsAt [(248, 244), (83, 79)] s.heap) (hg : s.gens = #[])
    {fa : Addr} (hf : mg "law" = some (.ref fa)) {a : Addr} {vs : List Value} {script : List Int} {xs : List PyData} (hL : s.heap.IsList a vs.toArray) (hI : IntsAre vs script) (W : Well w.params s.heap (.ref a) (ofPy (.list xs))) (hl : script.length ≤ 63) :
    wpAny (model pr w) callerA (call (.ref fa) [.ref a]) (fun v s' => v = .bool true ∧ OldK s.heap s'.heap ∧ s'.os = s.os ∧ AllBare s'.gens) (fun _ _ => False) s := by
  have e1 : mg "law" = some (.ref 264) := mg_of KX T.g (by kernel_rfl)
  rw [hf] at e1
  cases e1
  have Λ : Law ⟨pr, w, ghostOf s.heap [(248, 244), (83, 79)], []⟩ mg mb := law_of KX T hT
  have h1 := (hT _ (.head _)).2
  have h2 := (hT _ (.tail _ (.head _))).2
  have S0 : Sat0 ⟨pr, w, ghostOf s.heap [(248, 244), (83, 79)], []⟩ (lt none ++ tt ⟨#[], none⟩) [(a, .list (script.map I))] s := by
    refine ⟨fun b ob e => of_hideAll _ e, fun p hp => ?_, fun p hp => ?_, by decide⟩
    · rcases hp with _ | ⟨_, _ | ⟨_, hp⟩⟩
      · exact ⟨h1, Λ.t1⟩
      · exact ⟨h2, Λ.t2⟩
      · cases hp
    · rcases hp with _ | ⟨_, hp⟩
      · refine ⟨script_holds hL hI W, fun hm => ?_⟩
        obtain ⟨o, e, e2, _⟩ := hL
        rcases hm with _ | ⟨_, _ | ⟨_, hm⟩⟩
        · rw [h1] at e; cases e; cases e2
        · rw [h2] at e; cases e; cases e2
        · cases hm
      · cases hp
  refine wpAny_mono (c_law_top (x := none) (y := ⟨#[], none⟩) Λ S0 ⟨rfl, by decide, by decide⟩ trivial ⟨trivial, rfl⟩ (.head _) hl ?_) (fun v s' hz => ?_) fun _ _ e => e.elim
  · rintro size hs one two rfl rfl
    refine jr_ok (names_ok _) ?_ ?_
    · simp at hs; omega
    · unfold cellsOf
      simp; omega
  · obtain ⟨σ', L, ⟨hv, c1, c2, x', y', R, e⟩, S, ⟨h, g, t, rfl⟩, bare, keep⟩ := hz
    refine ⟨nv_bool hv, oldK_end hT keep fun b hb => ?_, rfl, bare (.of_eq hg)⟩
    have hm : ∀ p ∈ lt x' ++ tt y', p ∈ σ'.own := fun p hp => by
      rw [e]
      rcases List.mem_append.mp hp with hp | hp
      · exact .tail _ (.tail _ (List.mem_append_left _ hp))
      · exact .tail _ (.tail _ (List.mem_append_right _ (List.mem_append_left _ hp)))
    rcases hb with _ | ⟨_, _ | ⟨_, hb⟩⟩
    · obtain ⟨ps, hp⟩ := lt_grown (x := x')
      exact ⟨ps, (S.own _ (hm _ (List.mem_append_left _ hp))).1⟩
    · exact ⟨y'.ps, (S.own (79, .raw (tabObj y'.ps)) (hm _ (List.mem_append_right _ (.head _)))).1⟩
    · cases hb
end Mine
theorem PySem.Challenge.cw_rx0062_01_holds : PySem.Challenge.rw_rx0062_01.Holds := by
  refine Mine.hd ⟨Mine.leaves, ?_⟩
  w_strict (
    k_fill
    intro w s₀ s₁ mg mb G Y fa o pm cd doc dV kV ho hd hcd hD hmg hg args vals as hpre hlay hrd hwl hlo
    have KX := km_in_of Y
    km_tabs Y
    refine Ground.open G ?_
    intro T B D TE TW
    km_lay T hmg ho hd cd
    wrow_args hpre hlay hrd hwl hlo
    rename_i hL _ W _ hI _ hc _
    refine wpAny_mono (Mine.entry_run KX T hT9 hg hmg hL hI W (by omega)) (fun v s' hz => ?_) fun _ _ e => e.elim
    obtain ⟨rfl, hO, hos, hb⟩ := hz
    refine ⟨.inl ⟨_, _, [], rfl, fun _ => rfl, ReadsW.bool true, ?_, fun _ => ⟨List.nodup_nil, fun _ hm => nomatch hm⟩⟩, hO, hos, hb⟩
    first | rfl | wrow_post)
