import PyProof.Rows.All
import Wide.All
import OpenK.AllK
import Wide.FinOn
import PyProof.ExcStrCall
import PyProof.ExcStrAll.ValueError
import Lean
import PySem.Challenge.RW_xh0017_01
/-! The law xh0017-01. One file, joined from the parts that lie in wip/: a calculus of
statements and expressions over heaps, the walk through the program's functions, and the
plain law that what they compute answers as the statement says. -/
set_option Elab.async false
set_option linter.all false
/-! ## part Hd -/
section
open PySem PySem.W PyProof.Rows
set_option maxRecDepth 100000
set_option maxHeartbeats 8000000
namespace Mine
noncomputable def viewQ : Program := { PySem.Challenge.rw_xh0017_01.row.toRowW.prog with main := { PySem.Challenge.rw_xh0017_01.row.toRowW.prog.main with body := [1, 2, 3, 4, 11, 12, 13, 14, 15, 17, 18, 19, 20, 21, 22, 23].filterMap fun i => PySem.Challenge.rw_xh0017_01.row.toRowW.prog.main.body[i]? } }
noncomputable abbrev looseQ : List Str := [Str.ofString "insort_right", Str.ofString "bisect_right", Str.ofString "insort_left", Str.ofString "bisect_left"]
set_option hygiene false
local macro_rules
  | `(tactic| o_head $H) => `(tactic| (
      refine holds_open (q := viewQ) (loose := looseQ) (Xt := fun s => xlAt viewQ [] s && recOk (RowW.records PySem.Challenge.rw_xh0017_01.row.toRowW) s) (XP := XL viewQ []) (Yf := Hook.obs $H) (Ya := Hook.val $H) (YP := Hook.says $H) (N := 1834) ?hl (Hook.of $H) (Hook.keeps $H) (fun s e => xl_of s (Bool.and_eq_true_iff.mp e).1) XL.keeps (by rfl) (by rfl) (by rfl) (fun s e => recFacts_of (Bool.and_eq_true_iff.mp e).2) (by rfl) (by first | assumption | decide +kernel) (by decide +kernel) ⟨rfl, rfl, rfl, rfl, rfl, by decide +kernel⟩ ?hw ?hc
      case hl => exact fun w => by (delta openEnds fencedOpening topFrom; rw [PySem.W.Fast.te14364793385576792824, PySem.W.Fast.te14082659384304107361, PySem.W.Fast.te10274390034422433532, PySem.W.Fast.te1435165496053646825, PySem.W.Fast.te4187177175401517315]; kernel_rfl)))
local macro_rules
  | `(tactic| o_law) => `(tactic| refine holds_law (by (rw [PySem.W.Fast.te9446332074065402090]; delta PySem.W.Fast.tw9446332074065402090 PySem.W.Fast.tw17960256430627541270 PySem.W.Fast.tw2436336058641802641 PySem.W.Fast.tw12908688711261696721; repeat' (with_reducible apply look_both)); all_goals decide +kernel) fun said => ?_)
open_top hd for PySem.Challenge.rw_xh0017_01
end Mine
end
/-! ## part A1 -/
set_option tactic.hygienic false
set_option genSizeOf false
section
set_option maxRecDepth 100000
namespace Mine
open PySem PyProof.Rows

noncomputable def tb (a : Addr) : Prop := a = 51 ∨ a = 154
noncomputable abbrev Fz := Addr → Obj → Prop
noncomputable def fz (X : Addr → Prop) (h : Heap) : Fz := fun a o => ¬ (X a ∨ tb a) ∧ h.get? a = some o
noncomputable def Fle (g g' : Fz) : Prop := ∀ a o, g a o → g' a o
theorem Fle.refl (g : Fz) : Fle g g := fun _ _ e => e
theorem Fle.trans {g g' g'' : Fz} (x : Fle g g') (y : Fle g' g'') : Fle g g'' := fun a o e => y a o (x a o e)
noncomputable def Alive (h : Heap) (a : Addr) : Prop := ∃ o, h.get? a = some o
noncomputable def FzCode (g : Fz) (cv : Value) (q : Str) : Prop := ∃ a o vs t, cv = .ref a ∧ g a o ∧ o.data = .fields vs ∧ vs[1]? = some (.str q t)
theorem FzCode.mono {g g' : Fz} (le : Fle g g') {cv q} : FzCode g cv q → FzCode g' cv q := fun ⟨a, o, vs, t, e, r, x⟩ => ⟨a, o, vs, t, e, le _ _ r, x⟩
noncomputable def TabOk (X : Addr → Prop) (h : Heap) (P : Addr) (q : Str) : Prop :=
  ∃ ps, h.get? P = some (PySem.W.tabObj ps) ∧ TriplesOk ps.toList ∧ ∀ pos cv, codeAmong pos ps.toList = some cv → FzCode (fz X h) cv q
theorem TabOk.mono {X X' : Addr → Prop} {h h' : Heap} {P : Addr} {q : Str} (k : ∀ o, h.get? P = some o → h'.get? P = some o) (le : Fle (fz X h) (fz X' h')) : TabOk X h P q → TabOk X' h' P q :=
  fun ⟨ps, e, t, c⟩ => ⟨ps, k _ e, t, fun pos cv x => (c pos cv x).mono le⟩
structure TabsOk (X : Addr → Prop) (h : Heap) : Prop where
  t1 : TabOk X h 51 "add_callers.<locals>.<genexpr>"
  t2 : TabOk X h 154 "law.<locals>.<lambda>"
theorem TabsOk.mono {X X' : Addr → Prop} {h h' : Heap} (k : ∀ b o, tb b → h.get? b = some o → h'.get? b = some o) (le : Fle (fz X h) (fz X' h')) (t : TabsOk X h) : TabsOk X' h' :=
  ⟨t.t1.mono (fun o => k _ o (.inl rfl)) le, t.t2.mono (fun o => k _ o (.inr rfl)) le⟩
theorem TabsOk.alive {X h} (t : TabsOk X h) {a} (x : tb a) : Alive h a := by
  rcases x with rfl | rfl
  · obtain ⟨ps, e, _⟩ := t.t1; exact ⟨_, e⟩
  · obtain ⟨ps, e, _⟩ := t.t2; exact ⟨_, e⟩
structure Keep (h h' : Heap) : Prop where
  get : ∀ b o, ¬ tb b → h.get? b = some o → h'.get? b = some o
  tlive : ∀ b, tb b → Alive h b → Alive h' b
  tabs : ∀ Z, (∀ a, Z a → Alive h a) → TabsOk Z h → TabsOk Z h'
theorem fle_of {X : Addr → Prop} {h h' : Heap} (k : ∀ b o, ¬ tb b → h.get? b = some o → h'.get? b = some o) : Fle (fz X h) (fz X h') := fun a o e => ⟨e.1, k a o (fun x => e.1 (.inr x)) e.2⟩
theorem Keep.of {h h' : Heap} (k : ∀ b o, h.get? b = some o → h'.get? b = some o) : Keep h h' := ⟨fun b o _ => k b o, fun b _ ⟨o, e⟩ => ⟨o, k b o e⟩, fun Z _ t => t.mono (fun b o _ => k b o) (fle_of fun b o _ => k b o)⟩
theorem Keep.refl (h : Heap) : Keep h h := .of fun _ _ e => e
theorem Keep.fz {X : Addr → Prop} {h h' : Heap} (k : Keep h h') : Fle (fz X h) (fz X h') := fle_of k.get
theorem Keep.alive {h h' : Heap} (k : Keep h h') {a} (e : Alive h a) : Alive h' a := by
  by_cases n : tb a
  · exact k.tlive a n e
  · obtain ⟨o, e⟩ := e; exact ⟨o, k.get a o n e⟩
theorem Keep.trans {h h' h'' : Heap} (x : Keep h h') (y : Keep h' h'') : Keep h h'' :=
  ⟨fun a o n e => y.get a o n (x.get a o n e), fun b t e => y.tlive b t (x.tlive b t e), fun Z l t => y.tabs Z (fun a z => x.alive (l a z)) (x.tabs Z l t)⟩
theorem Keep.push (h : Heap) (o : Obj) : Keep h (h.push o) := .of fun _ _ e => Heap.get?_push_of_some o e
structure KeepB (X : Addr → Prop) (h h' : Heap) : Prop where
  keep : ∀ b o, ¬ (X b ∨ tb b) → h.get? b = some o → h'.get? b = some o
  live : ∀ b, (X b ∨ tb b) → Alive h b → Alive h' b
  tabs : ∀ Z, (∀ a, X a → Z a) → (∀ a, Z a → Alive h a) → TabsOk Z h → TabsOk Z h'
theorem KeepB.refl (X) (h : Heap) : KeepB X h h := ⟨fun _ _ _ e => e, fun _ _ e => e, fun _ _ _ t => t⟩
theorem KeepB.alive {X} {h h' : Heap} (k : KeepB X h h') {a} (e : Alive h a) : Alive h' a := by
  by_cases n : X a ∨ tb a
  · exact k.live a n e
  · obtain ⟨o, e⟩ := e; exact ⟨o, k.keep a o n e⟩
theorem KeepB.trans {X} {h h' h'' : Heap} (x : KeepB X h h') (y : KeepB X h' h'') : KeepB X h h'' :=
  ⟨fun b o n e => y.keep b o n (x.keep b o n e), fun b n e => y.live b n (x.live b n e), fun Z s l t => y.tabs Z s (fun a z => x.alive (l a z)) (x.tabs Z s l t)⟩
theorem Keep.but {X} {h h' : Heap} (k : Keep h h') : KeepB X h h' := ⟨fun b o n e => k.get b o (fun x => n (.inr x)) e, fun b _ e => k.alive e, fun Z _ l t => k.tabs Z l t⟩
theorem KeepB.fz {X} {h h' : Heap} (k : KeepB X h h') : Fle (fz X h) (fz X h') := fun a o e => ⟨e.1, k.keep a o e.1 e.2⟩
theorem KeepB.mono {X Y : Addr → Prop} {h h' : Heap} (k : KeepB X h h') (s : ∀ a, X a → Y a) : KeepB Y h h' :=
  ⟨fun b o n e => k.keep b o (fun x => n (x.imp (s b) id)) e, fun b _ e => k.alive e, fun Z z => k.tabs Z fun a x => z a (s a x)⟩
theorem KeepB.of_same {X : Addr → Prop} {h h' : Heap} {a : Addr} (hs : Heap.SameBut a h h') (ha : X a) (na : ¬ tb a) (hl : Alive h' a) : KeepB X h h' :=
  have k : ∀ b o, b ≠ a → h.get? b = some o → h'.get? b = some o := fun b o n e => (hs.2 b n).trans e
  ⟨fun b o n e => k b o (fun q => n (.inl (q ▸ ha))) e, fun b _ zz => by
    obtain ⟨o, e⟩ := zz
    by_cases q : b = a
    · subst q; exact hl
    · exact ⟨o, k b o q e⟩, fun Z z l t => t.mono (fun b o x e => k b o (fun q => na (q ▸ x)) e) fun b o e => ⟨e.1, k b o (fun q => e.1 (.inl (q ▸ z a ha))) e.2⟩⟩
theorem fz_mono {X Y : Addr → Prop} (s : ∀ a, X a → Y a) (h : Heap) : Fle (fz Y h) (fz X h) := fun a _ e => ⟨fun x => e.1 (x.imp (s a) id), e.2⟩

inductive D where
  | unk | none | bool (b : Bool) | int (i : Int) | str (s : Str)
  | list (l : List D) | tup (l : List D) | dict (ks : List Int) (vs : List D)
  | any (p : Fz → Value → Prop)

noncomputable def PairsI : List DictEntry → List (Int × Value) → Prop
  | [], [] => True
  | e :: es, kv :: kvs => ((∃ t, e.key = Value.int kv.1 t) ∧ e.hash = hashInt kv.1 ∧ e.val = kv.2) ∧ PairsI es kvs
  | _, _ => False

inductive LRep (g : Fz) (R : List Value → Prop) (v : Value) : Prop
  | mk (a : Addr) (items : Array Value) (n : Nat) (e : v = .ref a) (q : g a { cls := .type "list", data := .seq items n }) (r : R items.toList)
inductive TRep (g : Fz) (R : List Value → Prop) (v : Value) : Prop
  | mk (a : Addr) (items : Array Value) (n : Nat) (dd : Option Addr) (sl : Array (Option Value)) (e : v = .ref a) (q : g a { cls := .type "tuple", dict := dd, data := .seq items n, slots := sl }) (r : R items.toList)
inductive DRep (g : Fz) (R : List Value → Prop) (ks : List Int) (v : Value) : Prop
  | mk (a : Addr) (es : Array DictEntry) (n : Nat) (kvs : List (Int × Value)) (e : v = .ref a) (na : (a == sysModules) = false) (q : g a { cls := .type "dict", data := .dict es n }) (r : R (kvs.map Prod.snd)) (p : PairsI es.toList kvs) (hk : kvs.map Prod.fst = ks) (nd : ks.Nodup)
mutual
noncomputable def D.rep (g : Fz) : D → Value → Prop
  | .unk, _ => True
  | .none, v => v = .none
  | .bool b, v => v = .bool b
  | .int i, v => ∃ t, v = .int i t
  | .str s, v => ∃ t, v = .str s t
  | .list l, v => LRep g (repAll g l) v
  | .tup l, v => TRep g (repAll g l) v
  | .dict ks l, v => DRep g (repAll g l) ks v
  | .any p, v => ∃ g₀, Fle g₀ g ∧ p g₀ v
noncomputable def repAll (g : Fz) : List D → List Value → Prop
  | [], [] => True
  | d :: ds, v :: vs => d.rep g v ∧ repAll g ds vs
  | _, _ => False
end

mutual
theorem D.rep_mono {g g' : Fz} (le : Fle g g') : ∀ (d : D) (v : Value), d.rep g v → d.rep g' v
  | .unk, _, _ => trivial
  | .none, _, h => h
  | .bool _, _, h => h
  | .int _, _, h => h
  | .str _, _, h => h
  | .list l, _, h => h.rec fun a items n e q r => ⟨a, items, n, e, le _ _ q, repAll_mono le l _ r⟩
  | .tup l, _, h => h.rec fun a items n dd sl e q r => ⟨a, items, n, dd, sl, e, le _ _ q, repAll_mono le l _ r⟩
  | .dict _ l, _, h => h.rec fun a es n kvs e na q r p hk nd => ⟨a, es, n, kvs, e, na, le _ _ q, repAll_mono le l _ r, p, hk, nd⟩
  | .any _, _, h => h.imp fun _ h => ⟨h.1.trans le, h.2⟩
theorem repAll_mono {g g' : Fz} (le : Fle g g') : ∀ (ds : List D) (vs : List Value), repAll g ds vs → repAll g' ds vs
  | [], [], _ => trivial
  | d :: ds, v :: vs, h => ⟨D.rep_mono le d v h.1, repAll_mono le ds vs h.2⟩
  | [], _ :: _, h => h.elim
  | _ :: _, [], h => h.elim
end

theorem meas {n i : Nat} (h : i < n) : n + 1 - (i + 1) < n + 1 - i := Nat.sub_lt_sub_left (Nat.lt_succ_of_lt h) (Nat.lt_succ_self i)
theorem max_min_cast {a n : Nat} : max 0 (min (a : Int) n) = ((min a n : Nat) : Int) := by omega
theorem sub_zero_of {n j m d : Nat} (h : d = n + m) (h2 : j - m = 0) : n + j - d = 0 := by rw [h, Nat.add_sub_add_left]; exact h2
theorem repAll0 {g : Fz} {vs : List Value} (h : repAll g [] vs) : vs = [] := by
  cases vs with
  | nil => rfl
  | cons v vs => exact h.elim
theorem repAllC {g : Fz} {d : D} {l : List D} {vs : List Value} (h : repAll g (d :: l) vs) : ∃ v vs', vs = v :: vs' ∧ d.rep g v ∧ repAll g l vs' := by
  cases vs with
  | nil => exact h.elim
  | cons v vs => exact ⟨v, vs, rfl, h.1, h.2⟩
theorem repAll1 {g : Fz} {d : D} {vs : List Value} (h : repAll g [d] vs) : ∃ v, vs = [v] ∧ d.rep g v := by
  obtain ⟨v, ws, rfl, a, r⟩ := repAllC h
  cases repAll0 r
  exact ⟨v, rfl, a⟩
theorem repAll2 {g : Fz} {d1 d2 : D} {vs : List Value} (h : repAll g [d1, d2] vs) : ∃ v1 v2, vs = [v1, v2] ∧ d1.rep g v1 ∧ d2.rep g v2 := by
  obtain ⟨v, ws, rfl, a, r⟩ := repAllC h
  obtain ⟨w, rfl, b⟩ := repAll1 r
  exact ⟨v, w, rfl, a, b⟩
theorem repAll3 {g : Fz} {d1 d2 d3 : D} {vs : List Value} (h : repAll g [d1, d2, d3] vs) : ∃ v1 v2 v3, vs = [v1, v2, v3] ∧ d1.rep g v1 ∧ d2.rep g v2 ∧ d3.rep g v3 := by
  obtain ⟨v, ws, rfl, a, r⟩ := repAllC h
  obtain ⟨w, x, rfl, b⟩ := repAll2 r
  exact ⟨v, w, x, rfl, a, b⟩
theorem repAll4 {g : Fz} {d1 d2 d3 d4 : D} {vs : List Value} (h : repAll g [d1, d2, d3, d4] vs) : ∃ v1 v2 v3 v4, vs = [v1, v2, v3, v4] ∧ d1.rep g v1 ∧ d2.rep g v2 ∧ d3.rep g v3 ∧ d4.rep g v4 := by
  obtain ⟨v, ws, rfl, a, r⟩ := repAllC h
  obtain ⟨w, x, y, rfl, b⟩ := repAll3 r
  exact ⟨v, w, x, y, rfl, a, b⟩
theorem repAll_length {g : Fz} : ∀ {ds : List D} {vs : List Value}, repAll g ds vs → vs.length = ds.length
  | [], [], _ => rfl
  | _ :: _, _ :: _, h => congrArg (· + 1) (repAll_length h.2)
  | [], _ :: _, h => h.elim
  | _ :: _, [], h => h.elim
theorem repAll_get {g : Fz} : ∀ {ds : List D} {vs : List Value}, repAll g ds vs → ∀ {i : Nat} {d : D}, ds[i]? = some d → ∃ v, vs[i]? = some v ∧ d.rep g v
  | _ :: _, _ :: _, h, 0, _, e => by cases e; exact ⟨_, rfl, h.1⟩
  | _ :: _, _ :: _, h, i + 1, _, e => repAll_get h.2 (i := i) e
  | [], _, _, _, _, e => by simp at e
  | _ :: _, [], h, _, _, _ => h.elim
theorem repAll_append {g : Fz} : ∀ {ds ds' : List D} {vs vs' : List Value}, repAll g ds vs → repAll g ds' vs' → repAll g (ds ++ ds') (vs ++ vs')
  | [], _, [], _, _, h' => h'
  | _ :: _, _, _ :: _, _, h, h' => ⟨h.1, repAll_append h.2 h'⟩
  | [], _, _ :: _, _, h, _ => h.elim
  | _ :: _, _, [], _, h, _ => h.elim
theorem repAll_set {g : Fz} : ∀ {ds : List D} {vs : List Value}, repAll g ds vs → ∀ (i : Nat) {d : D} {v : Value}, d.rep g v → repAll g (ds.set i d) (vs.set i v)
  | [], [], _, _, _, _, _ => trivial
  | _ :: _, _ :: _, h, 0, _, _, e => ⟨e, h.2⟩
  | _ :: _, _ :: _, h, i + 1, _, _, e => ⟨h.1, repAll_set h.2 i e⟩
  | [], _ :: _, h, _, _, _, _ => h.elim
  | _ :: _, [], h, _, _, _, _ => h.elim
theorem repAll_take {g : Fz} : ∀ {ds : List D} {vs : List Value}, repAll g ds vs → ∀ (i : Nat), repAll g (ds.take i) (vs.take i)
  | [], [], _, i => by simp [repAll]
  | _ :: _, _ :: _, _, 0 => trivial
  | _ :: _, _ :: _, h, i + 1 => ⟨h.1, repAll_take h.2 i⟩
  | [], _ :: _, h, _ => h.elim
  | _ :: _, [], h, _ => h.elim
theorem repAll_drop {g : Fz} : ∀ {ds : List D} {vs : List Value}, repAll g ds vs → ∀ (i : Nat), repAll g (ds.drop i) (vs.drop i)
  | [], [], _, i => by simp [repAll]
  | _ :: _, _ :: _, h, 0 => h
  | _ :: _, _ :: _, h, i + 1 => repAll_drop h.2 i
  | [], _ :: _, h, _ => h.elim
  | _ :: _, [], h, _ => h.elim
theorem repAll_ints {g : Fz} : ∀ {ns : List Int} {vs : List Value}, repAll g (ns.map D.int) vs → ∀ {i : Nat} {v : Value}, vs[i]? = some v → ∃ n t, ns[i]? = some n ∧ v = .int n t
  | _ :: _, _ :: _, h, 0, _, e => by
    cases e; obtain ⟨t, e⟩ := h.1; exact ⟨_, t, rfl, e⟩
  | _ :: _, _ :: _, h, i + 1, _, e => repAll_ints h.2 (i := i) e
  | [], [], _, _, _, e => by simp at e
  | [], _ :: _, h, _, _, _ => h.elim
  | _ :: _, [], h, _, _, _ => h.elim

noncomputable def D.repO (g : Fz) : D → Option Value → Prop
  | .unk, _ => True
  | d, .some v => d.rep g v
  | _, .none => False
theorem D.repO_some {g : Fz} {d : D} {v : Value} (h : d.rep g v) : d.repO g (some v) := by cases d <;> first | trivial | exact h
theorem D.repO_mono {g g' : Fz} (le : Fle g g') (d : D) (v : Option Value) (h : d.repO g v) : d.repO g' v := by
  cases v with
  | some v => cases d <;> first | trivial | exact D.rep_mono le _ _ h
  | none => cases d <;> first | trivial | exact h

noncomputable def NameKept (env : Env) (x : Str) : Prop := env.kindOf x = some .local ∨ ((env.kindOf x = some .cell ∨ env.kindOf x = some .free) ∧ ∃ c, env.cells.lookup x = some c)
structure EnvOk (env : Env) (X : Addr → Prop) (ns : List Str) : Prop where
  kind : env.scope.kind = .function
  glob : env.globals = mainGlobals
  blt : env.builtins = builtinsNs
  own : X env.locals
  loct : ¬ tb env.locals
  celt : ∀ x a, env.cells.lookup x = some a → ¬ tb a
  apart : env.cells.Pairwise fun x y => x.2 ≠ y.2
  names : ∀ x ∈ ns, NameKept env x ∧ (x == ("__debug__" : Str)) = false ∧ (x == ("__classdict__" : Str)) = false
  nodup : ns.Nodup

noncomputable def slotsOk (g : Fz) (look : Str → Option Value) : List Str → List D → Prop
  | [], [] => True
  | x :: ns, d :: ds => d.repO g (look x) ∧ slotsOk g look ns ds
  | _, _ => False
theorem slotsOk.mono {g g' : Fz} (le : Fle g g') {look} : ∀ {ns : List Str} {ds : List D}, slotsOk g look ns ds → slotsOk g' look ns ds
  | [], [], _ => trivial
  | _ :: _, _ :: _, h => ⟨D.repO_mono le _ _ h.1, slotsOk.mono le h.2⟩
  | [], _ :: _, h => h.elim
  | _ :: _, [], h => h.elim
theorem slotsOk.get {g : Fz} {look} : ∀ {ns : List Str} {ds : List D}, slotsOk g look ns ds → ∀ {i : Nat} {x : Str} {d : D}, ns[i]? = some x → ds[i]? = some d → d.repO g (look x)
  | _ :: _, _ :: _, h, 0, _, _, e, e' => by cases e; cases e'; exact h.1
  | _ :: _, _ :: _, h, i + 1, _, _, e, e' => slotsOk.get h.2 (i := i) e e'
  | [], _, _, _, _, _, e, _ => by simp at e
  | _ :: _, [], h, _, _, _, _, _ => h.elim
theorem slotsOk.congr {g : Fz} {look look' : Str → Option Value} : ∀ {ns : List Str} {ds : List D}, (∀ x ∈ ns, look x = look' x) → slotsOk g look ns ds → slotsOk g look' ns ds
  | [], [], _, _ => trivial
  | x :: _, _ :: _, q, h => ⟨q x (.head _) ▸ h.1, slotsOk.congr (fun y hy => q y (.tail _ hy)) h.2⟩
  | [], _ :: _, _, h => h.elim
  | _ :: _, [], _, h => h.elim
theorem slotsOk.set {g : Fz} {look : Str → Option Value} {x : Str} {v : Value} {d : D} (hd : d.rep g v) : ∀ {ns : List Str} {ds : List D}, ns.Nodup → slotsOk g look ns ds → ∀ {i : Nat}, ns[i]? = some x →
    slotsOk g (fun y => if y = x then some v else look y) ns (ds.set i d)
  | y :: ns, _ :: _, hn, h, 0, e => by
    cases e
    refine ⟨by simp only [if_true]; exact D.repO_some hd, slotsOk.congr (fun z hz => ?_) h.2⟩
    rw [if_neg]; rintro rfl; exact (List.nodup_cons.mp hn).1 hz
  | y :: ns, _ :: _, hn, h, i + 1, e => by
    refine ⟨?_, slotsOk.set hd (List.nodup_cons.mp hn).2 h.2 (i := i) e⟩
    dsimp only
    rw [if_neg]
    · exact h.1
    · rintro rfl
      exact (List.nodup_cons.mp hn).1 (List.mem_of_getElem? e)
  | [], _, _, _, _, e => by simp at e
  | _ :: _, [], _, h, _, _ => h.elim

structure FrS (env : Env) (X : Addr → Prop) (ns : List Str) (ds : List D) (h : Heap) : Prop where
  ok : EnvOk env X ns
  st : ∃ look : Str → Option Value, (∃ m, h.Ns env.locals m ∧ ∀ x, env.kindOf x = some .local → m x = look x) ∧
    (∀ x c, env.cells.lookup x = some c → env.kindOf x ≠ some .local → h.IsCell c (look x)) ∧ slotsOk (fz X h) look ns ds

theorem FrS.keep {env X ns ds h h'} (F : FrS env X ns ds h) (k : Keep h h') : FrS env X ns ds h' := by
  obtain ⟨ok, look, ⟨m, hn, hm⟩, hc, hs⟩ := F
  exact ⟨ok, look, ⟨m, hn.at' fun o e => k.get _ o ok.loct e, hm⟩, fun x c e n => let ⟨o, q, d⟩ := hc x c e n; ⟨o, k.get c o (ok.celt x c e) q, d⟩, hs.mono k.fz⟩

structure Base (H : Heap) (X : Addr → Prop) (h : Heap) : Prop where
  sys : ∃ o, H.get? sysModules = some o
  old : ∀ a o, H.get? a = some o → ¬ (X a ∨ tb a) ∧ h.get? a = some o
  live : ∀ a, X a → Alive h a
  tabs : TabsOk X h
theorem Base.keep {H X h h'} (B : Base H X h) (k : KeepB X h h') : Base H X h' :=
  ⟨B.sys, fun a o e => ⟨(B.old a o e).1, k.keep a o (B.old a o e).1 (B.old a o e).2⟩, fun a x => k.alive (B.live a x), k.tabs X (fun _ x => x) B.live B.tabs⟩
theorem Base.h {H X h} (B : Base H X h) : ∀ a o, H.get? a = some o → h.get? a = some o := fun a o e => (B.old a o e).2
theorem Base.fresh {H X h} (B : Base H X h) {a : Addr} (e : h.get? a = none) : ¬ (X a ∨ tb a) := fun x => by
  obtain ⟨o, y⟩ : Alive h a := x.elim (B.live a) B.tabs.alive
  rw [e] at y; cases y
theorem get?_size_none (h : Heap) (a : Addr) (ha : h.objs.size ≤ a) : h.get? a = none := by
  cases e : h.get? a with
  | none => rfl
  | some o => exact absurd (Heap.lt_size e) (Nat.not_lt.mpr ha)
theorem Base.not_sys {H X h} (B : Base H X h) {a : Addr} (e : h.get? a = none) : (a == sysModules) = false := by
  rw [beq_eq_false_iff_ne]; rintro rfl
  obtain ⟨o, q⟩ := B.sys
  rw [B.h _ _ q] at e; cases e
theorem Base.new {H X h} (B : Base H X h) : ¬ (X h.objs.size ∨ tb h.objs.size) := B.fresh (get?_size_none h _ (Nat.le_refl _))

structure Room (A : Around) (n : Nat) : Prop where
  handled : A.handled = none
  depth : A.depth + n < recursionLimit
  units : A.units + 10 * n < cLine
theorem Room.of_le {A n m} (R : Room A n) (h : m ≤ n) : Room A m := ⟨R.handled, by have := R.depth; (first | lia | omega), by have := R.units; (first | lia | omega)⟩
theorem Room.deeper {A n} (R : Room A (n + 1)) (env : Env) : Room (A.deeper env) n :=
  ⟨R.handled, by have := R.depth; show A.depth + 1 + n < _; (first | lia | omega), by have := R.units; show A.units + 3 + 10 * n < _; (first | lia | omega)⟩
theorem Room.in1 {A n} (R : Room A (n + 1)) : Room A.in1 n := ⟨R.handled, by have := R.depth; show A.depth + n < _; (first | lia | omega), by have := R.units; show A.units + 1 + 10 * n < _; (first | lia | omega)⟩

structure Ext (s s' : Shared) : Prop where
  keep : Keep s.heap s'.heap
  os : s'.os = s.os
  bare : AllBare s.gens → AllBare s'.gens
theorem Ext.refl (s : Shared) : Ext s s := ⟨Keep.refl _, rfl, id⟩
theorem Ext.trans {s s' s'' : Shared} (x : Ext s s') (y : Ext s' s'') : Ext s s'' := ⟨x.keep.trans y.keep, y.os.trans x.os, fun b => y.bare (x.bare b)⟩
theorem Ext.of {s : Shared} {h' : Heap} {tk : Nat} (k : ∀ b o, s.heap.get? b = some o → h'.get? b = some o) : Ext s { s with heap := h', toks := tk } := ⟨.of k, rfl, id⟩
theorem Ext.tok (s : Shared) (tk : Nat) : Ext s { s with toks := tk } := ⟨Keep.refl _, rfl, id⟩
structure ExtF (s s' : Shared) : Prop where
  keep : ∀ b o, s.heap.get? b = some o → s'.heap.get? b = some o
  os : s'.os = s.os
  bare : AllBare s.gens → AllBare s'.gens
theorem ExtF.ext {s s' : Shared} (x : ExtF s s') : Ext s s' := ⟨.of x.keep, x.os, x.bare⟩
theorem ExtF.push (s : Shared) (o : Obj) : ExtF s { s with heap := s.heap.push o } := ⟨fun _ _ e => Heap.get?_push_of_some o e, rfl, id⟩
structure ExtB (X : Addr → Prop) (s s' : Shared) : Prop where
  keep : KeepB X s.heap s'.heap
  os : s'.os = s.os
  bare : AllBare s.gens → AllBare s'.gens
theorem ExtB.refl (X) (s : Shared) : ExtB X s s := ⟨KeepB.refl _ _, rfl, id⟩
theorem ExtB.trans {X} {s s' s'' : Shared} (x : ExtB X s s') (y : ExtB X s' s'') : ExtB X s s'' := ⟨x.keep.trans y.keep, y.os.trans x.os, fun b => y.bare (x.bare b)⟩
theorem Ext.but {X} {s s' : Shared} (x : Ext s s') : ExtB X s s' := ⟨x.keep.but, x.os, x.bare⟩

end Mine
end
/-! ## part A2 -/
section
set_option maxRecDepth 100000
namespace Mine
open PySem PyProof.Rows

structure Cx where
  prog : Program
  w : World
  H : Heap
  A : Around
  X : Addr → Prop
  Y : Addr → Prop
  env : Env
  ns : List Str
  mem : List Addr
  R : Addr → Prop
noncomputable abbrev Cx.M (c : Cx) : Model := model c.prog c.w

noncomputable def cont (g : Fz) : D → Obj → Prop
  | .list l, o => ∃ items n, o = { cls := .type "list", data := .seq items n } ∧ repAll g l items.toList
  | .dict ks l, o => ∃ es n kvs, o = { cls := .type "dict", data := .dict es n } ∧ repAll g l (kvs.map Prod.snd) ∧ PairsI es.toList kvs ∧ kvs.map Prod.fst = ks ∧ ks.Nodup
  | _, _ => True
theorem cont_mono {g g' : Fz} (le : Fle g g') : ∀ {d : D} {o : Obj}, cont g d o → cont g' d o
  | .list _, _, ⟨i, n, e, r⟩ => ⟨i, n, e, repAll_mono le _ _ r⟩
  | .dict _ _, _, ⟨es, n, kvs, e, r, x⟩ => ⟨es, n, kvs, e, repAll_mono le _ _ r, x⟩
  | .unk, _, _ => trivial
  | .none, _, _ => trivial
  | .bool _, _, _ => trivial
  | .int _, _, _ => trivial
  | .str _, _, _ => trivial
  | .tup _, _, _ => trivial
  | .any _, _, _ => trivial
structure MemOk (env : Env) (X : Addr → Prop) (n : Nat) (mem : List Addr) (ds : List D) (h : Heap) : Prop where
  ap : ∀ a ∈ mem, a ≠ env.locals ∧ (∀ x b, env.cells.lookup x = some b → b ≠ a) ∧ X a ∧ ¬ tb a ∧ (a == sysModules) = false
  nodup : mem.Nodup
  ok : ∀ j a d, mem[j]? = some a → ds[n + j]? = some d → ∃ o, h.get? a = some o ∧ cont (fz X h) d o
theorem MemOk.mono {env X X' n mem ds h h'} (m : MemOk env X n mem ds h) (hX : ∀ a ∈ mem, X' a) (k : ∀ a ∈ mem, ∀ o, h.get? a = some o → h'.get? a = some o) (le : Fle (fz X h) (fz X' h')) : MemOk env X' n mem ds h' :=
  ⟨fun a ha => let ⟨p, q, _, r⟩ := m.ap a ha; ⟨p, q, hX a ha, r⟩, m.nodup, fun j a d e e' => let ⟨o, q, r⟩ := m.ok j a d e e'; ⟨o, k a (List.mem_of_getElem? e) o q, cont_mono le r⟩⟩
theorem MemOk.of_nil {env X n ds h} : MemOk env X n [] ds h := ⟨fun _ h => by simp at h, .nil, fun j a d e => by simp at e⟩

structure St (c : Cx) (ds : List D) (s : Shared) : Prop where
  base : Base c.H c.X s.heap
  fr : FrS c.env c.X c.ns (ds.take c.ns.length) s.heap
  sub : ∀ a, c.Y a → c.X a
  mem : MemOk c.env c.X c.ns.length c.mem ds s.heap
  subR : ∀ a, c.R a → c.X a
  memR : ∀ a ∈ c.mem, ¬ c.R a
theorem St.ext {c : Cx} {ds s s'} (S : St c ds s) (x : Ext s s') : St c ds s' := ⟨S.base.keep x.keep.but, S.fr.keep x.keep, S.sub, S.mem.mono (fun a h => (S.mem.ap a h).2.2.1) (fun a h o e => x.keep.get a o (S.mem.ap a h).2.2.2.1 e) x.keep.fz, S.subR, S.memR⟩
theorem take_get {ns : List Str} {ds : List D} {i : Nat} {x : Str} {d : D} (hx : ns[i]? = some x) (hd : ds[i]? = some d) : (ds.take ns.length)[i]? = some d := by
  rw [List.getElem?_take, if_pos (List.getElem?_eq_some_iff.mp hx).1]; exact hd

structure Run {α : Type} (c : Cx) (ds : List D) (t : Sem α) (P : Fz → α → Prop) : Prop where
  run : ∀ s E, St c ds s → wpAny c.M c.A t (fun v s' => Ext s s' ∧ P (fz c.X s'.heap) v) E s
noncomputable abbrev Ev (c : Cx) (ds : List D) (e : Expr) (d : D) : Prop := Run c ds (eval e c.env) (fun g v => d.rep g v)
noncomputable abbrev EvT (c : Cx) (ds : List D) (e : Expr) (b : Bool) : Prop := Run c ds (isTrue e c.env (eval e c.env)) (fun _ v => v = b)

noncomputable def Op1 (c : Cx) (f : Value → Sem Value) (d1 d : D) : Prop :=
  ∀ s E v1, Base c.H c.X s.heap → d1.rep (fz c.X s.heap) v1 → wpAny c.M c.A (f v1) (fun v s' => Ext s s' ∧ d.rep (fz c.X s'.heap) v) E s
noncomputable def Op2 (c : Cx) (f : Value → Value → Sem Value) (d1 d2 d : D) : Prop :=
  ∀ s E v1 v2, Base c.H c.X s.heap → d1.rep (fz c.X s.heap) v1 → d2.rep (fz c.X s.heap) v2 → wpAny c.M c.A (f v1 v2) (fun v s' => Ext s s' ∧ d.rep (fz c.X s'.heap) v) E s
noncomputable def TrueOf (c : Cx) (d : D) (b : Bool) : Prop :=
  ∀ s E v, Base c.H c.X s.heap → d.rep (fz c.X s.heap) v → wpAny c.M c.A (truthy v) (fun r s' => Ext s s' ∧ r = b) E s

variable {c : Cx} {ds : List D}

theorem Ev.cast {e : Expr} {d d' : D} (h : Ev c ds e d) (q : d = d') : Ev c ds e d' := q ▸ h
theorem EvT.cast {e : Expr} {d d' : Bool} (h : EvT c ds e d) (q : d = d') : EvT c ds e d' := q ▸ h

theorem ev_int {i k pos} : Ev c ds (.Constant (.int i) k pos) (.int i) := .mk fun s E _ => wpAny_Constant_int ⟨.tok s _, _, rfl⟩
theorem ev_none {k pos} : Ev c ds (.Constant .none k pos) .none := .mk fun s E _ => wpAny_Constant_none ⟨.refl s, rfl⟩
theorem ev_bool {b k pos} : Ev c ds (.Constant (.bool b) k pos) (.bool b) := .mk fun s E _ => wpAny_Constant_bool ⟨.refl s, rfl⟩
theorem ev_str {x k pos} : Ev c ds (.Constant (.str x) k pos) (.str x) := .mk fun s E _ => wpAny_Constant_str ⟨.tok s _, _, rfl⟩

theorem FrS.load {env X ns h} {i : Nat} {x : Str} {d : D} (F : FrS env X ns ds h) (hx : ns[i]? = some x) (hd : ds[i]? = some d) (hu : ∀ g, ¬ d.repO g .none) {M A} {s : Shared} {Q : Value → Shared → Prop} {E} (hs : s.heap = h)
    (k : ∀ v, d.rep (fz X h) v → Q v s) : wpAny M A (loadName env x) Q E s := by
  subst hs
  obtain ⟨ok, look, ⟨m, hn, hm⟩, hc, hsl⟩ := F
  obtain ⟨nk, _, hcd⟩ := ok.names x (List.mem_of_getElem? hx)
  have r := hsl.get hx hd
  cases hv : look x with
  | none => rw [hv] at r; exact (hu _ r).elim
  | some v =>
    rw [hv] at r
    have r' : d.rep (fz X s.heap) v := by cases d <;> first | trivial | exact r
    rcases nk with l | ⟨l, a, ha⟩
    · exact wpAny_loadName_local ok.kind l hn ((hm x l).trans hv) (k v r')
    · have hcell := hc x a ha (by rcases l with l | l <;> rw [l] <;> simp)
      rw [hv] at hcell
      rcases l with l | l
      · exact wpAny_loadName_cell ok.kind l ha hcell (k v r')
      · exact wpAny_loadName_free ok.kind l ha hcell (k v r') hcd

noncomputable def D.known : D → Bool
  | .unk => false
  | _ => true
theorem D.known_none {d : D} (h : d.known = true) (g : Fz) : ¬ d.repO g .none := by cases d <;> first | (intro h; exact h) | (simp [D.known] at h)

theorem ev_name (i : Nat) {x pos d} (hx : c.ns[i]? = some x) (hd : ds[i]? = some d) (hk : d.known = true) : Ev c ds (.Name x pos) d := .mk fun s E S =>
  wpAny_Name (S.fr.load hx (take_get hx hd) (D.known_none hk) rfl fun _ r => ⟨.refl s, r⟩) (S.fr.ok.names x (List.mem_of_getElem? hx)).2.1

theorem ev_bin {op a b pos d1 d2 d} (h1 : Ev c ds a d1) (h2 : Ev c ds b d2) (ho : Op2 c (binaryOp op) d1 d2 d) : Ev c ds (.BinOp a op b pos) d := .mk fun s E S =>
  wpAny_BinOp (wpAny_mono (h1.run s E S) (fun v1 s1 ⟨e1, r1⟩ => wpAny_mono (h2.run s1 E (S.ext e1)) (fun v2 s2 ⟨e2, r2⟩ =>
    wpAny_mono (ho s2 E v1 v2 ((S.ext e1).ext e2).base (D.rep_mono e2.keep.fz _ _ r1) r2) (fun v s3 ⟨e3, r3⟩ => ⟨(e1.trans e2).trans e3, r3⟩) fun _ _ x => x) fun _ _ x => x) fun _ _ x => x)
theorem ev_un {op a pos d1 d} (h1 : Ev c ds a d1) (ho : Op1 c (unaryOp op) d1 d) : Ev c ds (.UnaryOp op a pos) d := .mk fun s E S =>
  wpAny_UnaryOp (wpAny_mono (h1.run s E S) (fun v1 s1 ⟨e1, r1⟩ => wpAny_mono (ho s1 E v1 (S.ext e1).base r1) (fun v s2 ⟨e2, r2⟩ => ⟨e1.trans e2, r2⟩) fun _ _ x => x) fun _ _ x => x)
theorem ev_cmp {op a b pos d1 d2 d} (h1 : Ev c ds a d1) (h2 : Ev c ds b d2) (ho : Op2 c (compareOp op) d1 d2 d) (hm : behindInMarks op b = false := by rfl) : Ev c ds (.Compare a [op] [b] pos) d := .mk fun s E S =>
  wpAny_Compare1 (wpAny_mono (h1.run s E S) (fun v1 s1 ⟨e1, r1⟩ => wpAny_mono (h2.run s1 E (S.ext e1)) (fun v2 s2 ⟨e2, r2⟩ =>
    wpAny_mono (ho s2 E v1 v2 ((S.ext e1).ext e2).base (D.rep_mono e2.keep.fz _ _ r1) r2) (fun v s3 ⟨e3, r3⟩ => ⟨(e1.trans e2).trans e3, r3⟩) fun _ _ x => x) fun _ _ x => x) fun _ _ x => x) hm
theorem evt_cmp {op a b pos d1 d2} {r : Bool} (h1 : Ev c ds a d1) (h2 : Ev c ds b d2) (ho : Op2 c (compareOp op) d1 d2 (.bool r)) (hm : behindInMarks op b = false := by rfl) : EvT c ds (.Compare a [op] [b] pos) r := .mk fun s E S =>
  wpAny_isTrue_Compare1 (wpAny_mono (h1.run s E S) (fun v1 s1 ⟨e1, r1⟩ => wpAny_mono (h2.run s1 E (S.ext e1)) (fun v2 s2 ⟨e2, r2⟩ =>
    wpAny_mono (ho s2 E v1 v2 ((S.ext e1).ext e2).base (D.rep_mono e2.keep.fz _ _ r1) r2) (fun v s3 zz => by
      obtain ⟨e3, r3⟩ := zz
      cases (show v = .bool r from r3); exact wpAny_truthy_bool ⟨(e1.trans e2).trans e3, rfl⟩) fun _ _ x => x) fun _ _ x => x) fun _ _ x => x) hm
theorem evt_val {e d} {r : Bool} (h1 : Ev c ds e d) (ht : TrueOf c d r) (he : isTrue e c.env (eval e c.env) = (do let v ← eval e c.env; standAt e.pos; holding [v] (truthy v)) := by rfl) : EvT c ds e r := .mk fun s E S =>
  wpAny_isTrue_value (wpAny_mono (h1.run s E S) (fun v1 s1 ⟨e1, r1⟩ => wpAny_mono (ht s1 E v1 (S.ext e1).base r1) (fun v s2 ⟨e2, r2⟩ => ⟨e1.trans e2, r2⟩) fun _ _ x => x) fun _ _ x => x) he

noncomputable abbrev AllT (c : Cx) (ds : List D) (op : BoolOp) (es : List Expr) (b : Bool) : Prop := Run c ds (allTrue op es c.env) (fun _ v => v = b)
theorem allT_and_nil : AllT c ds .And [] true := .mk fun s _ _ => wpAny_allTrue_And_nil ⟨.refl s, rfl⟩
theorem allT_or_nil : AllT c ds .Or [] false := .mk fun s _ _ => wpAny_allTrue_Or_nil ⟨.refl s, rfl⟩
theorem allT_and_cons {e es} {a b : Bool} (h : EvT c ds e a) (h' : a = true → AllT c ds .And es b) : AllT c ds .And (e :: es) (a && b) := .mk fun s E S =>
  wpAny_allTrue_And_cons (wpAny_mono (h.run s E S) (fun v s1 zz => by
    obtain ⟨e1, r1⟩ := zz
    cases r1
    cases hv : a with
    | false => exact ⟨e1, rfl⟩
    | true => exact wpAny_mono ((h' hv).run s1 E (S.ext e1)) (fun v s2 ⟨e2, r2⟩ => ⟨e1.trans e2, by rw [r2]; rfl⟩) fun _ _ x => x) fun _ _ x => x)
theorem allT_or_cons {e es} {a b : Bool} (h : EvT c ds e a) (h' : a = false → AllT c ds .Or es b) : AllT c ds .Or (e :: es) (a || b) := .mk fun s E S =>
  wpAny_allTrue_Or_cons (wpAny_mono (h.run s E S) (fun v s1 zz => by
    obtain ⟨e1, r1⟩ := zz
    cases r1
    cases hv : a with
    | true => exact ⟨e1, rfl⟩
    | false => exact wpAny_mono ((h' hv).run s1 E (S.ext e1)) (fun v s2 ⟨e2, r2⟩ => ⟨e1.trans e2, by rw [r2]; rfl⟩) fun _ _ x => x) fun _ _ x => x)
theorem evt_boolop {op es pos} {r : Bool} (h : AllT c ds op es r) : EvT c ds (.BoolOp op es pos) r := .mk fun s E S => wpAny_isTrue_BoolOp (h.run s E S)

theorem ev_ifexp {t a b pos d} {r : Bool} (ht : EvT c ds t r) (h1 : r = true → Ev c ds a d) (h2 : r = false → Ev c ds b d) : Ev c ds (.IfExp t a b pos) d := .mk fun s E S =>
  wpAny_IfExp (wpAny_mono (ht.run s E S) (fun v s1 zz => by
    obtain ⟨e1, r1⟩ := zz
    cases r1
    cases hv : r with
    | true => exact wpAny_mono ((h1 hv).run s1 E (S.ext e1)) (fun v s2 ⟨e2, r2⟩ => ⟨e1.trans e2, r2⟩) fun _ _ x => x
    | false => exact wpAny_mono ((h2 hv).run s1 E (S.ext e1)) (fun v s2 ⟨e2, r2⟩ => ⟨e1.trans e2, r2⟩) fun _ _ x => x) fun _ _ x => x)

theorem op_add {x y : Int} : Op2 c (binaryOp .Add) (.int x) (.int y) (.int (x + y)) := by
  rintro s E v1 v2 B ⟨t, rfl⟩ ⟨u, rfl⟩; exact PyProof.Rows.add_int ⟨.tok s _, _, rfl⟩
theorem op_sub {x y : Int} : Op2 c (binaryOp .Sub) (.int x) (.int y) (.int (x - y)) := by
  rintro s E v1 v2 B ⟨t, rfl⟩ ⟨u, rfl⟩; exact PyProof.Rows.sub_int ⟨.tok s _, _, rfl⟩
theorem op_mul {x y : Int} (h : IntMulOk x y) : Op2 c (binaryOp .Mult) (.int x) (.int y) (.int (x * y)) := by
  rintro s E v1 v2 B ⟨t, rfl⟩ ⟨u, rfl⟩; exact PyProof.Rows.mul_int ⟨.tok s _, _, rfl⟩ h
theorem op_div {x y : Int} (h : 0 < y) (h2 : y < 1073741824) : Op2 c (binaryOp .FloorDiv) (.int x) (.int y) (.int (x / y)) := by
  rintro s E v1 v2 B ⟨t, rfl⟩ ⟨u, rfl⟩; exact PyProof.Rows.floordiv_int (by (first | lia | omega)) ⟨.tok s _, _, by rw [Int.fdiv_eq_ediv_of_nonneg _ (Int.le_of_lt h)]⟩ (.inl (PyProof.noPylong_small (by (first | lia | omega))))
theorem op_fdiv {x y : Int} (h : y ≠ 0) (h2 : y.natAbs < 1073741824) : Op2 c (binaryOp .FloorDiv) (.int x) (.int y) (.int (x.fdiv y)) := by
  rintro s E v1 v2 B ⟨t, rfl⟩ ⟨u, rfl⟩; exact PyProof.Rows.floordiv_int h ⟨.tok s _, _, rfl⟩ (.inl (PyProof.noPylong_small h2))
theorem op_mod {x y : Int} (h : 0 < y) : Op2 c (binaryOp .Mod) (.int x) (.int y) (.int (x % y)) := by
  rintro s E v1 v2 B ⟨t, rfl⟩ ⟨u, rfl⟩; exact PyProof.Rows.mod_int' (by (first | lia | omega)) ⟨.tok s _, _, by rw [Int.fmod_eq_emod_of_nonneg _ (Int.le_of_lt h)]⟩
theorem op_shr {x n : Int} (h : 0 ≤ n) : Op2 c (binaryOp .RShift) (.int x) (.int n) (.int (x.fdiv (2 ^ n.toNat))) := by
  rintro s E v1 v2 B ⟨t, rfl⟩ ⟨u, rfl⟩; exact PyProof.Rows.rshift_int h ⟨.tok s _, _, rfl⟩
theorem op_shl {x n : Int} (h : 0 ≤ n) (h2 : n ≤ 1000000) (ha : x.natAbs < 2 ^ 64) : Op2 c (binaryOp .LShift) (.int x) (.int n) (.int (x * 2 ^ n.toNat)) := by
  rintro s E v1 v2 B ⟨t, rfl⟩ ⟨u, rfl⟩; exact PyProof.Rows.lshift_int_small h h2 ha ⟨.tok s _, _, rfl⟩
theorem op_and {x y : Int} : Op2 c (binaryOp .BitAnd) (.int x) (.int y) (.int (Builtin.bitAnd x y)) := by
  rintro s E v1 v2 B ⟨t, rfl⟩ ⟨u, rfl⟩; exact PyProof.Rows.and_int ⟨.tok s _, _, rfl⟩
theorem op_or {x y : Int} : Op2 c (binaryOp .BitOr) (.int x) (.int y) (.int (Builtin.bitOr x y)) := by
  rintro s E v1 v2 B ⟨t, rfl⟩ ⟨u, rfl⟩; exact PyProof.Rows.or_int ⟨.tok s _, _, rfl⟩
theorem op_neg {x : Int} : Op1 c (unaryOp .USub) (.int x) (.int (-x)) := by
  rintro s E v1 B ⟨t, rfl⟩; exact PyProof.Rows.neg_int ⟨.tok s _, _, rfl⟩
theorem op_lt {x y : Int} : Op2 c (compareOp .Lt) (.int x) (.int y) (.bool (decide (x < y))) := by
  rintro s E v1 v2 B ⟨t, rfl⟩ ⟨u, rfl⟩; exact PyProof.Rows.lt_int ⟨.refl s, rfl⟩
theorem op_gt {x y : Int} : Op2 c (compareOp .Gt) (.int x) (.int y) (.bool (decide (y < x))) := by
  rintro s E v1 v2 B ⟨t, rfl⟩ ⟨u, rfl⟩; exact PyProof.Rows.gt_int ⟨.refl s, rfl⟩
theorem op_ge {x y : Int} : Op2 c (compareOp .GtE) (.int x) (.int y) (.bool (decide (y ≤ x))) := by
  rintro s E v1 v2 B ⟨t, rfl⟩ ⟨u, rfl⟩; exact PyProof.Rows.ge_int ⟨.refl s, rfl⟩
theorem op_eq {x y : Int} : Op2 c (compareOp .Eq) (.int x) (.int y) (.bool (x == y)) := by
  rintro s E v1 v2 B ⟨t, rfl⟩ ⟨u, rfl⟩; exact PyProof.Rows.eq_int ⟨.refl s, rfl⟩
theorem op_ne {x y : Int} : Op2 c (compareOp .NotEq) (.int x) (.int y) (.bool (x != y)) := by
  rintro s E v1 v2 B ⟨t, rfl⟩ ⟨u, rfl⟩; exact PyProof.Rows.ne_int ⟨.refl s, rfl⟩
theorem op_isnot_bool {x y : Bool} : Op2 c (compareOp .IsNot) (.bool x) (.bool y) (.bool (x != y)) := by
  rintro s E v1 v2 B rfl rfl
  exact wpAny_isNot_plain rfl ⟨.refl s, by cases x <;> cases y <;> rfl⟩
theorem op_is_none_none : Op2 c (compareOp .Is) .none .none (.bool true) := by
  rintro s E v1 v2 B rfl rfl
  exact PySem.is_none ⟨.refl s, rfl⟩
noncomputable def D.notNone : D → Bool
  | .unk => false | .none => false | .any _ => false
  | _ => true
theorem op_is_none {d : D} (h : d.notNone = true) : Op2 c (compareOp .Is) d .none (.bool false) := by
  rintro s E v1 v2 B h1 rfl
  refine PySem.is_none ⟨.refl s, ?_⟩
  cases d <;> first | (simp [D.notNone] at h; done) | (obtain ⟨_, h1⟩ := h1; subst h1; rfl) | (cases (show v1 = _ from h1); rfl) | (obtain ⟨_, _, _, h1, _⟩ := h1; subst h1; rfl) | (obtain ⟨_, _, _, _, h1, _⟩ := h1; subst h1; rfl) | (obtain ⟨_, _, _, _, _, h1, _⟩ := h1; subst h1; rfl)

theorem true_int {x : Int} : TrueOf c (.int x) (x != 0) := by
  rintro s E v B ⟨t, rfl⟩; exact PyProof.Rows.truthy_int ⟨.refl s, rfl⟩
theorem true_bool {x : Bool} : TrueOf c (.bool x) x := by
  rintro s E v B rfl; exact wpAny_truthy_bool ⟨.refl s, rfl⟩
theorem fz_isList {X : Addr → Prop} {h : Heap} {a : Addr} {items : Array Value} {n : Nat} (e : fz X h a { cls := .type "list", data := .seq items n }) : h.IsList a items := ⟨_, e.2, rfl, n, rfl⟩
theorem fz_isTuple {X : Addr → Prop} {h : Heap} {a : Addr} {items : Array Value} {n : Nat} {dd : Option Addr} {sl : Array (Option Value)} (e : fz X h a { cls := .type "tuple", dict := dd, data := .seq items n, slots := sl }) : h.IsTuple a items := ⟨_, e.2, rfl, n, rfl⟩
theorem true_list {l : List D} (h : l.length ≤ 2 ^ 20) : TrueOf c (.list l) (!l.isEmpty) := by
  rintro s E v B ⟨a, items, n, rfl, ha, hr⟩
  have hlen : items.size = l.length := by rw [← repAll_length hr]; simp
  refine wpAny_truthy_list (fz_isList ha) (by rw [hlen]; (first | lia | omega)) ⟨⟨Keep.refl _, rfl, id⟩, ?_⟩
  cases items with | mk is => cases is <;> cases l <;> simp_all

end Mine
end
/-! ## part A3 -/
section
set_option maxRecDepth 100000
namespace Mine
open PySem PyProof.Rows
variable {c : Cx} {ds : List D}

noncomputable abbrev D.val (v : Value) : D := .any (fun _ u => u = v)
theorem rep_val {g : Fz} {v : Value} : (D.val v).rep g v := ⟨g, Fle.refl g, rfl⟩
theorem of_val {g : Fz} {v u : Value} (h : (D.val v).rep g u) : u = v := let ⟨_, _, e⟩ := h; e
noncomputable def GlobIs (H : Heap) (x : Str) (v : Value) : Prop := ∃ m, H.Ns mainGlobals m ∧ m x = some v
noncomputable def BltIs (H : Heap) (x : Str) (v : Value) : Prop := ∃ m mb, H.Ns mainGlobals m ∧ m x = none ∧ H.Ns builtinsNs mb ∧ mb x = some v
theorem ev_glob {x pos} {v : Value} {d : D} (hk : c.env.kindOf x = some .globalImplicit) (hg : GlobIs c.H x v) (hd : ∀ g, d.rep g v) (hx : (x == ("__debug__" : Str)) = false) : Ev c ds (.Name x pos) d := .mk fun s E S => by
  obtain ⟨m, hn, hv⟩ := hg
  refine wpAny_Name ?_ hx
  rw [loadName_read S.fr.ok.kind hk]
  exact Calls.loadGlobal_global (by rw [S.fr.ok.glob]; exact hn.keeps S.base.h) hv ⟨.refl s, hd _⟩
theorem ev_blt {x pos} {v : Value} {d : D} (hk : c.env.kindOf x = some .globalImplicit) (hg : BltIs c.H x v) (hd : ∀ g, d.rep g v) (hx : (x == ("__debug__" : Str)) = false) : Ev c ds (.Name x pos) d := .mk fun s E S => by
  obtain ⟨m, mb, hn, hm, hb, hv⟩ := hg
  refine wpAny_Name ?_ hx
  rw [loadName_read S.fr.ok.kind hk]
  exact Calls.loadGlobal_builtin (by rw [S.fr.ok.glob]; exact hn.keeps S.base.h) hm (by rw [S.fr.ok.blt]; exact hb.keeps S.base.h) hv ⟨.refl s, hd _⟩

noncomputable abbrev EvL (c : Cx) (ds : List D) (pos : Pos) (es : List Expr) (l : List D) : Prop := Run c ds (spliced (backTo pos (starEach es c.env))) (fun g vs => repAll g l vs)
theorem evl_nil {pos} : EvL c ds pos [] [] := .mk fun s E S => wpAny_items_nil ⟨.refl s, trivial⟩
theorem evl_cons {pos e es d l} (h : Ev c ds e d) (h' : EvL c ds pos es l) (he : starEach (e :: es) c.env = (false, eval e c.env) :: starEach es c.env := by rfl) : EvL c ds pos (e :: es) (d :: l) := .mk fun s E S =>
  wpAny_items_cons (wpAny_mono (h.run s E S) (fun v s1 ⟨e1, r1⟩ => wpAny_mono (h'.run s1 E (S.ext e1)) (fun vs s2 ⟨e2, r2⟩ => ⟨e1.trans e2, D.rep_mono e2.keep.fz _ _ r1, r2⟩) fun _ _ x => x) fun _ _ x => x) he
theorem new_fz {X : Addr → Prop} {H h : Heap} (B : Base H X h) {o : Obj} (ho : o.isFreed = false) : fz X (h.push o) h.objs.size o := ⟨B.new, Heap.get?_push_size _ ho⟩
theorem Ext.push (s : Shared) (o : Obj) : Ext s { s with heap := s.heap.push o } := ⟨Keep.push _ _, rfl, id⟩
theorem rep_new_list {X : Addr → Prop} {H h : Heap} (B : Base H X h) {l : List D} {vs : List Value} (r : repAll (fz X h) l vs) : (D.list l).rep (fz X (h.push { cls := .type "list", data := .seq vs.toArray })) (.ref h.objs.size) :=
  ⟨_, _, _, rfl, new_fz B rfl, repAll_mono (Keep.push _ _).fz _ _ (by simpa using r)⟩
theorem rep_new_tup {X : Addr → Prop} {H h : Heap} (B : Base H X h) {l : List D} {vs : List Value} (r : repAll (fz X h) l vs) : (D.tup l).rep (fz X (h.push { cls := .type "tuple", data := .seq vs.toArray })) (.ref h.objs.size) :=
  ⟨_, _, _, _, _, rfl, new_fz B rfl, repAll_mono (Keep.push _ _).fz _ _ (by simpa using r)⟩
theorem ev_list {pos es l} (h : EvL c ds pos es l) (hl : l.length ≤ 2 ^ 20) : Ev c ds (.List es pos) (.list l) := .mk fun s E S =>
  wpAny_List (wpAny_mono (h.run s E S) (fun vs s1 ⟨e1, r1⟩ => ⟨by rw [repAll_length r1, sizeLine_eq]; (first | lia | omega), e1.trans (.push s1 _), rep_new_list (S.ext e1).base r1⟩) fun _ _ x => x)
theorem ev_tup {pos k es l} (h : EvL c ds pos es l) (hl : l.length ≤ 2 ^ 20) : Ev c ds (.Tuple es k pos) (.tup l) := .mk fun s E S =>
  wpAny_Tuple (wpAny_mono (h.run s E S) (fun vs s1 ⟨e1, r1⟩ => ⟨by rw [repAll_length r1, sizeLine_eq]; (first | lia | omega), e1.trans (.push s1 _), rep_new_tup (S.ext e1).base r1⟩) fun _ _ x => x)

theorem op_cat_list {l l' : List D} (hl : l.length + l'.length ≤ 2 ^ 20) : Op2 c (binaryOp .Add) (.list l) (.list l') (.list (l ++ l')) := by
  rintro s E v1 v2 B ⟨a, items, n, rfl, ha, hr⟩ ⟨a', items', n', rfl, ha', hr'⟩
  have e1 := repAll_length hr
  have e2 := repAll_length hr'
  simp only [Array.length_toList] at e1 e2
  refine concat_meets ⟨_, ha.2, rfl⟩ ⟨_, ha'.2, rfl⟩ noFill_list_add seq_list_add PySem.F.slot_list_add PySem.F.entry_list_add (PySem.F.args_list_add_2 _ _) (list_addW a a' items items' n n' none none #[] #[] (by rw [e1, e2, sizeLine_eq]; (first | lia | omega))) ⟨ha.2, ha'.2, ?_⟩
  refine ⟨.push s _, ?_⟩
  have q : items ++ items' = (items.toList ++ items'.toList).toArray := by simp
  rw [q]
  exact rep_new_list B (repAll_append hr hr')
theorem op_cat_tup {l l' : List D} (hl : l.length + l'.length ≤ 2 ^ 20) (h1 : l ≠ []) (h2 : l' ≠ []) : Op2 c (binaryOp .Add) (.tup l) (.tup l') (.tup (l ++ l')) := by
  rintro s E v1 v2 B ⟨a, items, n, dd, sl, rfl, ha, hr⟩ ⟨a', items', n', dd', sl', rfl, ha', hr'⟩
  have e1 := repAll_length hr
  have e2 := repAll_length hr'
  simp only [Array.length_toList] at e1 e2
  have p1 : 0 < l.length := List.length_pos_iff.mpr h1
  have p2 : 0 < l'.length := List.length_pos_iff.mpr h2
  refine concat_meets ⟨_, ha.2, rfl⟩ ⟨_, ha'.2, rfl⟩ PySem.noFill_tuple_add PySem.seq_tuple_add PySem.F.slot_tuple_add PySem.F.entry_tuple_add (PySem.F.args_tuple_add_2 _ _) (tuple_addW2 a a' items items' n n' dd dd' sl sl' (by rw [Array.isEmpty_iff_size_eq_zero]; (first | lia | omega)) (by rw [Array.isEmpty_iff_size_eq_zero]; (first | lia | omega)) (by rw [e1, e2, sizeLine_eq]; (first | lia | omega))) ⟨ha.2, ha'.2, ?_⟩
  refine ⟨.push s _, ?_⟩
  have q : items ++ items' = (items.toList ++ items'.toList).toArray := by simp
  rw [q]
  exact rep_new_tup B (repAll_append hr hr')

theorem ev_sub {value slice pos d1 d2 d} (h1 : Ev c ds value d1) (h2 : Ev c ds slice d2) (ho : Op2 c (subscriptTail value slice) d1 d2 d) : Ev c ds (.Subscript value slice pos) d := .mk fun s E S =>
  Subscript_ (wpAny_mono (h1.run s E S) (fun v1 s1 ⟨e1, r1⟩ => wpAny_mono (h2.run s1 E (S.ext e1)) (fun v2 s2 ⟨e2, r2⟩ =>
    wpAny_mono (ho s2 E v1 v2 ((S.ext e1).ext e2).base (D.rep_mono e2.keep.fz _ _ r1) r2) (fun v s3 ⟨e3, r3⟩ => ⟨(e1.trans e2).trans e3, r3⟩) fun _ _ x => x) fun _ _ x => x) fun _ _ x => x)
noncomputable def notSlice : Expr → Bool
  | .Slice .. => false
  | _ => true
theorem subscripted_plain {slice : Expr} (h : notSlice slice = true) (o i : Value) : subscripted slice false o i = operate [o, i] (getItem o i) := by
  unfold subscripted
  split
  · simp [notSlice] at h
  · rename_i q; cases q
  · rfl
theorem op_item_list {value slice : Expr} {l : List D} {k : Int} {d : D} (h0 : 0 ≤ k) (hk : k < 2 ^ 63) (hd : l[k.toNat]? = some d) (hs : notSlice slice = true := by rfl) : Op2 c (subscriptTail value slice) (.list l) (.int k) d := by
  rintro s E v1 v2 B ⟨a, items, n, rfl, ha, hr⟩ ⟨u, rfl⟩
  obtain ⟨v, hv, rv⟩ := repAll_get hr hd
  exact tail_any (fz_isList ha).typeIs slot_list_getitem.lookup (wpAny_getItem_list (fz_isList ha) h0 hk (by simpa using hv) ⟨.refl s, rv⟩) (subscripted_plain hs _ _)
theorem seqIndex_nat {k : Int} {n : Nat} (h0 : 0 ≤ k) (h : k.toNat < n) : seqIndex? k n = some k.toNat := by
  unfold seqIndex?
  have : ¬ k < 0 := by (first | lia | omega)
  simp only [this, if_false]
  rw [if_pos]
  simp only [Bool.and_eq_true, decide_eq_true_eq]; (first | lia | omega)
theorem op_item_tup {value slice : Expr} {l : List D} {k : Int} {d : D} (h0 : 0 ≤ k) (hk : k < 2 ^ 63) (hd : l[k.toNat]? = some d) (hs : notSlice slice = true := by rfl) : Op2 c (subscriptTail value slice) (.tup l) (.int k) d := by
  rintro s E v1 v2 B ⟨a, items, n, dd, sl, rfl, ha, hr⟩ ⟨u, rfl⟩
  obtain ⟨v, hv, rv⟩ := repAll_get hr hd
  have hlt : k.toNat < items.size := by
    have := (List.getElem?_eq_some_iff.mp hv).1; simpa using this
  exact tail_any (fz_isTuple ha).typeIs slot_tuple_getitem.lookup (PyProof.Rows.getItem_tuple (fz_isTuple ha) (by (first | lia | omega)) hk (seqIndex_nat h0 hlt) (by simpa using hv) ⟨.refl s, rv⟩) (subscripted_plain hs _ _)

theorem slice_core (items : Array Value) (a b : Nat) : slicePick items (some a) (some b) none = ((items.toList.take b).drop a).toArray := by
  have e : sliceBounds (some (a : Int)) (some (b : Int)) none items.size = (((min a items.size : Nat) : Int), ((min b items.size : Nat) : Int), 1) := by
    simp only [sliceBounds, Option.getD_none]
    have h1 : ¬ ((a : Int) < 0) := by (first | lia | omega)
    have h2 : ¬ ((b : Int) < 0) := by (first | lia | omega)
    simp only [h1, h2, if_false, show (1 : Int) > 0 by decide, if_true]
    congr 1
    · exact max_min_cast
    · congr 1; exact max_min_cast
  unfold slicePick
  rw [e]
  simp only [sliceRange_one, pick_run]
  congr 1
  rw [List.drop_take]
  by_cases ha : a ≤ items.size
  · rw [Nat.min_eq_left ha]
    by_cases hb : b ≤ items.size
    · rw [Nat.min_eq_left hb]
    · rw [Nat.min_eq_right (show items.size ≤ b by (first | lia | omega))]
      rw [List.take_of_length_le (by simp), List.take_of_length_le (by simp; (first | lia | omega))]
  · rw [List.drop_eq_nil_of_le (show items.toList.length ≤ a by simp; (first | lia | omega)), List.take_nil]
    rw [Nat.min_eq_right (show items.size ≤ a by (first | lia | omega)), List.drop_eq_nil_of_le (by simp), List.take_nil]
theorem slice_upto (items : Array Value) (b : Nat) : slicePick items none (some b) none = (items.toList.take b).toArray := by
  have e : sliceBounds none (some (b : Int)) none items.size = (((0 : Nat) : Int), ((min b items.size : Nat) : Int), 1) := by
    simp only [sliceBounds, Option.getD_none]
    have h2 : ¬ ((b : Int) < 0) := by (first | lia | omega)
    simp only [h2, if_false, show (1 : Int) > 0 by decide, if_true]
    congr 1
    congr 1; (first | lia | omega)
  unfold slicePick
  rw [e]
  simp only [sliceRange_one, pick_run]
  congr 1
  rw [List.drop_zero, Nat.sub_zero]
  by_cases hb : b ≤ items.size
  · rw [Nat.min_eq_left hb]
  · rw [Nat.min_eq_right (by (first | lia | omega)), List.take_of_length_le (by simp), List.take_of_length_le (by simp; (first | lia | omega))]

theorem ev_slice_upto {value hi p pos l} {b : Int} (h1 : Ev c ds value (.list l)) (h2 : Ev c ds hi (.int b)) (hb : 0 ≤ b) (hl : l.length ≤ 2 ^ 20) :
    Ev c ds (.Subscript value (.Slice none (some hi) none p) pos) (.list (l.take b.toNat)) := .mk fun s E S => by
  refine Subscript_ (wpAny_mono (h1.run s E S) (fun v1 s1 ⟨e1, r1⟩ => wpAny_Slice ?_) fun _ _ x => x)
  rw [evalPart_none]
  refine wpAny_pure ?_
  rw [evalPart_some]
  refine wpAny_mono (h2.run s1 E (S.ext e1)) (fun v2 s2 zz => ?_) fun _ _ x => x
  obtain ⟨e2, r2⟩ := zz
  refine wpAny_pure ?_
  obtain ⟨t, rfl⟩ := r2
  have r1' := D.rep_mono e2.keep.fz _ _ r1
  obtain ⟨a, items, n, rfl, ha, hr⟩ := r1'
  have B := ((S.ext e1).ext e2).base
  have e3 := repAll_length hr
  simp only [Array.length_toList] at e3
  obtain ⟨b, rfl⟩ := Int.eq_ofNat_of_zero_le hb
  refine tail_any (ops := [_, _]) ((fz_isList ha).push _).typeIs slot_list_getitem.lookup (wpAny_getItem_list_slice ((fz_isList ha).push _) (Heap.IsSliceOf.new ..) .none (.int _ _) .none (by simp) ?_ (by rw [e3, sizeLine_eq]; (first | lia | omega))) (by rfl)
  refine ⟨(e1.trans e2).trans ((Ext.push s2 _).trans (Ext.push _ _)), ?_⟩
  rw [slice_upto]
  exact rep_new_list (B.keep (Keep.push _ _).but) (repAll_mono (Keep.push _ _).fz _ _ (repAll_take hr b))
theorem ev_slice {value lo hi p pos l} {a b : Int} (h1 : Ev c ds value (.list l)) (h2 : Ev c ds lo (.int a)) (h3 : Ev c ds hi (.int b)) (hza : 0 ≤ a) (hzb : 0 ≤ b) (hl : l.length ≤ 2 ^ 20) :
    Ev c ds (.Subscript value (.Slice (some lo) (some hi) none p) pos) (.list ((l.take b.toNat).drop a.toNat)) := .mk fun s E S => by
  refine Subscript_ (wpAny_mono (h1.run s E S) (fun v1 s1 ⟨e1, r1⟩ => wpAny_Slice ?_) fun _ _ x => x)
  rw [evalPart_some]
  refine wpAny_mono (h2.run s1 E (S.ext e1)) (fun v2 s2 zz => ?_) fun _ _ x => x
  obtain ⟨e2, r2⟩ := zz
  rw [evalPart_some]
  refine wpAny_mono (h3.run s2 E ((S.ext e1).ext e2)) (fun v3 s3 zz => ?_) fun _ _ x => x
  obtain ⟨e3, r3⟩ := zz
  rw [evalPart_none]
  refine wpAny_pure ?_
  obtain ⟨t, rfl⟩ := r2
  obtain ⟨u, rfl⟩ := r3
  obtain ⟨x, items, n, rfl, ha, hr⟩ := D.rep_mono (e2.trans e3).keep.fz _ _ r1
  have B := (((S.ext e1).ext e2).ext e3).base
  have e4 := repAll_length hr
  simp only [Array.length_toList] at e4
  obtain ⟨a, rfl⟩ := Int.eq_ofNat_of_zero_le hza
  obtain ⟨b, rfl⟩ := Int.eq_ofNat_of_zero_le hzb
  refine tail_any (ops := [_, _]) ((fz_isList ha).push _).typeIs slot_list_getitem.lookup (wpAny_getItem_list_slice ((fz_isList ha).push _) (Heap.IsSliceOf.new ..) (.int _ _) (.int _ _) .none (by simp) ?_ (by rw [e4, sizeLine_eq]; (first | lia | omega))) (by rfl)
  refine ⟨((e1.trans e2).trans e3).trans ((Ext.push s3 _).trans (Ext.push _ _)), ?_⟩
  rw [slice_core]
  exact rep_new_list (B.keep (Keep.push _ _).but) (repAll_mono (Keep.push _ _).fz _ _ (repAll_drop (repAll_take hr b) a))

theorem repAll_replicate {g : Fz} {l : List D} {vs : List Value} (h : repAll g l vs) : ∀ k acc accv, repAll g acc accv.toList → repAll g (acc ++ (List.replicate k l).flatten) (List.foldl (fun (x1 x2 : Array Value) => x1 ++ x2) accv (List.replicate k vs.toArray)).toList
  | 0, acc, accv, ha => by simpa using ha
  | k + 1, acc, accv, ha => by
    rw [List.replicate_succ, List.replicate_succ, List.foldl_cons, List.flatten_cons, ← List.append_assoc]
    exact repAll_replicate h k _ _ (by simpa using repAll_append ha h)
theorem op_rep_list {l : List D} {k : Int} (h0 : 0 ≤ k) (hk : k ≤ 1000) (h1 : l ≠ []) (hl : l.length ≤ 1000) : Op2 c (binaryOp .Mult) (.list l) (.int k) (.list (List.replicate k.toNat l).flatten) := by
  rintro s E v1 v2 B ⟨a, items, n, rfl, ha, hr⟩ ⟨u, rfl⟩
  have e1 := repAll_length hr
  simp only [Array.length_toList] at e1
  have p1 : 0 < l.length := List.length_pos_iff.mpr h1
  have hz : items.size * k.toNat ≤ 1000 * 1000 := Nat.mul_le_mul (by (first | lia | omega)) (by (first | lia | omega))
  refine wpAny_binaryOp_repeat_ref (T := "list") (U := "int") (by decide) ⟨_, ha.2, rfl⟩ (fun s' => typeIs_int s' k u) noFill_list_mul F.fills_int_mul F.slot_int_rmul repeat_list F.slot_int_index.lookup
    (call_meets F.slot_int_rmul (typeIs_int s k u) F.entry_int_rmul (F.args_int_rmul_2 _ _) (int___rmul___int_list k u a items n)
      ⟨ha.2, rfl, ⟨_, ha.2, rfl⟩, call_meets F.slot_list_mul ⟨_, ha.2, rfl⟩ F.entry_list_mul (F.args_list_mul_2 _ _)
        (AutoListH.list___mul___list_int_3 a items n k u (by simp [Builtin.List.listFitsIndex]; (first | lia | omega)) (by (first | lia | omega)) (by simp [Builtin.List.listTooLong, sizeLine]; (first | lia | omega)))
        ⟨ha.2, ?_⟩⟩)
  refine ⟨.push s _, ?_⟩
  rw [if_neg (by rw [Array.isEmpty_iff_size_eq_zero]; (first | lia | omega))]
  have r := repAll_replicate (g := fz c.X s.heap) hr k.toNat [] #[] trivial
  rw [List.nil_append] at r
  exact rep_new_list (vs := (List.foldl (fun (x1 x2 : Array Value) => x1 ++ x2) #[] (List.replicate k.toNat items)).toList) B r

end Mine
end
/-! ## part A4 -/
section
set_option maxRecDepth 100000
namespace Mine
open PySem PyProof.Rows
variable {c : Cx} {ds : List D}

mutual
noncomputable def D.py : D → PyData
  | .none => .none | .bool b => .bool b | .int i => .int i | .str s => .str s
  | .list l => .list (pyAll l) | .tup l => .tuple (pyAll l)
  | .unk => .none | .dict _ _ => .none | .any _ => .none
noncomputable def pyAll : List D → List PyData
  | [] => []
  | d :: ds => d.py :: pyAll ds
end
mutual
noncomputable def D.plain : D → Bool
  | .none => true | .bool _ => true | .int _ => true | .str _ => true
  | .list l => plainAll l | .tup l => plainAll l
  | .unk => false | .dict _ _ => false | .any _ => false
noncomputable def plainAll : List D → Bool
  | [] => true
  | d :: ds => d.plain && plainAll ds
end
mutual
theorem reads_of {X : Addr → Prop} {h : Heap} : ∀ (d : D) (v : Value), d.plain = true → d.rep (fz X h) v → ∃ as, Reads h v d.py as
  | .none, _, _, e => by cases (show _ = Value.none from e); exact ⟨_, .none⟩
  | .bool b, _, _, e => by cases (show _ = Value.bool b from e); exact ⟨_, .bool b⟩
  | .int i, _, _, h => by obtain ⟨t, rfl⟩ := h; exact ⟨_, .int i t⟩
  | .str x, _, _, h => by obtain ⟨t, rfl⟩ := h; exact ⟨_, .str x t⟩
  | .list l, _, p, h => by
    obtain ⟨a, items, n, rfl, q, r⟩ := h
    obtain ⟨as, z⟩ := readsAll_of l _ (by simpa [D.plain] using p) r
    exact ⟨_, .list q.2 rfl rfl z⟩
  | .tup l, _, p, h => by
    obtain ⟨a, items, n, dd, sl, rfl, q, r⟩ := h
    obtain ⟨as, z⟩ := readsAll_of l _ (by simpa [D.plain] using p) r
    exact ⟨_, .tuple q.2 rfl rfl z⟩
  | .unk, _, p, _ => by simp [D.plain] at p
  | .dict _ _, _, p, _ => by simp [D.plain] at p
  | .any _, _, p, _ => by simp [D.plain] at p
theorem readsAll_of {X : Addr → Prop} {h : Heap} : ∀ (ds : List D) (vs : List Value), plainAll ds = true → repAll (fz X h) ds vs → ∃ as, ReadsAll h vs (pyAll ds) as
  | [], [], _, _ => ⟨_, .nil⟩
  | d :: ds, v :: vs, p, r => by
    simp only [plainAll, Bool.and_eq_true] at p
    obtain ⟨as, z⟩ := reads_of d v p.1 r.1
    obtain ⟨bs, y⟩ := readsAll_of ds vs p.2 r.2
    exact ⟨_, .cons z y⟩
  | [], _ :: _, _, r => r.elim
  | _ :: _, [], _, r => r.elim
end
theorem op_eqd {d1 d2 : D} (R : Room c.A 10) (p1 : d1.plain = true) (p2 : d2.plain = true) (s1 : SeqAt.shaped d1.py = true) (s2 : SeqAt.shaped d2.py = true) : Op2 c (compareOp .Eq) d1 d2 (.bool (PyData.eqv d1.py d2.py)) := by
  intro s E v1 v2 B r1 r2
  obtain ⟨as, z1⟩ := reads_of d1 v1 p1 r1
  obtain ⟨bs, z2⟩ := reads_of d2 v2 p2 r2
  exact SeqAt.compareEq_shaped z1 z2 s1 s2 (by have := R.units; (first | lia | omega)) ⟨.refl s, rfl⟩
theorem op_ned {d1 d2 : D} (R : Room c.A 10) (p1 : d1.plain = true) (p2 : d2.plain = true) (s1 : SeqAt.shaped d1.py = true) (s2 : SeqAt.shaped d2.py = true) : Op2 c (compareOp .NotEq) d1 d2 (.bool (!PyData.eqv d1.py d2.py)) := by
  intro s E v1 v2 B r1 r2
  obtain ⟨as, z1⟩ := reads_of d1 v1 p1 r1
  obtain ⟨bs, z2⟩ := reads_of d2 v2 p2 r2
  exact SeqAt.compareNe_shaped z1 z2 s1 s2 (by have := R.units; (first | lia | omega)) ⟨.refl s, rfl⟩

noncomputable abbrev D.ints (ns : List Int) : D := .list (ns.map D.int)
theorem py_ints : ∀ ns : List Int, pyAll (ns.map D.int) = ns.map PyData.int
  | [] => rfl
  | n :: ns => by simp [pyAll, D.py, py_ints ns]
theorem plain_ints : ∀ ns : List Int, plainAll (ns.map D.int) = true
  | [] => rfl
  | n :: ns => by simp [plainAll, D.plain, plain_ints ns]
theorem op_eq_ints {ns ms : List Int} (R : Room c.A 10) : Op2 c (compareOp .Eq) (.ints ns) (.ints ms) (.bool (decide (ns = ms))) := by
  have h := op_eqd (c := c) (d1 := .ints ns) (d2 := .ints ms) R (by simp [D.plain, plain_ints]) (by simp [D.plain, plain_ints]) (by simp only [D.py, py_ints]; exact PySem.W.ke_shaped_ints ns) (by simp only [D.py, py_ints]; exact PySem.W.ke_shaped_ints ms)
  simp only [D.py, py_ints, PyData.eqv, PySem.W.ked_eqvAll] at h
  exact h
theorem op_ne_ints {ns ms : List Int} (R : Room c.A 10) : Op2 c (compareOp .NotEq) (.ints ns) (.ints ms) (.bool (!decide (ns = ms))) := by
  have h := op_ned (c := c) (d1 := .ints ns) (d2 := .ints ms) R (by simp [D.plain, plain_ints]) (by simp [D.plain, plain_ints]) (by simp only [D.py, py_ints]; exact PySem.W.ke_shaped_ints ns) (by simp only [D.py, py_ints]; exact PySem.W.ke_shaped_ints ms)
  simp only [D.py, py_ints, PyData.eqv, PySem.W.ked_eqvAll] at h
  exact h

noncomputable def Same (c : Cx) (d d' : D) : Prop :=
  ∀ A s v v', Room A 5 → Base c.H c.X s.heap → d.rep (fz c.X s.heap) v → d'.rep (fz c.X s.heap) v' → SeqAt.EqAt A s v v' true
theorem same_int (i : Int) : Same c (.int i) (.int i) := by
  rintro A s v v' R B ⟨t, rfl⟩ ⟨u, rfl⟩ prog w E Q h
  exact wpAny_eqBool_int (by simpa using h)

theorem pairsI_to {prog : Program} {w : World} : ∀ {es : List DictEntry} {kvs : List (Int × Value)}, PairsI es kvs → Pairs (intKind prog w) es kvs ∧ ∀ e ∈ es, ∃ k, (intKind prog w).is k e.key = true ∧ e.hash = (intKind prog w).hash k
  | [], [], _ => ⟨.nil, by simp⟩
  | e :: es, kv :: kvs, ⟨⟨⟨t, hk⟩, hh, hv⟩, r⟩ => by
    obtain ⟨p, q⟩ := pairsI_to (prog := prog) (w := w) r
    have hi : (intKind prog w).is kv.1 e.key = true := by rw [hk]; simp [intKind, Value.isInt]
    refine ⟨.cons hi hv p, fun e' he' => ?_⟩
    rcases List.mem_cons.mp he' with rfl | he'
    · exact ⟨kv.1, hi, hh⟩
    · exact q e' he'
  | [], _ :: _, h => h.elim
  | _ :: _, [], h => h.elim
theorem pairsI_of {prog : Program} {w : World} : ∀ {es : List DictEntry} {kvs : List (Int × Value)}, Pairs (intKind prog w) es kvs → (∀ e ∈ es, ∃ k, (intKind prog w).is k e.key = true ∧ e.hash = (intKind prog w).hash k) → PairsI es kvs
  | _, _, .nil, _ => trivial
  | e :: es, kv :: kvs, .cons hk hv p, q => by
    refine ⟨⟨Value.isInt_shape hk, ?_, hv⟩, pairsI_of p fun e he => q e (.tail _ he)⟩
    obtain ⟨k, h1, h2⟩ := q e (.head _)
    have : k = kv.1 := Value.isInt_inj _ _ _ h1 hk
    rw [h2, this]; rfl
theorem dictOf_to {prog : Program} {w : World} {X : Addr → Prop} {h : Heap} {a : Addr} {es : Array DictEntry} {n : Nat} {kvs : List (Int × Value)} (e : fz X h a { cls := .type "dict", data := .dict es n }) (p : PairsI es.toList kvs) (nd : (kvs.map Prod.fst).Nodup) :
    h.DictOf (intKind prog w) a kvs := by
  obtain ⟨p1, p2⟩ := pairsI_to (prog := prog) (w := w) p
  exact ⟨_, es, n, e.2, ⟨rfl, rfl, rfl⟩, rfl, fun x hx => p2 x (Array.mem_toList_iff.mpr hx), p1, nd⟩
theorem dictOf_of {prog : Program} {w : World} {h : Heap} {a : Addr} {kvs : List (Int × Value)} (d : h.DictOf (intKind prog w) a kvs) :
    ∃ es n, h.get? a = some { cls := .type "dict", data := .dict es n } ∧ PairsI es.toList kvs ∧ (kvs.map Prod.fst).Nodup := by
  obtain ⟨⟨cl, dd, dt, sl⟩, es, n, ho, ⟨h1, h2, h3⟩, hd, hk, p, nd⟩ := d
  simp only at h1 h2 h3 hd
  subst h1 h2 h3 hd
  exact ⟨es, n, ho, pairsI_of p fun e he => hk e (Array.mem_toList_iff.mp he), nd⟩
theorem rep_dict_to (prog : Program) (w : World) {X : Addr → Prop} {h : Heap} {ks : List Int} {l : List D} {v : Value} (r : (D.dict ks l).rep (fz X h) v) :
    ∃ a kvs, v = .ref a ∧ (a == sysModules) = false ∧ ¬ (X a ∨ tb a) ∧ h.DictOf (intKind prog w) a kvs ∧ kvs.map Prod.fst = ks ∧ repAll (fz X h) l (kvs.map Prod.snd) ∧ ks.Nodup := by
  obtain ⟨a, es, n, kvs, rfl, na, e, r, p, q, nd⟩ := r
  exact ⟨a, kvs, rfl, na, e.1, dictOf_to e p (q ▸ nd), q, r, nd⟩
theorem rep_dict_of {prog : Program} {w : World} {X : Addr → Prop} {h : Heap} {ks : List Int} {l : List D} {a : Addr} {kvs : List (Int × Value)} (na : (a == sysModules) = false) (hX : ¬ (X a ∨ tb a)) (d : h.DictOf (intKind prog w) a kvs) (q : kvs.map Prod.fst = ks)
    (r : repAll (fz X h) l (kvs.map Prod.snd)) : (D.dict ks l).rep (fz X h) (.ref a) := by
  obtain ⟨es, n, e, p, nd⟩ := dictOf_of d
  exact ⟨a, es, n, kvs, rfl, na, ⟨hX, e⟩, r, p, q, q ▸ nd⟩

noncomputable def dget : List Int → List D → Int → Option D
  | k :: ks, d :: ds, x => if k = x then some d else dget ks ds x
  | _, _, _ => none
theorem dget_valueAt {g : Fz} : ∀ {kvs : List (Int × Value)} {ks : List Int} {l : List D}, kvs.map Prod.fst = ks → repAll g l (kvs.map Prod.snd) → ∀ x,
    (match dget ks l x, valueAt kvs x with | some d, some v => d.rep g v | none, none => True | _, _ => False)
  | [], _, [], rfl, _, _ => by simp [dget, valueAt]
  | kv :: kvs, _, d :: l, rfl, r, x => by
    have ih := dget_valueAt (kvs := kvs) rfl r.2 x
    simp only [List.map_cons, dget, valueAt, List.find?_cons]
    by_cases hx : kv.1 = x
    · simp only [hx, if_true, decide_true, Option.map_some]; exact r.1
    · simp only [hx, if_false, decide_false]; exact ih
  | [], _, _ :: _, rfl, r, _ => by simp [repAll] at r
  | _ :: _, _, [], rfl, r, _ => by simp [repAll] at r
theorem dget_some {g : Fz} {kvs : List (Int × Value)} {ks : List Int} {l : List D} (q : kvs.map Prod.fst = ks) (r : repAll g l (kvs.map Prod.snd)) {x : Int} {d : D} (h : dget ks l x = some d) : ∃ v, valueAt kvs x = some v ∧ d.rep g v := by
  have := dget_valueAt q r x
  rw [h] at this
  cases hv : valueAt kvs x with
  | none => rw [hv] at this; exact this.elim
  | some v => rw [hv] at this; exact ⟨v, rfl, this⟩
theorem dget_get : ∀ {ks : List Int} {l : List D}, ks.Nodup → ∀ {i : Nat} {k : Int} {d : D}, ks[i]? = some k → l[i]? = some d → dget ks l k = some d
  | k :: ks, _ :: l, nd, 0, _, _, h, h' => by cases h; cases h'; simp [dget]
  | k :: ks, _ :: l, nd, i + 1, x, _, h, h' => by
    have h : ks[i]? = some x := h
    rw [dget, if_neg]
    · exact dget_get (List.nodup_cons.mp nd).2 h h'
    · rintro rfl; exact (List.nodup_cons.mp nd).1 (List.mem_of_getElem? h)
  | [], _, _, _, _, _, h, _ => by simp at h
  | _ :: _, [], _, _, _, _, _, h => by simp at h
theorem dget_isSome {g : Fz} {kvs : List (Int × Value)} {ks : List Int} {l : List D} (q : kvs.map Prod.fst = ks) (r : repAll g l (kvs.map Prod.snd)) (x : Int) : (valueAt kvs x).isSome = (dget ks l x).isSome := by
  have := dget_valueAt q r x
  cases hv : valueAt kvs x <;> cases hd : dget ks l x <;> simp_all

theorem op_item_dict {value slice : Expr} {ks : List Int} {l : List D} {x : Int} {d : D} (h : dget ks l x = some d) (hs : notSlice slice = true := by rfl) : Op2 c (subscriptTail value slice) (.dict ks l) (.int x) d := by
  rintro s E v1 v2 B r ⟨u, rfl⟩
  obtain ⟨a, kvs, rfl, na, hX, hd, q, r, nd⟩ := rep_dict_to c.prog c.w r
  obtain ⟨v, hv, rv⟩ := dget_some q r h
  exact tail_any hd.typeIs slot_dict_getitem.lookup (wpAny_getItem_of (k := x) (by simp [intKind, Value.isInt]) hd.mapOf hv ⟨.tok s _, rv⟩) (subscripted_plain hs _ _)
theorem op_in_ints {ns : List Int} {x : Int} : Op2 c (compareOp .In) (.int x) (.ints ns) (.bool (decide (x ∈ ns))) := by
  rintro s E v1 v2 B ⟨u, rfl⟩ ⟨a, items, n, rfl, ha, hr⟩
  refine SeqAt.in_listAt (Value.isInt x) (fz_isList ha) (fun y hy => ?_) ⟨.refl s, ?_⟩
  · obtain ⟨i, hi⟩ := List.mem_iff_getElem?.mp (Array.mem_toList_iff.mpr hy)
    obtain ⟨m, t, hm, rfl⟩ := repAll_ints hr hi
    exact fun prog w E Q h => wpAny_eqBool_int (by simpa [Value.isInt] using h)
  · show _ = _
    congr 1
    rw [Bool.eq_iff_iff, Array.any_eq_true, decide_eq_true_iff]
    constructor
    · rintro ⟨i, hi, e⟩
      obtain ⟨m, t, hm, q⟩ := repAll_ints hr (i := i) (v := items[i]) (by simp)
      rw [q] at e
      have : m = x := by simpa [Value.isInt] using e
      exact this ▸ List.mem_of_getElem? hm
    · intro hx
      obtain ⟨i, hi⟩ := List.mem_iff_getElem?.mp hx
      obtain ⟨v, hv, t, q⟩ := repAll_get hr (d := .int x) (i := i) (by simp [hi])
      have hlt : i < items.size := by simpa using (List.getElem?_eq_some_iff.mp hv).1
      refine ⟨i, hlt, ?_⟩
      have : items[i] = v := by
        have := hv; rw [Array.getElem?_toList, Array.getElem?_eq_getElem hlt] at this; exact Option.some.inj this
      rw [this, q]; simp [Value.isInt]

theorem same_dict {ks ks' : List Int} {ns ns' : List Int} (hl : ks.length = ks'.length) (h : ∀ k n, dget ks (ns.map .int) k = some (.int n) → dget ks' (ns'.map .int) k = some (.int n)) (hlen : ks.length = ns.length) :
    Same c (.dict ks (ns.map .int)) (.dict ks' (ns'.map .int)) := by
  rintro A s v v' R B ⟨a, es, n, kvs, rfl, na, ha, r, hp, q, nd⟩ ⟨a', es', n', kvs', rfl, na', ha', r', hp', q', nd'⟩
  by_cases e : a = a'
  · subst e; exact SeqAt.EqAt.same _
  · refine SeqAt.EqAt.of_refs e fun prog w E Q hQ => ?_
    have kl : kvs.length = kvs'.length := by
      have e1 := congrArg List.length q
      have e2 := congrArg List.length q'
      simp only [List.length_map] at e1 e2
      (first | lia | omega)
    have key : ∀ p ∈ kvs, ∃ n t t', p.2 = .int n t ∧ valueAt kvs' p.1 = some (.int n t') := by
      intro p hp
      obtain ⟨i, hi⟩ := List.mem_iff_getElem?.mp hp
      have h2 : (kvs.map Prod.snd)[i]? = some p.2 := by rw [List.getElem?_map, hi]; rfl
      obtain ⟨n, t, hn, e2⟩ := repAll_ints r h2
      have h1 : ks[i]? = some p.1 := by rw [← q, List.getElem?_map, hi]; rfl
      have hg : dget ks (ns.map .int) p.1 = some (.int n) := dget_get nd h1 (by rw [List.getElem?_map, hn]; rfl)
      obtain ⟨v, hv, t', e3⟩ := dget_some q' r' (h _ _ hg)
      exact ⟨n, t, t', e2, by rw [hv, e3]⟩
    have hits : ∀ l : List (Int × Value), (∀ p ∈ l, ∃ n t t', p.2 = .int n t ∧ valueAt kvs' p.1 = some (.int n t')) → PySem.W.KeqHits A.in1 s kvs' l true := by
      intro l
      induction l with
      | nil => intro _; exact .nil
      | cons p ps ih =>
        intro key
        obtain ⟨n, t, t', e2, hv⟩ := key p (.head _)
        obtain ⟨k, v⟩ := p
        simp only at e2 hv
        subst e2
        exact PySem.W.KeqHits.hit (e := true) (b := true) hv (fun prog w E Q h => wpAny_eqBool_int (by simpa using h)) (ih fun p hp => key p (.tail _ hp))
    exact PySem.W.keq_eq (r := true) na na' (dictOf_to (prog := prog) (w := w) ha hp (q ▸ nd)) (dictOf_to ha' hp' (q' ▸ nd')) (by have := R.units; (first | lia | omega)) (fun _ => hits kvs key) (by simpa [kl] using hQ)

noncomputable def SameAll (c : Cx) : List D → List D → Prop
  | [], [] => True
  | d :: ds, d' :: ds' => Same c d d' ∧ SameAll c ds ds'
  | _, _ => False
theorem SameAll.get {g : Fz} : ∀ {l l' : List D} {vs vs' : List Value}, SameAll c l l' → repAll g l vs → repAll g l' vs' → ∀ {j : Nat} {v v' : Value}, vs[j]? = some v → vs'[j]? = some v' → ∃ d d', Same c d d' ∧ d.rep g v ∧ d'.rep g v'
  | _ :: _, _ :: _, _ :: _, _ :: _, h, r, r', 0, _, _, e, e' => by cases e; cases e'; exact ⟨_, _, h.1, r.1, r'.1⟩
  | _ :: _, _ :: _, _ :: _, _ :: _, h, r, r', j + 1, _, _, e, e' => SameAll.get h.2 r.2 r'.2 (j := j) e e'
  | [], [], [], [], _, _, _, _, _, _, e, _ => by simp at e
  | [], _ :: _, _, _, h, _, _, _, _, _, _, _ => h.elim
  | _ :: _, [], _, _, h, _, _, _, _, _, _, _ => h.elim
  | [], _, _ :: _, _, _, r, _, _, _, _, _, _ => r.elim
  | _ :: _, _, [], _, _, r, _, _, _, _, _, _ => r.elim
  | _, [], _, _ :: _, _, _, r, _, _, _, _, _ => r.elim
  | _, _ :: _, _, [], _, _, r, _, _, _, _, _ => r.elim
theorem SameAll.length : ∀ {l l' : List D}, SameAll c l l' → l.length = l'.length
  | [], [], _ => rfl
  | _ :: _, _ :: _, h => congrArg (· + 1) (SameAll.length h.2)
  | [], _ :: _, h => h.elim
  | _ :: _, [], h => h.elim
theorem op_ne_tup_same {l l' : List D} (R : Room c.A 10) (h : SameAll c l l') : Op2 c (compareOp .NotEq) (.tup l) (.tup l') (.bool false) := by
  rintro s E v1 v2 B ⟨a, items, n, dd, sl, rfl, ha, hr⟩ ⟨a', items', n', dd', sl', rfl, ha', hr'⟩
  have e1 := repAll_length hr
  have e2 := repAll_length hr'
  have e3 := h.length
  simp only [Array.length_toList] at e1 e2
  refine SeqAt.RcNeAt.tuples (e := fun _ => true) (fz_isTuple ha) (fz_isTuple ha') (by have := R.units; (first | lia | omega)) (fun j h1 h2 => ?_) c.prog c.w E _ ⟨.refl s, ?_⟩
  · obtain ⟨d, d', hs, x, x'⟩ := h.get hr hr' (j := j) (v := items[j]) (v' := items'[j]) (by simp) (by simp)
    exact hs _ _ _ _ ((R.of_le (by (first | lia | omega) : 6 ≤ 10)).in1) B x x'
  · show _ = _
    have : items.size = items'.size := by (first | lia | omega)
    simp [this]

end Mine
end
/-! ## part A5 -/
section
set_option maxRecDepth 100000
namespace Mine
open PySem PyProof.Rows
variable {c : Cx} {ds : List D}

noncomputable def Owns (env : Env) (X : Addr → Prop) (x : Str) : Prop := (env.kindOf x = some .local ∧ X env.locals) ∨ (env.kindOf x = some .cell ∧ ∃ a, env.cells.lookup x = some a ∧ X a)

theorem cell_ne_ns {h : Heap} {a b : Addr} {m : Str → Option Value} {v : Option Value} (hn : h.Ns a m) (hc : h.IsCell b v) : b ≠ a := by
  rintro rfl
  obtain ⟨o, es, ep, e, q, _⟩ := hn
  obtain ⟨o', e', q'⟩ := hc
  rw [e] at e'; cases e'; rw [q] at q'; cases q'

structure StB (c : Cx) (ds : List D) (s s' : Shared) : Prop where
  st : St c ds s'
  ext : ExtB c.Y s s'
theorem StB.trans {ds ds' s s' s''} (x : StB c ds s s') (y : StB c ds' s' s'') : StB c ds' s s'' := ⟨y.st, x.ext.trans y.ext⟩
theorem StB.fz {ds' s s'} (x : StB c ds' s s') : Fle (fz c.X s.heap) (fz c.X s'.heap) := (x.ext.keep.mono x.st.sub).fz
theorem StB.of_ext {s s' s''} {ds'} (x : Ext s s') (y : StB c ds' s' s'') : StB c ds' s s'' := ⟨y.st, x.but.trans y.ext⟩

theorem store {s : Shared} {E : Value → Shared → Prop} {x : Str} {v : Value} {d : D} {i : Nat} {Q : Unit → Shared → Prop} (S : St c ds s) (hx : c.ns[i]? = some x) (ho : Owns c.env c.Y x) (r : d.rep (fz c.X s.heap) v)
    (k : ∀ s', StB c (ds.set i d) s s' → Q () s') : wpAny c.M c.A (storeName c.env x v) Q E s := by
  obtain ⟨ok, look, ⟨m, hn, hm⟩, hc, hsl⟩ := S.fr
  have hsl' : ∀ {g : Fz} {v : Value}, d.rep g v → slotsOk g look c.ns (ds.take c.ns.length) → slotsOk g (fun y => if y = x then some v else look y) c.ns ((ds.set i d).take c.ns.length) := fun {g v} r q => by
    rw [List.take_set]; exact slotsOk.set r ok.nodup q hx
  have hmem : ∀ {h' : Heap}, (∀ a ∈ c.mem, ∀ o, s.heap.get? a = some o → h'.get? a = some o) → Fle (fz c.X s.heap) (fz c.X h') → MemOk c.env c.X c.ns.length c.mem (ds.set i d) h' := fun {h'} k le =>
    have M := S.mem.mono (fun a h => (S.mem.ap a h).2.2.1) k le
    ⟨M.ap, M.nodup, fun j a d' e e' => M.ok j a d' e (by rwa [List.getElem?_set_ne (by have := (List.getElem?_eq_some_iff.mp hx).1; (first | lia | omega))] at e')⟩
  rcases ho with ⟨l, hX⟩ | ⟨l, a, ha, hX⟩
  · refine wpAny_storeName_local l hn (fun h' hn' hs => k _ ?_) (by rw [ok.kind]; rfl)
    have kb₀ : KeepB c.Y s.heap h' := .of_same hs hX ok.loct ⟨_, hn'.choose_spec.choose_spec.choose_spec.1⟩
    have kb : KeepB c.X s.heap h' := kb₀.mono S.sub
    refine ⟨⟨S.base.keep kb, ⟨ok, fun y => if y = x then some v else look y, ⟨_, hn', fun y hy => ?_⟩, fun y b hb ny => ?_, ?_⟩, S.sub, hmem (fun a ha o e => (hs.2 a (S.mem.ap a ha).1).trans e) kb.fz, S.subR, S.memR⟩, ⟨kb₀, rfl, id⟩⟩
    · dsimp only; split
      · rfl
      · exact hm y hy
    · have hyx : y ≠ x := by rintro rfl; exact ny l
      have := hc y b hb ny
      simp only [if_neg hyx]
      exact this.sameBut hs (cell_ne_ns hn this)
    · exact (hsl' r hsl).mono kb.fz
  · have nl : c.env.kindOf x ≠ some .local := by rw [l]; simp
    have hcx := hc x a ha nl
    refine wpAny_storeName_cell ok.kind l ha hcx fun h' hc' hs => k _ ?_
    have kb₀ : KeepB c.Y s.heap h' := .of_same hs hX (ok.celt x a ha) ⟨_, hc'.choose_spec.1⟩
    have kb : KeepB c.X s.heap h' := kb₀.mono S.sub
    refine ⟨⟨S.base.keep kb, ⟨ok, fun y => if y = x then some v else look y, ⟨m, hn.sameBut hs (Ne.symm (cell_ne_ns hn hcx)), fun y hy => ?_⟩, fun y b hb ny => ?_, ?_⟩, S.sub, hmem (fun b hb o e => (hs.2 b (Ne.symm ((S.mem.ap b hb).2.1 x a ha))).trans e) kb.fz, S.subR, S.memR⟩, ⟨kb₀, rfl, id⟩⟩
    · have hyx : y ≠ x := by rintro rfl; exact nl hy
      simp only [if_neg hyx]; exact hm y hy
    · by_cases hyx : y = x
      · subst hyx
        rw [ha] at hb; cases hb
        simp only [if_true]; exact hc'
      · simp only [if_neg hyx]
        refine (hc y b hb ny).sameBut hs ?_
        rintro rfl
        exact hyx (name_of_addr ok.apart (mem_of_lookup hb) (mem_of_lookup ha))
    · exact (hsl' r hsl).mono kb.fz

structure AsT (c : Cx) (ds : List D) (t : Expr) (d : D) (ds' : List D) : Prop where
  run : ∀ s E v, St c ds s → d.rep (fz c.X s.heap) v → wpAny c.M c.A (assign t c.env v) (fun _ s' => StB c ds' s s') E s
theorem as_name (i : Nat) {x pos d} (hx : c.ns[i]? = some x) (ho : Owns c.env c.Y x) : AsT c ds (.Name x pos) d (ds.set i d) := .mk fun s E v S r =>
  wpAny_assign_Name (store S hx ho r fun s' y => y)

noncomputable def AsL (c : Cx) : List D → List Expr → List D → List D → Prop
  | ds, [], [], ds' => ds' = ds
  | ds, t :: ts, d :: l, ds' => ∃ ds₁, AsT c ds t d ds₁ ∧ AsL c ds₁ ts l ds'
  | _, _, _, _ => False
noncomputable def noStar : List Expr → Bool
  | [] => true
  | .Starred .. :: _ => false
  | _ :: r => noStar r
theorem assignEach_plain (env : Env) : ∀ ts : List Expr, noStar ts = true → assignEach ts env = ts.map fun t => (false, assign t env)
  | [], _ => by rw [arm_assignEach_nil]; rfl
  | t :: ts, h => by
    have h2 : noStar ts = true ∧ assignEach (t :: ts) env = (false, assign t env) :: assignEach ts env := by
      cases t <;> first | (simp [noStar] at h; done) | exact ⟨h, rfl⟩
    rw [h2.2, assignEach_plain env ts h2.1]; rfl
theorem asL_run : ∀ {ts : List Expr} {l : List D} {ds ds' : List D} {vs : List Value} {s : Shared} {E : Value → Shared → Prop}, AsL c ds ts l ds' → St c ds s → repAll (fz c.X s.heap) l vs →
    wpAny c.M c.A (assignInOrder (ts.map fun t => assign t c.env) vs) (fun _ s' => StB c ds' s s') E s
  | [], [], _, _, [], s, E, h, S, _ => by
    cases (show _ = _ from h)
    exact wpAny_pure ⟨S, .refl _ _⟩
  | t :: ts, d :: l, _, _, v :: vs, s, E, ⟨ds₁, h1, h2⟩, S, r => by
    show wpAny _ _ (do holding vs (assign t c.env v); assignInOrder (ts.map fun t => assign t c.env) vs) _ _ _
    refine wpAny_bind (wpAny_holding (wpAny_mono (h1.run s E v S r.1) (fun _ s1 b => ?_) fun _ _ x => x))
    exact wpAny_mono (asL_run h2 b.st (repAll_mono b.fz _ _ r.2)) (fun _ s2 b2 => b.trans b2) fun _ _ x => x
  | [], _ :: _, _, _, _, _, _, h, _, _ => h.elim
  | _ :: _, [], _, _, _, _, _, h, _, _ => h.elim
  | [], [], _, _, _ :: _, _, _, _, _, r => r.elim
  | _ :: _, _ :: _, _, _, [], _, _, _, _, r => r.elim
theorem AsL.length : ∀ {ts : List Expr} {l ds ds' : List D}, AsL c ds ts l ds' → ts.length = l.length
  | [], [], _, _, _ => rfl
  | _ :: _, _ :: _, _, _, ⟨_, _, h⟩ => congrArg (· + 1) (AsL.length h)
  | [], _ :: _, _, _, h => h.elim
  | _ :: _, [], _, _, h => h.elim
theorem ext_of_extBut {s : Shared} {h' : Heap} (e : Heap.ExtBut s.heap.objs.size s.heap h') : Keep s.heap h' := .of fun b o x => e b o (Nat.ne_of_lt (Heap.lt_size x)) x
theorem as_tup {ts k pos l ds'} (R : Room c.A 1) (h : AsL c ds ts l ds') (hs : noStar ts = true := by rfl) : AsT c ds (.Tuple ts k pos) (.tup l) ds' := by
  refine ⟨?_⟩
  rintro s E v S ⟨a, items, n, dd, sl, rfl, ha, hr⟩
  have e1 := repAll_length hr
  simp only [Array.length_toList] at e1
  have e2 := assignEach_plain c.env ts hs
  refine wpAny_assign_Tuple R.handled (fz_isTuple ha) (by rw [e2, List.length_map, h.length, e1]) (by rw [e2]; simp) fun h' he => ?_
  rw [e2, List.map_map]
  have k := ext_of_extBut he
  have x : Ext s { s with heap := h' } := ⟨k, rfl, id⟩
  exact wpAny_mono (asL_run h (S.ext x) (repAll_mono k.fz _ _ hr)) (fun _ s' b => .of_ext x b) fun _ _ x => x

section
variable {prog : Program} {w : World} {A : Around} {E : Value → Shared → Prop} {s : Shared}
theorem draw_list {it t : Addr} {items : Array Value} (hne : t ≠ it) : ∀ (n i : Nat) (s : Shared) (Q : List Value → Shared → Prop), s.heap.IsListIter it t i → s.heap.IsList t items → i + n ≤ items.size →
    (∀ h', h'.IsListIter it t (i + n) → Heap.SameBut it s.heap h' → Q ((items.toList.drop i).take n) { s with heap := h' }) → wpAny (model prog w) A (draw (.ref it) n) Q E s
  | 0, i, s, Q, hit, _, _, hQ => by
    show wpAny _ _ (pure []) Q E s
    exact wpAny_pure (by simpa using hQ s.heap hit (Heap.SameBut.refl ..))
  | n + 1, i, s, Q, hit, ht, hle, hQ => by
    have hlt : i < items.size := by (first | lia | omega)
    show wpAny _ _ (pyNext (.ref it) >>= _) Q E s
    refine wpAny_bind (wpAny_pyNext_list_item hit ht (x := items[i]) (by simp [hlt]) fun h₁ hit₁ hs₁ => ?_)
    refine wpAny_bind (wpAny_holding (draw_list hne n (i + 1) _ _ hit₁ (ht.extBut hs₁.extBut hne) (by (first | lia | omega)) fun h₂ hit₂ hs₂ => wpAny_pure ?_))
    have hd : items.toList.drop i = items[i] :: items.toList.drop (i + 1) := by simp [List.drop_eq_getElem_cons, hlt]
    have := hQ h₂ (by rw [show i + (n + 1) = i + 1 + n by (first | lia | omega)]; exact hit₂) (hs₁.trans hs₂)
    rw [hd, List.take_succ_cons] at this
    exact this
theorem unpackItems_list {t : Addr} {items : Array Value} {Q : List Value → Shared → Prop} (hh : A.handled = none) (ht : s.heap.IsList t items)
    (hQ : ∀ h', Heap.ExtBut s.heap.objs.size s.heap h' → Q items.toList { s with heap := h' }) : wpAny (model prog w) A (unpackItems (.ref t) items.size none) Q E s := by
  have hlt : t ≠ s.heap.objs.size := by obtain ⟨o, ho, _⟩ := ht; exact Nat.ne_of_lt (Heap.lt_size ho)
  unfold unpackItems
  refine wpAny_bind ?_
  · unfold notIterableAtAll
    refine wpAny_bind (wpAny_specialOf ht.typeIs slot_list_iter.lookup ?_)
    refine wpAny_pure ?_
    simp only [Bool.false_eq_true, if_false]
    refine wpAny_bind (wpAny_holding (wpAny_pyIter_list ht ?_))
    refine wpAny_bind (wpAny_holding (draw_list hlt items.size 0 _ _ ⟨_, Heap.get?_push_size _ rfl, rfl, rfl⟩ (ht.push _) (by (first | lia | omega)) fun h₁ hit₁ hs₁ => ?_))
    have hall : List.take items.size (List.drop 0 items.toList) = items.toList := by
      rw [List.drop_zero]; exact List.take_of_length_le (by simp)
    rw [hall]
    rw [if_neg (by simp)]
    have ht₁ : h₁.IsList t items := (ht.push _).extBut hs₁.extBut hlt
    refine wpAny_bind (wpAny_holding (wpAny_pyNext_list_end hh hit₁ ht₁ (by simp) fun h₂ he₂ => ?_))
    simp only [Option.isSome_none, Bool.false_eq_true, if_false]
    refine wpAny_pure (hQ h₂ fun b o hb e => he₂ b o hb (hs₁.extBut b o hb (Heap.get?_push_of_some _ e)))
end
theorem as_list {ts k pos l ds'} (R : Room c.A 1) (h : AsL c ds ts l ds') (hs : noStar ts = true := by rfl) : AsT c ds (.Tuple ts k pos) (.list l) ds' := by
  refine ⟨?_⟩
  rintro s E v S ⟨a, items, n, rfl, ha, hr⟩
  have e1 := repAll_length hr
  simp only [Array.length_toList] at e1
  have e2 := assignEach_plain c.env ts hs
  rw [arm_assign_Tuple]
  refine wpAny_bind (wpAny_standAt ?_)
  unfold unpack
  rw [show (assignEach ts c.env).length = items.size by rw [e2, List.length_map, h.length, e1], show (assignEach ts c.env).findIdx? (·.1) = none by rw [e2]; simp]
  refine wpAny_bind (wpAny_holding (unpackItems_list R.handled (fz_isList ha) fun h' he => ?_))
  rw [e2, List.map_map]
  have k := ext_of_extBut he
  have x : Ext s { s with heap := h' } := ⟨k, rfl, id⟩
  exact wpAny_mono (asL_run h (S.ext x) (repAll_mono k.fz _ _ hr)) (fun _ s' b => .of_ext x b) fun _ _ x => x

inductive Fl where
  | next | brk | cont | ret (d : D)
noncomputable def Fl.rep (g : Fz) : Fl → Flow → Prop
  | .next, f => f = .next
  | .brk, f => f = .brk
  | .cont, f => f = .cont
  | .ret d, f => ∃ v, f = .ret v ∧ d.rep g v
inductive Post (c : Cx) (s : Shared) (Q : Fl → List D → Prop) (f : Flow) (s' : Shared) : Prop
  | mk (fl : Fl) (ds' : List D) (r : fl.rep (fz c.R s'.heap) f) (b : StB c ds' s s') (q : Q fl ds')
structure Ex (c : Cx) (ds : List D) (t : Sem Flow) (Q : Fl → List D → Prop) : Prop where
  run : ∀ s E, St c ds s → wpAny c.M c.A t (Post c s Q) E s
theorem Ex.mono {t : Sem Flow} {Q Q' : Fl → List D → Prop} (h : Ex c ds t Q) (k : ∀ f d, Q f d → Q' f d) : Ex c ds t Q' := .mk fun s E S =>
  wpAny_mono (h.run s E S) (fun f s' ⟨fl, ds', a, b, q⟩ => ⟨fl, ds', a, b, k _ _ q⟩) fun _ _ x => x

theorem ex_nil {Q} (h : Q .next ds) : Ex c ds (execs [] c.env) Q := .mk fun s E S => wpAny_execs_nil ⟨.next, ds, rfl, ⟨S, .refl _ _⟩, h⟩
theorem ex_cons {st rest Q} (h : Ex c ds (exec st c.env) (fun fl ds' => match fl with | .next => Ex c ds' (execs rest c.env) Q | fl => Q fl ds')) : Ex c ds (execs (st :: rest) c.env) Q := .mk fun s E S =>
  wpAny_execs_cons (wpAny_mono (h.run s E S) (fun f s1 zz => by
    obtain ⟨fl, ds', r, b, q⟩ := zz
    cases fl with
    | next =>
      cases (show f = .next from r)
      exact wpAny_mono (Ex.run q s1 E b.st) (fun f s2 ⟨fl, ds'', r', b', q'⟩ => ⟨fl, ds'', r', b.trans b', q'⟩) fun _ _ x => x
    | brk => cases (show f = .brk from r); exact ⟨.brk, ds', rfl, b, q⟩
    | cont => cases (show f = .cont from r); exact ⟨.cont, ds', rfl, b, q⟩
    | ret d => obtain ⟨v, rfl, rv⟩ := r; exact ⟨.ret d, ds', ⟨v, rfl, rv⟩, b, q⟩) fun _ _ x => x)
theorem ex_ret {e pos d Q} (h : Ev c ds e d) (q : Q (.ret d) ds) : Ex c ds (exec (.Return (some e) pos) c.env) Q := .mk fun s E S =>
  wpAny_Return_some (wpAny_mono (h.run s E S) (fun v s1 ⟨e1, r1⟩ => ⟨.ret d, ds, ⟨v, rfl, D.rep_mono (fz_mono S.subR _) _ _ r1⟩, ⟨S.ext e1, e1.but⟩, q⟩) fun _ _ x => x)
theorem ex_break {pos Q} (q : Q .brk ds) : Ex c ds (exec (.Break pos) c.env) Q := .mk fun s E S => wpAny_Break ⟨.brk, ds, rfl, ⟨S, .refl _ _⟩, q⟩
theorem ex_continue {pos Q} (q : Q .cont ds) : Ex c ds (exec (.Continue pos) c.env) Q := .mk fun s E S => wpAny_Continue ⟨.cont, ds, rfl, ⟨S, .refl _ _⟩, q⟩
theorem ex_if {t a b pos Q} {r : Bool} (h : EvT c ds t r) (h1 : r = true → Ex c ds (execs a c.env) Q) (h2 : r = false → Ex c ds (execs b c.env) Q) : Ex c ds (exec (.If t a b pos) c.env) Q := .mk fun s E S =>
  wpAny_If (wpAny_mono (h.run s E S) (fun v s1 zz => by
    obtain ⟨e1, r1⟩ := zz
    cases r1
    cases hv : r with
    | true => exact wpAny_mono ((h1 hv).run s1 E (S.ext e1)) (fun f s2 ⟨fl, ds', a, b, q⟩ => ⟨fl, ds', a, .of_ext e1 b, q⟩) fun _ _ x => x
    | false => exact wpAny_mono ((h2 hv).run s1 E (S.ext e1)) (fun f s2 ⟨fl, ds', a, b, q⟩ => ⟨fl, ds', a, .of_ext e1 b, q⟩) fun _ _ x => x) fun _ _ x => x)
theorem ex_if_true {t a b pos Q} (h : EvT c ds t true) (h1 : Ex c ds (execs a c.env) Q) : Ex c ds (exec (.If t a b pos) c.env) Q := ex_if h (fun _ => h1) (fun x => by cases x)
theorem ex_if_false {t a b pos Q} (h : EvT c ds t false) (h1 : Ex c ds (execs b c.env) Q) : Ex c ds (exec (.If t a b pos) c.env) Q := ex_if h (fun x => by cases x) (fun _ => h1)

theorem ex_assign (i : Nat) {x px value pos d Q} (h : Ev c ds value d) (hx : c.ns[i]? = some x) (ho : Owns c.env c.Y x) (q : Q .next (ds.set i d))
    (hs : swapsWith value (some (.Name x px)) pos.line c.env = pure false := by rfl) : Ex c ds (exec (.Assign [.Name x px] value pos) c.env) Q := .mk fun s E S =>
  wpAny_Assign_Name (wpAny_mono (h.run s E S) (fun v s1 ⟨e1, r1⟩ => store (S.ext e1) hx ho r1 fun s' b => ⟨.next, _, rfl, .of_ext e1 b, q⟩) fun _ _ x => x) hs

theorem ex_aug (i : Nat) {x px op value pos d1 d2 d Q} (hx : c.ns[i]? = some x) (h1 : ds[i]? = some d1) (hk : d1.known = true) (h : Ev c ds value d2) (ho : Op2 c (inplaceOp op) d1 d2 d) (hw : Owns c.env c.Y x) (q : Q .next (ds.set i d)) :
    Ex c ds (exec (.AugAssign (.Name x px) op value pos) c.env) Q := .mk fun s E S =>
  wpAny_AugAssign_Name (S.fr.load hx (take_get hx h1) (D.known_none hk) rfl fun v r => wpAny_mono (h.run s E S) (fun v2 s1 ⟨e1, r1⟩ =>
    wpAny_mono (ho s1 E v v2 (S.ext e1).base (D.rep_mono e1.keep.fz _ _ r) r1) (fun v3 s2 ⟨e2, r2⟩ => store ((S.ext e1).ext e2) hx hw r2 fun s' b => ⟨.next, _, rfl, .of_ext (e1.trans e2) b, q⟩) fun _ _ x => x) fun _ _ x => x)
theorem op_iadd {x y : Int} : Op2 c (inplaceOp .Add) (.int x) (.int y) (.int (x + y)) := by
  rintro s E v1 v2 B ⟨t, rfl⟩ ⟨u, rfl⟩; exact PyProof.Rows.iadd_int ⟨.tok s _, _, rfl⟩

theorem ex_assign_tup {ts k tpos value pos d ds' Q} (h : Ev c ds value d) (ht : AsT c ds (.Tuple ts k tpos) d ds') (q : Q .next ds')
    (hw : swappedStores [.Tuple ts k tpos] value c.env = pure none := by rfl) (hs : swapsWithSole [.Tuple ts k tpos] value pos.line c.env = pure false := by rfl) : Ex c ds (exec (.Assign [.Tuple ts k tpos] value pos) c.env) Q := .mk fun s E S => by
  rw [arm_exec_Assign]
  refine wpAny_bind (wpAny_standAt ?_)
  rw [hs]
  refine wpAny_bind (wpAny_pure ?_)
  rw [if_neg (by decide)]
  refine wpAny_bind (wpAny_mono (h.run s E S) (fun v s1 zz => ?_) fun _ _ x => x)
  obtain ⟨e1, r1⟩ := zz
  rw [hw]
  refine wpAny_bind (wpAny_pure ?_)
  show wpAny _ _ (do assignAll v [assign (.Tuple ts k tpos) c.env]; pure Flow.next) _ E s1
  exact wpAny_bind (wpAny_mono (ht.run s1 E v (S.ext e1) r1) (fun _ s2 b => wpAny_pure ⟨.next, _, rfl, .of_ext e1 b, q⟩) fun _ _ x => x)
theorem ex_assign_swap2 (i j : Nat) {ts k tpos value pos x y d e Q} (R : Room c.A 1) (h : Ev c ds value (.tup [d, e])) (hx : c.ns[i]? = some x) (hy : c.ns[j]? = some y) (ox : Owns c.env c.Y x) (oy : Owns c.env c.Y y) (q : Q .next ((ds.set j e).set i d))
    (hw : swappedStores [.Tuple ts k tpos] value c.env = pure (some [x, y])) (hs : swapsWithSole [.Tuple ts k tpos] value pos.line c.env = pure false := by rfl) : Ex c ds (exec (.Assign [.Tuple ts k tpos] value pos) c.env) Q := .mk fun s E S =>
  Assign_Tuple_swapped (wpAny_mono (h.run s E S) (fun v s1 zz => by
    obtain ⟨e1, r1⟩ := zz
    obtain ⟨a, items, n, dd, sl, rfl, ha, hr⟩ := r1
    have e2 := repAll_length hr
    simp only [Array.length_toList] at e2
    have e3 : ([x, y] : List Str).length = items.size := by rw [e2]; rfl
    rw [e3]
    refine wpAny_unpackItems_tuple R.handled (fz_isTuple ha) fun h' he => ?_
    have k := ext_of_extBut he
    have x1 : Ext s1 { s1 with heap := h' } := ⟨k, rfl, id⟩
    have hr' := repAll_mono (Keep.fz (X := c.X) k) _ _ hr
    generalize items.toList = vs at hr'
    obtain ⟨u, v, rfl, ru, rv⟩ := repAll2 hr'
    ·
      show wpAny _ _ (do holding [u] (bindName c.env y v); assignInOrder [bindName c.env x] [u]) _ E _
      refine wpAny_bind (wpAny_holding (wpAny_bindName (store ((S.ext e1).ext x1) hy oy rv fun s2 b => ?_)))
      show wpAny _ _ (do holding [] (bindName c.env x u); assignInOrder [] []) _ E _
      refine wpAny_bind (wpAny_holding (wpAny_bindName (store b.st hx ox (D.rep_mono b.fz _ _ ru) fun s3 b2 => ?_)))
      exact wpAny_pure ⟨.next, _, rfl, .of_ext (e1.trans x1) (b.trans b2), q⟩) fun _ _ x => x) hs hw

end Mine
end
/-! ## part A6 -/
section
set_option maxRecDepth 100000
namespace Mine
open PySem PyProof.Rows
variable {c : Cx} {ds : List D}

noncomputable def XW (X : Addr → Prop) (wr : List Addr) : Addr → Prop := fun a => X a ∨ a ∈ wr
noncomputable abbrev Cx.at (c : Cx) (X : Addr → Prop) : Cx := { c with X := X }
noncomputable def Off (wr : List Addr) (h h' : Heap) : Prop := ∀ b o, b ∉ wr → h.get? b = some o → h'.get? b = some o
noncomputable def KeepOn (X : Addr → Prop) (wr : List Addr) (h h' : Heap) : Prop := ∀ b o, (¬ (X b ∨ tb b) ∨ b ∈ wr) → h.get? b = some o → h'.get? b = some o
theorem Off.fz {X : Addr → Prop} {wr h h'} (k : Off wr h h') : Fle (fz (XW X wr) h) (fz (XW X wr) h') := fun a o e => ⟨e.1, k a o (fun x => e.1 (.inl (.inr x))) e.2⟩
theorem KeepOn.fz {X : Addr → Prop} {wr h h'} (k : KeepOn X wr h h') : Fle (fz (XW X wr) h) (fz (XW X wr) h') := fun a o e => ⟨e.1, k a o (.inl fun x => e.1 (x.imp .inl id)) e.2⟩

noncomputable def tgtOk : Bool → Expr → Bool
  | true, .Tuple .. => true
  | false, .Name .. => true
  | _, _ => false

structure Itr (prog : Program) (w : World) (A : Around) (X : Addr → Prop) (I : Addr) (wr : List Addr) (items : List D) (tt : Bool) (Si : Nat → Heap → Prop) (Mid : Nat → Value → Heap → Prop) : Prop where
  frame : ∀ i h h', Si i h → KeepOn X wr h h' → Si i h'
  live : ∀ i h, Si i h → ∀ b ∈ wr, Alive h b
  liveM : ∀ i v h, Mid i v h → ∀ b ∈ wr, Alive h b
  next : ∀ i d (s : Shared) (Q : Option Value → Shared → Prop) (E : Value → Shared → Prop), items[i]? = some d → Si i s.heap → (∀ a, (X a ∨ tb a) → Alive s.heap a) →
    (∀ v h' tk, d.rep (fz (XW X wr) h') v → Mid i v h' → Off wr s.heap h' → Q (some v) { s with heap := h', toks := tk }) → wpAny (model prog w) A (pyNext (.ref I)) Q E s
  go : ∀ i v t (s : Shared) (Q : Unit → Shared → Prop) (E : Value → Shared → Prop), tgtOk tt t = true → Mid i v s.heap →
    (∀ h', Si (i + 1) h' → Off wr s.heap h' → Q () { s with heap := h' }) → wpAny (model prog w) A (letOwnedTupleGo t (.ref I) v) Q E s
  done : ∀ (s : Shared) (Q : Option Value → Shared → Prop) (E : Value → Shared → Prop), Si items.length s.heap →
    (∀ h' tk, Off wr s.heap h' → Q none { s with heap := h', toks := tk }) → wpAny (model prog w) A (pyNext (.ref I)) Q E s
  self : ∀ i (s : Shared) (Q : Value → Shared → Prop) (E : Value → Shared → Prop), Si i s.heap → Q (.ref I) s → wpAny (model prog w) A (pyIter (.ref I)) Q E s

structure XOk (X X' : Addr → Prop) (h : Heap) : Prop where
  sub : ∀ a, X a → X' a
  dead : ∀ a, X' a → X a ∨ h.get? a = none
theorem XOk.refl (X h) : XOk X X h := ⟨fun _ x => x, fun _ x => .inl x⟩
theorem XOk.not {X X' : Addr → Prop} {h : Heap} (x : XOk X X' h) {a : Addr} {o : Obj} (n : ¬ (X a ∨ tb a)) (e : h.get? a = some o) : ¬ (X' a ∨ tb a) := fun y => by
  rcases y with y | y
  · rcases x.dead a y with z | z
    · exact n (.inl z)
    · rw [e] at z; cases z
  · exact n (.inr y)
theorem XOk.fz {X X' : Addr → Prop} {wr : List Addr} {h h' : Heap} (x : XOk X X' h') (k : ∀ b o, h.get? b = some o → h'.get? b = some o) (hf : ∀ b ∈ wr, h.get? b = none) : Fle (fz X h) (fz (XW X' wr) h') := fun a o q =>
  have e := k a o q.2
  ⟨fun y => by
    rcases y with (y | y) | y
    · exact x.not q.1 e (.inl y)
    · have := q.2; rw [hf a y] at this; cases this
    · exact q.1 (.inr y), e⟩
noncomputable def Ready (c : Cx) (tt : Bool) (items : List D) (I : Addr) (wr : List Addr) (h : Heap) : Prop :=
  ∀ X', XOk c.X X' h → ∃ Si Mid, Itr c.prog c.w c.A X' I wr items tt Si Mid ∧ Si 0 h
noncomputable def IterV (c : Cx) (tt : Bool) (x : Value) (s : Shared) (items : List D) : Prop :=
  ∀ (Q : Value → Shared → Prop) (E : Value → Shared → Prop), (∀ I wr s', ExtF s s' → (∀ b ∈ wr, s.heap.get? b = none) → Ready c tt items I wr s'.heap → Q (.ref I) s') →
    wpAny c.M c.A (pyIter x) Q E s
noncomputable def ItD (c : Cx) (tt : Bool) (d : D) (items : List D) : Prop := ∀ s v, Base c.H c.X s.heap → d.rep (fz c.X s.heap) v → IterV c tt v s items
structure EvI (c : Cx) (ds : List D) (iter : Expr) (tt : Bool) (items : List D) : Prop where
  run : ∀ s E (Q : Value → Shared → Prop), St c ds s → (∀ I wr s0 s', Ext s s0 → ExtF s0 s' → (∀ b ∈ wr, s0.heap.get? b = none) → Ready c tt items I wr s'.heap → Q (.ref I) s') →
    wpAny c.M c.A (eval iter c.env) (fun x s1 => wpAny c.M c.A (pyIter x) Q E s1) E s
theorem evi {iter tt d items} (h : Ev c ds iter d) (hi : ItD c tt d items) : EvI c ds iter tt items := .mk fun s E Q S k =>
  wpAny_mono (h.run s E S) (fun x s1 ⟨e1, r1⟩ => hi s1 x (S.ext e1).base r1 Q E fun I wr s' e2 hf W => k I wr s1 s' e1 e2 hf W) fun _ _ x => x

theorem Itr.of_walks {prog : Program} {w : World} {A : Around} {X : Addr → Prop} {I : Addr} {fp wr : List Addr} {n : Nat} {P : Nat → Value → Prop} {St0 : Nat → Heap → Prop} {items : List D} {G : Heap → Prop} {tt : Bool}
    (W : Walks prog w A I fp wr n P St0) (hfp : ∀ b ∈ fp, ¬ (X b ∨ tb b) ∨ b ∈ wr) (hl : ∀ i h, St0 i h → ∀ b ∈ wr, Alive h b) (hn : n = items.length)
    (hG : ∀ h h', Fle (fz (XW X wr) h) (fz (XW X wr) h') → G h → G h') (hP : ∀ i v h d, G h → P i v → items[i]? = some d → d.rep (fz (XW X wr) h) v)
    (hgo : tt = true → ∀ i v t (s : Shared) (Q : Unit → Shared → Prop) (E : Value → Shared → Prop), tgtOk true t = true → St0 i s.heap → Q () s → wpAny (model prog w) A (letOwnedTupleGo t (.ref I) v) Q E s) :
    Itr prog w A X I wr items tt (fun i h => St0 i h ∧ G h) (fun i v h => St0 (i + 1) h ∧ G h) where
  frame := fun i h h' st k => ⟨W.frame i h h' st.1 fun b hb o e => k b o (hfp b hb) e, hG h h' k.fz st.2⟩
  live := fun i h st => hl i h st.1
  liveM := fun i v h st => hl _ h st.1
  next := fun i d s Q E hi st lx hQ => W.item i s Q E (by rw [hn]; exact (List.getElem?_eq_some_iff.mp hi).1) st.1 fun v h' tk hv st' k =>
    have g := hG s.heap h' (Off.fz (X := X) k) st.2
    hQ v h' tk (hP i v h' d g hv hi) ⟨st', g⟩ k
  go := fun i v t s Q E ht st hQ => by
    cases tt with
    | false =>
      cases t <;> first | (simp [tgtOk] at ht; done) | exact wpAny_pure (hQ s.heap st fun _ _ _ e => e)
    | true => exact hgo rfl (i + 1) v t s Q E ht st.1 (hQ s.heap st fun _ _ _ e => e)
  done := fun s Q E st hQ => W.done s Q E (hn ▸ st.1) hQ
  self := fun i s Q E st hQ => W.self i s Q E st.1 hQ

theorem Itr.of_walksT {prog : Program} {w : World} {A : Around} {X : Addr → Prop} {I : Addr} {fp wr : List Addr} {n : Nat} {P : Nat → Array Value → Prop} {St0 : Nat → Heap → Prop} {Md : Nat → Addr → Heap → Prop} {items : List D} {G : Heap → Prop}
    (W : WalksT prog w A I fp wr n P St0 Md) (hfp : ∀ b ∈ fp, ¬ (X b ∨ tb b) ∨ b ∈ wr) (hl : ∀ i h, St0 i h → ∀ b ∈ wr, Alive h b) (hlm : ∀ i T h, Md i T h → ∀ b ∈ wr, Alive h b) (hn : n = items.length)
    (hG : ∀ h h', Fle (fz (XW X wr) h) (fz (XW X wr) h') → G h → G h') (hP : ∀ i vals h d, G h → P i vals → items[i]? = some d → ∃ l, d = .tup l ∧ repAll (fz (XW X wr) h) l vals.toList) :
    Itr prog w A X I wr items true (fun i h => St0 i h ∧ G h) (fun i v h => ∃ T, v = .ref T ∧ Md i T h ∧ G h) where
  frame := fun i h h' st k => ⟨W.frame i h h' st.1 fun b hb o e => k b o (hfp b hb) e, hG h h' k.fz st.2⟩
  live := fun i h st => hl i h st.1
  liveM := fun i v h ⟨T, _, st, _⟩ => hlm _ _ h st
  next := fun i d s Q E hi st lx hQ => W.item i s Q E (by rw [hn]; exact (List.getElem?_eq_some_iff.mp hi).1) st.1 fun T vals h' tk hv hT ht md k => by
    have g := hG s.heap h' (Off.fz (X := X) k) st.2
    refine hQ (.ref T) h' tk ?_ ⟨T, rfl, md, g⟩ k
    obtain ⟨l, rfl, r⟩ := hP i vals h' d g hv hi
    obtain ⟨⟨cl, dd, dt, sl⟩, ho, hc, n, hd⟩ := ht
    simp only at hc hd
    subst hc hd
    refine ⟨T, vals, n, dd, sl, rfl, ⟨fun x => ?_, ho⟩, r⟩
    have nT := get?_size_none s.heap T hT
    rcases x with (x | x) | x
    · obtain ⟨o, e⟩ := lx T (.inl x); rw [nT] at e; cases e
    · exact W.apart i T h' md x
    · obtain ⟨o, e⟩ := lx T (.inr x); rw [nT] at e; cases e
  go := fun i v t s Q E ht zz hQ => by
    obtain ⟨T, e, st, g⟩ := zz
    subst e
    cases t <;> first | (simp [tgtOk] at ht; done) | exact W.go _ _ _ i T s Q E st fun h' st' k => hQ h' ⟨st', hG s.heap h' (Off.fz (X := X) k) g⟩ k
  done := fun s Q E st hQ => W.done s Q E (hn ▸ st.1) hQ
  self := fun i s Q E st hQ => W.self i s Q E st.1 hQ

theorem letGo_class {prog : Program} {w : World} {A : Around} {I : Addr} {v : Value} {t : Expr} {s : Shared} {Q : Unit → Shared → Prop} {E : Value → Shared → Prop} {o : Obj} {T : String} {vs : Array Value} (ho : s.heap.get? I = some o) (hc : o.cls = .type T) (hd : o.data = .fields vs)
    (hT : (["enumerate", "zip", "dict_itemiterator", "dict_reverseitemiterator", "odict_iterator", "itertools.zip_longest", "itertools.pairwise"].contains T) = false) (ht : tgtOk true t = true) (h : Q () s) : wpAny (model prog w) A (letOwnedTupleGo t (.ref I) v) Q E s := by
  cases t <;> first | (simp [tgtOk] at ht; done) | skip
  unfold letOwnedTupleGo
  cases v with
  | ref a =>
    refine wpAny_bind (wpAny_load ho ?_)
    rw [hc, hd]
    dsimp only
    rw [hT]
    exact wpAny_pure h
  | _ => exact wpAny_pure h

theorem itd_list {tt : Bool} {l : List D} (R : Room c.A 1) : ItD c tt (.list l) l := by
  rintro s v B ⟨a, items, n, rfl, ha, hr⟩ Q E k
  refine wpAny_pyIter_list (fz_isList ha) ?_
  have hlen : items.size = l.length := by rw [← repAll_length hr]; simp
  have na : a ≠ s.heap.objs.size := Nat.ne_of_lt (Heap.lt_size ha.2)
  refine k s.heap.objs.size [s.heap.objs.size] _ (.push s _) (fun b hb => by rw [List.mem_singleton.mp hb]; exact get?_size_none _ _ (Nat.le_refl _)) fun X' hX => ⟨_, _, Itr.of_walks (X := X') (G := fun h => repAll (fz (XW X' [s.heap.objs.size]) h) l items.toList)
    (Walks.list R.handled s.heap.objs.size a na items) ?_ ?_ hlen (fun h h' le g => repAll_mono le _ _ g) (fun i v h d g hv hi => ?_) (fun _ i v t s' Q E ht st hq => ?_), ⟨⟨_, Heap.get?_push_size _ rfl, rfl, rfl⟩, (fz_isList ha).push _⟩, ?_⟩
  · intro b hb
    simp only [List.mem_cons, List.not_mem_nil, or_false] at hb
    rcases hb with rfl | rfl
    · exact .inr (by simp)
    · exact .inl (hX.not ha.1 (Heap.get?_push_of_some _ ha.2))
  · intro i h st b hb
    rw [List.mem_singleton.mp hb]
    obtain ⟨o, e, _⟩ := st.1
    exact ⟨o, e⟩
  · obtain ⟨v', hv', r'⟩ := repAll_get g hi
    have : v' = v := by
      rw [Array.getElem?_toList, hv] at hv'; exact (Option.some.inj hv').symm
    exact this ▸ r'
  · obtain ⟨⟨o, e1, e2, e3⟩, _⟩ := st
    exact letGo_class e1 e2 e3 (by decide +kernel) ht hq
  · exact repAll_mono (hX.fz (fun _ _ e => Heap.get?_push_of_some _ e) fun b hb => by rw [List.mem_singleton.mp hb]; exact get?_size_none _ _ (Nat.le_refl _)) _ _ hr
theorem itd_tup {tt : Bool} {l : List D} (R : Room c.A 1) : ItD c tt (.tup l) l := by
  rintro s v B ⟨a, items, n, dd, sl, rfl, ha, hr⟩ Q E k
  refine wpAny_pyIter_tuple (fz_isTuple ha) ?_
  have hlen : items.size = l.length := by rw [← repAll_length hr]; simp
  have na : a ≠ s.heap.objs.size := Nat.ne_of_lt (Heap.lt_size ha.2)
  refine k s.heap.objs.size [s.heap.objs.size] _ (.push s _) (fun b hb => by rw [List.mem_singleton.mp hb]; exact get?_size_none _ _ (Nat.le_refl _)) fun X' hX => ⟨_, _, Itr.of_walks (X := X') (G := fun h => repAll (fz (XW X' [s.heap.objs.size]) h) l items.toList)
    (Walks.tuple R.handled s.heap.objs.size a na items) ?_ ?_ hlen (fun h h' le g => repAll_mono le _ _ g) (fun i v h d g hv hi => ?_) (fun _ i v t s' Q E ht st hq => ?_), ⟨⟨_, Heap.get?_push_size _ rfl, rfl, rfl⟩, (fz_isTuple ha).push _⟩, ?_⟩
  · intro b hb
    simp only [List.mem_cons, List.not_mem_nil, or_false] at hb
    rcases hb with rfl | rfl
    · exact .inr (by simp)
    · exact .inl (hX.not ha.1 (Heap.get?_push_of_some _ ha.2))
  · intro i h st b hb
    rw [List.mem_singleton.mp hb]
    obtain ⟨o, e, _⟩ := st.1
    exact ⟨o, e⟩
  · obtain ⟨v', hv', r'⟩ := repAll_get g hi
    have : v' = v := by
      rw [Array.getElem?_toList, hv] at hv'; exact (Option.some.inj hv').symm
    exact this ▸ r'
  · obtain ⟨⟨o, e1, e2, e3⟩, _⟩ := st
    exact letGo_class e1 e2 e3 (by decide +kernel) ht hq
  · exact repAll_mono (hX.fz (fun _ _ e => Heap.get?_push_of_some _ e) fun b hb => by rw [List.mem_singleton.mp hb]; exact get?_size_none _ _ (Nat.le_refl _)) _ _ hr

structure Apart (env : Env) (mem wr : List Addr) : Prop where
  loc : env.locals ∉ wr
  cel : ∀ x a, env.cells.lookup x = some a → env.kindOf x ≠ some .local → a ∉ wr
  tab : ∀ a ∈ wr, ¬ tb a
  mm : ∀ a ∈ mem, a ∉ wr
theorem St.apart {s : Shared} (S : St c ds s) {wr : List Addr} (hf : ∀ b ∈ wr, s.heap.get? b = none) : Apart c.env c.mem wr := by
  obtain ⟨ok, look, ⟨m, hn, hm⟩, hc, hs⟩ := S.fr
  refine ⟨fun h => ?_, fun x a e n h => ?_, fun a h x => ?_, fun a h x => ?_⟩
  · obtain ⟨o, es, ep, e, _⟩ := hn
    rw [hf _ h] at e; cases e
  · obtain ⟨o, q, _⟩ := hc x a e n
    rw [hf _ h] at q; cases q
  · obtain ⟨o, q⟩ := S.base.tabs.alive x
    rw [hf _ h] at q; cases q
  · obtain ⟨o, q⟩ := S.base.live a (S.mem.ap a h).2.2.1
    rw [hf _ x] at q; cases q
theorem FrS.off {env X mem wr ns ds h h'} (F : FrS env (XW X wr) ns ds h) (k : Off wr h h') (ap : Apart env mem wr) : FrS env (XW X wr) ns ds h' := by
  obtain ⟨ok, look, ⟨m, hn, hm⟩, hc, hs⟩ := F
  refine ⟨ok, look, ⟨m, hn.at' fun o e => k _ o ap.1 e, hm⟩, fun x a e n => ?_, hs.mono k.fz⟩
  obtain ⟨o, e1, e2⟩ := hc x a e n
  exact ⟨o, k a o (ap.2 x a e n) e1, e2⟩
theorem alive_off {wr h h'} (k : Off wr h h') (l : ∀ b ∈ wr, Alive h' b) {b} : Alive h b → Alive h' b := fun zz => by
  obtain ⟨o, e⟩ := zz
  by_cases x : b ∈ wr
  · exact l b x
  · exact ⟨o, k b o x e⟩
theorem keepB_off {X wr h h'} (k : Off wr h h') (l : ∀ b ∈ wr, Alive h' b) (nt : ∀ a ∈ wr, ¬ tb a) : KeepB (XW X wr) h h' :=
  ⟨fun b o n e => k b o (fun x => n (.inl (.inr x))) e, fun b _ e => alive_off k l e,
    fun Z z _ t => t.mono (fun b o x e => k b o (fun y => nt b y x) e) fun a o e => ⟨e.1, k a o (fun y => e.1 (.inl (z a (.inr y)))) e.2⟩⟩
theorem St.off {s : Shared} {h' : Heap} {tk : Nat} {X wr} (S : St (c.at (XW X wr)) ds s) (k : Off wr s.heap h') (ap : Apart c.env c.mem wr) (l : ∀ b ∈ wr, Alive h' b) : St (c.at (XW X wr)) ds { s with heap := h', toks := tk } :=
  ⟨S.base.keep (keepB_off k l ap.tab), FrS.off (h := s.heap) S.fr k ap, S.sub, S.mem.mono (fun a h => (S.mem.ap a h).2.2.1) (fun a h o e => k a o (ap.mm a h) e) (Off.fz k), S.subR, S.memR⟩
theorem ext_off {s : Shared} {h' : Heap} {tk : Nat} {Y wr} (k : Off wr s.heap h') (l : ∀ b ∈ wr, Alive h' b) (nt : ∀ a ∈ wr, ¬ tb a) : ExtB (XW Y wr) s { s with heap := h', toks := tk } := ⟨keepB_off k l nt, rfl, id⟩
theorem ExtB.mono {X Y : Addr → Prop} {s s' : Shared} (x : ExtB X s s') (sub : ∀ a, X a → Y a) : ExtB Y s s' := ⟨x.keep.mono sub, x.os, x.bare⟩
theorem EnvOk.grow {env X Y ns} (o : EnvOk env X ns) (s : ∀ a, X a → Y a) : EnvOk env Y ns := ⟨o.kind, o.glob, o.blt, s _ o.own, o.loct, o.celt, o.apart, o.names, o.nodup⟩
theorem fle_grow {X : Addr → Prop} {wr : List Addr} {h h' : Heap} (k : ∀ b o, ¬ tb b → h.get? b = some o → h'.get? b = some o) (hf : ∀ b ∈ wr, h.get? b = none) : Fle (fz X h) (fz (XW X wr) h') := fun a o q => ⟨fun y => by
  rcases y with (y | y) | y
  · exact q.1 (.inl y)
  · have := q.2; rw [hf a y] at this; cases this
  · exact q.1 (.inr y), k a o (fun x => q.1 (.inr x)) q.2⟩
theorem St.grow {s s' : Shared} {wr : List Addr} (S : St c ds s) (e : ExtF s s') (hf : ∀ b ∈ wr, s.heap.get? b = none) (l : ∀ b ∈ wr, Alive s'.heap b) : St (c.at (XW c.X wr)) ds s' := by
  have S' := S.ext e.ext
  have le : Fle (fz c.X s.heap) (fz (XW c.X wr) s'.heap) := fle_grow (fun b o _ => e.keep b o) hf
  obtain ⟨ok, look, hn, hc, hs⟩ := S.fr
  obtain ⟨m, hn, hm⟩ := hn
  refine ⟨⟨S'.base.sys, fun a o x => ⟨?_, (S'.base.old a o x).2⟩, fun a x => ?_, S.base.tabs.mono (fun b o _ => e.keep b o) le⟩, ⟨ok.grow fun _ x => .inl x, look, ⟨m, hn.keeps e.keep, hm⟩, fun x a q n => (hc x a q n).keeps e.keep, hs.mono le⟩, fun a x => .inl (S.sub a x), S.mem.mono (fun a h => .inl (S.mem.ap a h).2.2.1) (fun a h o q => e.keep a o q) le, fun a x => .inl (S.subR a x), S.memR⟩
  · rintro ((y | y) | y)
    · exact (S.base.old a o x).1 (.inl y)
    · have := (S.base.old a o x).2; rw [hf a y] at this; cases this
    · exact (S.base.old a o x).1 (.inr y)
  · rcases x with x | x
    · exact S'.base.live a x
    · exact l a x
theorem St.shrink {s : Shared} {X Y : Addr → Prop} (ok : EnvOk c.env X c.ns) (mx : ∀ a ∈ c.mem, X a) (sub : ∀ a, X a → Y a) (sub' : ∀ a, c.Y a → X a) (subR : ∀ a, c.R a → X a) (S : St (c.at Y) ds s) : St (c.at X) ds s := by
  obtain ⟨_, look, hn, hc, hs⟩ := S.fr
  exact ⟨⟨S.base.sys, fun a o x => ⟨fun y => (S.base.old a o x).1 (y.imp (sub a) id), (S.base.old a o x).2⟩, fun a x => S.base.live a (sub a x), S.base.tabs.mono (fun _ _ _ e => e) (fz_mono sub _)⟩, ⟨ok, look, hn, hc, hs.mono (fz_mono sub _)⟩, sub', S.mem.mono mx (fun _ _ _ e => e) (fz_mono sub _), subR, S.memR⟩
theorem extB_shrink {X : Addr → Prop} {wr : List Addr} {s s1 s2 : Shared} (e : ExtF s s1) (hf : ∀ b ∈ wr, s.heap.get? b = none) (w : ∀ b ∈ wr, Alive s1.heap b) (x : ExtB (XW X wr) s1 s2) : ExtB X s s2 := by
  refine ⟨⟨fun b o n q => x.keep.keep b o ?_ (e.keep b o q), fun b _ ⟨o, q⟩ => x.keep.alive ⟨o, e.keep b o q⟩, fun Z z l t => ?_⟩, x.os.trans e.os, fun b => x.bare (e.bare b)⟩
  · rintro ((y | y) | y)
    · exact n (.inl y)
    · rw [hf b y] at q; cases q
    · exact n (.inr y)
  · have t1 : TabsOk (XW Z wr) s1.heap := t.mono (fun b o _ => e.keep b o) (fle_grow (fun b o _ => e.keep b o) hf)
    exact (x.keep.tabs (XW Z wr) (fun a y => y.imp (z a) id) (fun a y => y.elim (fun y => let ⟨o, q⟩ := l a y; ⟨o, e.keep a o q⟩) (w a)) t1).mono (fun _ _ _ e => e) (fz_mono (fun _ x => .inl x) _)

noncomputable def Turn (c : Cx) (Inv : Nat → List D → Prop) (i : Nat) (Q : Fl → List D → Prop) (fl : Fl) (ds : List D) : Prop := match fl with
  | .next | .cont => Inv (i + 1) ds
  | .brk => Q .next ds
  | .ret d => Q (.ret d) ds

theorem ex_forA {target iter : Expr} {body : List Stmt} {pos : Pos} {tt : Bool} {items : List D} {Q : Fl → List D → Prop} (Inv : Nat → List D → Prop) (hi : EvI c ds iter tt items) (ht : tgtOk tt target = true) (h0 : Inv 0 ds)
    (turn : ∀ wr, Apart c.env c.mem wr → ∀ i d ds₁, items[i]? = some d → Inv i ds₁ → ∃ ds₂, AsT (c.at (XW c.X wr)) ds₁ target d ds₂ ∧ Ex (c.at (XW c.X wr)) ds₂ (execs body c.env) (Turn c Inv i Q))
    (fin : ∀ ds₁, Inv items.length ds₁ → Q .next ds₁) (R : Room c.A 1)
    (hs : ∀ x, foldedSetIterable iter c.env x = pure x := by intro _; rfl) : Ex c ds (exec (.For target iter body [] pos) c.env) Q := .mk fun s E S => by
  refine wpAny_For (hi.run s E _ S fun I wr s0 s1 e0 e1 hf RW => ?_) hs
  obtain ⟨Si, Mid, W, st0⟩ := RW c.X (.refl _ _)
  have S := S.ext e0
  have ap := S.apart hf
  have lw := W.live 0 _ st0
  have S1 := S.grow e1 hf lw
  have ok := S.fr.ok
  have yw : ∀ b, b ∈ wr → ¬ c.Y b := fun b hb y => by
    obtain ⟨o, e⟩ := S.base.live b (S.sub b y)
    rw [hf b hb] at e; cases e
  refine codeAny_forLoop_any (fun k s2 => ∃ i ds₂, k = items.length + 1 - i ∧ i ≤ items.length ∧ Inv i ds₂ ∧ Si i s2.heap ∧ St (c.at (XW c.X wr)) ds₂ s2 ∧ ExtB (XW c.Y wr) s1 s2) ?_ (items.length + 1) ⟨0, ds, by (first | lia | omega), by (first | lia | omega), h0, st0, S1, .refl _ _⟩
  rintro k s2 ⟨i, ds₂, rfl, hle, hinv, si, S2, B⟩
  have out : ∀ {s3 : Shared} {fl : Fl} {f : Flow} {ds₃ : List D}, fl.rep (fz c.R s3.heap) f → St (c.at (XW c.X wr)) ds₃ s3 → ExtB (XW c.Y wr) s1 s3 → Q fl ds₃ →
      Post c s Q f s3 := fun r b x q =>
    ⟨_, _, r, .of_ext e0 ⟨St.shrink (X := c.X) ok (fun a h => (S.mem.ap a h).2.2.1) (fun _ x => .inl x) S.sub S.subR b, extB_shrink e1 hf lw x⟩, q⟩
  by_cases hlt : i < items.length
  · have hi' : items[i]? = some items[i] := List.getElem?_eq_getElem hlt
    refine W.next i _ s2 _ _ hi' si (fun a x => x.elim (fun x => S2.base.live a (.inl x)) S2.base.tabs.alive) fun v h' tk rv md k1 => ?_
    dsimp only
    have S3 := S2.off (tk := tk) k1 ap (W.liveM _ _ _ md)
    have B3 := B.trans (ext_off (Y := c.Y) (tk := tk) k1 (W.liveM _ _ _ md) ap.tab)
    refine W.go i v target _ _ _ ht md fun h'' si' k2 => ?_
    have S4 := St.off (s := { s2 with heap := h', toks := tk }) (tk := tk) S3 k2 ap (W.live _ _ si')
    have B4 := B3.trans (ext_off (Y := c.Y) (s := { s2 with heap := h', toks := tk }) (tk := tk) k2 (W.live _ _ si') ap.tab)
    obtain ⟨ds₃, ha, hb⟩ := turn wr ap i _ _ hi' hinv
    refine wpAny_mono (ha.run { s2 with heap := h'', toks := tk } _ v S4 (D.rep_mono k2.fz _ _ rv)) (fun _ s3 b3 => ?_) fun _ _ x => x
    refine wpAny_mono (hb.run s3 _ b3.st) (fun f s4 zz => ?_) fun _ _ x => x
    obtain ⟨fl, ds₄, r, b4, q⟩ := zz
    have b5 := b3.trans b4
    have B5 := B4.trans (b5.ext.mono (Y := XW c.Y wr) fun _ x => .inl x)
    have st4 : Si (i + 1) s4.heap := W.frame _ _ _ si' fun b o hb e => b5.ext.keep.keep b o (fun y => hb.elim (fun n => n (y.imp (S.sub b) id)) (fun w => y.elim (yw b w) (ap.tab b w))) e
    cases fl with
    | next => cases (show f = .next from r); exact ⟨items.length + 1 - (i + 1), meas (by assumption), i + 1, ds₄, rfl, by (first | lia | omega), q, st4, b5.st, B5⟩
    | cont => cases (show f = .cont from r); exact ⟨items.length + 1 - (i + 1), meas (by assumption), i + 1, ds₄, rfl, by (first | lia | omega), q, st4, b5.st, B5⟩
    | brk => cases (show f = .brk from r); exact out (fl := .next) rfl b5.st B5 q
    | ret d => obtain ⟨v, rfl, rv⟩ := r; exact out (fl := .ret d) ⟨v, rfl, rv⟩ b5.st B5 q
  · have : i = items.length := by (first | lia | omega)
    subst this
    refine W.done s2 _ _ si fun h' tk k1 => ?_
    dsimp only
    refine wpAny_execs_nil ?_
    have old : ∀ b, Alive s0.heap b → b ∉ wr := fun b ⟨o, e⟩ x => by rw [hf b x] at e; cases e
    obtain ⟨_, look, ⟨m, hn, hm⟩, hc, hsl⟩ := S2.fr
    have al1 : ∀ b, Alive s0.heap b → Alive s2.heap b := fun b ⟨o, e⟩ => B.keep.alive ⟨o, e1.keep b o e⟩
    have hk : ∀ b o, Alive s0.heap b → s2.heap.get? b = some o → h'.get? b = some o := fun b o l e => k1 b o (old b l) e
    have al : ∀ b, Alive s0.heap b → Alive h' b := fun b l => let ⟨o, e⟩ := al1 b l; ⟨o, hk b o l e⟩
    have B' := extB_shrink e1 hf lw B
    have tt' : ∀ Z, (∀ a, Z a → Alive s0.heap a) → TabsOk (XW Z wr) s2.heap → TabsOk Z h' := fun Z _ t => t.mono (fun b o x e => k1 b o (fun y => ap.tab b y x) e) fun a o e => ⟨fun x => e.1 (x.imp .inl id), k1 a o (fun x => e.1 (.inl (.inr x))) e.2⟩
    have tt0 : ∀ Z, (∀ a, c.Y a → Z a) → (∀ a, Z a → Alive s0.heap a) → TabsOk Z s0.heap → TabsOk Z h' := fun Z z l t =>
      tt' Z l (B.keep.tabs (XW Z wr) (fun a y => y.imp (z a) id) (fun a y => y.elim (fun y => let ⟨o, q⟩ := l a y; ⟨o, e1.keep a o q⟩) (lw a)) (t.mono (fun b o _ => e1.keep b o) (fle_grow (fun b o _ => e1.keep b o) hf)))
    have le2 : Fle (fz (XW c.X wr) s2.heap) (fz c.X h') := fun a o e => ⟨fun x => e.1 (x.imp .inl id), k1 a o (fun x => e.1 (.inl (.inr x))) e.2⟩
    refine ⟨.next, ds₂, rfl, .of_ext e0 ⟨⟨⟨S.base.sys, fun a o e => ⟨(S.base.old a o e).1, hk a o ⟨o, (S.base.old a o e).2⟩ (S2.base.old a o e).2⟩, fun a x => al a (S.base.live a x), tt0 c.X S.sub S.base.live S.base.tabs⟩,
      ⟨ok, look, ⟨m, hn.at' fun o e => k1 _ o ap.1 e, hm⟩, fun x a e n => ?_, hsl.mono le2⟩, S.sub, S2.mem.mono (fun a h => (S.mem.ap a h).2.2.1) (fun a h o e => k1 a o (ap.mm a h) e) le2, S.subR, S.memR⟩,
      ⟨⟨fun b o n e => hk b o ⟨o, e⟩ (B'.keep.keep b o n e), fun b _ l => al b l, fun Z z l t => tt0 Z z l t⟩, B.os.trans e1.os, fun b => B.bare (e1.bare b)⟩⟩, fin _ hinv⟩
    obtain ⟨o, q1, q2⟩ := hc x a e n
    exact ⟨o, k1 a o (ap.2 x a e n) q1, q2⟩

theorem ex_for {target iter : Expr} {body : List Stmt} {pos : Pos} {tt : Bool} {items : List D} {Q : Fl → List D → Prop} (Inv : Nat → List D → Prop) (hi : EvI c ds iter tt items) (ht : tgtOk tt target = true) (h0 : Inv 0 ds)
    (turn : ∀ wr i d ds₁, items[i]? = some d → Inv i ds₁ → ∃ ds₂, AsT (c.at (XW c.X wr)) ds₁ target d ds₂ ∧ Ex (c.at (XW c.X wr)) ds₂ (execs body c.env) (Turn c Inv i Q))
    (fin : ∀ ds₁, Inv items.length ds₁ → Q .next ds₁) (R : Room c.A 1)
    (hs : ∀ x, foldedSetIterable iter c.env x = pure x := by intro _; rfl) : Ex c ds (exec (.For target iter body [] pos) c.env) Q :=
  ex_forA Inv hi ht h0 (fun wr _ => turn wr) fin R hs

end Mine
end
/-! ## part A7 -/
section
set_option maxRecDepth 100000
namespace Mine
open PySem PyProof.Rows
variable {c : Cx} {ds : List D}

noncomputable def Kpr (c : Cx) (df : D) : Prop := ∀ (h : Heap) (v : Value), Base c.H c.X h → df.rep (fz c.X h) v → ∃ k, (k = Keeper.frame ∨ k = Keeper.machine ∨ k = Keeper.boundFrame) ∧ PySem.W.Looks c.M h (keeperOf v) k
noncomputable def CallD (c : Cx) (df : D) (l : List D) (kw : List (Str × D)) (d : D) : Prop :=
  ∀ s E v vs ks, Base c.H c.X s.heap → df.rep (fz c.X s.heap) v → repAll (fz c.X s.heap) l vs → repAll (fz c.X s.heap) (kw.map Prod.snd) ks →
    wpAny c.M c.A (call v vs ((kw.map Prod.fst).zip ks)) (fun r s' => Ext s s' ∧ d.rep (fz c.X s'.heap) r) E s
noncomputable def EvK (c : Cx) (ds : List D) (pos : Pos) (kws : List Keyword) (kw : List (Str × D)) : Prop :=
  (kws.map fun k => k.arg) = kw.map (fun p => some p.1) ∧ Run c ds (evalAll ((backToKw pos (keywordEach kws c.env)).map (·.2))) (fun g ks => repAll g (kw.map Prod.snd) ks)
theorem evk_nil {pos} : EvK c ds pos [] [] := ⟨rfl, .mk fun s E S => wpAny_pure ⟨.refl s, trivial⟩⟩
theorem evk_one {pos n e p d} (h : Ev c ds e d) : EvK c ds pos [⟨some n, e, p⟩] [(n, d)] := ⟨rfl, .mk fun s E S => by
  show wpAny _ _ (do let v ← (do let v ← eval e c.env; standAt pos; pure v); return v :: (← holding [v] (evalAll []))) _ _ _
  refine wpAny_bind (wpAny_bind (wpAny_mono (h.run s E S) (fun v s1 ⟨e1, r1⟩ => wpAny_bind (wpAny_standAt (wpAny_pure ?_))) fun _ _ x => x))
  exact wpAny_bind (wpAny_holding (wpAny_pure (wpAny_pure ⟨e1, r1, trivial⟩)))⟩

theorem backTo_plain (pos : Pos) (env : Env) : ∀ es : List Expr, noStar es = true → (backTo pos (starEach es env)).any (·.1) = false ∧ (backTo pos (starEach es env)).all (fun x => !x.1) = true
  | [], _ => by rw [arm_starEach_nil]; exact ⟨rfl, rfl⟩
  | e :: es, h => by
    have h2 : noStar es = true ∧ starEach (e :: es) env = (false, eval e env) :: starEach es env := by
      cases e <;> first | (simp [noStar] at h; done) | exact ⟨h, rfl⟩
    have ih := backTo_plain pos env es h2.1
    rw [h2.2]
    unfold backTo at ih ⊢
    exact ⟨by simpa using ih.1, by simpa using ih.2⟩
theorem kw_names (pos : Pos) (env : Env) : ∀ {kws : List Keyword} {ns : List Str}, (kws.map fun k => k.arg) = ns.map some → (backToKw pos (keywordEach kws env)).all (·.1.isSome) = true ∧ (backToKw pos (keywordEach kws env)).any (·.1.isNone) = false ∧
    (backToKw pos (keywordEach kws env)).filterMap (·.1) = ns ∧ (backToKw pos (keywordEach kws env)).isEmpty = kws.isEmpty
  | [], [], _ => by rw [arm_keywordEach_nil]; exact ⟨rfl, rfl, rfl, rfl⟩
  | k :: kws, n :: ns, h => by
    simp only [List.map_cons, List.cons.injEq] at h
    obtain ⟨a, v, p⟩ := k
    simp only at h
    obtain ⟨rfl, h⟩ := h
    have ih := kw_names pos env h
    rw [arm_keywordEach_cons]
    unfold backToKw at ih ⊢
    refine ⟨by simpa using ih.1, by simpa using ih.2.1, by simpa using ih.2.2.1, rfl⟩
  | [], _ :: _, h => by simp at h
  | _ :: _, [], h => by simp at h

theorem callWith_rule {pos : Pos} {f : Value} {first : List Value} {args : List Expr} {kws : List Keyword} {l : List D} {kw : List (Str × D)} {s : Shared} {E : Value → Shared → Prop} {Q : Value → Shared → Prop} (S : St c ds s) (hn : noStar args = true)
    (ha : EvL c ds pos args l) (hk : EvK c ds pos kws kw) (kp : ∀ s', Ext s s' → ∃ k, (k = Keeper.frame ∨ k = Keeper.machine ∨ k = Keeper.boundFrame) ∧ PySem.W.Looks c.M s'.heap (keeperOf f) k)
    (h : ∀ s' vs ks, Ext s s' → repAll (fz c.X s'.heap) l vs → repAll (fz c.X s'.heap) (kw.map Prod.snd) ks → wpAny c.M c.A (call f (first ++ vs) ((kw.map Prod.fst).zip ks)) Q E s') :
    wpAny c.M c.A (callWith pos f first (backTo pos (starEach args c.env)) (backToKw pos (keywordEach kws c.env))) Q E s := by
  obtain ⟨n1, n2⟩ := backTo_plain pos c.env args hn
  obtain ⟨k1, k2, k3, k4⟩ := kw_names pos c.env (kws := kws) (ns := kw.map Prod.fst) (by rw [hk.1]; simp)
  refine PySem.W.callWith_of (P := fun h => ∃ s', s'.heap = h ∧ Ext s s') (by rw [n1, k2]; rfl) (fun h ⟨s', e, x⟩ => e ▸ kp s' x) ?_
  have body : wpAny c.M c.A (spliced (backTo pos (starEach args c.env))) (fun vs s₁ => wpAny c.M c.A (evalAll ((backToKw pos (keywordEach kws c.env)).map (·.2))) (fun ks s₂ =>
      (∃ s', s'.heap = s₂.heap ∧ Ext s s') ∧ wpAny c.M c.A (call f (first ++ vs) ((kw.map Prod.fst).zip ks)) Q E s₂) E s₁) E s :=
    wpAny_mono (ha.run s E S) (fun vs s1 ⟨e1, r1⟩ => wpAny_mono (hk.2.run s1 E (S.ext e1)) (fun ks s2 ⟨e2, r2⟩ => ⟨⟨s2, rfl, e1.trans e2⟩, h s2 vs ks (e1.trans e2) (repAll_mono e2.keep.fz _ _ r1) r2⟩) fun _ _ x => x) fun _ _ x => x
  cases args with
  | nil =>
    rw [arm_starEach_nil] at body ⊢
    refine evalArgs_kw_nil k1 ?_
    rw [k3]
    have b2 : wpAny c.M c.A (evalAll ((backToKw pos (keywordEach kws c.env)).map (·.2))) (fun ks s₂ => (∃ s', s'.heap = s₂.heap ∧ Ext s s') ∧ wpAny c.M c.A (call f (first ++ []) ((kw.map Prod.fst).zip ks)) Q E s₂) E s :=
      fun Γ p hΓ => (body Γ p hΓ) Γ p hΓ
    exact b2
  | cons e es =>
    have h2 : starEach (e :: es) c.env = (false, eval e c.env) :: starEach es c.env := by
      cases e <;> first | (simp [noStar] at hn; done) | rfl
    rw [h2] at body ⊢
    refine evalArgs_kw k1 ?_
    rw [k3]
    exact body

theorem ev_call {func : Expr} {args : List Expr} {kws : List Keyword} {pos : Pos} {df d : D} {l : List D} {kw : List (Str × D)} (hf : Ev c ds func df) (ha : EvL c ds pos args l) (hk : EvK c ds pos kws kw) (kp : Kpr c df) (hc : CallD c df l kw d)
    (hn : noStar args = true := by rfl) (hq : eval (.Call func args kws pos) c.env = (do callWith pos (← eval func c.env) [] (backTo pos (starEach args c.env)) (backToKw pos (keywordEach kws c.env))) := by rfl) : Ev c ds (.Call func args kws pos) d := .mk fun s E S => by
  show wpAny _ _ (eval (.Call func args kws pos) c.env) _ _ _
  rw [hq]
  refine wpAny_bind (wpAny_mono (hf.run s E S) (fun v s1 zz => ?_) fun _ _ x => x)
  obtain ⟨e1, r1⟩ := zz
  refine callWith_rule (S.ext e1) hn ha hk (fun s' x => kp _ _ ((S.ext e1).ext x).base (D.rep_mono x.keep.fz _ _ r1)) fun s' vs ks x rv rk => ?_
  exact wpAny_mono (hc s' E v vs ks ((S.ext e1).ext x).base (D.rep_mono x.keep.fz _ _ r1) rv rk) (fun r s'' ⟨e3, r3⟩ => ⟨(e1.trans x).trans e3, r3⟩) fun _ _ x => x

noncomputable def Meth (c : Cx) (d0 : D) (name : Str) (f : Value) : Prop := ∀ s E v pl (Q : Value × List Value → Shared → Prop), Base c.H c.X s.heap → d0.rep (fz c.X s.heap) v → (∀ tk, Q (f, [v]) { s with toks := tk }) → wpAny c.M c.A (getMethod v name pl) Q E s
theorem ev_meth {o : Expr} {name : Str} {apos pos : Pos} {args : List Expr} {kws : List Keyword} {d0 d : D} {f : Value} {l : List D} {kw : List (Str × D)} (ho : Ev c ds o d0) (ha : EvL c ds pos args l) (hk : EvK c ds pos kws kw) (hm : Meth c d0 name f)
    (kp : Kpr c (.val f)) (hc : CallD c (.val f) (d0 :: l) kw d) (hn : noStar args = true := by rfl) (hbase : attributeBase o name c.env (eval o c.env) = eval o c.env := by rfl) (hline : (apos.endLine == pos.line) = true := by rfl)
    (hfew : decide (args.length + kws.length + (if kws.isEmpty then 0 else 1) < 30) = true := by rfl) : Ev c ds (.Call (.Attribute o name apos) args kws pos) d := .mk fun s E S => by
  show wpAny _ _ (eval (.Call (.Attribute o name apos) args kws pos) c.env) _ _ _
  rw [arm_eval_Call, hbase]
  refine wpAny_bind (wpAny_mono (ho.run s E S) (fun v s1 ⟨e1, r1⟩ => wpAny_bind (wpAny_standAt ?_)) fun _ _ x => x)
  obtain ⟨n1, n2⟩ := backTo_plain pos c.env args hn
  obtain ⟨k1, k2, k3, k4⟩ := kw_names pos c.env (kws := kws) (ns := kw.map Prod.fst) (by rw [hk.1]; simp)
  have hform : methodCallForm (args.length + kws.length) (backTo pos (starEach args c.env)) (backToKw pos (keywordEach kws c.env)) = true := by
    unfold methodCallForm
    rw [n2, k1, k4]
    exact hfew
  have hpos : methodCallPos true o c.env apos pos = pure pos := by unfold methodCallPos; simp [hline]
  unfold methodCall
  rw [hform]
  refine wpAny_bind (wpAny_holding ?_)
  show wpAny _ _ (getMethod v name _) _ _ _
  refine hm s1 E v _ _ (S.ext e1).base r1 fun tk => ?_
  refine wpAny_bind (wpAny_of_eq hpos ?_)
  have S2 := (S.ext e1).ext (Ext.tok s1 tk)
  refine callWith_rule S2 hn ha hk (fun s' x => kp _ _ (S2.ext x).base rep_val) fun s' vs ks x rv rk => ?_
  have r2 : d0.rep (fz c.X s'.heap) v := D.rep_mono x.keep.fz _ _ r1
  exact wpAny_mono (hc s' E f (v :: vs) ks (S2.ext x).base rep_val ⟨r2, rv⟩ rk) (fun r s'' ⟨e3, r3⟩ => ⟨((e1.trans (Ext.tok s1 tk)).trans x).trans e3, r3⟩) fun _ _ x => x

theorem kpr_type {T : String} : Kpr c (.val (.type T)) := fun h v B r => by
  rw [of_val r]; exact ⟨.machine, .inr (.inl rfl), .of_pure rfl⟩
theorem kpr_builtin {id : String} : Kpr c (.val (.builtin id)) := fun h v B r => by
  rw [of_val r]; exact ⟨.machine, .inr (.inl rfl), .of_pure rfl⟩
theorem kpr_func {a : Addr} {o : Obj} {fd : FuncData} (ho : c.H.get? a = some o) (hd : o.data = .func fd) : Kpr c (.val (.ref a)) := fun h v B r => by
  rw [of_val r]
  refine ⟨.frame, .inl rfl, ?_⟩
  refine PySem.W.Looks.keeps (h := c.H) ?_ B.h
  intro A Q E s k q
  refine wpAny_bind (wpAny_load (k _ _ ho) ?_)
  rw [hd]; exact wpAny_pure q

end Mine
end
/-! ## part A8 -/
section
set_option maxRecDepth 100000
namespace Mine
open PySem PyProof.Rows
variable {c : Cx} {ds : List D}

noncomputable def rangeP (n : Int) (g : Fz) (v : Value) : Prop := ∃ a t u w, v = .ref a ∧ g a { cls := .type "range", data := .fields #[.int 0 t, .int n u, .int 1 w] }
noncomputable abbrev D.range (n : Int) : D := .any (rangeP n)
theorem call_range {n : Int} : CallD c (.val (.type "range")) [.int n] [] (.range n) := by
  intro s E v vs ks B hv hvs hks
  rw [of_val hv]
  obtain ⟨u, rfl, ⟨t, e⟩⟩ := repAll1 hvs
  ·
    subst e
    show wpAny _ _ (call (.type "range") [.int n t]) _ _ _
    exact PySem.call_range_1 ⟨⟨Keep.push _ _, rfl, id⟩, _, Fle.refl _, _, _, _, _, rfl, new_fz B rfl⟩
theorem range_size (n : Nat) : Builtin.Range.rangeSize 0 (n : Int) 1 = n := by
  unfold Builtin.Range.rangeSize
  simp only [show (1 : Int) > 0 by decide, if_true]
  split <;> (first | lia | omega)
theorem range_small (n : Nat) (h : n ≤ 1000) : Builtin.Range.small 0 (n : Int) 1 = true := by
  unfold Builtin.Range.small
  rw [range_size]
  have h' : (n : Int) ≤ 1000 := by (first | lia | omega)
  have h0 : (0 : Int) ≤ n := by (first | lia | omega)
  generalize (n : Int) = m at h' h0
  unfold Builtin.Range.rangeFitsLong
  rw [if_pos (by decide)]
  simp only [Bool.and_eq_true, Bool.or_eq_true, decide_eq_true_eq, beq_iff_eq]
  refine ⟨⟨⟨⟨⟨by decide, by decide⟩, ?_, ?_⟩, ⟨by decide, by decide⟩⟩, ?_, ?_⟩, .inr ⟨?_, ?_⟩⟩ <;> (first | lia | omega)
noncomputable abbrev upTo (n : Nat) : List D := (List.range n).map fun (i : Nat) => D.int (i : Int)
theorem itd_range {tt : Bool} {n : Nat} (R : Room c.A 1) (hn : n ≤ 1000) : ItD c tt (.range (n : Int)) (upTo n) := by
  rintro s v B ⟨g₀, le, a, t, u, w, rfl, ha⟩ Q E k
  have ha := le _ _ ha
  refine wpAny_pyIter_range (t := t) (u := u) (v := w) ha.2 (range_small n hn) ?_
  rw [range_size]
  refine k s.heap.objs.size [s.heap.objs.size] _ (.push s _) (fun b hb => by rw [List.mem_singleton.mp hb]; exact get?_size_none _ _ (Nat.le_refl _)) fun X' hX => ⟨_, _, Itr.of_walks (X := X') (G := fun _ => True)
    (Walks.range R.handled s.heap.objs.size 0 1 n) (fun b hb => .inr hb) ?_ (by simp) (fun _ _ _ _ => trivial) (fun i v h d _ hv hi => ?_) (fun _ i v t s' Q E ht st hq => ?_), ?_, trivial⟩
  · intro i h st b hb
    rw [List.mem_singleton.mp hb]
    exact ⟨_, st⟩
  · obtain ⟨t, rfl⟩ := hv
    have hlt : i < n := by simpa using (List.getElem?_eq_some_iff.mp hi).1
    have : (upTo n)[i]? = some (.int (i : Int)) := by simp [hlt]
    rw [this] at hi; cases hi
    exact ⟨t, by simp⟩
  · exact letGo_class st rfl rfl (by decide +kernel) ht hq
  · simpa using (Heap.get?_push_size s.heap (o := { cls := .type "range_iterator", data := .fields #[rawInt 0, rawInt (n : Int), rawInt 1] }) rfl)

theorem call_len_l {l : List D} (hl : l.length ≤ 2 ^ 20) : CallD c (.val (.builtin "len")) [.list l] [] (.int l.length) := by
  intro s E v vs ks B hv hvs hks
  rw [of_val hv]
  obtain ⟨u, rfl, ⟨a, items, n, e, ha, hr⟩⟩ := repAll1 hvs
  ·
    subst e
    have hlen : items.size = l.length := by rw [← repAll_length hr]; simp
    show wpAny _ _ (call (.builtin "len") [.ref a]) _ _ _
    exact Calls.call_len_list (fz_isList ha) (by rw [hlen]; (first | lia | omega)) ⟨.tok s _, s.toks + 1, by rw [hlen]⟩
theorem ints_walk {g : Fz} {ns : List Int} {vs : List Value} (r : repAll g (ns.map D.int) vs) {i : Nat} {v : Value} (h : vs[i]? = some v) : ∃ t, v = .int (ns.getD i 0) t := by
  obtain ⟨n, t, hn, e⟩ := repAll_ints r h
  exact ⟨t, by rw [e, List.getD_eq_getElem?_getD, hn]; rfl⟩
theorem call_sum_l {ns : List Int} (R : Room c.A 2) : CallD c (.val (.builtin "sum")) [.ints ns] [] (.int ns.sum) := by
  intro s E v vs ks B hv hvs hks
  rw [of_val hv]
  obtain ⟨u, rfl, ⟨a, items, n, e, ha, hr⟩⟩ := repAll1 hvs
  ·
    subst e
    have hlen : items.size = ns.length := by have := repAll_length hr; simpa using this
    have na : a ≠ s.heap.objs.size := Nat.ne_of_lt (Heap.lt_size ha.2)
    show wpAny _ _ (call (.builtin "sum") [.ref a]) _ _ _
    refine call_sum_walkG (wpAny_pyIter_list (fz_isList ha) ?_)
    refine ⟨_, _, _, _, _, _, fun i => ns.getD i 0, rfl, Walks.list (A := c.A.in1) R.handled s.heap.objs.size a na items, ⟨⟨_, Heap.get?_push_size _ rfl, rfl, rfl⟩, (fz_isList ha).push _⟩, fun b hb => ?_, fun i v hv => ?_, fun h' tk t' hk => ?_⟩
    · show b < (s.heap.push _).objs.size
      rw [Heap.size_push]
      have al : a < s.heap.objs.size := Heap.lt_size ha.2
      simp only [List.mem_cons, List.not_mem_nil, or_false] at hb
      rcases hb with rfl | rfl
      · exact Nat.lt_succ_self _
      · exact Nat.lt_succ_of_lt al
    · exact ints_walk hr (by simpa using hv)
    · refine ⟨⟨.of fun b o e => hk b o (fun x => ?_) (Heap.get?_push_of_some _ e), rfl, id⟩, t', ?_⟩
      · rw [List.mem_singleton.mp x, get?_size_none _ _ (Nat.le_refl _)] at e; cases e
      · rw [preSum_getD, hlen, List.take_of_length_le (Nat.le_refl _)]
theorem call_int_b {b : Bool} : CallD c (.val (.type "int")) [.bool b] [] (.int (if b then 1 else 0)) := by
  intro s E v vs ks B hv hvs hks
  rw [of_val hv]
  obtain ⟨u, rfl, e⟩ := repAll1 hvs
  ·
    cases (show u = _ from e)
    show wpAny _ _ (call (.type "int") [.bool b]) _ _ _
    exact PySem.call_int_bool ⟨.tok s _, s.toks, rfl⟩
theorem call_max2 {a b : Int} (R : Room c.A 2) : CallD c (.val (.builtin "max")) [.int a, .int b] [] (.int (max a b)) := by
  intro s E v vs ks B hv hvs hks
  rw [of_val hv]
  obtain ⟨u, v, rfl, ⟨t, e⟩, ⟨t', e'⟩⟩ := repAll2 hvs
  ·
    subst e e'
    show wpAny _ _ (call (.builtin "max") [.int a t, .int b t']) _ _ _
    refine PySem.max_two_ints R.handled fun h' tk k => ⟨⟨.of k, rfl, id⟩, ?_⟩
    by_cases h : b > a
    · rw [if_pos h]; exact ⟨t', by rw [Int.max_eq_right (by (first | lia | omega))]⟩
    · rw [if_neg h]; exact ⟨t, by rw [Int.max_eq_left (by (first | lia | omega))]⟩
theorem call_min2 {a b : Int} (R : Room c.A 2) : CallD c (.val (.builtin "min")) [.int a, .int b] [] (.int (min a b)) := by
  intro s E v vs ks B hv hvs hks
  rw [of_val hv]
  obtain ⟨u, v, rfl, ⟨t, e⟩, ⟨t', e'⟩⟩ := repAll2 hvs
  ·
    subst e e'
    show wpAny _ _ (call (.builtin "min") [.int a t, .int b t']) _ _ _
    refine PySem.min_two_ints R.handled fun h' tk k => ⟨⟨.of k, rfl, id⟩, ?_⟩
    by_cases h : b < a
    · rw [if_pos h]; exact ⟨t', by rw [Int.min_eq_right (by (first | lia | omega))]⟩
    · rw [if_neg h]; exact ⟨t, by rw [Int.min_eq_left (by (first | lia | omega))]⟩
theorem call_isi_int {i : Int} : CallD c (.val (.builtin "isinstance")) [.int i, .val (.type "tuple")] [] (.bool false) := by
  intro s E v vs ks B hv hvs hks
  rw [of_val hv]
  obtain ⟨u, v, rfl, ⟨t, e⟩, e'⟩ := repAll2 hvs
  ·
    subst e; rw [of_val e']
    show wpAny _ _ (call (.builtin "isinstance") [.int i t, .type "tuple"]) _ _ _
    exact IsiPair.int_tuple ⟨.tok s _, rfl⟩
theorem call_isi_tup {l : List D} : CallD c (.val (.builtin "isinstance")) [.tup l, .val (.type "tuple")] [] (.bool true) := by
  intro s E v vs ks B hv hvs hks
  rw [of_val hv]
  obtain ⟨u, v, rfl, ⟨a, items, n, dd, sl, e, ha, hr⟩, e'⟩ := repAll2 hvs
  ·
    subst e; rw [of_val e']
    show wpAny _ _ (call (.builtin "isinstance") [.ref a, .type "tuple"]) _ _ _
    exact IsiPair.tuple_tuple ha.2 rfl ⟨.tok s _, rfl⟩
theorem call_tuple_l {l : List D} (hl : l.length ≤ 2 ^ 20) : CallD c (.val (.type "tuple")) [.list l] [] (.tup l) := by
  intro s E v vs ks B hv hvs hks
  rw [of_val hv]
  obtain ⟨u, rfl, ⟨a, items, n, e, ha, hr⟩⟩ := repAll1 hvs
  ·
    subst e
    have hlen : items.size = l.length := by rw [← repAll_length hr]; simp
    show wpAny _ _ (call (.type "tuple") [.ref a]) _ _ _
    refine call_tuple_list (fz_isList ha) (fun h' k => ?_) (by rw [hlen, sizeLine_eq]; (first | lia | omega))
    have k' : Keep s.heap h' := .of k
    refine ⟨⟨k'.trans (Keep.push _ _), rfl, id⟩, ?_⟩
    have r := rep_new_tup (B.keep k'.but) (repAll_mono k'.fz _ _ hr)
    simpa using r

theorem evi_call {func : Expr} {args : List Expr} {pos : Pos} {v : Value} {l : List D} {tt : Bool} {items : List D} (hf : Ev c ds func (.val v)) (ha : EvL c ds pos args l) (kp : Kpr c (.val v))
    (hc : ∀ s E (Q : Value → Shared → Prop) vs, Base c.H c.X s.heap → repAll (fz c.X s.heap) l vs → (∀ I wr s', ExtF s s' → (∀ b ∈ wr, s.heap.get? b = none) → Ready c tt items I wr s'.heap → Q (.ref I) s') →
      wpAny c.M c.A (call v vs []) (fun x s1 => wpAny c.M c.A (pyIter x) Q E s1) E s)
    (hn : noStar args = true := by rfl) (hq : eval (.Call func args [] pos) c.env = (do callWith pos (← eval func c.env) [] (backTo pos (starEach args c.env)) (backToKw pos (keywordEach [] c.env))) := by rfl) : EvI c ds (.Call func args [] pos) tt items := .mk fun s E Q S k => by
  rw [hq]
  refine wpAny_bind (wpAny_mono (hf.run s E S) (fun u s1 zz => ?_) fun _ _ x => x)
  obtain ⟨e1, r1⟩ := zz
  rw [of_val r1]
  refine callWith_rule (S.ext e1) hn ha evk_nil (fun s' x => kp _ _ ((S.ext e1).ext x).base rep_val) fun s' vs ks x rv rk => ?_
  refine hc s' E Q vs ((S.ext e1).ext x).base rv fun I wr s'' e2 hf W => k I wr s' s'' (e1.trans x) e2 hf W

noncomputable abbrev numbered (l : List D) : List D := (List.range l.length).map fun (i : Nat) => D.tup [.int (i : Int), l.getD i .unk]
theorem evi_enumerate {func arg : Expr} {pos : Pos} {l : List D} (R : Room c.A 1) (hf : Ev c ds func (.val (.type "enumerate"))) (ha : Ev c ds arg (.list l)) (hn : noStar [arg] = true := by rfl)
    (he : starEach [arg] c.env = (false, eval arg c.env) :: starEach [] c.env := by rfl) (hq : eval (.Call func [arg] [] pos) c.env = (do callWith pos (← eval func c.env) [] (backTo pos (starEach [arg] c.env)) (backToKw pos (keywordEach [] c.env))) := by rfl) :
    EvI c ds (.Call func [arg] [] pos) true (numbered l) := by
  refine evi_call hf (evl_cons ha evl_nil he) kpr_type ?_ hn hq
  intro s E Q vs B hvs k
  obtain ⟨u, rfl, ⟨a, items, n, e, ha, hr⟩⟩ := repAll1 hvs
  ·
    subst e
    have hlen : items.size = l.length := by rw [← repAll_length hr]; simp
    refine call_enumerate_list (fz_isList ha) fun h' he hi hsz hk => wpAny_pyIter_enum he ?_
    have al : a < s.heap.objs.size := Heap.lt_size ha.2
    have ne1 : s.heap.objs.size + 1 ≠ s.heap.objs.size := by (first | lia | omega)
    have fresh : ∀ b ∈ [s.heap.objs.size + 1, s.heap.objs.size], s.heap.get? b = none := fun b hb => by
      simp only [List.mem_cons, List.not_mem_nil, or_false] at hb
      rcases hb with rfl | rfl <;> exact get?_size_none _ _ (by (first | lia | omega))
    refine k (s.heap.objs.size + 1) [s.heap.objs.size + 1, s.heap.objs.size] { s with heap := h' } ⟨hk, rfl, id⟩ fresh fun X' hX => ⟨_, _, Itr.of_walksT (X := X') (G := fun h => repAll (fz (XW X' [s.heap.objs.size + 1, s.heap.objs.size]) h) l items.toList)
      (WalksT.enumerate R.handled (s.heap.objs.size + 1) s.heap.objs.size a ne1 (Nat.ne_of_lt (Nat.lt_succ_of_lt al)) (Nat.ne_of_lt al) items) ?_ ?_ ?_ (by simp [hlen]) (fun h h' le g => repAll_mono le _ _ g) (fun i vals h d g hv hi => ?_), ⟨⟨.none, he⟩, hi, (fz_isList ha).at fun o e => hk _ o e⟩, ?_⟩
    · intro b hb
      simp only [List.mem_cons, List.not_mem_nil, or_false] at hb
      rcases hb with rfl | rfl | rfl
      · exact .inr (by simp)
      · exact .inr (by simp)
      · exact .inl (hX.not ha.1 (hk _ _ ha.2))
    · rintro i h ⟨⟨old, e1⟩, ⟨o, e2, _⟩, _⟩ b hb
      simp only [List.mem_cons, List.not_mem_nil, or_false] at hb
      rcases hb with rfl | rfl
      · exact ⟨_, e1⟩
      · exact ⟨o, e2⟩
    · rintro i T h ⟨⟨x, e1⟩, ⟨o, e2, _⟩, _⟩ b hb
      simp only [List.mem_cons, List.not_mem_nil, or_false] at hb
      rcases hb with rfl | rfl
      · exact ⟨_, e1⟩
      · exact ⟨o, e2⟩
    · obtain ⟨t, x, hx, rfl⟩ := hv
      have hlt : i < l.length := by simpa using (List.getElem?_eq_some_iff.mp hi).1
      have e1 : (numbered l)[i]? = some (.tup [.int (i : Int), l.getD i .unk]) := by simp [hlt]
      rw [e1] at hi; cases hi
      have e2 : l[i]? = some (l.getD i .unk) := by simp [hlt]
      obtain ⟨v', hv', r'⟩ := repAll_get g e2
      rw [Array.getElem?_toList, hx] at hv'; cases hv'
      exact ⟨_, rfl, ⟨t, rfl⟩, r', trivial⟩
    · exact repAll_mono (hX.fz (h := s.heap) hk fresh) _ _ hr

theorem apart_zip {N a b : Nat} (al : a < N) (bl : b < N) : ZipApart (N + 4) (N + 2) (N + 3) N (N + 1) a b := by
  constructor <;> (show (_ : Nat) ≠ _; (first | lia | omega))
noncomputable abbrev zipped (l l' : List D) : List D := (List.range (min l.length l'.length)).map fun (i : Nat) => D.tup [l.getD i .unk, l'.getD i .unk]
theorem evi_zip {func a1 a2 : Expr} {pos : Pos} {l l' : List D} (R : Room c.A 1) (hf : Ev c ds func (.val (.type "zip"))) (h1 : Ev c ds a1 (.list l)) (h2 : Ev c ds a2 (.list l')) (hn : noStar [a1, a2] = true := by rfl)
    (he1 : starEach [a1, a2] c.env = (false, eval a1 c.env) :: starEach [a2] c.env := by rfl) (he2 : starEach [a2] c.env = (false, eval a2 c.env) :: starEach [] c.env := by rfl)
    (hq : eval (.Call func [a1, a2] [] pos) c.env = (do callWith pos (← eval func c.env) [] (backTo pos (starEach [a1, a2] c.env)) (backToKw pos (keywordEach [] c.env))) := by rfl) :
    EvI c ds (.Call func [a1, a2] [] pos) true (zipped l l') := by
  refine evi_call hf (evl_cons h1 (evl_cons h2 evl_nil he2) he1) kpr_type ?_ hn hq
  intro s E Q vs B hvs k
  obtain ⟨u, v, rfl, ⟨a, items, n, e, ha, hr⟩, ⟨b, items', n', e', hb, hr'⟩⟩ := repAll2 hvs
  ·
    subst e e'
    have hlen : items.size = l.length := by rw [← repAll_length hr]; simp
    have hlen' : items'.size = l'.length := by rw [← repAll_length hr']; simp
    refine call_zip_2 (fz_isList ha) (fz_isList hb) fun h' z1 z2 z3 z4 z5 hsz hk => wpAny_pyIter_zip z1 ?_
    have al : a < s.heap.objs.size := Heap.lt_size ha.2
    have bl : b < s.heap.objs.size := Heap.lt_size hb.2
    generalize hN : s.heap.objs.size = N at z1 z2 z3 z4 z5 al bl
    have fresh : ∀ b ∈ [N + 4, N + 3, N, N + 1], s.heap.get? b = none := fun b hb => by
      simp only [List.mem_cons, List.not_mem_nil, or_false] at hb
      rcases hb with rfl | rfl | rfl | rfl <;> exact get?_size_none _ _ (by (first | lia | omega))
    refine k (N + 4) [N + 4, N + 3, N, N + 1] { s with heap := h' } ⟨hk, rfl, id⟩ fresh fun X' hX => ⟨_, _, Itr.of_walksT (X := X') (G := fun h => repAll (fz (XW X' [N + 4, N + 3, N, N + 1]) h) l items.toList ∧ repAll (fz (XW X' [N + 4, N + 3, N, N + 1]) h) l' items'.toList)
      (WalksT.zip2 R.handled (N + 4) (N + 2) (N + 3) N (N + 1) a b (apart_zip al bl) items items') ?_ ?_ ?_ (by simp [hlen, hlen'])
      (fun h h' le g => ⟨repAll_mono le _ _ g.1, repAll_mono le _ _ g.2⟩) (fun i vals h d g hv hi => ?_), ⟨z1, z2, ⟨_, _, z3⟩, z4, z5, (fz_isList ha).at fun o e => hk _ o e, (fz_isList hb).at fun o e => hk _ o e⟩, ?_, ?_⟩
    · intro x hx
      simp only [List.mem_cons, List.not_mem_nil, or_false] at hx
      rcases hx with rfl | rfl | rfl | rfl | rfl | rfl | rfl
      · exact .inr (by simp)
      · exact .inl (hX.not (B.fresh (get?_size_none s.heap (N + 2) (by (first | lia | omega)))) z2)
      · exact .inr (by simp)
      · exact .inr (by simp)
      · exact .inr (by simp)
      · exact .inl (hX.not ha.1 (hk _ _ ha.2))
      · exact .inl (hX.not hb.1 (hk _ _ hb.2))
    · rintro i h ⟨e1, e2, ⟨x, y, e3⟩, ⟨o, e4, _⟩, ⟨o', e5, _⟩, _⟩ b hb
      simp only [List.mem_cons, List.not_mem_nil, or_false] at hb
      rcases hb with rfl | rfl | rfl | rfl
      · exact ⟨_, e1⟩
      · exact ⟨_, e3⟩
      · exact ⟨o, e4⟩
      · exact ⟨o', e5⟩
    · rintro i T h ⟨e1, e2, ⟨x, y, e3⟩, ⟨o, e4, _⟩, ⟨o', e5, _⟩, _⟩ b hb
      simp only [List.mem_cons, List.not_mem_nil, or_false] at hb
      rcases hb with rfl | rfl | rfl | rfl
      · exact ⟨_, e1⟩
      · exact ⟨_, e3⟩
      · exact ⟨o, e4⟩
      · exact ⟨o', e5⟩
    · obtain ⟨x, y, hx, hy, rfl⟩ := hv
      have hlt : i < min l.length l'.length := by simpa using (List.getElem?_eq_some_iff.mp hi).1
      have l1 : i < l.length := by (first | lia | omega)
      have l2 : i < l'.length := by (first | lia | omega)
      have e1 : (zipped l l')[i]? = some (.tup [l.getD i .unk, l'.getD i .unk]) := by
        rw [List.getElem?_map, List.getElem?_range (by (first | lia | omega))]; rfl
      rw [e1] at hi; cases hi
      have e2 : l[i]? = some (l.getD i .unk) := by simp [l1]
      have e3 : l'[i]? = some (l'.getD i .unk) := by simp [l2]
      obtain ⟨v', hv', r'⟩ := repAll_get g.1 e2
      rw [Array.getElem?_toList, hx] at hv'; cases hv'
      obtain ⟨v'', hv'', r''⟩ := repAll_get g.2 e3
      rw [Array.getElem?_toList, hy] at hv''; cases hv''
      exact ⟨_, rfl, r', r'', trivial⟩
    · exact repAll_mono (hX.fz (h := s.heap) hk fresh) _ _ hr
    · exact repAll_mono (hX.fz (h := s.heap) hk fresh) _ _ hr'

end Mine
end
/-! ## part A9 -/
section
set_option maxRecDepth 100000
namespace Mine
open PySem PyProof.Rows
variable {c : Cx} {ds : List D}

noncomputable def fnAt (K : PySem.W.Frag) (a : Addr) : FuncData := match K.lookup a with
  | some ⟨_, _, .func fd, _⟩ => fd
  | _ => { name := "", qualname := "", params := ⟨[], [], none, [], [], none, []⟩, body := .stmts [], scope := default, globals := 0, closure := [], defaults := .none, kwdefaults := .none }

noncomputable def fnEnv (fd : FuncData) (a L : Addr) (cells : List (Str × Addr)) : Env := newEnv fd.scope L fd.globals cells (fd.qualname ++ ".<locals>.") (some a) fd.code none fd.builtins
noncomputable def wrOf (L : Addr) (cells : List (Str × Addr)) : List Addr := L :: (cells.map (·.1)).filterMap fun x => cells.lookup x
noncomputable def Cx.into (c : Cx) (env : Env) (wr : List Addr) (ns : List Str) : Cx := { c with A := c.A.deeper env, X := XW c.X wr, Y := (· ∈ wr), env := env, ns := ns, mem := [], R := c.X }
theorem mem_wrOf {L : Addr} {cells : List (Str × Addr)} {b : Addr} : b ∈ wrOf L cells ↔ b = L ∨ ∃ x, cells.lookup x = some b := by
  unfold wrOf
  rw [List.mem_cons, List.mem_filterMap]
  constructor
  · rintro (h | ⟨x, _, h⟩)
    · exact .inl h
    · exact .inr ⟨x, h⟩
  · rintro (h | ⟨x, h⟩)
    · exact .inl h
    · exact .inr ⟨x, List.mem_map.mpr ⟨(x, b), mem_of_lookup h, rfl⟩, h⟩
theorem ext_of_grow {wr : List Addr} {s s1 s2 : Shared} (e : ExtF s s1) (hf : ∀ b ∈ wr, s.heap.get? b = none) (w : ∀ b ∈ wr, Alive s1.heap b) (x : ExtB (· ∈ wr) s1 s2) : Ext s s2 := by
  have y := extB_shrink (X := fun _ => False) e hf w (x.mono fun a h => .inr h)
  exact ⟨⟨fun b o n => y.keep.keep b o (fun z => z.elim id n), fun b t => y.keep.live b (.inr t), fun Z => y.keep.tabs Z fun _ h => h.elim⟩, y.os, y.bare⟩

theorem bind_look {k : Str → Option NameKind} {x : Str} : ∀ {binds : List (Str × Value)} {m cm : Str → Option Value}, (binds.map (·.1)).Nodup →
    (if k x = some .local then bindL k binds m x else bindC k binds cm x) = match binds.lookup x with | some v => some v | none => if k x = some .local then m x else cm x
  | [], m, cm, _ => rfl
  | (n, v) :: r, m, cm, nd => by
    have nd' := (List.nodup_cons.mp nd)
    unfold bindL bindC
    rw [bind_look (binds := r) (m := if k n = some .local then fun y => if y = n then some v else m y else m) (cm := if k n = some .local then cm else fun y => if y = n then some v else cm y) nd'.2]
    rw [List.lookup_cons]
    cases hb : x == n with
    | true =>
      have hx := beq_iff_eq.mp hb
      subst hx
      have : r.lookup x = none := by
        rw [List.lookup_eq_none_iff]
        intro p hp
        rw [bne_iff_ne]
        rintro rfl
        exact nd'.1 (List.mem_map.mpr ⟨p, hp, rfl⟩)
      rw [this]
      by_cases hl : k x = some .local <;> simp [hl]
    | false =>
      have hx : ¬ x = n := by simpa using hb
      cases r.lookup x with
      | some w => rfl
      | none => by_cases hl : k x = some .local <;> by_cases hn : k n = some .local <;> simp [hl, hn, hx]
theorem lookup_bnd {g : Fz} {x : Str} : ∀ {bnd : List (Str × D)} {binds : List (Str × Value)}, binds.map (·.1) = bnd.map (·.1) → repAll g (bnd.map (·.2)) (binds.map (·.2)) → ((bnd.lookup x).getD .unk).repO g (binds.lookup x)
  | [], [], _, _ => trivial
  | (n, d) :: bnd, (n', v) :: binds, e, r => by
    simp only [List.map_cons, List.cons.injEq] at e
    obtain ⟨rfl, e⟩ := e
    rw [List.lookup_cons, List.lookup_cons]
    cases x == n' with
    | true => exact D.repO_some r.1
    | false => exact lookup_bnd e r.2
  | [], _ :: _, e, _ => by simp at e
  | _ :: _, [], e, _ => by simp at e
theorem slots_of {g : Fz} {look : Str → Option Value} {f : Str → D} : ∀ {ns : List Str}, (∀ x ∈ ns, (f x).repO g (look x)) → slotsOk g look ns (ns.map f)
  | [], _ => trivial
  | x :: ns, h => ⟨h x (.head _), slots_of fun y hy => h y (.tail _ hy)⟩

noncomputable def keptB (names : List (Str × NameKind)) (x : Str) : Bool := match names.lookup x with
  | some .local => true
  | some .cell => true
  | _ => false
noncomputable def nsOkB (names : List (Str × NameKind)) (ns : List Str) : Bool := (ns.all fun x => keptB names x && !(x == ("__debug__" : Str)) && !(x == ("__classdict__" : Str))) && decide ns.Nodup
theorem cells_some {x : Str} : ∀ {names : List (Str × NameKind)} {n : Nat} {acc : List (Str × Addr)}, (names.lookup x = some .cell ∨ (acc.lookup x).isSome = true) → ((cellsFrom n names acc).lookup x).isSome = true
  | [], _, _, h => by rcases h with h | h; (· simp at h); (· exact h)
  | (y, k) :: r, n, acc, h => by
    unfold cellsFrom
    rw [List.lookup_cons] at h
    cases hb : x == y with
    | true =>
      rw [hb] at h
      split
      · exact cells_some (.inr (by rw [List.lookup_cons, hb]; rfl))
      · rename_i hk
        rcases h with h | h
        · exact absurd (by rw [show k = .cell from by simpa using h]; rfl) hk
        · exact cells_some (.inr h)
    | false =>
      rw [hb] at h
      split
      · exact cells_some (h.imp id fun h => by rw [List.lookup_cons, hb]; exact h)
      · exact cells_some h

theorem call_def {a : Addr} {o : Obj} {fd : FuncData} {body : List Stmt} {l : List D} {kw : List (Str × D)} {d : D} (bnd : List (Str × D)) (ns : List Str) (R : Room c.A 1)
    (ho : c.H.get? a = some o) (hd : o.data = .func fd) (hlim : c.H.NoLimit) (hcd : c.H.CodeRec fd.code fd.qualname)
    (hbody : fd.body = .stmts body) (hclo : fd.closure = []) (hkind : fd.scope.kind = .function) (hco : fd.scope.isCoroutine = false) (hgen : fd.scope.isGenerator = false)
    (hglob : fd.globals = mainGlobals) (hblt : fd.builtins = builtinsNs)
    (hns : nsOkB fd.scope.names ns = true) (hbn : ((bnd.map (·.1)).all (keptB fd.scope.names) && decide (bnd.map (·.1)).Nodup) = true)
    (hbind : ∀ s vs ks, Base c.H c.X s.heap → repAll (fz c.X s.heap) l vs → repAll (fz c.X s.heap) (kw.map Prod.snd) ks →
      ∃ binds, BindsTo s fd ⟨vs, (kw.map Prod.fst).zip ks⟩ binds ∧ binds.map (·.1) = bnd.map (·.1) ∧ repAll (fz c.X s.heap) (bnd.map (·.2)) (binds.map (·.2)))
    (h : ∀ L, Ex (c.into (fnEnv fd a L (cellsFrom (L + 1) fd.scope.names [])) (wrOf L (cellsFrom (L + 1) fd.scope.names [])) ns) (ns.map fun x => (bnd.lookup x).getD .unk)
      (execs body (fnEnv fd a L (cellsFrom (L + 1) fd.scope.names []))) (fun fl _ => match fl with | .ret d' => d' = d | .next => d = .none | _ => False)) :
    CallD c (.val (.ref a)) l kw d := fun s E v vs ks B hv r1 r2 => by
  rw [of_val hv]
  obtain ⟨binds, hb1, hb2, hb3⟩ := hbind s vs ks B r1 r2
  refine wpAny_call ?_
  have hdep : c.A.depth < recursionLimit := by have := R.depth; omega
  refine codeAny_call_function hdep (B.h _ _ ho) hd hco hgen hbody (hcd.keeps B.h) (hb1 _ _ _ _ ?_)
  rw [hclo, hglob, hblt]
  have kept : ∀ x ∈ bnd.map (·.1), keptB fd.scope.names x = true := fun x hx => List.all_eq_true.mp (Bool.and_eq_true_iff.mp hbn).1 x hx
  have nodup : (binds.map (·.1)).Nodup := by rw [hb2]; exact of_decide_eq_true (Bool.and_eq_true_iff.mp hbn).2
  have cases_of : ∀ n x, keptB fd.scope.names x = true → fd.scope.names.lookup x = some .local ∨ (fd.scope.names.lookup x = some .cell ∧ ((cellsFrom n fd.scope.names []).lookup x).isSome = true) := fun n x hx => by
    unfold keptB at hx
    split at hx
    · rename_i e; exact .inl e
    · rename_i e; exact .inr ⟨e, cells_some (.inl e)⟩
    · cases hx
  refine wpAny_newFunctionEnv_cells hkind (fun x hx => cases_of _ x.1 (kept x.1 (hb2 ▸ List.mem_map.mpr ⟨x, hx, rfl⟩))) fun env he s1 I => ?_
  have he : env = fnEnv fd a s.heap.objs.size (cellsFrom (s.heap.objs.size + 1) fd.scope.names []) := by unfold fnEnv; rw [hglob, hblt]; exact he
  have hcells : env.cells = cellsFrom (s.heap.objs.size + 1) fd.scope.names [] := by rw [he]; rfl
  have hloc : env.locals = s.heap.objs.size := by rw [he]; rfl
  have hko : ∀ x, env.kindOf x = fd.scope.names.lookup x := fun x => by rw [he]; rfl
  refine ⟨hlim.keeps fun b o e => I.toInCall.keep b o (B.h b o e), codeAny_func ?_⟩
  have hE := h s.heap.objs.size
  rw [← he, ← hcells] at hE
  have above : ∀ x a, env.cells.lookup x = some a → s.heap.objs.size < a := fun x a e => by rw [← hloc]; exact I.above x a (mem_of_lookup e)
  have hf : ∀ b ∈ wrOf s.heap.objs.size env.cells, s.heap.get? b = none := fun b hb => by
    rcases mem_wrOf.mp hb with rfl | ⟨x, e⟩
    · exact get?_size_none _ _ (Nat.le_refl _)
    · exact get?_size_none _ _ (Nat.le_of_lt (above x b e))
  have lw : ∀ b ∈ wrOf s.heap.objs.size env.cells, Alive s1.heap b := fun b hb => by
    rcases mem_wrOf.mp hb with rfl | ⟨x, e⟩
    · obtain ⟨o, _, _, e, _⟩ := I.toInCall.ns; rw [hloc] at e; exact ⟨o, e⟩
    · obtain ⟨o, e, _⟩ := I.cell x b e; exact ⟨o, e⟩
  have ef : ExtF s s1 := by
    obtain ⟨h', tk, rfl, k⟩ := I.done
    exact ⟨k, rfl, id⟩
  have le : Fle (fz c.X s.heap) (fz (XW c.X (wrOf s.heap.objs.size env.cells)) s1.heap) := fle_grow (fun b o _ => ef.keep b o) hf
  have nt : ∀ b ∈ wrOf s.heap.objs.size env.cells, ¬ tb b := fun b hb x => by
    obtain ⟨o, e⟩ := B.tabs.alive x; rw [hf b hb] at e; cases e
  have S : St (c.into env (wrOf s.heap.objs.size env.cells) ns) (ns.map fun x => (bnd.lookup x).getD .unk) s1 := by
    refine ⟨⟨B.sys, fun a o x => ⟨?_, ef.keep a o (B.old a o x).2⟩, fun a x => ?_, B.tabs.mono (fun b o _ => ef.keep b o) le⟩, ⟨⟨?_, ?_, ?_, .inr ?_, ?_, fun x a e => ?_, I.apart, fun x hx => ?_, ?_⟩,
      fun x => if env.kindOf x = some .local then bindL env.kindOf binds (fun _ => none) x else bindC env.kindOf binds (fun _ => none) x, ⟨_, I.toInCall.ns, fun x hx => ?_⟩, fun x a e n => ?_, ?_⟩, fun a x => .inr x, .of_nil, fun a x => .inl x, fun _ h => by simp [Cx.into] at h⟩
    · rintro ((y | y) | y)
      · exact (B.old a o x).1 (.inl y)
      · have := (B.old a o x).2; rw [hf a y] at this; cases this
      · exact (B.old a o x).1 (.inr y)
    · rcases x with x | x
      · obtain ⟨o, e⟩ := B.live a x; exact ⟨o, ef.keep a o e⟩
      · exact lw a x
    · show env.scope.kind = _
      rw [he]; exact hkind
    · show env.globals = _
      rw [he]; exact hglob
    · show env.builtins = _
      rw [he]; exact hblt
    · show env.locals ∈ _
      rw [hloc]; exact mem_wrOf.mpr (.inl rfl)
    · show ¬ tb env.locals
      rw [hloc]; exact nt _ (mem_wrOf.mpr (.inl rfl))
    · exact nt _ (mem_wrOf.mpr (.inr ⟨x, e⟩))
    · have q := List.all_eq_true.mp (Bool.and_eq_true_iff.mp hns).1 x hx
      simp only [Bool.and_eq_true, Bool.not_eq_true'] at q
      refine ⟨?_, q.1.2, q.2⟩
      rcases cases_of (s.heap.objs.size + 1) x q.1.1 with y | ⟨y, z⟩
      · exact .inl ((hko x).trans y)
      · refine .inr ⟨.inl ((hko x).trans y), ?_⟩
        show ∃ c, env.cells.lookup x = some c
        rw [hcells]; exact Option.isSome_iff_exists.mp z
    · exact of_decide_eq_true (Bool.and_eq_true_iff.mp hns).2
    · show _ = (if env.kindOf x = some .local then _ else _)
      rw [if_pos (show env.kindOf x = some .local from hx)]
    · show s1.heap.IsCell a (if env.kindOf x = some .local then _ else _)
      rw [if_neg (show ¬ env.kindOf x = some .local from n)]; exact I.cell x a e
    · show slotsOk _ _ ns (List.take ns.length (ns.map fun x => (bnd.lookup x).getD .unk))
      rw [List.take_of_length_le (by simp)]
      refine slots_of fun x hx => ?_
      rw [bind_look nodup]
      have q := D.repO_mono le _ _ (lookup_bnd (x := x) hb2 hb3)
      cases hl : binds.lookup x with
      | some v => rw [hl] at q; exact q
      | none =>
        rw [hl] at q
        dsimp only
        have : (if env.kindOf x = some .local then (none : Option Value) else none) = none := by split <;> rfl
        rw [this]; exact q
  refine wpAny_mono (hE.run s1 _ S) (fun f s2 zz => ?_) fun _ _ x => x
  obtain ⟨fl, ds', r, b, q⟩ := zz
  have X := ext_of_grow ef hf lw b.ext
  dsimp only
  cases fl with
  | next => cases (show f = .next from r); refine ⟨X, ?_⟩; rw [show d = .none from q]; exact rfl
  | ret d' =>
    obtain ⟨v, rfl, rv⟩ := r
    have q : d' = d := q
    subst q
    exact ⟨X, rv⟩
  | brk => exact q.elim
  | cont => exact q.elim

end Mine
end
/-! ## part A10 -/
section
set_option maxRecDepth 100000
namespace Mine
open PySem PyProof.Rows
variable {c : Cx} {ds : List D}

noncomputable abbrev Cx.own (c : Cx) (a : Addr) : Cx := { c with X := XW c.X [a], Y := XW c.Y [a], mem := c.mem ++ [a] }
theorem owl {c : Cx} {x : Str} (y : c.Y c.env.locals) (k : c.env.kindOf x = some .local) : Owns c.env c.Y x := .inl ⟨k, y⟩
theorem fresh_cell {s : Shared} (S : St c ds s) {a : Addr} (hf : s.heap.get? a = none) : a ≠ c.env.locals ∧ (∀ x b, c.env.cells.lookup x = some b → c.env.kindOf x ≠ some .local → b ≠ a) := by
  obtain ⟨ok, look, ⟨m, hn, hm⟩, hc, hs⟩ := S.fr
  refine ⟨?_, fun x b e n => ?_⟩
  · rintro rfl
    obtain ⟨o, es, ep, e, _⟩ := hn
    rw [hf] at e; cases e
  · rintro rfl
    obtain ⟨o, q, _⟩ := hc x b e n
    rw [hf] at q; cases q
theorem St.own {s0 s' : Shared} {a : Addr} {o : Obj} {d : D} (S : St c ds s0) (e : ExtF s0 s') (hf : s0.heap.get? a = none) (ho : s'.heap.get? a = some o) (hc : cont (fz c.X s0.heap) d o) (hl : ds.length = c.ns.length + c.mem.length)
    (hcell : ∀ x b, c.env.cells.lookup x = some b → b ≠ a) : St (c.own a) (ds ++ [d]) s' := by
  have hf' : ∀ b ∈ [a], s0.heap.get? b = none := fun b hb => by rw [List.mem_singleton.mp hb]; exact hf
  have G := S.grow e hf' (fun b hb => by rw [List.mem_singleton.mp hb]; exact ⟨o, ho⟩)
  have na : a ∉ c.mem := fun h => by
    obtain ⟨o, q⟩ := S.base.live a (S.mem.ap a h).2.2.1; rw [hf] at q; cases q
  have nf := S.base.fresh hf
  refine ⟨G.base, ?_, fun b h => h.imp (S.sub b) id, ⟨fun b hb => ?_, ?_, fun j b d' e1 e2 => ?_⟩, G.subR, fun b hb => ?_⟩
  · show FrS _ _ _ ((ds ++ [d]).take c.ns.length) _
    rw [List.take_append_of_le_length (by (first | lia | omega))]
    exact G.fr
  · rcases List.mem_append.mp hb with hb | hb
    · exact G.mem.ap b hb
    · rw [List.mem_singleton.mp hb]
      exact ⟨(fresh_cell S hf).1, hcell, .inr (by simp), fun t => nf (.inr t), S.base.not_sys hf⟩
  · exact List.nodup_append.mpr ⟨S.mem.nodup, by simp, fun x hx y hy => by rw [List.mem_singleton.mp hy]; rintro rfl; exact na hx⟩
  · change (c.mem ++ [a])[j]? = some b at e1
    change (ds ++ [d])[c.ns.length + j]? = some d' at e2
    by_cases hj : j < c.mem.length
    · rw [List.getElem?_append_left hj] at e1
      rw [List.getElem?_append_left (by (first | lia | omega))] at e2
      exact G.mem.ok j b d' e1 e2
    · rw [List.getElem?_append_right (by (first | lia | omega))] at e1
      rw [List.getElem?_append_right (by (first | lia | omega))] at e2
      have z : j - c.mem.length = 0 := by
        have := (List.getElem?_eq_some_iff.mp e1).1; simp at this; (first | lia | omega)
      rw [z] at e1
      have z2 : c.ns.length + j - ds.length = 0 := sub_zero_of (by assumption) z
      rw [z2] at e2
      cases e1; cases e2
      exact ⟨o, ho, cont_mono (fle_grow (fun b o _ => e.keep b o) hf') hc⟩
  · rcases List.mem_append.mp hb with hb | hb
    · exact S.memR b hb
    · rw [List.mem_singleton.mp hb]
      exact fun r => nf (.inl (S.subR a r))

theorem StB.disown {s s0 s1 s2 : Shared} {a : Addr} {ds' : List D} (S : St c ds s) (e0 : Ext s s0) (e : ExtF s0 s1) (hf : s0.heap.get? a = none) (ha : Alive s1.heap a) (hl : ds.length = c.ns.length + c.mem.length) (b : StB (c.own a) ds' s1 s2) :
    StB c (ds'.take ds.length) s s2 := by
  have hf' : ∀ b ∈ [a], s0.heap.get? b = none := fun b hb => by rw [List.mem_singleton.mp hb]; exact hf
  have B := b.st
  have S0 := S.ext e0
  obtain ⟨_, look, hn, hc, hs⟩ := B.fr
  refine ⟨⟨⟨B.base.sys, fun a o x => ⟨(S.base.old a o x).1, (B.base.old a o x).2⟩, fun a x => B.base.live a (.inl x), B.base.tabs.mono (fun _ _ _ e => e) (fz_mono (fun _ x => .inl x) _)⟩, ⟨S.fr.ok, look, hn, hc, ?_⟩, S.sub, ⟨S.mem.ap, S.mem.nodup, fun j x d e1 e2 => ?_⟩, S.subR, S.memR⟩,
    e0.but.trans (extB_shrink e hf' (fun b hb => by rw [List.mem_singleton.mp hb]; exact ha) b.ext)⟩
  · rw [List.take_take, Nat.min_eq_left (by (first | lia | omega))]
    exact hs.mono (fz_mono (fun _ x => .inl x) _)
  · have hj := (List.getElem?_eq_some_iff.mp e1).1
    have e2' : ds'[c.ns.length + j]? = some d := by
      rw [List.getElem?_take] at e2
      split at e2
      · exact e2
      · cases e2
    obtain ⟨o, q, r⟩ := B.mem.ok j x d (by show (c.mem ++ [a])[j]? = _; rw [List.getElem?_append_left hj]; exact e1) e2'
    exact ⟨o, q, cont_mono (fz_mono (fun _ x => .inl x) _) r⟩

structure EvNew (c : Cx) (ds : List D) (e : Expr) (d : D) : Prop where
  run : ∀ s E, St c ds s → wpAny c.M c.A (eval e c.env) (fun v s' => ∃ a s0 o, v = .ref a ∧ Ext s s0 ∧ ExtF s0 s' ∧ s0.heap.get? a = none ∧ s'.heap.get? a = some o ∧ cont (fz c.X s0.heap) d o) E s
theorem new_list {pos es l} (h : EvL c ds pos es l) (hl : l.length ≤ 2 ^ 20) : EvNew c ds (.List es pos) (.list l) := .mk fun s E S =>
  wpAny_List (wpAny_mono (h.run s E S) (fun vs s1 ⟨e1, r1⟩ => ⟨by rw [repAll_length r1, sizeLine_eq]; (first | lia | omega), s1.heap.objs.size, s1, _, rfl, e1, ExtF.push s1 _, get?_size_none _ _ (Nat.le_refl _), Heap.get?_push_size _ rfl, _, _, rfl, by simpa using r1⟩) fun _ _ x => x)
theorem new_dict {pos} : EvNew c ds (.Dict [] [] pos) (.dict [] []) := .mk fun s E S =>
  wpAny_Dict_empty ⟨s.heap.objs.size, s, _, rfl, .refl s, ExtF.push s _, get?_size_none _ _ (Nat.le_refl _), Heap.get?_push_size _ rfl, #[], _, [], rfl, trivial, trivial, rfl, .nil⟩
theorem ex_own (i : Nat) {x px value pos rest d} {Q : Fl → List D → Prop} (h : EvNew c ds value d) (hx : c.ns[i]? = some x) (ho : Owns c.env c.Y x) (hl : ds.length = c.ns.length + c.mem.length) (hnc : ∀ x b, c.env.cells.lookup x = some b → c.env.kindOf x ≠ some .local)
    (k : ∀ a, Ex (c.own a) ((ds ++ [d]).set i (.val (.ref a))) (execs rest c.env) (fun fl ds' => Q fl (ds'.take ds.length)))
    (hs : swapsWith value (some (.Name x px)) pos.line c.env = pure false := by rfl) : Ex c ds (execs (.Assign [.Name x px] value pos :: rest) c.env) Q := .mk fun s E S => by
  refine wpAny_execs_cons (wpAny_Assign_Name (wpAny_mono (h.run s E S) (fun v s1 zz => ?_) fun _ _ x => x) hs)
  obtain ⟨a, s0, o, ev, e0, ef, hf, ha, hcn⟩ := zz
  subst ev
  have S1 := (S.ext e0).own ef hf ha hcn hl (fun x b e => (fresh_cell (S.ext e0) hf).2 x b e (hnc x b e))
  refine store (c := c.own a) S1 hx (Or.imp (fun z => ⟨z.1, Or.inl z.2⟩) (fun z => ⟨z.1, let ⟨b, p, q⟩ := z.2; ⟨b, p, Or.inl q⟩⟩) ho) rep_val fun s2 b => ?_
  refine wpAny_mono ((k a).run s2 E b.st) (fun f s3 zz => ?_) fun _ _ x => x
  obtain ⟨fl, ds', r, b2, q⟩ := zz
  exact ⟨fl, _, r, StB.disown S e0 ef hf ⟨o, ha⟩ hl (b.trans b2), q⟩

theorem St.upd {s : Shared} {h' : Heap} {tk : Nat} {j : Nat} {a : Addr} {o' : Obj} {d' : D} (S : St c ds s) (ha : c.mem[j]? = some a) (hY : c.Y a) (hs : Heap.SameBut a s.heap h') (ho : h'.get? a = some o') (hc : cont (fz c.X s.heap) d' o') :
    StB c (ds.set (c.ns.length + j) d') s { s with heap := h', toks := tk } := by
  obtain ⟨p1, p2, p3, p4, p5⟩ := S.mem.ap a (List.mem_of_getElem? ha)
  have kb₀ : KeepB c.Y s.heap h' := .of_same hs hY p4 ⟨_, ho⟩
  have kb : KeepB c.X s.heap h' := kb₀.mono S.sub
  obtain ⟨ok, look, ⟨m, hn, hm⟩, hcl, hsl⟩ := S.fr
  refine ⟨⟨S.base.keep kb, ⟨ok, look, ⟨m, hn.sameBut hs p1.symm, hm⟩, fun x b e n => (hcl x b e n).sameBut hs (p2 x b e), ?_⟩, S.sub, ⟨S.mem.ap, S.mem.nodup, fun j' b d e1 e2 => ?_⟩, S.subR, S.memR⟩, ⟨kb₀, rfl, id⟩⟩
  · rw [List.take_set_of_le (by (first | lia | omega))]; exact hsl.mono kb.fz
  · by_cases hj : j' = j
    · subst hj
      rw [ha] at e1; cases e1
      have hlt : c.ns.length + j' < ds.length := by
        have := (List.getElem?_eq_some_iff.mp e2).1; simpa using this
      rw [List.getElem?_set_self hlt] at e2; cases e2
      exact ⟨o', ho, cont_mono kb.fz hc⟩
    · rw [List.getElem?_set_ne (by (first | lia | omega))] at e2
      obtain ⟨o, q, r⟩ := S.mem.ok j' b d e1 e2
      have hb : b ≠ a := by
        rintro rfl
        have h1 := List.getElem?_eq_some_iff.mp e1
        have h2 := List.getElem?_eq_some_iff.mp ha
        exact hj ((List.getElem_inj S.mem.nodup).mp (h1.2.trans h2.2.symm))
      exact ⟨o, (hs.2 b hb).trans q, cont_mono kb.fz r⟩

theorem ex_aug_list (i j : Nat) {a : Addr} {x px ie ipos op value pos} {l : List D} {k : Nat} {d1 d2 d : D} {Q : Fl → List D → Prop} (hx : c.ns[i]? = some x) (hi : ds[i]? = some (.val (.ref a))) (hj : c.mem[j]? = some a) (hl : ds[c.ns.length + j]? = some (.list l)) (hY : c.Y a)
    (hie : Ev c ds ie (.int (k : Int))) (hk : l[k]? = some d1) (hk2 : (k : Int) < 2 ^ 63) (h : Ev c ds value d2) (ho : Op2 c (inplaceOp op) d1 d2 d) (q : Q .next (ds.set (c.ns.length + j) (.list (l.set k d))))
    (hi2 : ∀ ov iv new, augStore ie ov iv new = (do holding [new, ov, iv] (setItem ov iv new); release [new, ov, iv] []; pure .next) := by intros; rfl) :
    Ex c ds (exec (.AugAssign (.Subscript (.Name x px) ie ipos) op value pos) c.env) Q := .mk fun s E S => by
  refine PyProof.Rows.wpAny_AugAssign_Subscript_any (wpAny_mono ((ev_name i hx hi rfl).run s E S) (fun u s1 zz => ?_) fun _ _ x => x) hi2
  obtain ⟨e1, r1⟩ := zz
  rw [of_val r1]
  refine wpAny_mono (hie.run s1 E (S.ext e1)) (fun iv s2 zz => ?_) fun _ _ x => x
  obtain ⟨e2, t, r2⟩ := zz
  subst r2
  have S2 := (S.ext e1).ext e2
  obtain ⟨o, hoa, items, n, rfl, hr⟩ := S2.mem.ok j a _ hj hl
  obtain ⟨v1, hv1, rv1⟩ := repAll_get hr hk
  have hv1' : items[k]? = some v1 := by rw [← Array.getElem?_toList]; exact hv1
  refine wpAny_getItem_list (k := (k : Int)) (x := v1) ⟨_, hoa, rfl, n, rfl⟩ (by (first | lia | omega)) hk2 (by simpa using hv1') ?_
  refine wpAny_mono (h.run s2 E S2) (fun v s3 zz => ?_) fun _ _ x => x
  obtain ⟨e3, r3⟩ := zz
  refine wpAny_mono (ho s3 E v1 v (S2.ext e3).base (D.rep_mono e3.keep.fz _ _ rv1) r3) (fun nv s4 zz => ?_) fun _ _ x => x
  obtain ⟨e4, r4⟩ := zz
  have S4 := (S2.ext e3).ext e4
  obtain ⟨o, hoa, items, n, rfl, hr⟩ := S4.mem.ok j a _ hj hl
  have hsz : k < items.size := by
    have := repAll_length hr
    have h2 := (List.getElem?_eq_some_iff.mp hk).1
    simp at this; (first | lia | omega)
  refine PySem.W.ki_setAt (n := n) hoa (by (first | lia | omega)) hk2 (by (first | lia | omega)) ?_
  have hu := get?_update_seq (c := "list") (xs := items) (n := n) hoa (fun xs => xs.setIfInBounds ((k : Int)).toNat nv)
  have b := S4.upd (tk := s4.toks) hj hY (Heap.SameBut.update ..) hu (d' := .list (l.set k d)) ⟨_, _, rfl, by
    have := repAll_set hr k r4
    simpa using this⟩
  exact ⟨.next, _, rfl, .of_ext (((e1.trans e2).trans e3).trans e4) b, q⟩

noncomputable def dset (ks : List Int) (l : List D) (k : Int) (d : D) : List Int × List D := if k ∈ ks then (ks, (ks.zip l).map fun p => if p.1 = k then d else p.2) else (ks ++ [k], l ++ [d])
theorem cont_dict_to (prog : Program) (w : World) {X : Addr → Prop} {h : Heap} {ks : List Int} {l : List D} {o : Obj} {a : Addr} (ho : h.get? a = some o) (r : cont (fz X h) (.dict ks l) o) :
    ∃ kvs, h.DictOf (intKind prog w) a kvs ∧ kvs.map Prod.fst = ks ∧ repAll (fz X h) l (kvs.map Prod.snd) ∧ ks.Nodup := by
  obtain ⟨es, n, kvs, rfl, r, p, q, nd⟩ := r
  obtain ⟨p1, p2⟩ := pairsI_to (prog := prog) (w := w) p
  exact ⟨kvs, ⟨_, es, n, ho, ⟨rfl, rfl, rfl⟩, rfl, fun x hx => p2 x (Array.mem_toList_iff.mpr hx), p1, q ▸ nd⟩, q, r, nd⟩
theorem stored_rep {g : Fz} {k : Int} {d : D} {v : Value} (rv : d.rep g v) : ∀ {kvs : List (Int × Value)} {ks : List Int} {l : List D}, kvs.map Prod.fst = ks → repAll g l (kvs.map Prod.snd) →
    (stored kvs k v).map Prod.fst = (dset ks l k d).1 ∧ repAll g (dset ks l k d).2 ((stored kvs k v).map Prod.snd) := by
  intro kvs ks l q r
  have hany : kvs.any (fun kv => kv.1 = k) = decide (k ∈ ks) := by
    rw [← q, Bool.eq_iff_iff]; simp
  unfold stored dset
  rw [hany]
  by_cases hk : k ∈ ks
  · simp only [hk, decide_true, if_true]
    clear hany hk
    induction kvs generalizing ks l with
    | nil => cases q; cases l <;> first | exact ⟨rfl, trivial⟩ | exact r.elim
    | cons kv kvs ih =>
      cases q
      cases l with
      | nil => exact r.elim
      | cons e l =>
        obtain ⟨i1, i2⟩ := ih rfl r.2
        refine ⟨?_, ?_⟩
        · simp only [List.map_cons]
          rw [i1]
          split <;> rfl
        · simp only [List.map_cons, List.zip_cons_cons]
          refine ⟨?_, i2⟩
          by_cases h : kv.1 = k
          · simp only [h, if_true]; exact rv
          · simp only [h, if_false]; exact r.1
  · simp only [hk, decide_false, Bool.false_eq_true, if_false]
    refine ⟨by simp [q], ?_⟩
    rw [List.map_append]
    exact repAll_append r ⟨rv, trivial⟩
theorem dictOf_cont {prog : Program} {w : World} {X : Addr → Prop} {h : Heap} {a : Addr} {kvs : List (Int × Value)} {ks : List Int} {l : List D} {g : Fz} (d : h.DictOf (intKind prog w) a kvs) (q : kvs.map Prod.fst = ks) (r : repAll g l (kvs.map Prod.snd)) :
    ∃ o, h.get? a = some o ∧ cont g (.dict ks l) o := by
  obtain ⟨es, n, e, p, nd⟩ := dictOf_of d
  exact ⟨_, e, es, n, kvs, rfl, r, p, q, q ▸ nd⟩
theorem set_dict {s : Shared} {E : Value → Shared → Prop} {Q : Unit → Shared → Prop} {j : Nat} {a : Addr} {ks : List Int} {l : List D} {k : Int} {t : Tok} {v : Value} {d : D} (S : St c ds s) (hj : c.mem[j]? = some a) (hl : ds[c.ns.length + j]? = some (.dict ks l)) (hY : c.Y a)
    (hlen : ks.length ≤ 2 ^ 20) (rv : d.rep (fz c.X s.heap) v) (q : ∀ s', StB c (ds.set (c.ns.length + j) (.dict (dset ks l k d).1 (dset ks l k d).2)) s s' → Q () s') : wpAny c.M c.A (setItem (.ref a) (.int k t) v) Q E s := by
  obtain ⟨o, ho, hc⟩ := S.mem.ok j a _ hj hl
  obtain ⟨kvs, hd, q1, r, nd⟩ := cont_dict_to c.prog c.w ho hc
  refine wpAny_setItem_pairs (knd := intKind c.prog c.w) (k := k) (by simp [intKind, Value.isInt]) hd (fun h' hd' hs' => ?_) (by rw [sizeLine_eq]; have := congrArg List.length q1; simp at this; (first | lia | omega))
  obtain ⟨q2, r2⟩ := stored_rep (k := k) rv q1 r
  obtain ⟨o', ho', hc'⟩ := dictOf_cont (X := c.X) hd' q2 r2
  exact q _ (S.upd (tk := s.toks + 1) hj hY hs' ho' hc')
theorem ex_set_dict (i j : Nat) {a : Addr} {x px ie ipos value pos} {ks : List Int} {l : List D} {k : Int} {d : D} {Q : Fl → List D → Prop} (hx : c.ns[i]? = some x) (hi : ds[i]? = some (.val (.ref a))) (hj : c.mem[j]? = some a) (hl : ds[c.ns.length + j]? = some (.dict ks l)) (hY : c.Y a)
    (hlen : ks.length ≤ 2 ^ 20) (h : Ev c ds value d) (hie : Ev c ds ie (.int k)) (q : Q .next (ds.set (c.ns.length + j) (.dict (dset ks l k d).1 (dset ks l k d).2)))
    (hs : swapsWith value (some (.Subscript (.Name x px) ie ipos)) pos.line c.env = pure false := by rfl) :
    Ex c ds (exec (.Assign [.Subscript (.Name x px) ie ipos] value pos) c.env) Q := .mk fun s E S => by
  refine wpAny_Assign_Subscript (wpAny_mono (h.run s E S) (fun v s1 zz => ?_) fun _ _ x => x) hs
  obtain ⟨e1, r1⟩ := zz
  refine wpAny_mono ((ev_name i hx hi rfl).run s1 E (S.ext e1)) (fun u s2 zz => ?_) fun _ _ x => x
  obtain ⟨e2, r2⟩ := zz
  rw [of_val r2]
  refine wpAny_mono (hie.run s2 E ((S.ext e1).ext e2)) (fun iv s3 zz => ?_) fun _ _ x => x
  obtain ⟨e3, t, r3⟩ := zz
  subst r3
  exact set_dict (((S.ext e1).ext e2).ext e3) hj hl hY hlen (D.rep_mono (e2.trans e3).keep.fz _ _ r1) fun s' b => ⟨.next, _, rfl, .of_ext ((e1.trans e2).trans e3) b, q⟩
theorem ex_aug_dict (i j : Nat) {a : Addr} {x px ie ipos op value pos} {ks : List Int} {l : List D} {k : Int} {d1 d2 d : D} {Q : Fl → List D → Prop} (hx : c.ns[i]? = some x) (hi : ds[i]? = some (.val (.ref a))) (hj : c.mem[j]? = some a) (hl : ds[c.ns.length + j]? = some (.dict ks l)) (hY : c.Y a)
    (hlen : ks.length ≤ 2 ^ 20) (hie : Ev c ds ie (.int k)) (hk : dget ks l k = some d1) (h : Ev c ds value d2) (ho : Op2 c (inplaceOp op) d1 d2 d) (q : Q .next (ds.set (c.ns.length + j) (.dict (dset ks l k d).1 (dset ks l k d).2)))
    (hi2 : ∀ ov iv new, augStore ie ov iv new = (do holding [new, ov, iv] (setItem ov iv new); release [new, ov, iv] []; pure .next) := by intros; rfl) :
    Ex c ds (exec (.AugAssign (.Subscript (.Name x px) ie ipos) op value pos) c.env) Q := .mk fun s E S => by
  refine PyProof.Rows.wpAny_AugAssign_Subscript_any (wpAny_mono ((ev_name i hx hi rfl).run s E S) (fun u s1 zz => ?_) fun _ _ x => x) hi2
  obtain ⟨e1, r1⟩ := zz
  rw [of_val r1]
  refine wpAny_mono (hie.run s1 E (S.ext e1)) (fun iv s2 zz => ?_) fun _ _ x => x
  obtain ⟨e2, t, r2⟩ := zz
  subst r2
  have S2 := (S.ext e1).ext e2
  obtain ⟨o, hoa, hc⟩ := S2.mem.ok j a _ hj hl
  obtain ⟨kvs, hd, q1, r, nd⟩ := cont_dict_to c.prog c.w hoa hc
  obtain ⟨v1, hv1, rv1⟩ := dget_some q1 r hk
  refine wpAny_getItem_of (knd := intKind c.prog c.w) (k := k) (by simp [intKind, Value.isInt]) hd.mapOf hv1 ?_
  have x2 := Ext.tok s2 (s2.toks + 1)
  have S2' := S2.ext x2
  refine wpAny_mono (h.run _ E S2') (fun v s3 zz => ?_) fun _ _ x => x
  obtain ⟨e3, r3⟩ := zz
  refine wpAny_mono (ho s3 E v1 v (S2'.ext e3).base (D.rep_mono e3.keep.fz _ _ rv1) r3) (fun nv s4 zz => ?_) fun _ _ x => x
  obtain ⟨e4, r4⟩ := zz
  have S4 := (S2'.ext e3).ext e4
  exact set_dict S4 hj hl hY hlen r4 fun s' b => ⟨.next, _, rfl, .of_ext ((((e1.trans e2).trans x2).trans e3).trans e4) b, q⟩
theorem evt_in_own (i j : Nat) {a : Addr} {ke x px pos} {ks : List Int} {l : List D} {k : Int} (hk : Ev c ds ke (.int k)) (hx : c.ns[i]? = some x) (hi : ds[i]? = some (.val (.ref a))) (hj : c.mem[j]? = some a) (hl : ds[c.ns.length + j]? = some (.dict ks l)) :
    EvT c ds (.Compare ke [.In] [.Name x px] pos) (decide (k ∈ ks)) := .mk fun s E S =>
  wpAny_isTrue_Compare1 (wpAny_mono (hk.run s E S) (fun v1 s1 ⟨e1, t, r1⟩ => wpAny_mono ((ev_name i hx hi rfl).run s1 E (S.ext e1)) (fun v2 s2 zz => by
    obtain ⟨e2, r2⟩ := zz
    subst r1
    rw [of_val r2]
    have S2 := (S.ext e1).ext e2
    obtain ⟨o, hoa, hc⟩ := S2.mem.ok j a _ hj hl
    obtain ⟨kvs, hd, q1, r, nd⟩ := cont_dict_to c.prog c.w hoa hc
    refine wpAny_in_of (knd := intKind c.prog c.w) (k := k) (by simp [intKind, Value.isInt]) (S2.mem.ap a (List.mem_of_getElem? hj)).2.2.2.2 hd.mapOf ?_
    refine wpAny_truthy_bool ⟨(e1.trans e2).trans (Ext.tok s2 _), ?_⟩
    rw [dget_isSome q1 r k]
    clear hl hc hd nd r2 hoa
    have : ∀ {ks : List Int} {l : List D} {vs : List Value}, repAll (fz c.X s2.heap) l vs → vs.length = ks.length → (dget ks l k).isSome = decide (k ∈ ks) := by
      intro ks
      induction ks with
      | nil => intro l vs _ _; cases l <;> simp [dget]
      | cons x ks ih =>
        intro l vs r h
        cases l with
        | nil =>
          cases vs with
          | nil => simp at h
          | cons _ _ => exact r.elim
        | cons d l =>
          cases vs with
          | nil => exact r.elim
          | cons v vs =>
            rw [dget]
            by_cases hx : x = k
            · simp [hx]
            · rw [if_neg hx, ih r.2 (by simpa using h)]
              simp [Ne.symm hx]
    exact this r (by rw [← q1]; simp)) fun _ _ x => x) fun _ _ x => x) rfl
theorem ev_item_own (i j : Nat) {a : Addr} {ke x px pos} {ks : List Int} {l : List D} {k : Int} {d : D} (hk : Ev c ds ke (.int k)) (hx : c.ns[i]? = some x) (hi : ds[i]? = some (.val (.ref a))) (hj : c.mem[j]? = some a) (hl : ds[c.ns.length + j]? = some (.dict ks l))
    (hd : dget ks l k = some d) (hs : notSlice ke = true := by rfl) : Ev c ds (.Subscript (.Name x px) ke pos) d := .mk fun s E S =>
  Subscript_ (wpAny_mono ((ev_name i hx hi rfl).run s E S) (fun v1 s1 ⟨e1, r1⟩ => wpAny_mono (hk.run s1 E (S.ext e1)) (fun v2 s2 zz => by
    obtain ⟨e2, t, r2⟩ := zz
    subst r2
    rw [of_val r1]
    have S2 := (S.ext e1).ext e2
    obtain ⟨o, hoa, hc⟩ := S2.mem.ok j a _ hj hl
    obtain ⟨kvs, hdo, q1, r, nd⟩ := cont_dict_to c.prog c.w hoa hc
    obtain ⟨v, hv, rv⟩ := dget_some q1 r hd
    exact tail_any hdo.typeIs slot_dict_getitem.lookup (wpAny_getItem_of (knd := intKind c.prog c.w) (k := k) (by simp [intKind, Value.isInt]) hdo.mapOf hv ⟨(e1.trans e2).trans (.tok s2 _), rv⟩) (subscripted_plain hs _ _)) fun _ _ x => x) fun _ _ x => x)

noncomputable abbrev Cx.frz (c : Cx) : Cx := { c with X := fun b => c.X b ∧ b ∉ c.mem, Y := fun b => c.Y b ∧ b ∉ c.mem, mem := [] }
theorem St.frz {s : Shared} (S : St c ds s) : St c.frz (ds.take c.ns.length) s := by
  obtain ⟨ok, look, hn, hc, hs⟩ := S.fr
  have le : Fle (fz c.X s.heap) (fz c.frz.X s.heap) := fz_mono (fun _ x => x.1) _
  refine ⟨⟨S.base.sys, fun a o x => ⟨fun y => (S.base.old a o x).1 (y.imp (·.1) id), (S.base.old a o x).2⟩, fun a x => S.base.live a x.1, S.base.tabs.mono (fun _ _ _ e => e) le⟩,
    ⟨⟨ok.kind, ok.glob, ok.blt, ⟨ok.own, fun h => (S.mem.ap _ h).1 rfl⟩, ok.loct, ok.celt, ok.apart, ok.names, ok.nodup⟩, look, hn, hc, ?_⟩, fun a x => ⟨S.sub a x.1, x.2⟩, .of_nil, fun a x => ⟨S.subR a x, fun h => S.memR a h x⟩, fun _ h => by simp at h⟩
  show slotsOk _ _ _ (List.take _ (List.take _ _))
  rw [List.take_take, Nat.min_self]
  exact hs.mono le
theorem St.melt {s : Shared} {i : Nat} {a : Addr} {d : D} (S : St c ds s) (hlt : i < c.ns.length) (hi : ds[i]? = some (.val (.ref a))) (hr : d.rep (fz c.X s.heap) (.ref a)) : St c (ds.set i d) s := by
  obtain ⟨ok, look, hn, hc, hs⟩ := S.fr
  have key : ∀ {ns : List Str} {l : List D} {i : Nat}, slotsOk (fz c.X s.heap) look ns l → l[i]? = some (.val (.ref a)) → slotsOk (fz c.X s.heap) look ns (l.set i d) := by
    intro ns
    induction ns with
    | nil => intro l i h e; cases l <;> first | simp at e | exact h.elim
    | cons x ns ih =>
      intro l i h e
      cases l with
      | nil => exact h.elim
      | cons e0 l =>
        cases i with
        | zero =>
          cases e
          refine ⟨?_, h.2⟩
          have h1 := h.1
          cases hl : look x with
          | none => rw [hl] at h1; exact h1.elim
          | some v => rw [hl] at h1; rw [of_val h1]; exact D.repO_some hr
        | succ i => exact ⟨h.1, ih h.2 e⟩
  refine ⟨S.base, ⟨ok, look, hn, hc, ?_⟩, S.sub, ⟨S.mem.ap, S.mem.nodup, fun j b e e1 e2 => S.mem.ok j b e e1 (by rwa [List.getElem?_set_ne (by (first | lia | omega))] at e2)⟩, S.subR, S.memR⟩
  rw [List.take_set]
  exact key hs (by rw [List.getElem?_take, if_pos hlt]; exact hi)
noncomputable def D.box : D → Bool
  | .list _ => true
  | .dict _ _ => true
  | _ => false
theorem rep_of_cont {X : Addr → Prop} {g : Fz} {h : Heap} {d : D} {a : Addr} {o : Obj} (ho : h.get? a = some o) (hX : ¬ (X a ∨ tb a)) (hc : cont (fz X h) d o) (hd : d.box = true) (ns : (a == sysModules) = false) : d.rep (fz X h) (.ref a) := by
  cases d <;> first | (cases hd; done) | skip
  · obtain ⟨items, n, rfl, r⟩ := hc
    exact ⟨a, items, n, rfl, ⟨hX, ho⟩, r⟩
  · obtain ⟨es, n, kvs, rfl, r⟩ := hc
    exact ⟨a, es, n, kvs, rfl, ns, ⟨hX, ho⟩, r.1, r.2.1, r.2.2.1, r.2.2.2⟩
theorem St.held {s : Shared} {j : Nat} {a : Addr} {d : D} (S : St c ds s) (hj : c.mem[j]? = some a) (hl : ds[c.ns.length + j]? = some d) (hd : d.box = true) : d.rep (fz c.frz.X s.heap) (.ref a) := by
  obtain ⟨o, ho, hc⟩ := S.mem.ok j a d hj hl
  obtain ⟨_, _, _, p4, p5⟩ := S.mem.ap a (List.mem_of_getElem? hj)
  exact rep_of_cont (g := fz c.X s.heap) ho (fun x => x.elim (fun y => y.2 (List.mem_of_getElem? hj)) p4) (cont_mono (fz_mono (fun _ x => x.1) _) hc) hd p5
noncomputable def unks (ns : List Str) : List D := ns.map fun _ => .unk
theorem slotsOk_unks {g : Fz} {look} : ∀ {ns : List Str}, slotsOk g look ns (unks ns)
  | [] => trivial
  | _ :: _ => ⟨trivial, slotsOk_unks⟩
theorem ex_frz {t : Sem Flow} {q : Fl → Prop} (ds' : List D) (hd : ∀ s, St c ds s → St c.frz ds' s) (h : Ex c.frz ds' t (fun fl _ => q fl)) : Ex c ds t (fun fl _ => q fl) := .mk fun s E S =>
  wpAny_mono (h.run s E (hd s S)) (fun f s' zz => by
    obtain ⟨fl, ds₂, r, b, q⟩ := zz
    obtain ⟨_, look, hn, hcl, _⟩ := b.st.fr
    refine ⟨fl, unks c.ns, r, ⟨⟨S.base.keep ((b.ext.keep.mono (Y := c.Y) fun a x => x.1).mono S.sub), ⟨S.fr.ok, look, hn, hcl, ?_⟩, S.sub, ⟨S.mem.ap, S.mem.nodup, fun j a d e1 e2 => ?_⟩, S.subR, S.memR⟩, b.ext.mono fun a x => x.1⟩, q⟩
    · rw [List.take_of_length_le (by simp [unks])]; exact slotsOk_unks
    · have := (List.getElem?_eq_some_iff.mp e2).1; simp [unks] at this; (first | lia | omega)) fun _ _ x => x

end Mine
end
/-! ## part A11 -/
section
set_option maxRecDepth 100000
namespace Mine
open PySem PyProof.Rows
variable {c : Cx} {ds : List D}

noncomputable def cloFrom (cells : List (Str × Addr)) : List (Str × NameKind) → List (Str × Addr) → List (Str × Addr)
  | [], acc => acc
  | (n, k) :: r, acc => if k == .free then (match cells.lookup n with | some a => cloFrom cells r ((n, a) :: acc) | none => cloFrom cells r acc) else cloFrom cells r acc
theorem closureFor_go {env : Env} : ∀ (names : List (Str × NameKind)) (acc : List (Str × Addr)), (∀ p ∈ names, p.2 = .free → (env.cells.lookup p.1).isSome = true) →
    (forIn names acc fun x r => match x with | (name, kind) => if kind == .free then (do let a ← cellOf env name; pure (ForInStep.yield ((name, a) :: r))) else pure (ForInStep.yield r) : Sem (List (Str × Addr))) = pure (cloFrom env.cells names acc)
  | [], acc, _ => by rw [List.forIn_nil]; rfl
  | (n, k) :: r, acc, h => by
    rw [List.forIn_cons]
    have hr : ∀ p ∈ r, p.2 = .free → (env.cells.lookup p.1).isSome = true := fun p hp => h p (.tail _ hp)
    unfold cloFrom
    by_cases hk : k = .free
    · subst hk
      obtain ⟨a, ha⟩ := Option.isSome_iff_exists.mp (h (n, .free) (.head _) rfl)
      simp only [cellOf, ha, beq_self_eq_true, if_true, pure_bind]
      exact closureFor_go r _ hr
    · have hb : (k == NameKind.free) = false := by simpa using hk
      simp only [hb, Bool.false_eq_true, if_false, pure_bind]
      exact closureFor_go r _ hr
theorem closureFor_eq {scope : Scope} {env : Env} (h : ∀ p ∈ scope.names, p.2 = .free → (env.cells.lookup p.1).isSome = true) : closureFor scope env = pure (cloFrom env.cells scope.names []) := by
  have := closureFor_go (env := env) scope.names [] h
  simp only [closureFor]
  simpa using this
theorem cloFrom_mem {cells : List (Str × Addr)} : ∀ {names : List (Str × NameKind)} {acc : List (Str × Addr)} {n : Str} {a : Addr}, (n, a) ∈ cloFrom cells names acc → (n, a) ∈ acc ∨ ((n, NameKind.free) ∈ names ∧ cells.lookup n = some a)
  | [], _, _, _, h => .inl h
  | (x, k) :: r, acc, n, a, h => by
    unfold cloFrom at h
    split at h
    · rename_i hk
      have hk : k = .free := by simpa using hk
      split at h
      · rename_i b hb
        rcases cloFrom_mem h with h | ⟨h, h'⟩
        · rcases List.mem_cons.mp h with e | h
          · cases e; exact .inr ⟨hk ▸ List.mem_cons_self, hb⟩
          · exact .inl h
        · exact .inr ⟨.tail _ h, h'⟩
      · exact (cloFrom_mem h).imp id fun ⟨h, h'⟩ => ⟨.tail _ h, h'⟩
    · exact (cloFrom_mem h).imp id fun ⟨h, h'⟩ => ⟨.tail _ h, h'⟩
theorem cloFrom_look {cells : List (Str × Addr)} {x : Str} : ∀ {names : List (Str × NameKind)} {acc : List (Str × Addr)}, (x, NameKind.free) ∈ names → (∀ p ∈ names, p.2 = .free → (cells.lookup p.1).isSome = true) → ((cloFrom cells names acc).lookup x).isSome = true := by
  have keep : ∀ {names : List (Str × NameKind)} {acc : List (Str × Addr)}, (acc.lookup x).isSome = true → ((cloFrom cells names acc).lookup x).isSome = true := by
    intro names
    induction names with
    | nil => exact fun h => h
    | cons p r ih =>
      intro acc h
      obtain ⟨n, k⟩ := p
      unfold cloFrom
      split
      · split
        · refine ih ?_
          rw [List.lookup_cons]
          cases x == n <;> first | rfl | exact h
        · exact ih h
      · exact ih h
  intro names
  induction names with
  | nil => intro acc h; simp at h
  | cons p r ih =>
    intro acc h hs
    obtain ⟨n, k⟩ := p
    have hr : ∀ p ∈ r, p.2 = .free → (cells.lookup p.1).isSome = true := fun p hp => hs p (.tail _ hp)
    unfold cloFrom
    rcases List.mem_cons.mp h with e | h
    · cases e
      obtain ⟨a, ha⟩ := Option.isSome_iff_exists.mp (hs (x, .free) (.head _) rfl)
      simp only [beq_self_eq_true, if_true, ha]
      exact keep (by rw [List.lookup_cons, beq_self_eq_true]; rfl)
    · split
      · split
        · exact ih h hr
        · exact ih h hr
      · exact ih h hr
theorem cellsFrom_append : ∀ {names : List (Str × NameKind)} {n : Nat} {acc cl : List (Str × Addr)}, cellsFrom n names (acc ++ cl) = cellsFrom n names acc ++ cl
  | [], _, _, _ => rfl
  | (x, k) :: r, n, acc, cl => by
    unfold cellsFrom
    split
    · exact cellsFrom_append (acc := (x, n) :: acc)
    · exact cellsFrom_append
theorem cellsFrom_mem : ∀ {names : List (Str × NameKind)} {n : Nat} {acc : List (Str × Addr)} {x : Str} {a : Addr}, (x, a) ∈ cellsFrom n names acc → (x, a) ∈ acc ∨ (x, NameKind.cell) ∈ names
  | [], _, _, _, _, h => .inl h
  | (y, k) :: r, n, acc, x, a, h => by
    unfold cellsFrom at h
    split at h
    · rename_i hk
      have hk : k = .cell := by simpa using hk
      rcases cellsFrom_mem h with h | h
      · rcases List.mem_cons.mp h with e | h
        · cases e; exact .inr (hk ▸ List.mem_cons_self)
        · exact .inl h
      · exact .inr (.tail _ h)
    · exact (cellsFrom_mem h).imp id (.tail _)
theorem lookup_of_mem {α : Type} : ∀ {l : List (Str × α)} {x : Str} {a : α}, (l.map (·.1)).Nodup → (x, a) ∈ l → l.lookup x = some a
  | (y, b) :: r, x, a, nd, h => by
    have nd' := List.nodup_cons.mp nd
    rw [List.lookup_cons]
    rcases List.mem_cons.mp h with e | h2
    · cases e; simp
    · have : ¬ x = y := fun q => nd'.1 (List.mem_map.mpr ⟨(x, a), h2, q⟩)
      have hb : (x == y) = false := by simpa using this
      rw [hb]; exact lookup_of_mem nd'.2 h2
  | [], _, _, _, h => by simp at h

noncomputable def compOkB (scope : Scope) (env : Env) (cns own : List Str) (caps : List (Str × Nat)) : Bool :=
  scope.kind == .function && decide (scope.names.map (·.1)).Nodup && (scope.names.all fun p => p.2 != .free || ((env.cells.lookup p.1).isSome && env.kindOf p.1 != some .local)) &&
  (own.all fun x => match scope.names.lookup x with | some .local => true | some .cell => true | _ => false) && (caps.all fun p => scope.names.lookup p.1 == some .free && cns[p.2]? == some p.1) &&
  decide (own ++ caps.map (·.1)).Nodup && ((own ++ caps.map (·.1)).all fun x => !(x == ("__debug__" : Str)) && !(x == ("__classdict__" : Str)))
noncomputable def compCells (scope : Scope) (env : Env) (C : Addr) : List (Str × Addr) := cellsFrom (C + 1) scope.names (cloFrom env.cells scope.names [])
noncomputable def compWr (scope : Scope) (C : Addr) : List Addr := wrOf C (cellsFrom (C + 1) scope.names [])
noncomputable abbrev Cx.comp (c : Cx) (scope : Scope) (own : List Str) (caps : List (Str × Nat)) (wr : List Addr) (C : Addr) : Cx :=
  { c with X := XW (XW c.X (compWr scope C)) wr, Y := (· ∈ compWr scope C), env := compEnvC scope (compCells scope c.env C) C c.env, ns := own ++ caps.map (·.1), mem := [], R := c.X }
noncomputable def compDs (ds : List D) (own : List Str) (caps : List (Str × Nat)) : List D := own.map (fun _ => .unk) ++ caps.map fun p => (ds[p.2]?).getD .unk

theorem lookup_relabel {env : Env} : ∀ {names : List (Str × NameKind)} {x : Str} {k : NameKind}, names.lookup x = some k →
    (names.map fun (n, k) => if (k == NameKind.free && env.scope.kind == .function && env.kindOf n == some .cell) then (n, NameKind.cell) else (n, k)).lookup x = some (if (k == NameKind.free && env.scope.kind == .function && env.kindOf x == some .cell) then .cell else k)
  | [], _, _, h => by simp at h
  | (n, k) :: r, x, k', h => by
    rw [List.map_cons]
    rw [List.lookup_cons] at h
    cases hx : x == n with
    | true =>
      rw [hx] at h
      cases h
      have := beq_iff_eq.mp hx
      subst this
      dsimp only
      split <;> simp
    | false =>
      rw [hx] at h
      have ih := lookup_relabel (env := env) h
      dsimp only
      split <;> (rw [List.lookup_cons, hx]; exact ih)

theorem cap_slots {g g' : Fz} (le : Fle g g') {look : Str → Option Value} {ns : List Str} {names : List (Str × NameKind)} (hs : slotsOk g look ns (ds.take ns.length)) : ∀ {caps : List (Str × Nat)}, (caps.all fun p => names.lookup p.1 == some .free && ns[p.2]? == some p.1) = true →
    slotsOk g' (fun x => if names.lookup x = some .free then look x else none) (caps.map (·.1)) (caps.map fun p => (ds[p.2]?).getD .unk)
  | [], _ => trivial
  | p :: r, h => by
    simp only [List.all_cons, Bool.and_eq_true, beq_iff_eq] at h
    refine ⟨?_, cap_slots le hs (caps := r) h.2⟩
    show D.repO _ ((ds[p.2]?).getD .unk) (if names.lookup p.1 = some .free then look p.1 else none)
    rw [if_pos h.1.1]
    cases hd : ds[p.2]? with
    | none => exact trivial
    | some d => exact D.repO_mono le _ _ (hs.get h.1.2 (take_get h.1.2 hd))
theorem comp_slots {g g' : Fz} (le : Fle g g') {look : Str → Option Value} {ns : List Str} {names : List (Str × NameKind)} (hs : slotsOk g look ns (ds.take ns.length)) {caps : List (Str × Nat)} : ∀ {own : List Str},
    (own.all fun x => match names.lookup x with | some .local => true | some .cell => true | _ => false) = true → (caps.all fun p => names.lookup p.1 == some .free && ns[p.2]? == some p.1) = true →
    slotsOk g' (fun x => if names.lookup x = some .free then look x else none) (own ++ caps.map (·.1)) (compDs ds own caps)
  | [], _, k5 => cap_slots le hs k5
  | x :: r, k4, k5 => by
    simp only [List.all_cons, Bool.and_eq_true] at k4
    exact ⟨trivial, comp_slots le hs (own := r) k4.2 k5⟩

theorem comp_frame {scope : Scope} {own : List Str} {caps : List (Str × Nat)} {s0 s1 : Shared} {wr : List Addr} {E : Value → Shared → Prop} {Q : Env → Shared → Prop} (S : St c ds s0) (e : ExtF s0 s1) (hf : ∀ b ∈ wr, s0.heap.get? b = none) (lw : ∀ b ∈ wr, Alive s1.heap b)
    (ok : compOkB scope c.env c.ns own caps = true)
    (h : ∀ env s2, { env with scope := relabel scope c.env } = (c.comp scope own caps wr s1.heap.objs.size).env → env.locals = s1.heap.objs.size → ExtF s1 s2 → (∀ b ∈ compWr scope s1.heap.objs.size, s1.heap.get? b = none ∧ Alive s2.heap b) →
      St (c.comp scope own caps wr s1.heap.objs.size) (compDs ds own caps) s2 → Q env s2) :
    wpAny c.M c.A (newFunctionEnv scope c.env.globals (cloFrom c.env.cells scope.names []) [] c.env.qual none .none (some c.env)) Q E s1 := by
  unfold compOkB at ok
  simp only [Bool.and_eq_true, beq_iff_eq, decide_eq_true_eq] at ok
  obtain ⟨⟨⟨⟨⟨⟨k1, k2⟩, k3⟩, k4⟩, k5⟩, k6⟩, k7⟩ := ok
  have k3' : ∀ p ∈ scope.names, p.2 = .free → (c.env.cells.lookup p.1).isSome = true ∧ c.env.kindOf p.1 ≠ some .local := fun p hp hfr => by
    have := List.all_eq_true.mp k3 p hp
    rw [hfr] at this
    simpa using this
  simp only [newFunctionEnv, Option.isSome_some, if_true]
  refine wpAny_bind (wpAny_alloc ?_)
  refine wpAny_bind (wpAny_layCells _ (fun name kind cells => by cases hkc : kind == NameKind.cell <;> simp [hkc]) _ _ _ _ ?_)
  have hsz : (s1.heap.push { cls := .type "dict", data := .dict #[] } : Heap).objs.size = s1.heap.objs.size + 1 := Heap.size_push ..
  rw [show ({ s1 with heap := s1.heap.push { cls := .type "dict", data := .dict #[] } } : Shared).heap.objs.size = s1.heap.objs.size + 1 from hsz]
  have ok := cellsFrom_ok scope.names (s1.heap.push { cls := .type "dict", data := .dict #[] }) (s1.heap.objs.size + 1) [] ⟨fun _ _ hm => (nomatch hm), List.Pairwise.nil⟩ (by rw [hsz]; exact Nat.le_refl _)
  rw [hsz] at ok
  generalize hC : s1.heap.objs.size = C at *
  have hcells : compCells scope c.env C = cellsFrom (C + 1) scope.names [] ++ cloFrom c.env.cells scope.names [] := cellsFrom_append (acc := [])
  refine wpAny_bind ?_
  rw [List.forIn_nil]
  refine wpAny_pure (wpAny_pure (h _ _ rfl rfl ⟨fun b o q => pushCells_keeps _ _ b o (Heap.get?_push_of_some _ q), rfl, id⟩ (fun b hb => ?_) ?_))
  · rcases mem_wrOf.mp hb with rfl | ⟨x, q⟩
    · exact ⟨get?_size_none _ _ (Nat.le_of_eq hC), _, pushCells_keeps _ _ _ _ (by rw [← hC]; exact Heap.get?_push_size _ rfl)⟩
    · have := ok.empty x b (mem_of_lookup q)
      exact ⟨get?_size_none _ _ (by rw [hC]; exact Nat.le_of_lt this.2), let ⟨o, e, _⟩ := this.1; ⟨o, e⟩⟩
  · -- the state
    have kp : ∀ b o, s1.heap.get? b = some o → (pushCells (s1.heap.push { cls := .type "dict", data := .dict #[] }) scope.names).get? b = some o := fun b o q => pushCells_keeps _ _ b o (Heap.get?_push_of_some _ q)
    have hdead : ∀ b ∈ compWr scope C, s1.heap.get? b = none := fun b hb => by
      rcases mem_wrOf.mp hb with rfl | ⟨x, q⟩
      · exact get?_size_none _ _ (Nat.le_of_eq hC)
      · exact get?_size_none _ _ (by rw [hC]; exact Nat.le_of_lt (ok.empty x b (mem_of_lookup q)).2)
    have halive : ∀ b ∈ compWr scope C, Alive (pushCells (s1.heap.push { cls := .type "dict", data := .dict #[] }) scope.names) b := fun b hb => by
      rcases mem_wrOf.mp hb with rfl | ⟨x, q⟩
      · exact ⟨_, pushCells_keeps _ _ _ _ (by rw [← hC]; exact Heap.get?_push_size _ rfl)⟩
      · obtain ⟨o, e, _⟩ := (ok.empty x b (mem_of_lookup q)).1; exact ⟨o, e⟩
    have S1 := S.ext e.ext
    have hd0 : ∀ b ∈ compWr scope C ++ wr, s0.heap.get? b = none := fun b hb => by
      rcases List.mem_append.mp hb with hb | hb
      · cases q : s0.heap.get? b with
        | none => rfl
        | some o => have := e.keep b o q; rw [hdead b hb] at this; cases this
      · exact hf b hb
    have k02 : ∀ b o, s0.heap.get? b = some o → (pushCells (s1.heap.push { cls := .type "dict", data := .dict #[] }) scope.names).get? b = some o := fun b o q => kp b o (e.keep b o q)
    have le : Fle (fz c.X s0.heap) (fz (XW (XW c.X (compWr scope C)) wr) (pushCells (s1.heap.push { cls := .type "dict", data := .dict #[] }) scope.names)) := fun a o q => ⟨fun y => by
      rcases y with ((y | y) | y) | y
      · exact q.1 (.inl y)
      · have := q.2; rw [hd0 a (List.mem_append_left _ y)] at this; cases this
      · have := q.2; rw [hd0 a (List.mem_append_right _ y)] at this; cases this
      · exact q.1 (.inr y), k02 a o q.2⟩
    have nt : ∀ b ∈ compWr scope C, ¬ tb b := fun b hb x => by
      obtain ⟨o, q⟩ := S1.base.tabs.alive x; rw [hdead b hb] at q; cases q
    obtain ⟨eo, look, ⟨m, hn, hm⟩, hc, hs⟩ := S.fr
    have clo : ∀ {x a}, (x, a) ∈ cloFrom c.env.cells scope.names [] → (x, NameKind.free) ∈ scope.names ∧ c.env.cells.lookup x = some a := fun {x a} h => (cloFrom_mem h).elim (fun h => by simp at h) id
    have own_mem : ∀ {x a}, (x, a) ∈ cellsFrom (C + 1) scope.names [] → (x, NameKind.cell) ∈ scope.names := fun {x a} h => (cellsFrom_mem h).elim (fun h => by simp at h) id
    -- a name's cell in the new frame
    have split : ∀ {x a}, (compCells scope c.env C).lookup x = some a → ((x, a) ∈ cellsFrom (C + 1) scope.names [] ∧ scope.names.lookup x = some .cell) ∨ (scope.names.lookup x = some .free ∧ c.env.cells.lookup x = some a) := fun {x a} q => by
      rw [hcells] at q
      rcases List.mem_append.mp (mem_of_lookup q) with q | q
      · exact .inl ⟨q, lookup_of_mem k2 (own_mem q)⟩
      · exact .inr ⟨lookup_of_mem k2 (clo q).1, (clo q).2⟩
    have alive0 : ∀ {x a}, c.env.cells.lookup x = some a → c.env.kindOf x ≠ some .local → ∃ o, s0.heap.get? a = some o := fun {x a} q n => let ⟨o, q, _⟩ := hc x a q n; ⟨o, q⟩
    have free_nl : ∀ {x}, scope.names.lookup x = some .free → c.env.kindOf x ≠ some .local := fun {x} q => (k3' _ (mem_of_lookup q) rfl).2
    have kind_own : ∀ {x k}, scope.names.lookup x = some k → (k = .local ∨ k = .cell) → (c.comp scope own caps wr C).env.kindOf x = some k := fun {x k} q hk => by
      have := lookup_relabel (env := c.env) q
      rcases hk with rfl | rfl <;> exact this
    have kind_free : ∀ {x}, scope.names.lookup x = some .free → (c.comp scope own caps wr C).env.kindOf x = some .cell ∨ (c.comp scope own caps wr C).env.kindOf x = some .free := fun {x} q => by
      have := lookup_relabel (env := c.env) q
      by_cases hh : (c.env.scope.kind == ScopeKind.function && c.env.kindOf x == some NameKind.cell) = true
      · refine .inl (this.trans ?_); rw [if_pos (by simpa using hh)]
      · refine .inr (this.trans ?_); rw [if_neg (by simpa using hh)]
    refine ⟨⟨S.base.sys, fun a o x => ⟨?_, k02 a o (S.base.old a o x).2⟩, fun a x => ?_, S.base.tabs.mono (fun b o _ => k02 b o) le⟩,
      ⟨⟨k1, eo.glob, eo.blt, .inl (.inr (mem_wrOf.mpr (.inl rfl))), nt C (mem_wrOf.mpr (.inl rfl)), fun x a q => ?_, ?_, fun x hx => ?_, k6⟩,
        fun x => if scope.names.lookup x = some .free then look x else none, ⟨fun _ => none, ?_, fun x hx => ?_⟩, fun x a q n => ?_, ?_⟩, fun a x => .inl (.inr x), .of_nil, fun a x => .inl (.inl x), fun _ h => by simp at h⟩
    · rintro (((y | y) | y) | y)
      · exact (S.base.old a o x).1 (.inl y)
      · have := (S.base.old a o x).2; rw [hd0 a (List.mem_append_left _ y)] at this; cases this
      · have := (S.base.old a o x).2; rw [hd0 a (List.mem_append_right _ y)] at this; cases this
      · exact (S.base.old a o x).1 (.inr y)
    · rcases x with (x | x) | x
      · obtain ⟨o, q⟩ := S.base.live a x; exact ⟨o, k02 a o q⟩
      · exact halive a x
      · obtain ⟨o, q⟩ := lw a x; exact ⟨o, kp a o q⟩
    · rcases split q with ⟨q, q2⟩ | ⟨q1, q2⟩
      · refine nt a (mem_wrOf.mpr (.inr ⟨x, ?_⟩))
        have hq := (show (compCells scope c.env C).lookup x = some a from ‹_›)
        rw [hcells] at hq
        -- the name's own cell stands first
        cases hl : (cellsFrom (C + 1) scope.names []).lookup x with
        | none => exact absurd (List.lookup_eq_none_iff.mp hl (x, a) q) (by simp)
        | some b =>
          have e1 : (cellsFrom (C + 1) scope.names [] ++ cloFrom c.env.cells scope.names []).lookup x = some b := by
            rw [List.lookup_append, hl]; rfl
          rw [e1] at hq; cases hq; rfl
      · exact eo.celt x a q2
    · rw [show (c.comp scope own caps wr C).env.cells = _ from hcells]
      refine List.pairwise_append.mpr ⟨ok.apart, ?_, fun p hp q hq => ?_⟩
      · -- the captured cells
        have nd : ∀ {names : List (Str × NameKind)} {acc : List (Str × Addr)}, (names.map (·.1)).Nodup → (∀ p ∈ acc, p.1 ∉ names.map (·.1)) → (∀ p ∈ acc, c.env.cells.lookup p.1 = some p.2) → acc.Pairwise (fun x y => x.2 ≠ y.2) → (cloFrom c.env.cells names acc).Pairwise fun x y => x.2 ≠ y.2 := by
          intro names
          induction names with
          | nil => exact fun _ _ _ h => h
          | cons p r ih =>
            intro acc nd hd hl hp
            obtain ⟨n, k⟩ := p
            have nd' := List.nodup_cons.mp nd
            have hd' : ∀ p ∈ acc, p.1 ∉ r.map (·.1) := fun p hp q => hd p hp (.tail _ q)
            unfold cloFrom
            split
            · split
              · rename_i a ha
                refine ih nd'.2 (fun p hp => ?_) (fun p hp => ?_) (List.pairwise_cons.mpr ⟨fun p hp q => ?_, hp⟩)
                · rcases List.mem_cons.mp hp with rfl | hp
                  · exact nd'.1
                  · exact hd' p hp
                · rcases List.mem_cons.mp hp with rfl | hp
                  · exact ha
                  · exact hl p hp
                · have e1 := hl p hp
                  have q : a = p.2 := q
                  rw [← q] at e1
                  have := name_of_addr eo.apart (mem_of_lookup ha) (mem_of_lookup e1)
                  exact hd p hp (this ▸ List.mem_cons_self)
              · exact ih nd'.2 hd' hl hp
            · exact ih nd'.2 hd' hl hp
        exact nd k2 (fun _ h => by simp at h) (fun _ h => by simp at h) .nil
      · intro z
        have hp' : C + 1 ≤ p.2 := (ok.empty p.1 p.2 hp).2
        obtain ⟨o, q'⟩ := alive0 (clo hq).2 (k3' _ (clo hq).1 rfl).2
        have := Heap.lt_size (e.keep _ _ q')
        rw [hC, ← z] at this
        exact Nat.lt_irrefl _ (Nat.lt_of_lt_of_le (Nat.lt_succ_of_lt this) hp')
    · have q7 := List.all_eq_true.mp k7 x hx
      simp only [Bool.and_eq_true, Bool.not_eq_true'] at q7
      refine ⟨?_, q7.1, q7.2⟩
      rcases List.mem_append.mp hx with hx | hx
      · have := List.all_eq_true.mp k4 x hx
        split at this
        · rename_i q; exact .inl (kind_own q (.inl rfl))
        · rename_i q
          refine .inr ⟨.inl (kind_own q (.inr rfl)), ?_⟩
          show ∃ a, (compCells scope c.env C).lookup x = some a
          exact Option.isSome_iff_exists.mp (cells_some (.inl q))
        · cases this
      · obtain ⟨p, hp, rfl⟩ := List.mem_map.mp hx
        have := List.all_eq_true.mp k5 p hp
        simp only [Bool.and_eq_true, beq_iff_eq] at this
        refine .inr ⟨kind_free this.1, ?_⟩
        show ∃ a, (compCells scope c.env C).lookup p.1 = some a
        exact Option.isSome_iff_exists.mp (cells_some (.inr (cloFrom_look (mem_of_lookup this.1) fun p hp hfr => (k3' p hp hfr).1)))
    · refine Heap.Ns.keeps (h := s1.heap.push { cls := .type "dict", data := .dict #[] }) ?_ (pushCells_keeps _ _)
      show Heap.Ns _ C _
      rw [← hC]
      exact Heap.Ns.new s1.heap (.type "dict")
    · show none = if scope.names.lookup x = some .free then look x else none
      split
      · rename_i q; rcases kind_free q with z | z <;> (rw [hx] at z; cases z)
      · rfl
    · show Heap.IsCell _ a (if scope.names.lookup x = some .free then look x else none)
      rcases split q with ⟨q, q2⟩ | ⟨q1, q2⟩
      · rw [if_neg (by rw [q2]; simp)]; exact (ok.empty x a q).1
      · rw [if_pos q1]; exact (hc x a q2 (free_nl q1)).keeps k02
    · show slotsOk _ _ (own ++ caps.map (·.1)) ((compDs ds own caps).take (own ++ caps.map (·.1)).length)
      rw [List.take_of_length_le (by simp [compDs])]
      exact comp_slots le hs k4 k5
end Mine
end
/-! ## part A12 -/
section
set_option maxRecDepth 100000
namespace Mine
open PySem PyProof.Rows
variable {c : Cx} {ds : List D}

noncomputable def weaker : List D → List D → Prop
  | [], [] => True
  | d :: l, d' :: l' => (d = .unk ∨ d = d') ∧ weaker l l'
  | _, _ => False
theorem weaker.slots {g : Fz} {look} : ∀ {l l' : List D} {ns : List Str}, weaker l l' → slotsOk g look ns l' → slotsOk g look ns l
  | [], [], _, _, h => h
  | _ :: _, _ :: _, _ :: _, ⟨a, w⟩, h => ⟨by rcases a with rfl | rfl; (· trivial); (· exact h.1), w.slots h.2⟩
  | _ :: _, _ :: _, [], _, h => h.elim
  | [], _ :: _, _, h, _ => h.elim
  | _ :: _, [], _, h, _ => h.elim
theorem weaker.take : ∀ {l l' : List D} (n : Nat), weaker l l' → weaker (l.take n) (l'.take n)
  | _, _, 0, _ => by simp [weaker]
  | [], [], _ + 1, _ => by simp [weaker]
  | _ :: _, _ :: _, n + 1, ⟨a, w⟩ => ⟨a, w.take n⟩
  | [], _ :: _, _, h => h.elim
  | _ :: _, [], _, h => h.elim
theorem weaker.get : ∀ {l l' : List D}, weaker l l' → ∀ {i : Nat} {d : D}, l[i]? = some d → d = .unk ∨ l'[i]? = some d
  | _ :: _, _ :: _, ⟨a, w⟩, 0, d, h => by cases h; rcases a with a | a; (· exact .inl a); (· exact .inr (by rw [a]; rfl))
  | _ :: _, _ :: _, ⟨a, w⟩, i + 1, d, h => w.get (i := i) h
  | [], _, _, _, _, h => by simp at h
  | _ :: _, [], h, _, _, _ => h.elim
theorem St.weak {s : Shared} {ds' : List D} (S : St c ds s) (w : weaker ds' ds) : St c ds' s := by
  obtain ⟨ok, look, hn, hc, hs⟩ := S.fr
  refine ⟨S.base, ⟨ok, look, hn, hc, (w.take _).slots hs⟩, S.sub, ⟨S.mem.ap, S.mem.nodup, fun j a d e1 e2 => ?_⟩, S.subR, S.memR⟩
  rcases w.get e2 with rfl | e3
  · obtain ⟨o, q⟩ := S.base.live a (S.mem.ap a (List.mem_of_getElem? e1)).2.2.1
    exact ⟨o, q, trivial⟩
  · exact S.mem.ok j a d e1 e3

noncomputable abbrev TestAll (c : Cx) (ds : List D) (ifs : List Expr) (b : Bool) : Prop :=
  Run c ds (forIn ifs true fun x r => if r = true then do let ok ← isTrue x c.env (eval x c.env); pure (ForInStep.yield ok) else pure (ForInStep.yield r)) (fun _ v => v = b)
theorem test_nil : TestAll c ds [] true := .mk fun s E S => wpAny_tests_nil ⟨.refl s, rfl⟩
theorem test_one {e : Expr} {b : Bool} (h : EvT c ds e b) : TestAll c ds [e] b := .mk fun s E S => wpAny_tests_one (h.run s E S)

noncomputable def Emits (c : Cx) (ds : List D) (D : Addr) (emit : Sem Unit) (P P' : Fz → Obj → Prop) : Prop :=
  ∀ s E o, St c ds s → s.heap.get? D = some o → P (fz c.X s.heap) o → wpAny c.M c.A emit (fun _ s' => ∃ s1 h' tk, Ext s s1 ∧ s' = { s1 with heap := h', toks := tk } ∧ Heap.SameBut D s1.heap h' ∧ ∃ o', h'.get? D = some o' ∧ P' (fz c.X s1.heap) o') E s

theorem ext_close {all : List Addr} {s0 s2 s' : Shared} {h'' : Heap} {tk : Nat} (e : ExtF s0 s2) (hf : ∀ b ∈ all, s0.heap.get? b = none) (lw : ∀ b ∈ all, Alive s2.heap b) (B : ExtB (· ∈ all) s2 s') (k : Off all s'.heap h'') : Ext s0 { s' with heap := h'', toks := tk } := by
  have na : ∀ b, Alive s0.heap b → b ∉ all := fun b ⟨o, q⟩ h => by rw [hf b h] at q; cases q
  refine ⟨⟨fun b o n q => ?_, fun b t ⟨o, q⟩ => ?_, fun Z l t => ?_⟩, B.os.trans e.os, fun b => B.bare (e.bare b)⟩
  · have nb := na b ⟨o, q⟩
    exact k b o nb (B.keep.keep b o (fun y => y.elim nb n) (e.keep b o q))
  · have nb := na b ⟨o, q⟩
    obtain ⟨o', q'⟩ := B.keep.alive ⟨o, e.keep b o q⟩
    exact ⟨o', k b o' nb q'⟩
  · have t1 : TabsOk (XW Z all) s2.heap := t.mono (fun b o _ => e.keep b o) (fle_grow (fun b o _ => e.keep b o) hf)
    have t2 := B.keep.tabs (XW Z all) (fun a y => .inr y) (fun a y => y.elim (fun y => let ⟨o, q⟩ := l a y; ⟨o, e.keep a o q⟩) (lw a)) t1
    exact t2.mono (fun b o x q => k b o (na b (t.alive x)) q) fun a o q => ⟨fun x => q.1 (x.imp .inl id), k a o (fun x => q.1 (.inl (.inr x))) q.2⟩

theorem xw_snoc (X : Addr → Prop) (wr : List Addr) (D : Addr) : XW (XW X [D]) wr = XW X (wr ++ [D]) := by
  funext a
  apply propext
  unfold XW
  rw [List.mem_append]
  constructor
  · rintro ((x | x) | x)
    · exact .inl x
    · exact .inr (.inr x)
    · exact .inr (.inl x)
  · rintro (x | x | x)
    · exact .inl (.inl x)
    · exact .inr x
    · exact .inl (.inr x)
theorem comp_loop {K : Cx} {X0 : Addr → Prop} {e target : Expr} {ipos : Pos} {ifs : List Expr} {emit : Sem Unit} {acc : Value} {I D : Addr} {wr : List Addr} {tt : Bool} {items : List Mine.D} {Si Mid} {ds' : List Mine.D} {s2 : Shared} {R : Result → Shared → Prop}
    (P : Nat → Fz → Obj → Prop) (hK : K.X = XW (XW X0 [D]) wr) (W : Itr K.prog K.w K.A (XW X0 [D]) I wr items tt Si Mid) (hDw : D ∉ wr) (ap : Apart K.env K.mem (wr ++ [D])) (yd : ∀ b, b ∈ wr ++ [D] → ¬ K.Y b) (ht : tgtOk tt target = true)
    (hfr : (Code.compLoop e 0 (.ref I) acc K.env).isFrame = false) (hun : K.A.under (Code.compLoop e 0 (.ref I) acc K.env) = K.A) (hq : (Code.compLoop e 0 (.ref I) acc K.env).quiet = true)
    (hturn : compTurn e 0 (.ref I) acc K.env = (do
      standAt ipos
      match ← pyNext (.ref I) with
      | none => pure (.done .next)
      | some v =>
        letOwnedTupleGo target (.ref I) v
        assign target K.env v
        let mut ok := true
        for c in ifs do
          if ok then ok ← isTrue c K.env (eval c K.env)
        if ok then emit
        again (.compLoop e 0 (.ref I) acc K.env)))
    (turn : ∀ i d, items[i]? = some d → ∃ ds₂ b, AsT K ds' target d ds₂ ∧ weaker ds' ds₂ ∧ TestAll K ds₂ ifs b ∧ (b = true → Emits K ds₂ D emit (P i) (P (i + 1))) ∧ (b = false → ∀ g o, P i g o → P (i + 1) g o))
    (mono : ∀ i g g' o, Fle g g' → P i g o → P i g' o)
    (S : St K ds' s2) (st : Si 0 s2.heap) {o : Obj} (ho : s2.heap.get? D = some o) (hP : P 0 (fz K.X s2.heap) o)
    (fin : ∀ (s' : Shared) (h' : Heap) (tk : Nat) (o : Obj), St K ds' s' → ExtB (fun b => K.Y b ∨ b ∈ wr ++ [D]) s2 s' → s'.heap.get? D = some o → P items.length (fz K.X s'.heap) o → Off wr s'.heap h' → R (.ok .next) { s' with heap := h', toks := tk }) :
    codeAny K.M K.A (.compLoop e 0 (.ref I) acc K.env) R s2 := by
  have eK : K.at (XW (XW X0 [D]) wr) = K := by rw [← hK]
  have hK2 : K.X = XW X0 (wr ++ [D]) := by rw [hK, xw_snoc]
  have eK2 : K.at (XW X0 (wr ++ [D])) = K := by rw [← hK2]
  have apw : Apart K.env K.mem wr := ⟨fun h => ap.loc (List.mem_append_left _ h), fun x a q n h => ap.cel x a q n (List.mem_append_left _ h), fun a h => ap.tab a (List.mem_append_left _ h), fun a h x => ap.mm a h (List.mem_append_left _ x)⟩
  have hden : K.M.den (.compLoop e 0 (.ref I) acc K.env) = (compTurn e 0 (.ref I) acc K.env).onRaise (fun x => do noteFrame x K.env; theTreesLotGoes x) := by
    show (if (Code.compLoop e 0 (.ref I) acc K.env).isFrame = true then _ else _) = _
    rw [hfr]; rfl
  refine codeAny_loop hq (fun n s => ∃ i o, n = items.length + 1 - i ∧ i ≤ items.length ∧ Si i s.heap ∧ St K ds' s ∧ ExtB (fun b => K.Y b ∨ b ∈ wr ++ [D]) s2 s ∧ s.heap.get? D = some o ∧ P i (fz K.X s.heap) o) ?_ (items.length + 1) ⟨0, o, by omega, by omega, st, S, .refl _ _, ho, hP⟩
  rintro n s ⟨i, o, rfl, hle, si, S, B, ho, hP⟩
  rw [hun, hden]
  refine wpAny_noted ?_
  rw [hturn]
  refine wpAny_bind (wpAny_standAt (wpAny_bind ?_))
  have offs : ∀ {h h' : Heap}, Off wr h h' → Off (wr ++ [D]) h h' := fun k b o n q => k b o (fun x => n (List.mem_append_left _ x)) q
  by_cases hlt : i < items.length
  · have hi' : items[i]? = some items[i] := List.getElem?_eq_getElem hlt
    refine W.next i _ s _ _ hi' si (fun a x => x.elim (fun x => S.base.live a (by rw [hK]; exact .inl x)) S.base.tabs.alive) fun v h' tk rv md k1 => ?_
    dsimp only
    have S3 : St K ds' { s with heap := h', toks := tk } := by
      have := St.off (c := K) (X := XW X0 [D]) (wr := wr) (tk := tk) (by rw [eK]; exact S) k1 apw (W.liveM _ _ _ md)
      rw [eK] at this; exact this
    have lm : ∀ b ∈ wr ++ [D], Alive h' b := fun b hb => by
      rcases List.mem_append.mp hb with hb | hb
      · exact W.liveM _ _ _ md b hb
      · rw [List.mem_singleton.mp hb]; exact ⟨o, k1 D o hDw ho⟩
    have B3 : ExtB (fun b => K.Y b ∨ b ∈ wr ++ [D]) s2 { s with heap := h', toks := tk } := B.trans (ext_off (Y := K.Y) (tk := tk) (offs k1) lm ap.tab)
    refine wpAny_bind (W.go i v target _ _ _ ht md fun h'' si' k2 => ?_)
    have ho2 : h''.get? D = some o := k2 D o hDw (k1 D o hDw ho)
    have lm2 : ∀ b ∈ wr ++ [D], Alive h'' b := fun b hb => by
      rcases List.mem_append.mp hb with hb | hb
      · exact W.live _ _ si' b hb
      · rw [List.mem_singleton.mp hb]; exact ⟨o, ho2⟩
    have S4 : St K ds' { s with heap := h'', toks := tk } := by
      have := St.off (c := K) (X := XW X0 [D]) (wr := wr) (s := { s with heap := h', toks := tk }) (tk := tk) (by rw [eK]; exact S3) k2 apw (W.live _ _ si')
      rw [eK] at this; exact this
    have B4 : ExtB (fun b => K.Y b ∨ b ∈ wr ++ [D]) s2 { s with heap := h'', toks := tk } := B3.trans (ext_off (Y := K.Y) (s := { s with heap := h', toks := tk }) (tk := tk) (offs k2) lm2 ap.tab)
    have le4 : Fle (fz K.X s.heap) (fz K.X h'') := fun a o q => ⟨q.1, by
      have na : a ∉ wr := fun x => q.1 (.inl (by rw [hK]; exact .inr x))
      exact k2 a o na (k1 a o na q.2)⟩
    obtain ⟨ds₂, b, hA, hw, hT, hE, hN⟩ := turn i _ hi'
    have rv' : (items[i]).rep (fz K.X h'') v := by
      rw [hK]; exact Mine.D.rep_mono (Off.fz k2) _ _ rv
    refine wpAny_bind (wpAny_mono (hA.run { s with heap := h'', toks := tk } _ v S4 rv') (fun _ s5 b5 => ?_) fun _ _ x => x)
    refine wpAny_bind (wpAny_mono (hT.run s5 _ b5.st) (fun ok s6 zz => ?_) fun _ _ x => x)
    obtain ⟨e6, q6⟩ := zz
    subst q6
    have S6 := b5.st.ext e6
    have B6 : ExtB (fun b => K.Y b ∨ b ∈ wr ++ [D]) s2 s6 := (B4.trans (b5.ext.mono fun a x => .inl x)).trans e6.but
    have hD5 : s5.heap.get? D = some o := b5.ext.keep.keep D o (fun x => x.elim (yd D (by simp)) (ap.tab D (by simp))) ho2
    have hD6 : s6.heap.get? D = some o := e6.keep.get D o (ap.tab D (by simp)) hD5
    have hP6 : P i (fz K.X s6.heap) o := mono _ _ _ _ ((le4.trans b5.fz).trans e6.keep.fz) hP
    have ntab : ∀ b, ¬ (XW X0 [D] b ∨ tb b) ∨ b ∈ wr → ¬ tb b := fun b hb => hb.elim (fun n x => n (.inr x)) (apw.tab b)
    have si6 : Si (i + 1) s6.heap := W.frame _ _ _ si' fun b o hb q => by
      refine e6.keep.get b o (ntab b hb) (b5.ext.keep.keep b o ?_ q)
      rintro (y | y)
      · rcases hb with n | w
        · have := S.sub b y
          rw [hK] at this
          rcases this with x | x
          · exact n (.inl x)
          · exact yd b (List.mem_append_left _ x) y
        · exact yd b (List.mem_append_left _ w) y
      · exact ntab b hb y
    cases ok with
    | false => exact wpAny_pure ⟨rfl, items.length + 1 - (i + 1), meas (by assumption), i + 1, o, rfl, by omega, si6, S6.weak hw, B6, hD6, hN rfl _ _ hP6⟩
    | true =>
      refine wpAny_bind (wpAny_mono (hE rfl s6 _ o S6 hD6 hP6) (fun _ s7 zz => ?_) fun _ _ x => x)
      obtain ⟨s', h7, tk7, e7, ee, sb, o', ho', hP'⟩ := zz
      subst ee
      have S7 := S6.ext e7
      have k7 : Off (wr ++ [D]) s'.heap h7 := fun b o n q => (sb.2 b fun z => n (by rw [z]; simp)).trans q
      have lm7 : ∀ b ∈ wr ++ [D], Alive h7 b := fun b hb => by
        by_cases z : b = D
        · rw [z]; exact ⟨o', ho'⟩
        · obtain ⟨o, q⟩ := S7.base.live b (by rw [hK2]; exact .inr hb); exact ⟨o, (sb.2 b z).trans q⟩
      have S8 : St K ds₂ { s' with heap := h7, toks := tk7 } := by
        have := St.off (c := K) (X := X0) (wr := wr ++ [D]) (tk := tk7) (by rw [eK2]; exact S7) k7 ap lm7
        rw [eK2] at this; exact this
      have nD : ∀ b, ¬ (XW X0 [D] b ∨ tb b) ∨ b ∈ wr → b ≠ D := fun b hb z => by
        subst z
        rcases hb with n | w
        · exact n (.inl (.inr (by simp)))
        · exact hDw w
      refine wpAny_pure ⟨rfl, items.length + 1 - (i + 1), meas (by assumption), i + 1, o', rfl, by omega, W.frame _ _ _ (W.frame _ _ _ si6 fun b o hb q => e7.keep.get b o (ntab b hb) q) fun b o hb q => (sb.2 b (nD b hb)).trans q,
        S8.weak hw, (B6.trans e7.but).trans (ext_off (Y := K.Y) (tk := tk7) k7 lm7 ap.tab), ho', mono _ _ _ _ (fun a o q => ⟨q.1, ?_⟩) hP'⟩
      exact (sb.2 a (fun z => q.1 (.inl (by rw [hK2]; exact .inr (by rw [z]; simp))))).trans q.2
  · have : i = items.length := by omega
    subst this
    refine W.done s _ _ si fun h' tk k1 => ?_
    exact wpAny_pure (fin s h' tk o S B ho hP k1)

theorem comp_start {K : Cx} {e target iter : Expr} {ifs : List Expr} {acc it : Value} {s : Shared} {R : Result → Shared → Prop} (hcl : clausesOf e = [⟨target, iter, ifs, 0⟩])
    (hfr : (Code.compStart e 0 it acc K.env).isFrame = false) (hun : K.A.under (Code.compStart e 0 it acc K.env) = K.A) (hq : (Code.compLoop e 0 it acc K.env).quiet = true)
    (hs : ∀ (Q : Value → Shared → Prop) (E : Value → Shared → Prop), Q it s → wpAny K.M K.A (pyIter it) Q E s) (h : codeAny K.M K.A (.compLoop e 0 it acc K.env) R s) : codeAny K.M K.A (.compStart e 0 it acc K.env) R s := by
  refine codeAny_of_tree ?_
  have hden : K.M.den (.compStart e 0 it acc K.env) = (compStart e 0 it acc K.env).onRaise (fun x => do noteFrame x K.env; standAt theWindowsPlace) := by
    show (if (Code.compStart e 0 it acc K.env).isFrame = true then _ else _) = _
    rw [hfr]; rfl
  rw [hun, hden]
  refine wpAny_notedAt ?_
  unfold compStart
  rw [hcl]
  show wpAny _ _ (ask >>= _) _ _ s
  refine wpAny_bind (wpAny_askSetting (wpAny_ite ?_))
  split
  · first
      | exact wpAny_bind (wpAny_pure (wpAny_pure (And.intro hq h)))
      | exact wpAny_pure (And.intro hq h)
  · refine wpAny_bind (wpAny_rule (wpAny_bind (wpAny_standAt (wpAny_bind (hs _ _ ?_)))))
    exact wpAny_pure (And.intro hq h)

theorem comp_all {e target iter : Expr} {ifs : List Expr} {scope : Scope} {own : List Str} {caps : List (Str × Nat)} {pos : Pos} {newAcc : Sem Value} {emit : Value → Env → Sem Unit} {use : Option (Value → Sem Unit)} {tt : Bool} {items : List D} {s : Shared}
    {E : Value → Shared → Prop} {Q : Value → Shared → Prop} (P : Nat → Fz → Obj → Prop) (S : St c ds s)
    (hcl : clausesOf e = [⟨target, iter, ifs, 0⟩]) (hfi : ∀ x, foldedSetIterable iter c.env x = pure x) (ok : compOkB scope c.env c.ns own caps = true) (hi : EvI c ds iter tt items) (ht : tgtOk tt target = true)
    (hnew : ∀ (s : Shared) (Q : Value → Shared → Prop) (E : Value → Shared → Prop), (∀ oAcc : Obj, oAcc.isFreed = false → (∀ g, P 0 g oAcc) → Q (.ref s.heap.objs.size) { s with heap := s.heap.push oAcc }) → wpAny c.M c.A newAcc Q E s)
    (hq : ∀ it acc env, ((Code.compLoop e 0 it acc env).isFrame = false ∧ (Code.compStart e 0 it acc env).isFrame = false ∧ (Code.compLoop e 0 it acc env).quiet = true) ∧ ∀ A : Around, A.under (Code.compLoop e 0 it acc env) = A ∧ A.under (Code.compStart e 0 it acc env) = A)
    (hturn : ∀ I D env, compTurn e 0 (.ref I) (.ref D) env = (do
      standAt iter.pos
      match ← pyNext (.ref I) with
      | none => pure (.done .next)
      | some v =>
        letOwnedTupleGo target (.ref I) v
        assign target env v
        let mut ok := true
        for c in ifs do
          if ok then ok ← isTrue c env (eval c env)
        if ok then emit (.ref D) env
        again (.compLoop e 0 (.ref I) (.ref D) env)))
    (turn : ∀ wr D C, C ≠ D → ∀ i d, items[i]? = some d → ∃ ds₂ b, AsT (c.comp scope own caps wr C) (compDs ds own caps) target d ds₂ ∧ weaker (compDs ds own caps) ds₂ ∧ TestAll (c.comp scope own caps wr C) ds₂ ifs b ∧
      (b = true → Emits (c.comp scope own caps wr C) ds₂ D (emit (.ref D) (c.comp scope own caps wr C).env) (P i) (P (i + 1))) ∧ (b = false → ∀ g o, P i g o → P (i + 1) g o))
    (mono : ∀ i g g' o, Fle g g' → P i g o → P i g' o)
    (fin : ∀ (s0 s' : Shared) (h' : Heap) (tk : Nat) (C D : Addr) (o : Obj) (m : Str → Option Value), Ext s s0 → Ext s0 { s' with heap := h', toks := tk } → s0.heap.get? C = none → s0.heap.get? D = none → C ≠ D → h'.Ns C m → h'.get? D = some o → P items.length (fz (XW c.X [C]) h') o → compPost c.M c.A E use Q (.ref D) C (.ok .next) { s' with heap := h', toks := tk }) :
    wpAny c.M c.A (comprehension e scope c.env pos newAcc false (eval iter c.env) use) Q E s := by
  have ok' := ok
  unfold compOkB at ok'
  simp only [Bool.and_eq_true, beq_iff_eq, decide_eq_true_eq] at ok'
  obtain ⟨⟨⟨⟨⟨⟨k1, k2⟩, k3⟩, k4⟩, k5⟩, k6⟩, k7⟩ := ok'
  have hclos : closureFor scope c.env = pure (cloFrom c.env.cells scope.names []) := closureFor_eq fun p hp hfr => by
    have := List.all_eq_true.mp k3 p hp
    rw [hfr] at this
    simp only [bne_self_eq_false, Bool.false_or, Bool.and_eq_true] at this
    exact this.1
  refine wpAny_comprehension_free hcl hfi hclos k1 (fun x hx hl => lookup_of_mem k2 (hl ▸ hx)) ?_
  refine hi.run s E _ S fun I wr s0 s1 e0 e1 hf RW => ?_
  refine hnew s1 _ _ fun oAcc hfree hP => ?_
  have S0 := S.ext e0
  have eD : ExtF s1 { s1 with heap := s1.heap.push oAcc } := ExtF.push s1 oAcc
  have e1D : ExtF s0 { s1 with heap := s1.heap.push oAcc } := ⟨fun b o q => eD.keep b o (e1.keep b o q), e1.os, e1.bare⟩
  generalize hDe : s1.heap.objs.size = D at *
  have dD1 : s1.heap.get? D = none := get?_size_none _ _ (Nat.le_of_eq hDe)
  have dD0 : s0.heap.get? D = none := by
    cases q : s0.heap.get? D with
    | none => rfl
    | some o => have := e1.keep D o q; rw [dD1] at this; cases this
  have hoD : (s1.heap.push oAcc).get? D = some oAcc := by rw [← hDe]; exact Heap.get?_push_size _ hfree
  have hCe : (s1.heap.push oAcc).objs.size = D + 1 := by rw [Heap.size_push, hDe]
  -- the iterator for the frame to come
  have xok : XOk c.X (XW (XW c.X (compWr scope (D + 1))) [D]) s1.heap := ⟨fun a x => .inl (.inl x), fun a x => by
    rcases x with (x | x) | x
    · exact .inl x
    · refine .inr (get?_size_none _ _ ?_)
      rcases mem_wrOf.mp x with rfl | ⟨y, q⟩
      · rw [hDe]; exact Nat.le_succ _
      · have ok := cellsFrom_ok scope.names (s1.heap.push oAcc |>.push { cls := .type "dict", data := .dict #[] }) (D + 1 + 1) [] ⟨fun _ _ hm => (nomatch hm), List.Pairwise.nil⟩ (by rw [Heap.size_push, hCe]; exact Nat.le_refl _)
        rw [Heap.size_push, hCe] at ok
        have := (ok.empty y a (mem_of_lookup q)).2
        rw [hDe]
        exact Nat.le_trans (Nat.le_trans (Nat.le_succ _) (Nat.le_succ _)) this
    · rw [List.mem_singleton.mp x]; exact .inr dD1⟩
  obtain ⟨Si, Mid, W, st0⟩ := RW _ xok
  have lw1 := W.live 0 _ st0
  have hDw : D ∉ wr := fun h => by obtain ⟨o, q⟩ := lw1 D h; rw [dD1] at q; cases q
  have hf' : ∀ b ∈ wr ++ [D], s0.heap.get? b = none := fun b hb => by
    rcases List.mem_append.mp hb with hb | hb
    · exact hf b hb
    · rw [List.mem_singleton.mp hb]; exact dD0
  have lw' : ∀ b ∈ wr ++ [D], Alive (s1.heap.push oAcc) b := fun b hb => by
    rcases List.mem_append.mp hb with hb | hb
    · obtain ⟨o, q⟩ := lw1 b hb; exact ⟨o, eD.keep b o q⟩
    · rw [List.mem_singleton.mp hb]; exact ⟨oAcc, hoD⟩
  refine comp_frame (own := own) (caps := caps) (s1 := { s1 with heap := s1.heap.push oAcc }) S0 e1D hf' lw' ok fun env s2 he hl e2 hdead S2 => ?_
  rw [show ({ s1 with heap := s1.heap.push oAcc } : Shared).heap.objs.size = D + 1 from hCe] at he hl hdead S2
  rw [he, hl]
  have e12 : ExtF s1 s2 := ⟨fun b o q => e2.keep b o (eD.keep b o q), e2.os, e2.bare⟩
  have e02 : ExtF s0 s2 := ⟨fun b o q => e12.keep b o (e1.keep b o q), e12.os.trans e1.os, fun b => e12.bare (e1.bare b)⟩
  have hoD2 : s2.heap.get? D = some oAcc := e2.keep D _ hoD
  have deadC : ∀ b ∈ compWr scope (D + 1), s1.heap.get? b = none := fun b hb => by
    cases q : s1.heap.get? b with
    | none => rfl
    | some o => have := eD.keep b o q; rw [(hdead b hb).1] at this; cases this
  have dead0 : ∀ b ∈ compWr scope (D + 1), s0.heap.get? b = none := fun b hb => by
    cases q : s0.heap.get? b with
    | none => rfl
    | some o => have := e1.keep b o q; rw [deadC b hb] at this; cases this
  have yd : ∀ b, b ∈ wr ++ [D] → ¬ b ∈ compWr scope (D + 1) := fun b hb hc => by
    obtain ⟨o, q⟩ := lw' b hb
    rw [(hdead b hc).1] at q; cases q
  have hK : (c.comp scope own caps (wr ++ [D]) (D + 1)).X = XW (XW (XW c.X (compWr scope (D + 1))) [D]) wr := (xw_snoc _ _ _).symm
  have st2 : Si 0 s2.heap := W.frame _ _ _ st0 fun b o _ q => e12.keep b o q
  have hle : D + 1 ≠ D := by omega
  have S2i := S2
  have lmem : D + 1 ∈ compWr scope (D + 1) := mem_wrOf.mpr (.inl rfl)
  have ap : Apart (c.comp scope own caps (wr ++ [D]) (D + 1)).env (c.comp scope own caps (wr ++ [D]) (D + 1)).mem (wr ++ [D]) := by
    refine ⟨fun h => yd _ h lmem, fun x a q n h => ?_, fun a h t => ?_, fun a h => by simp at h⟩
    · rcases cellsFrom_mem (mem_of_lookup q) with z | z
      · obtain ⟨z1, z2⟩ := (cloFrom_mem z).elim (fun h => by simp at h) id
        have nl : c.env.kindOf x ≠ some .local := by
          have := List.all_eq_true.mp k3 _ z1
          simpa using (show (c.env.cells.lookup x).isSome = true ∧ (c.env.kindOf x != some NameKind.local) = true by simpa using this).2
        obtain ⟨_, look, _, hc, _⟩ := S0.fr
        obtain ⟨o, z3, _⟩ := hc x a z2 nl
        rw [hf' a h] at z3; cases z3
      · -- its own cell
        have hq2 : (compCells scope c.env (D + 1)).lookup x = some a := q
        rw [show compCells scope c.env (D + 1) = cellsFrom (D + 1 + 1) scope.names [] ++ cloFrom c.env.cells scope.names [] from cellsFrom_append (acc := [])] at hq2
        rw [List.lookup_append] at hq2
        cases hl2 : (cellsFrom (D + 1 + 1) scope.names []).lookup x with
        | none =>
          have := cells_some (n := D + 1 + 1) (acc := []) (.inl (lookup_of_mem k2 z))
          rw [hl2] at this; cases this
        | some b =>
          rw [hl2] at hq2
          cases hq2
          exact yd _ h (mem_wrOf.mpr (.inr ⟨x, hl2⟩))
    · obtain ⟨o, q⟩ := S0.base.tabs.alive t
      rw [hf' a h] at q; cases q
  have K0 : c.A = (c.comp scope own caps (wr ++ [D]) (D + 1)).A := rfl
  refine comp_start (K := c.comp scope own caps (wr ++ [D]) (D + 1)) hcl (hq _ _ _).1.2.1 ((hq _ _ _).2 _).2 (hq _ _ _).1.2.2 (fun Q E q => W.self 0 s2 Q E st2 q) ?_
  refine comp_loop (K := c.comp scope own caps (wr ++ [D]) (D + 1)) (X0 := XW c.X (compWr scope (D + 1))) P hK W hDw ap yd ht (hq _ _ _).1.1 ((hq _ _ _).2 _).1 (hq _ _ _).1.2.2 (hturn I D _) (turn (wr ++ [D]) D (D + 1) hle) mono S2 st2 hoD2 (hP _) ?_
  intro s' h' tk o S' B hD' hP' k
  have all0 : ∀ b ∈ compWr scope (D + 1) ++ (wr ++ [D]), s0.heap.get? b = none := fun b hb => (List.mem_append.mp hb).elim (dead0 b) (hf' b)
  have all2 : ∀ b ∈ compWr scope (D + 1) ++ (wr ++ [D]), Alive s2.heap b := fun b hb => (List.mem_append.mp hb).elim (fun h => (hdead b h).2) fun h => let ⟨o, q⟩ := lw' b h; ⟨o, e2.keep b o q⟩
  have X := ext_close (tk := tk) e02 all0 all2 (B.mono fun a x => List.mem_append.mpr x) (k := fun b o n q => k b o (fun y => n (List.mem_append_right _ (List.mem_append_left _ y))) q)
  obtain ⟨_, look, ⟨m, hn, hm⟩, _, _⟩ := S'.fr
  have hCw : D + 1 ∉ wr := fun h => yd _ (List.mem_append_left _ h) lmem
  refine fin s0 s' h' tk (D + 1) D o m e0 X (dead0 _ lmem) dD0 hle (hn.at' fun o q => k _ o hCw q) (k D o hDw hD') (mono _ _ _ _ (fun a o q => ⟨fun x => q.1 ?_, k a o (fun x => q.1 (.inl (.inr (List.mem_append_left _ x)))) q.2⟩) hP')
  rcases x with (x | x) | x
  · exact .inl (.inl (.inl x))
  · rw [List.mem_singleton.mp x]; exact .inl (.inl (.inr lmem))
  · exact .inr x
end Mine
end
/-! ## part A13 -/
section
set_option maxRecDepth 100000
namespace Mine
open PySem PyProof.Rows
variable {c : Cx} {ds : List D}

noncomputable def outs (p : Nat → Bool) (e : Nat → D) : Nat → List D
  | 0 => []
  | n + 1 => outs p e n ++ if p n then [e n] else []
theorem outs_all (e : Nat → D) : ∀ n, outs (fun _ => true) e n = (List.range n).map e
  | 0 => rfl
  | n + 1 => by rw [outs, outs_all e n, List.range_succ, List.map_append]; rfl
theorem outs_length (p : Nat → Bool) (e : Nat → D) : ∀ n, (outs p e n).length ≤ n
  | 0 => Nat.le_refl _
  | n + 1 => by
    have := outs_length p e n
    rw [outs, List.length_append]; split <;> simp <;> (first | lia | omega)
theorem ns_kind {h : Heap} {C : Addr} {m : Str → Option Value} (hn : h.Ns C m) {o : Obj} (ho : h.get? C = some o) {vs : Array Value} (hd : o.data = .fields vs) : False := by
  obtain ⟨o', es, ep, e, q, _⟩ := hn
  rw [ho] at e; cases e; rw [hd] at q; cases q
theorem tabs_sameBut {Z : Addr → Prop} {s : Shared} {h'' : Heap} {C : Addr} {m : Str → Option Value} (t : TabsOk Z s.heap) (hn : s.heap.Ns C m) (sb : Heap.SameBut C s.heap h'') : TabsOk Z h'' := by
  have key : ∀ {P q}, TabOk Z s.heap P q → TabOk Z h'' P q := fun {P q} ⟨ps, e, t, co⟩ => ⟨ps, (sb.2 P (by rintro rfl; exact ns_kind hn e rfl)).trans e, t, fun pos cv x => by
    obtain ⟨a, o, vs, tk, e1, e2, e3, e4⟩ := co pos cv x
    exact ⟨a, o, vs, tk, e1, ⟨e2.1, (sb.2 a (by rintro rfl; exact ns_kind hn e2.2 e3)).trans e2.2⟩, e3, e4⟩⟩
  exact ⟨key t.t1, key t.t2⟩
theorem ext_sameBut {s0 s : Shared} {h'' : Heap} {C : Addr} {m : Str → Option Value} (x : Ext s0 s) (dC : s0.heap.get? C = none) (hn : s.heap.Ns C m) (sb : Heap.SameBut C s.heap h'') : Ext s0 { s with heap := h'' } := by
  have nC : ∀ b, Alive s0.heap b → b ≠ C := fun b ⟨o, e⟩ => by rintro rfl; rw [dC] at e; cases e
  refine ⟨⟨fun b o n e => (sb.2 b (nC b ⟨o, e⟩)).trans (x.keep.get b o n e), fun b t l => ?_, fun Z l t => tabs_sameBut (x.keep.tabs Z l t) hn sb⟩, x.os, x.bare⟩
  obtain ⟨o, e⟩ := x.keep.tlive b t l
  exact ⟨o, (sb.2 b (nC b l)).trans e⟩
theorem fle_sameBut {X : Addr → Prop} {h h'' : Heap} {C : Addr} (sb : Heap.SameBut C h h'') : Fle (fz (XW X [C]) h) (fz X h'') := fun a o q =>
  ⟨fun x => q.1 (x.imp .inl id), (sb.2 a (fun z => q.1 (.inl (.inr (by rw [z]; simp))))).trans q.2⟩


section
variable {elt target iter : Expr} {ifs : List Expr} {scope : Scope} {pos : Pos} {tt : Bool} {items : List D}

theorem list_emits {D' : Addr} {ds₂ : List D} {l : List D} {d : D} (h : Ev c ds₂ elt d) (hl : l.length ≤ 2 ^ 20) : Emits c ds₂ D' (do let _ ← call (.builtin "list.append") [.ref D', ← eval elt c.env]) (fun g o => cont g (.list l) o) (fun g o => cont g (.list (l ++ [d])) o) := by
  intro s E o S ho hP
  obtain ⟨items, n, rfl, hr⟩ := hP
  refine wpAny_bind (wpAny_mono (h.run s E S) (fun v s1 zz => ?_) fun _ _ x => x)
  obtain ⟨e1, r1⟩ := zz
  have nt : ¬ tb D' := fun t => by
    rcases t with rfl | rfl
    · obtain ⟨ps, e, _⟩ := S.base.tabs.t1; rw [ho] at e; cases e
    · obtain ⟨ps, e, _⟩ := S.base.tabs.t2; rw [ho] at e; cases e
  have ho1 := e1.keep.get D' _ nt ho
  have hsz : items.size = l.length := by rw [← repAll_length hr]; simp
  refine wpAny_bind (wpAny_list_append_plain (items := items) ⟨n, ho1⟩ (fun h' hp sb => ?_) (by rw [hsz, sizeLine_eq]; (first | lia | omega)))
  obtain ⟨n', hp⟩ := hp
  refine wpAny_pure ⟨s1, h', s1.toks, e1, rfl, sb, _, hp, _, _, rfl, ?_⟩
  rw [Array.toList_push]
  exact repAll_append (repAll_mono e1.keep.fz _ _ hr) ⟨r1, trivial⟩

noncomputable def Step (c : Cx) (scope : Scope) (own : List Str) (caps : List (Str × Nat)) (ds : List D) (target : Expr) (ifs : List Expr) (items : List D) (p : Nat → Bool) (el : Cx → List D → Nat → Prop) : Prop :=
  ∀ wr C i d, items[i]? = some d → ∃ ds₂, AsT (c.comp scope own caps wr C) (compDs ds own caps) target d ds₂ ∧ weaker (compDs ds own caps) ds₂ ∧ TestAll (c.comp scope own caps wr C) ds₂ ifs (p i) ∧ (p i = true → el (c.comp scope own caps wr C) ds₂ i)

theorem list_all {own : List Str} {caps : List (Str × Nat)} {s : Shared} {E : Value → Shared → Prop} {Q : Value → Shared → Prop} {use : Option (Value → Sem Unit)} (p : Nat → Bool) (e : Nat → D) (S : St c ds s)
    (ok : compOkB scope c.env c.ns own caps = true) (hi : EvI c ds iter tt items) (ht : tgtOk tt target = true) (hlen : items.length ≤ 2 ^ 20) (st : Step c scope own caps ds target ifs items p fun c' ds' i => Ev c' ds' elt (e i))
    (hs : ∀ x, foldedSetIterable iter c.env x = pure x)
    (fin : ∀ (s0 s' : Shared) (h' : Heap) (tk : Nat) (C D : Addr) (m : Str → Option Value) (its : Array Value) (n : Nat), Ext s s0 → Ext s0 { s' with heap := h', toks := tk } → s0.heap.get? C = none → s0.heap.get? D = none → C ≠ D → h'.Ns C m →
      h'.get? D = some { cls := .type "list", data := .seq its n } → repAll (fz (XW c.X [C]) h') (outs p e items.length) its.toList → compPost c.M c.A E use Q (.ref D) C (.ok .next) { s' with heap := h', toks := tk }) :
    wpAny c.M c.A (comprehension (.ListComp elt [⟨target, iter, ifs, 0⟩] scope pos) scope c.env (firstIterPos [⟨target, iter, ifs, 0⟩] pos) (newList []) false (eval iter c.env) use) Q E s := by
  refine comp_all (own := own) (caps := caps) (emit := fun acc env => do let _ ← call (.builtin "list.append") [acc, ← eval elt env]) (fun i g o => cont g (.list (outs p e i)) o) S rfl hs ok hi ht
    (fun s Q E k => wpAny_newObj_type (k _ rfl fun g => ⟨_, _, rfl, trivial⟩)) (fun _ _ _ => ⟨⟨rfl, rfl, rfl⟩, fun _ => ⟨rfl, rfl⟩⟩) (fun I D env => rfl) (fun wr D C hCD i d hd => ?_) (fun i g g' o le h => cont_mono le h) ?_
  · obtain ⟨ds₂, h1, h2, h3, h4⟩ := st wr C i d hd
    have hlt := (List.getElem?_eq_some_iff.mp hd).1
    refine ⟨ds₂, p i, h1, h2, h3, fun hp => ?_, fun hp g o h => ?_⟩
    · have := list_emits (D' := D) (l := outs p e i) (h4 hp) (by have := outs_length p e i; (first | lia | omega))
      rw [show outs p e (i + 1) = outs p e i ++ [e i] by rw [outs, hp]; rfl]
      exact this
    · rw [show outs p e (i + 1) = outs p e i by rw [outs, hp]; simp]; exact h
  · intro s0 s' h' tk C D o m x0 x1 dC dD ne hn ho hP
    obtain ⟨its, n, rfl, hr⟩ := hP
    exact fin s0 s' h' tk C D m its n x0 x1 dC dD ne hn ho hr

theorem ev_listcomp (own : List Str) (caps : List (Str × Nat)) (p : Nat → Bool) (e : Nat → D) (hi : EvI c ds iter tt items) (st : Step c scope own caps ds target ifs items p fun c' ds' i => Ev c' ds' elt (e i))
    (ok : compOkB scope c.env c.ns own caps = true := by kernel_rfl) (ht : tgtOk tt target = true := by rfl) (hlen : items.length ≤ 2 ^ 20 := by simp) (hs : ∀ x, foldedSetIterable iter c.env x = pure x := by intro _; rfl) :
    Ev c ds (.ListComp elt [⟨target, iter, ifs, 0⟩] scope pos) (.list (outs p e items.length)) := .mk fun s E S => by
  show wpAny _ _ (eval _ _) _ _ _
  rw [eval_ListComp]
  refine list_all p e S ok hi ht hlen st hs ?_
  intro s0 s' h' tk C D m its n x0 x1 dC dD ne hn ho hr
  refine ⟨m, hn, fun h'' sb => ⟨x0.trans (ext_sameBut x1 dC hn sb), D, its, n, rfl, ⟨(S.ext x0).base.fresh dD, (sb.2 D (Ne.symm ne)).trans ho⟩, repAll_mono (fle_sameBut sb) _ _ hr⟩⟩

theorem St.growNs {s0 s' : Shared} {C : Addr} {m : Str → Option Value} (S : St c ds s0) (x : Ext s0 s') (dC : s0.heap.get? C = none) (hn : s'.heap.Ns C m) : St (c.at (XW c.X [C])) ds s' := by
  have nC : ∀ b, Alive s0.heap b → b ≠ C := fun b ⟨o, e⟩ => by rintro rfl; rw [dC] at e; cases e
  have S' := S.ext x
  have le : Fle (fz c.X s0.heap) (fz (XW c.X [C]) s'.heap) := fle_grow x.keep.get fun b hb => by rw [List.mem_singleton.mp hb]; exact dC
  obtain ⟨ok, look, hn0, hc, hs⟩ := S.fr
  obtain ⟨m0, hn0, hm⟩ := hn0
  obtain ⟨oC, esC, epC, eC, _⟩ := id hn
  have key : ∀ {P q}, TabOk c.X s'.heap P q → TabOk (XW c.X [C]) s'.heap P q := fun {P q} ⟨ps, e, t, co⟩ => ⟨ps, e, t, fun pos cv x => by
    obtain ⟨a, o, vs, tk, e1, e2, e3, e4⟩ := co pos cv x
    refine ⟨a, o, vs, tk, e1, ⟨fun y => ?_, e2.2⟩, e3, e4⟩
    rcases y with (y | y) | y
    · exact e2.1 (.inl y)
    · rw [List.mem_singleton.mp y] at e2; exact ns_kind hn e2.2 e3
    · exact e2.1 (.inr y)⟩
  refine ⟨⟨S'.base.sys, fun a o q => ⟨?_, (S'.base.old a o q).2⟩, fun a q => ?_, ⟨key S'.base.tabs.t1, key S'.base.tabs.t2⟩⟩, ⟨ok.grow fun _ x => .inl x, look, ⟨m0, hn0.at' fun o e => x.keep.get _ o ok.loct e, hm⟩, fun y a q n => let ⟨o, q', d⟩ := hc y a q n; ⟨o, x.keep.get a o (ok.celt y a q) q', d⟩, hs.mono le⟩,
    fun a y => .inl (S.sub a y), S.mem.mono (fun a h => .inl (S.mem.ap a h).2.2.1) (fun a h o q => x.keep.get a o (S.mem.ap a h).2.2.2.1 q) le, fun a y => .inl (S.subR a y), S.memR⟩
  · rintro ((y | y) | y)
    · exact (S'.base.old a o q).1 (.inl y)
    · exact nC a ⟨o, (S.base.old a o q).2⟩ (List.mem_singleton.mp y)
    · exact (S'.base.old a o q).1 (.inr y)
  · rcases q with q | q
    · exact S'.base.live a q
    · rw [List.mem_singleton.mp q]; exact ⟨oC, eC⟩

theorem ex_assign_listcomp (i : Nat) (own : List Str) (caps : List (Str × Nat)) (p : Nat → Bool) (e : Nat → D) {x : Str} {px spos : Pos} {Q : Fl → List D → Prop} (hi : EvI c ds iter tt items)
    (st : Step c scope own caps ds target ifs items p fun c' ds' i => Ev c' ds' elt (e i)) (hx : c.ns[i]? = some x) (ho : Owns c.env c.Y x) (q : Q .next (ds.set i (.list (outs p e items.length))))
    (ok : compOkB scope c.env c.ns own caps = true := by kernel_rfl) (ht : tgtOk tt target = true := by rfl) (hlen : items.length ≤ 2 ^ 20 := by simp) (hs : ∀ x, foldedSetIterable iter c.env x = pure x := by intro _; rfl)
    (hsw : swapsWith (.ListComp elt [⟨target, iter, ifs, 0⟩] scope pos) (some (.Name x px)) spos.line c.env = pure true := by rfl) :
    Ex c ds (exec (.Assign [.Name x px] (.ListComp elt [⟨target, iter, ifs, 0⟩] scope pos) spos) c.env) Q := .mk fun s E S => by
  rw [exec_Assign_Name_used _ _ _ _ hsw]
  refine wpAny_bind (wpAny_standAt (wpAny_bind ?_))
  show wpAny _ _ (do let _ ← comprehension (.ListComp elt [⟨target, iter, ifs, 0⟩] scope pos) scope c.env (firstIterPos [⟨target, iter, ifs, 0⟩] pos) (newList []) false (eval iter c.env) (some (assign (.Name x px) c.env))) _ _ s
  refine wpAny_bind (wpAny_mono (list_all (Q := fun _ s' => Post c s Q .next s') (use := some (assign (.Name x px) c.env)) p e S ok hi ht hlen st hs ?_) (fun _ s' h => wpAny_pure (wpAny_pure h)) fun _ _ x => x)
  intro s0 s' h' tk C D m its n x0 x1 dC dD ne hn ho' hr
  show wpAny _ _ (assign (.Name x px) c.env (.ref D)) _ _ _
  have S0 := S.ext x0
  have G : St (c.at (XW c.X [C])) ds { s' with heap := h', toks := tk } := S0.growNs x1 dC hn
  have rD : (Mine.D.list (outs p e items.length)).rep (fz (XW c.X [C]) h') (.ref D) := by
    refine ⟨D, its, n, rfl, ⟨fun y => ?_, ho'⟩, hr⟩
    rcases y with (y | y) | y
    · exact S0.base.fresh dD (.inl y)
    · exact ne (List.mem_singleton.mp y).symm
    · exact S0.base.fresh dD (.inr y)
  refine wpAny_assign_Name (store (c := c.at (XW c.X [C])) G hx ho rD fun s2 b => ?_)
  have hL : c.env.locals ≠ C := (fresh_cell S0 dC).1.symm
  have nY : ¬ c.Y C := fun y => by obtain ⟨o, q⟩ := S0.base.live C (S0.sub C y); rw [dC] at q; cases q
  have nt : ¬ tb C := fun t => by obtain ⟨o, q⟩ := S0.base.tabs.alive t; rw [dC] at q; cases q
  have hn2 : s2.heap.Ns C m := hn.at' fun o e => b.ext.keep.keep C o (fun y => y.elim nY nt) e
  refine ⟨m, hn2, fun h'' sb => ?_⟩
  obtain ⟨oC, esC, epC, eC, _⟩ := id hn2
  have cC : h''.get? C = none ∨ Alive h'' C := by cases q : h''.get? C <;> first | exact .inl rfl | exact .inr ⟨_, q⟩
  obtain ⟨_, look, ⟨m0, hn0, hm⟩, hc, hsl⟩ := b.st.fr
  have B := b.st.base
  have le : Fle (fz (XW c.X [C]) s2.heap) (fz c.X h'') := fle_sameBut sb
  have nC : ∀ a, Alive s0.heap a → a ≠ C := fun a ⟨o, e⟩ => by rintro rfl; rw [dC] at e; cases e
  refine ⟨.next, _, rfl, ⟨⟨⟨S0.base.sys, fun a o z => ⟨(S0.base.old a o z).1, (sb.2 a (nC a ⟨o, (S0.base.old a o z).2⟩)).trans (B.old a o z).2⟩, fun a z => ?_, ?_⟩,
    ⟨S.fr.ok, look, ⟨m0, hn0.sameBut sb hL, hm⟩, fun y a z w => (hc y a z w).sameBut sb ((fresh_cell S0 dC).2 y a z w), hsl.mono le⟩, S.sub, ⟨S.mem.ap, S.mem.nodup, fun j a d e1 e2 => ?_⟩, S.subR, S.memR⟩, ⟨⟨fun a o w z => ?_, fun a w l => ?_, fun Z z l t => ?_⟩, b.ext.os.trans (x1.os.trans x0.os), fun z => b.ext.bare (x1.bare (x0.bare z))⟩⟩, q⟩
  · obtain ⟨o, z2⟩ := B.live a (.inl z)
    exact ⟨o, (sb.2 a (nC a (S0.base.live a z))).trans z2⟩
  · exact tabs_sameBut (B.tabs.mono (fun _ _ _ e => e) (fz_mono (fun _ x => .inl x) _)) hn2 sb
  · obtain ⟨o, z1, z2⟩ := b.st.mem.ok j a d e1 e2
    exact ⟨o, (sb.2 a (nC a (S0.base.live a (S0.mem.ap a (List.mem_of_getElem? e1)).2.2.1))).trans z1, cont_mono le z2⟩
  · have z0 := x0.keep.get a o (fun t => w (.inr t)) z
    exact (sb.2 a (nC a ⟨o, z0⟩)).trans (b.ext.keep.keep a o w (x1.keep.get a o (fun t => w (.inr t)) z0))
  · have l0 := x0.keep.alive l
    obtain ⟨o, z1⟩ := b.ext.keep.alive (x1.keep.alive l0)
    exact ⟨o, (sb.2 a (nC a l0)).trans z1⟩
  · have l0 : ∀ a, Z a → Alive s0.heap a := fun a w => x0.keep.alive (l a w)
    have t0 := x0.keep.tabs Z l t
    have t1 := x1.keep.tabs Z l0 t0
    exact tabs_sameBut (b.ext.keep.tabs Z z (fun a w => x1.keep.alive (l0 a w)) t1) hn2 sb
end
end Mine
end
/-! ## part A14 -/
section
set_option maxRecDepth 100000
namespace Mine
open PySem PyProof.Rows
variable {c : Cx} {ds : List D}

theorem tabs_sameBut' {Z : Addr → Prop} {s : Shared} {h'' : Heap} {C : Addr} (t : TabsOk Z s.heap) (hk : ∀ o vs, s.heap.get? C = some o → o.data ≠ .fields vs) (sb : Heap.SameBut C s.heap h'') : TabsOk Z h'' := by
  have key : ∀ {P q}, TabOk Z s.heap P q → TabOk Z h'' P q := fun {P q} ⟨ps, e, t, co⟩ => ⟨ps, (sb.2 P (by rintro rfl; exact hk _ _ e rfl)).trans e, t, fun pos cv x => by
    obtain ⟨a, o, vs, tk, e1, e2, e3, e4⟩ := co pos cv x
    exact ⟨a, o, vs, tk, e1, ⟨e2.1, (sb.2 a (by rintro rfl; exact hk _ _ e2.2 e3)).trans e2.2⟩, e3, e4⟩⟩
  exact ⟨key t.t1, key t.t2⟩
theorem ext_sameBut' {s0 s : Shared} {h'' : Heap} {tk : Nat} {C : Addr} (x : Ext s0 s) (dC : s0.heap.get? C = none) (hk : ∀ o vs, s.heap.get? C = some o → o.data ≠ .fields vs) (sb : Heap.SameBut C s.heap h'') : Ext s0 { s with heap := h'', toks := tk } := by
  have nC : ∀ b, Alive s0.heap b → b ≠ C := fun b ⟨o, e⟩ => by rintro rfl; rw [dC] at e; cases e
  refine ⟨⟨fun b o n e => (sb.2 b (nC b ⟨o, e⟩)).trans (x.keep.get b o n e), fun b t l => ?_, fun Z l t => tabs_sameBut' (x.keep.tabs Z l t) hk sb⟩, x.os, x.bare⟩
  obtain ⟨o, e⟩ := x.keep.tlive b t l
  exact ⟨o, (sb.2 b (nC b l)).trans e⟩
theorem ev_dict0 {pos} : Ev c ds (.Dict [] [] pos) (.dict [] []) := .mk fun s E S =>
  wpAny_Dict_empty ⟨Ext.push s _, s.heap.objs.size, #[], _, [], rfl, S.base.not_sys (get?_size_none _ _ (Nat.le_refl _)), new_fz S.base rfl, trivial, trivial, rfl, .nil⟩
theorem ev_dict1 {ke ve pos} {k : Int} {d : D} (hk : ∀ D, Ev (c.at (XW c.X [D])) ds ke (.int k)) (hv : ∀ D, Ev (c.at (XW c.X [D])) ds ve d) : Ev c ds (.Dict [some ke] [ve] pos) (.dict [k] [d]) := .mk fun s E S => by
  refine wpAny_Dict_walk (knd := intKind c.prog c.w) rfl rfl (by simp) (Nat.le_of_ble_eq_true rfl) ?_
  have e0 := ExtF.push s { cls := .type "dict", data := .dict #[] }
  have dD : s.heap.get? s.heap.objs.size = none := get?_size_none _ _ (Nat.le_refl _)
  have S0 : St (c.at (XW c.X [s.heap.objs.size])) ds { s with heap := s.heap.push { cls := .type "dict", data := .dict #[] } } := S.grow e0 (fun b hb => by rw [List.mem_singleton.mp hb]; exact dD) fun b hb => by rw [List.mem_singleton.mp hb]; exact ⟨_, Heap.get?_push_size _ rfl⟩
  refine pairTrees_cons_walk (wpAny_mono ((hk _).run _ E S0) (fun kv s1 ⟨e1, t, r1⟩ => wpAny_mono ((hv _).run s1 E (S0.ext e1)) (fun vv s2 ⟨e2, r2⟩ => pairTrees_nil_walk ?_) fun _ _ x => x) fun _ _ x => x)
  subst r1
  have nt : ¬ tb s.heap.objs.size := fun t => by obtain ⟨o, q⟩ := S.base.tabs.alive t; rw [dD] at q; cases q
  have hD : s2.heap.get? s.heap.objs.size = some { cls := .type "dict", data := .dict #[] } := e2.keep.get _ _ nt (e1.keep.get _ _ nt (Heap.get?_push_size _ rfl))
  refine ⟨[(k, vv)], ⟨by simp [intKind, Value.isInt], rfl, trivial⟩, ⟨_, #[], _, hD, ⟨rfl, rfl, rfl⟩, rfl, fun x hx => by simp at hx, .nil, .nil⟩, fun h' hd sb => ?_⟩
  refine ⟨ext_sameBut' ((e0.ext.trans e1).trans e2) dD (fun o vs q => by rw [hD] at q; cases q; exact fun z => by cases z) sb, ?_⟩
  exact rep_dict_of (S.base.not_sys dD) (S.base.fresh dD) hd rfl ⟨D.rep_mono (fle_sameBut sb) _ _ r2, trivial⟩

noncomputable def douts (p : Nat → Bool) (k : Nat → Int) (e : Nat → D) : Nat → List Int × List D
  | 0 => ([], [])
  | n + 1 => if p n then dset (douts p k e n).1 (douts p k e n).2 (k n) (e n) else douts p k e n
theorem dset_length (ks : List Int) (l : List D) (k : Int) (d : D) : (dset ks l k d).1.length ≤ ks.length + 1 := by
  unfold dset; split <;> simp
theorem douts_length (p : Nat → Bool) (k : Nat → Int) (e : Nat → D) : ∀ n, (douts p k e n).1.length ≤ n
  | 0 => Nat.le_refl _
  | n + 1 => by
    have := douts_length p k e n
    rw [douts]
    split
    · have h2 := dset_length (douts p k e n).1 (douts p k e n).2 (k n) (e n); (first | lia | omega)
    · (first | lia | omega)
section
variable {kx elt target iter : Expr} {ifs : List Expr} {scope : Scope} {pos : Pos} {tt : Bool} {items : List D}
theorem dict_emits {D' : Addr} {ds₂ : List D} {ks : List Int} {l : List D} {k : Int} {d : D} {p : Pos} (hk : Ev c ds₂ kx (.int k)) (h : Ev c ds₂ elt d) (hl : ks.length ≤ 2 ^ 20) :
    Emits c ds₂ D' (do let kv ← eval kx c.env; let vv ← holding [kv] (eval elt c.env); match Value.ref D' with
      | .ref d => do standAt p; holding [kv, vv] (dictSet d kv vv)
      | _ => unsupported "internal:dictcomp") (fun g o => cont g (.dict ks l) o) (fun g o => cont g (.dict (dset ks l k d).1 (dset ks l k d).2) o) := by
  intro s E o S ho hP
  refine wpAny_bind (wpAny_mono (hk.run s E S) (fun kv s1 zz => ?_) fun _ _ x => x)
  obtain ⟨e1, t, r1⟩ := zz
  subst r1
  refine wpAny_bind (wpAny_holding (wpAny_mono (h.run s1 E (S.ext e1)) (fun v s2 zz => ?_) fun _ _ x => x))
  obtain ⟨e2, r2⟩ := zz
  have nt : ¬ tb D' := fun t => by
    have : ∃ ps, s.heap.get? D' = some (PySem.W.tabObj ps) := by
      rcases t with rfl | rfl
      · obtain ⟨ps, e, _⟩ := S.base.tabs.t1; exact ⟨ps, e⟩
      · obtain ⟨ps, e, _⟩ := S.base.tabs.t2; exact ⟨ps, e⟩
    obtain ⟨ps, e⟩ := this
    rw [ho] at e; cases e
    obtain ⟨_, _, _, q, _⟩ := hP
    cases q
  have ho2 := e2.keep.get D' _ nt (e1.keep.get D' _ nt ho)
  have x12 := e1.trans e2
  obtain ⟨kvs, hd, q1, r, nd⟩ := cont_dict_to c.prog c.w ho2 (cont_mono x12.keep.fz hP)
  show wpAny _ _ (do standAt p; holding [Value.int k t, v] (dictSet D' (Value.int k t) v)) _ _ _
  refine wpAny_bind (wpAny_standAt (wpAny_holding ?_))
  refine wpAny_dictSet_pairs (knd := intKind c.prog c.w) (k := k) (by simp [intKind, Value.isInt]) hd (fun h' hd' hs' => ?_) (by rw [sizeLine_eq]; have := congrArg List.length q1; simp at this; (first | lia | omega))
  obtain ⟨q2, r3⟩ := stored_rep (k := k) r2 q1 r
  obtain ⟨o', ho', hc'⟩ := dictOf_cont (X := c.X) hd' q2 r3
  exact ⟨s2, h', _, x12, rfl, hs', o', ho', hc'⟩
theorem eval_DictComp (kx elt gens scope pos) : eval (.DictComp kx elt gens scope pos) c.env = comprehension (.DictComp kx elt gens scope pos) scope c.env (firstIterPos gens pos) newDict (firstAsync gens) (firstIter gens c.env) := rfl
theorem ev_dictcomp (own : List Str) (caps : List (Str × Nat)) (p : Nat → Bool) (k : Nat → Int) (e : Nat → D) (hi : EvI c ds iter tt items) (st : Step c scope own caps ds target ifs items p fun c' ds' i => Ev c' ds' kx (.int (k i)) ∧ Ev c' ds' elt (e i))
    (ok : compOkB scope c.env c.ns own caps = true := by kernel_rfl) (ht : tgtOk tt target = true := by rfl) (hlen : items.length ≤ 2 ^ 20 := by simp) (hs : ∀ x, foldedSetIterable iter c.env x = pure x := by intro _; rfl) :
    Ev c ds (.DictComp kx elt [⟨target, iter, ifs, 0⟩] scope pos) (.dict (douts p k e items.length).1 (douts p k e items.length).2) := .mk fun s E S => by
  show wpAny _ _ (eval _ _) _ _ _
  rw [eval_DictComp]
  show wpAny _ _ (comprehension (.DictComp kx elt [⟨target, iter, ifs, 0⟩] scope pos) scope c.env (firstIterPos [⟨target, iter, ifs, 0⟩] pos) newDict false (eval iter c.env)) _ _ _
  refine comp_all (own := own) (caps := caps) (use := none) (emit := fun acc env => do let kv ← eval kx env; let vv ← holding [kv] (eval elt env); match acc with
      | .ref d => do standAt { kx.pos with endLine := elt.pos.endLine, endCol := elt.pos.endCol }; holding [kv, vv] (dictSet d kv vv)
      | _ => unsupported "internal:dictcomp") (fun i g o => cont g (.dict (douts p k e i).1 (douts p k e i).2) o) S rfl hs ok hi ht
    (fun s Q E k => by simp only [newDict, newObj]; exact wpAny_bind (wpAny_alloc (wpAny_pure (k _ rfl fun g => ⟨#[], _, [], rfl, trivial, trivial, rfl, .nil⟩)))) (fun _ _ _ => ⟨⟨rfl, rfl, rfl⟩, fun _ => ⟨rfl, rfl⟩⟩) (fun I D env => rfl) (fun wr D C hCD i d hd => ?_) (fun i g g' o le h => cont_mono le h) ?_
  · obtain ⟨ds₂, h1, h2, h3, h4⟩ := st wr C i d hd
    have hlt := (List.getElem?_eq_some_iff.mp hd).1
    refine ⟨ds₂, p i, h1, h2, h3, fun hp => ?_, fun hp g o h => ?_⟩
    · have := dict_emits (D' := D) (ks := (douts p k e i).1) (l := (douts p k e i).2) (p := { kx.pos with endLine := elt.pos.endLine, endCol := elt.pos.endCol }) (h4 hp).1 (h4 hp).2 (by have := douts_length p k e i; (first | lia | omega))
      rw [show douts p k e (i + 1) = dset (douts p k e i).1 (douts p k e i).2 (k i) (e i) by rw [douts, if_pos hp]]
      exact this
    · rw [show douts p k e (i + 1) = douts p k e i by rw [douts, if_neg (by rw [hp]; simp)]]; exact h
  · intro s0 s' h' tk C D o m x0 x1 dC dD ne hn ho hP
    refine ⟨m, hn, fun h'' sb => ⟨x0.trans (ext_sameBut x1 dC hn sb), ?_⟩⟩
    have S0 := S.ext x0
    exact rep_of_cont (h := h'') (g := fz c.X h'') ((sb.2 D (Ne.symm ne)).trans ho) (S0.base.fresh dD) (cont_mono (fle_sameBut sb) hP) rfl (S0.base.not_sys dD)
end

theorem dictAt_of {prog : Program} {w : World} {X : Addr → Prop} {h : Heap} {a : Addr} {es : Array DictEntry} {n : Nat} {kvs : List (Int × Value)} (e : h.get? a = some { cls := .type "dict", data := .dict es n }) (p : PairsI es.toList kvs) (nd : (kvs.map Prod.fst).Nodup) :
    h.DictAt (intKind prog w) a kvs n := by
  obtain ⟨p1, p2⟩ := pairsI_to (prog := prog) (w := w) p
  exact ⟨_, es, e, ⟨rfl, rfl, rfl⟩, rfl, fun x hx => p2 x (Array.mem_toList_iff.mpr hx), p1, nd⟩
theorem itd_dict {tt : Bool} {ks : List Int} {l : List D} (R : Room c.A 1) : ItD c tt (.dict ks l) (ks.map D.int) := by
  rintro s v B ⟨a, es, n, kvs, rfl, na, ha, hr, hp, hk, nd⟩ Q E k
  have hD := dictAt_of (prog := c.prog) (w := c.w) (X := c.X) ha.2 hp (hk ▸ nd)
  refine wpAny_pyIter_dict na hD ?_
  have hlen : kvs.length = ks.length := by rw [← hk]; simp
  have nI : a ≠ s.heap.objs.size := Nat.ne_of_lt (Heap.lt_size ha.2)
  refine k s.heap.objs.size [s.heap.objs.size] _ (.push s _) (fun b hb => by rw [List.mem_singleton.mp hb]; exact get?_size_none _ _ (Nat.le_refl _)) fun X' hX => ⟨_, _, Itr.of_walks (X := X') (G := fun _ => True)
    (Walks.dictKeys (knd := intKind c.prog c.w) R.handled s.heap.objs.size a nI kvs n) ?_ ?_ (by simp [hlen]) (fun _ _ _ _ => trivial) (fun i v h d _ hv hi => ?_) (fun _ i v t s' Q E ht st hq => ?_), ⟨⟨_, Heap.get?_push_size _ rfl, rfl, rfl⟩, hD.at' fun o e => Heap.get?_push_of_some _ e⟩, trivial⟩
  · intro b hb
    simp only [List.mem_cons, List.not_mem_nil, or_false] at hb
    rcases hb with rfl | rfl
    · exact .inr (by simp)
    · exact .inl (hX.not ha.1 (Heap.get?_push_of_some _ ha.2))
  · intro i h st b hb
    rw [List.mem_singleton.mp hb]
    obtain ⟨o, e, _⟩ := st.1
    exact ⟨o, e⟩
  · obtain ⟨x, y, h1, h2⟩ := hv
    rw [← hk, List.map_map, List.getElem?_map, h1] at hi
    cases hi
    simp only [intKind] at h2
    cases v <;> simp [Value.isInt] at h2
    subst h2
    exact ⟨_, rfl⟩
  · obtain ⟨⟨o, e1, e2, e3⟩, _⟩ := st
    exact letGo_class e1 e2 e3 (by decide +kernel) ht hq

noncomputable abbrev D.view (T : String) (ks : List Int) (l : List D) : D := .any fun g v => ∃ a b o, v = .ref b ∧ g b o ∧ o.cls = .type T ∧ o.data = .fields #[.ref a] ∧ (D.dict ks l).rep g (.ref a)
theorem meth_dict {ks : List Int} {l : List D} {name : Str} {id : String} (slot : Slot "dict" name id) (hty : typeOf (.builtin id) = pure (.type "method_descriptor")) : Meth c (.dict ks l) name (.builtin id) := by
  rintro s E v pl Q B ⟨a, es, n, kvs, rfl, na, ha, r⟩ h
  exact getMethod_builtin ⟨_, ha.2, rfl⟩ F.plainAttrs_dict slot hty (fun b e => by cases e; exact ⟨_, ha.2, rfl⟩) (h s.toks)
theorem call_items {ks : List Int} {l : List D} : CallD c (.val (.builtin "dict.items")) [.dict ks l] [] (.view "dict_items" ks l) := by
  intro s E v vs kws B hv hvs hks
  rw [of_val hv]
  obtain ⟨u, rfl, r⟩ := repAll1 hvs
  ·
    obtain ⟨a, es, n, kvs, rfl, na, ha, hr, hp, hk, nd⟩ := id r
    have hD := (dictAt_of (prog := c.prog) (w := c.w) (X := c.X) ha.2 hp (hk ▸ nd)).dictOf
    refine call_meetsIn F.slot_dict_items hD.typeIs F.entry_dict_items (F.args_dict_items_1 _) (meets_dict_items (intKind c.prog c.w) a na) ⟨⟨kvs, hD⟩, Ext.push s _, _, Fle.refl _, a, _, _, rfl, new_fz B rfl, rfl, rfl, ?_⟩
    exact D.rep_mono (Keep.push _ _).fz _ _ r
theorem call_values {ks : List Int} {l : List D} : CallD c (.val (.builtin "dict.values")) [.dict ks l] [] (.view "dict_values" ks l) := by
  intro s E v vs kws B hv hvs hks
  rw [of_val hv]
  obtain ⟨u, rfl, r⟩ := repAll1 hvs
  ·
    obtain ⟨a, es, n, kvs, rfl, na, ha, hr, hp, hk, nd⟩ := id r
    have hD := (dictAt_of (prog := c.prog) (w := c.w) (X := c.X) ha.2 hp (hk ▸ nd)).dictOf
    refine call_meetsIn F.slot_dict_values hD.typeIs F.entry_dict_values (F.args_dict_values_1 _) (meets_dict_values (intKind c.prog c.w) a na) ⟨⟨kvs, hD⟩, Ext.push s _, _, Fle.refl _, a, _, _, rfl, new_fz B rfl, rfl, rfl, ?_⟩
    exact D.rep_mono (Keep.push _ _).fz _ _ r
theorem ev_items {o : Expr} {apos pos : Pos} {ks : List Int} {l : List D} (ho : Ev c ds o (.dict ks l)) (hbase : attributeBase o "items" c.env (eval o c.env) = eval o c.env := by rfl) (hline : (apos.endLine == pos.line) = true := by rfl) : Ev c ds (.Call (.Attribute o "items" apos) [] [] pos) (.view "dict_items" ks l) :=
  ev_meth ho evl_nil evk_nil (meth_dict F.slot_dict_items F.type_dict_items) kpr_builtin call_items rfl hbase hline
theorem ev_values {o : Expr} {apos pos : Pos} {ks : List Int} {l : List D} (ho : Ev c ds o (.dict ks l)) (hbase : attributeBase o "values" c.env (eval o c.env) = eval o c.env := by rfl) (hline : (apos.endLine == pos.line) = true := by rfl) : Ev c ds (.Call (.Attribute o "values" apos) [] [] pos) (.view "dict_values" ks l) :=
  ev_meth ho evl_nil evk_nil (meth_dict F.slot_dict_values F.type_dict_values) kpr_builtin call_values rfl hbase hline
theorem itd_values {tt : Bool} {ks : List Int} {l : List D} (R : Room c.A 1) : ItD c tt (.view "dict_values" ks l) l := by
  rintro s v B ⟨g₀, le, a, b, o, rfl, hb, hc, hd, r⟩ Q E k
  obtain ⟨_, es, n, kvs, ea, na, ha, hr, hp, hk, nd⟩ := D.rep_mono le _ _ r
  cases ea
  have hb := le _ _ hb
  have hD := dictAt_of (prog := c.prog) (w := c.w) (X := c.X) ha.2 hp (hk ▸ nd)
  refine wpAny_pyIter_values (v := b) ⟨o, hb.2, hc, hd⟩ hD ?_
  have hlen : kvs.length = l.length := by have := repAll_length hr; simpa using this
  have nI : a ≠ s.heap.objs.size := Nat.ne_of_lt (Heap.lt_size ha.2)
  refine k s.heap.objs.size [s.heap.objs.size] _ (.push s _) (fun b hb => by rw [List.mem_singleton.mp hb]; exact get?_size_none _ _ (Nat.le_refl _)) fun X' hX => ⟨_, _, Itr.of_walks (X := X') (G := fun h => repAll (fz (XW X' [s.heap.objs.size]) h) l (kvs.map Prod.snd))
    (Walks.dictValues (knd := intKind c.prog c.w) R.handled s.heap.objs.size a nI kvs n) ?_ ?_ hlen (fun h h' le g => repAll_mono le _ _ g) (fun i v h d g hv hi => ?_) (fun _ i v t s' Q E ht st hq => ?_), ⟨⟨_, Heap.get?_push_size _ rfl, rfl, rfl⟩, hD.at' fun o e => Heap.get?_push_of_some _ e⟩, ?_⟩
  · intro b hb
    simp only [List.mem_cons, List.not_mem_nil, or_false] at hb
    rcases hb with rfl | rfl
    · exact .inr (by simp)
    · exact .inl (hX.not ha.1 (Heap.get?_push_of_some _ ha.2))
  · intro i h st b hb
    rw [List.mem_singleton.mp hb]
    obtain ⟨o, e, _⟩ := st.1
    exact ⟨o, e⟩
  · obtain ⟨k, h1⟩ := hv
    obtain ⟨v', hv', r'⟩ := repAll_get g hi
    rw [List.getElem?_map, h1] at hv'
    cases hv'; exact r'
  · obtain ⟨⟨o, e1, e2, e3⟩, _⟩ := st
    exact letGo_class e1 e2 e3 (by decide +kernel) ht hq
  · exact repAll_mono (hX.fz (fun _ _ e => Heap.get?_push_of_some _ e) fun b hb => by rw [List.mem_singleton.mp hb]; exact get?_size_none _ _ (Nat.le_refl _)) _ _ hr
noncomputable abbrev paired (ks : List Int) (l : List D) : List D := (ks.zip l).map fun p => D.tup [.int p.1, p.2]
theorem itd_items {ks : List Int} {l : List D} (R : Room c.A 1) : ItD c true (.view "dict_items" ks l) (paired ks l) := by
  rintro s v B ⟨g₀, le, a, b, o, rfl, hb, hc, hd, r⟩ Q E k
  obtain ⟨_, es, n, kvs, ea, na, ha, hr, hp, hk, nd⟩ := D.rep_mono le _ _ r
  cases ea
  have hb := le _ _ hb
  have hD := dictAt_of (prog := c.prog) (w := c.w) (X := c.X) ha.2 hp (hk ▸ nd)
  refine wpAny_pyIter_items (v := b) ⟨o, hb.2, hc, hd⟩ hD ?_
  have hlen : kvs.length = l.length := by have := repAll_length hr; simpa using this
  have hlk : kvs.length = ks.length := by rw [← hk]; simp
  have hlp : (paired ks l).length = kvs.length := by simp; (first | lia | omega)
  have nI : a ≠ s.heap.objs.size := Nat.ne_of_lt (Heap.lt_size ha.2)
  generalize hN : s.heap.objs.size = N at *
  have dN : s.heap.get? N = none := get?_size_none _ _ (Nat.le_of_eq hN)
  refine k N [N] _ (.push s _) (fun b hb => by rw [List.mem_singleton.mp hb]; exact dN) fun X' hX =>
    ⟨fun i h => ∃ ok ov, IsItemIter h N a i kvs.length n ok ov ∧ h.DictAt (intKind c.prog c.w) a kvs n ∧ repAll (fz (XW X' [N]) h) l (kvs.map Prod.snd),
     fun i v h => ∃ T ok ov, v = .ref T ∧ IsItemIterOut h N a (i + 1) kvs.length n ok ov T ∧ h.DictAt (intKind c.prog c.w) a kvs n ∧ repAll (fz (XW X' [N]) h) l (kvs.map Prod.snd), ?_, ?_⟩
  · have nXa : ¬ (X' a ∨ tb a) := hX.not ha.1 (Heap.get?_push_of_some _ ha.2)
    refine ⟨fun i h h' ⟨ok, ov, x1, x2, x3⟩ kp => ⟨ok, ov, kp N _ (.inr (by simp)) x1, x2.at' fun o e => kp a o (.inl nXa) e, repAll_mono kp.fz _ _ x3⟩, fun i h ⟨ok, ov, x1, _⟩ b hb => ?_, fun i v h ⟨T, ok, ov, _, x1, _⟩ b hb => ?_,
      fun i d s Q E hi ⟨ok, ov, x1, x2, x3⟩ lx hQ => ?_, fun i v t s Q E ht ⟨T, ok, ov, ev, x1, x2, x3⟩ hQ => ?_, fun s Q E ⟨ok, ov, x1, x2, x3⟩ hQ => ?_, fun i s Q E ⟨ok, ov, x1, x2, x3⟩ hQ => ?_⟩
    · rw [List.mem_singleton.mp hb]; exact ⟨_, x1⟩
    · rw [List.mem_singleton.mp hb]; exact ⟨_, x1⟩
    · have hlt : i < kvs.length := by have := (List.getElem?_eq_some_iff.mp hi).1; (first | lia | omega)
      refine wpAny_pyNext_items_item (k := kvs[i].1) (v := kvs[i].2) x1 x2 (by simp [hlt]) fun key h' hkey hout htup hsz hkp => ?_
      have dT : s.heap.get? s.heap.objs.size = none := get?_size_none _ _ (Nat.le_refl _)
      have off : Off [N] s.heap h' := fun b o hb e => hkp b o (fun z => hb (by simp [z])) e
      have x3' := repAll_mono (Off.fz (X := X') off) _ _ x3
      refine hQ (.ref s.heap.objs.size) h' s.toks ?_ ⟨_, _, _, rfl, hout, x2.at' fun o e => hkp a o nI e, x3'⟩ off
      have e1 : ks[i]? = some kvs[i].1 := by rw [← hk]; simp [hlt]
      have hll : i < l.length := by (first | lia | omega)
      have e2 : l[i]? = some l[i] := List.getElem?_eq_getElem hll
      have ed : d = .tup [.int kvs[i].1, l[i]] := by
        have e3 : (ks.zip l)[i]? = some (kvs[i].1, l[i]) := List.getElem?_zip_eq_some.mpr ⟨e1, e2⟩
        rw [List.getElem?_map, e3] at hi
        cases hi; rfl
      subst ed
      obtain ⟨v', hv', r'⟩ := repAll_get x3' e2
      rw [List.getElem?_map] at hv'
      simp only [List.getElem?_eq_getElem hlt, Option.map_some, Option.some.injEq] at hv'
      subst hv'
      refine ⟨s.heap.objs.size, _, 0, none, #[], rfl, ⟨fun y => ?_, htup⟩, ?_, r', trivial⟩
      · rcases y with (y | y) | y
        · obtain ⟨o, q⟩ := lx _ (.inl y); rw [dT] at q; cases q
        · rw [List.mem_singleton.mp y] at dT; have x1' : s.heap.get? N = some _ := x1; rw [dT] at x1'; cases x1'
        · obtain ⟨o, q⟩ := lx _ (.inr y); rw [dT] at q; cases q
      · simp only [intKind] at hkey
        cases key <;> simp [Value.isInt] at hkey
        subst hkey
        exact ⟨_, rfl⟩
    · subst ev
      cases t <;> first | (simp [tgtOk] at ht; done) | skip
      refine wpAny_letOwnedTupleGo_items x1 fun h' x1' sb => ?_
      have off : Off [N] s.heap h' := fun b o hb e => (sb.2 b (fun z => hb (by simp [z]))).trans e
      exact hQ h' ⟨ok, ov, x1', x2.at' fun o e => (sb.2 a nI).trans e, repAll_mono (Off.fz (X := X') off) _ _ x3⟩ off
    · rw [hlp] at x1
      refine wpAny_pyNext_items_end R.handled x1 x2 (by simp) fun h' he => hQ h' s.toks fun b o hb e => he b o (fun z => hb (by simp [z])) e
    · have hT : s.TypeIs (.ref N) "dict_itemiterator" := ⟨_, x1, rfl⟩
      refine wpAny_pyIter_slot hT F.slot_dict_itemiterator_iter (wpAny_call_entry F.slot_dict_itemiterator_iter hT PySem.W.kcp_entry ?_ (F.args_dict_itemiterator_iter_1 _))
      show wpAny _ _ (ret (.ref N)) _ _ s
      exact wpAny_pure ⟨_, rfl, "dict_itemiterator", _, hT, F.slot_dict_itemiterator_next.lookup, hQ⟩
  · refine ⟨.none, .none, ?_, hD.at' fun o e => Heap.get?_push_of_some _ e, repAll_mono (hX.fz (fun _ _ e => Heap.get?_push_of_some _ e) fun b hb => by rw [List.mem_singleton.mp hb]; exact dN) _ _ hr⟩
    show Heap.get? _ N = _
    rw [← hN]
    exact Heap.get?_push_size _ rfl
end Mine
end
/-! ## part A15 -/
section
set_option maxRecDepth 100000
namespace Mine
open PySem PyProof.Rows
variable {c : Cx} {ds : List D}

noncomputable def bit (m k : Nat) : Nat := m / 2 ^ k % 2
theorem bit_eq (m k : Nat) : Builtin.bitAnd ((m : Int).fdiv (2 ^ (k : Int).toNat)) 1 = ((bit m k : Nat) : Int) := by
  have e : (m : Int).fdiv (2 ^ (k : Int).toNat) = ((m / 2 ^ k : Nat) : Int) := by
    rw [Int.toNat_natCast]
    have : (2 : Int) ^ k = ((2 ^ k : Nat) : Int) := by simp
    rw [this, Int.fdiv_eq_ediv_of_nonneg _ (Int.natCast_nonneg _)]
    exact (Int.natCast_ediv _ _).symm
  rw [e, bitAnd_pp (Int.natCast_nonneg _) (by decide)]
  rw [Int.toNat_natCast]
  show ((m / 2 ^ k &&& 1 : Nat) : Int) = _
  rw [Nat.and_one_is_mod]; rfl
theorem ev_bit {me ke : Expr} {p1 p2 p3 : Pos} {u} {m k : Nat} (hm : Ev c ds me (.int (m : Int))) (hk : Ev c ds ke (.int (k : Int))) : Ev c ds (.BinOp (.BinOp me .RShift ke p1) .BitAnd (.Constant (.int 1) u p2) p3) (.int ((bit m k : Nat) : Int)) :=
  (ev_bin (ev_bin hm hk (op_shr (by (first | lia | omega)))) ev_int op_and).cast (by rw [bit_eq])
theorem upTo_get {n i : Nat} {d : D} (h : (upTo n)[i]? = some d) : i < n ∧ d = .int (i : Int) := by
  have hlt : i < n := by simpa using (List.getElem?_eq_some_iff.mp h).1
  refine ⟨hlt, ?_⟩
  rw [List.getElem?_map, List.getElem?_range hlt] at h
  cases h; rfl
theorem upTo_length (n : Nat) : (upTo n).length = n := by simp
theorem yl_comp {scope own caps wr C} : (c.comp scope own caps wr C).Y (c.comp scope own caps wr C).env.locals := mem_wrOf.mpr (.inl rfl)
theorem ints_get {ns : List Int} {k : Nat} (h : k < ns.length) : (ns.map D.int)[((k : Nat) : Int).toNat]? = some (.int (ns.getD k 0)) := by
  rw [Int.toNat_natCast, List.getElem?_map, List.getElem?_eq_getElem h]
  simp [h]
theorem ev_item {value slice : Expr} {pos : Pos} {ns : List Int} {k : Nat} (h1 : Ev c ds value (.ints ns)) (h2 : Ev c ds slice (.int (k : Int))) (hk : k < ns.length) (hb : k < 2 ^ 62) (hs : notSlice slice = true := by rfl) : Ev c ds (.Subscript value slice pos) (.int (ns.getD k 0)) :=
  ev_sub h1 h2 (op_item_list (by (first | lia | omega)) (by (first | lia | omega)) (ints_get hk) hs)
theorem outs_int (p : Nat → Bool) (f : Nat → Int) : ∀ n, outs p (fun i => .int (f i)) n = (((List.range n).filter p).map f).map D.int
  | 0 => rfl
  | n + 1 => by
    rw [outs, outs_int p f n, List.range_succ, List.filter_append, List.map_append, List.map_append]
    congr 1
    cases h : p n <;> simp [h]
theorem ev_range {func arg : Expr} {pos : Pos} {n : Nat} (hf : Ev c ds func (.val (.type "range"))) (ha : Ev c ds arg (.int (n : Int))) (hn : noStar [arg] = true := by rfl)
    (he : starEach [arg] c.env = (false, eval arg c.env) :: starEach [] c.env := by rfl) (hq : eval (.Call func [arg] [] pos) c.env = (do callWith pos (← eval func c.env) [] (backTo pos (starEach [arg] c.env)) (backToKw pos (keywordEach [] c.env))) := by rfl) :
    Ev c ds (.Call func [arg] [] pos) (.range (n : Int)) := ev_call hf (evl_cons ha evl_nil he) evk_nil kpr_type call_range hn hq
theorem evi_range {func arg : Expr} {pos : Pos} {n : Nat} (R : Room c.A 1) (hf : Ev c ds func (.val (.type "range"))) (ha : Ev c ds arg (.int (n : Int))) (hb : n ≤ 1000) (hn : noStar [arg] = true := by rfl)
    (he : starEach [arg] c.env = (false, eval arg c.env) :: starEach [] c.env := by rfl) (hq : eval (.Call func [arg] [] pos) c.env = (do callWith pos (← eval func c.env) [] (backTo pos (starEach [arg] c.env)) (backToKw pos (keywordEach [] c.env))) := by rfl) :
    EvI c ds (.Call func [arg] [] pos) false (upTo n) := evi (ev_range hf ha hn he hq) (itd_range R hb)
theorem ev_call1 {func a1 : Expr} {pos : Pos} {df d1 d : D} (hf : Ev c ds func df) (h1 : Ev c ds a1 d1) (kp : Kpr c df) (hc : CallD c df [d1] [] d) (hn : noStar [a1] = true := by rfl)
    (he : starEach [a1] c.env = (false, eval a1 c.env) :: starEach [] c.env := by rfl) (hq : eval (.Call func [a1] [] pos) c.env = (do callWith pos (← eval func c.env) [] (backTo pos (starEach [a1] c.env)) (backToKw pos (keywordEach [] c.env))) := by rfl) :
    Ev c ds (.Call func [a1] [] pos) d := ev_call hf (evl_cons h1 evl_nil he) evk_nil kp hc hn hq
theorem ev_call2 {func a1 a2 : Expr} {pos : Pos} {df d1 d2 d : D} (hf : Ev c ds func df) (h1 : Ev c ds a1 d1) (h2 : Ev c ds a2 d2) (kp : Kpr c df) (hc : CallD c df [d1, d2] [] d) (hn : noStar [a1, a2] = true := by rfl)
    (he : starEach [a1, a2] c.env = (false, eval a1 c.env) :: starEach [a2] c.env := by rfl) (he2 : starEach [a2] c.env = (false, eval a2 c.env) :: starEach [] c.env := by rfl)
    (hq : eval (.Call func [a1, a2] [] pos) c.env = (do callWith pos (← eval func c.env) [] (backTo pos (starEach [a1, a2] c.env)) (backToKw pos (keywordEach [] c.env))) := by rfl) :
    Ev c ds (.Call func [a1, a2] [] pos) d := ev_call hf (evl_cons h1 (evl_cons h2 evl_nil he2) he) evk_nil kp hc hn hq
theorem ev_call3 {func a1 a2 a3 : Expr} {pos : Pos} {df d1 d2 d3 d : D} (hf : Ev c ds func df) (h1 : Ev c ds a1 d1) (h2 : Ev c ds a2 d2) (h3 : Ev c ds a3 d3) (kp : Kpr c df) (hc : CallD c df [d1, d2, d3] [] d) (hn : noStar [a1, a2, a3] = true := by rfl)
    (he : starEach [a1, a2, a3] c.env = (false, eval a1 c.env) :: starEach [a2, a3] c.env := by rfl) (he2 : starEach [a2, a3] c.env = (false, eval a2 c.env) :: starEach [a3] c.env := by rfl) (he3 : starEach [a3] c.env = (false, eval a3 c.env) :: starEach [] c.env := by rfl)
    (hq : eval (.Call func [a1, a2, a3] [] pos) c.env = (do callWith pos (← eval func c.env) [] (backTo pos (starEach [a1, a2, a3] c.env)) (backToKw pos (keywordEach [] c.env))) := by rfl) :
    Ev c ds (.Call func [a1, a2, a3] [] pos) d := ev_call hf (evl_cons h1 (evl_cons h2 (evl_cons h3 evl_nil he3) he2) he) evk_nil kp hc hn hq
theorem evt_bin {a op b pos d} {r : Bool} (h : Ev c ds (.BinOp a op b pos) d) (ht : TrueOf c d r) : EvT c ds (.BinOp a op b pos) r := evt_val h ht rfl
theorem evt_name {x pos d} {r : Bool} (h : Ev c ds (.Name x pos) d) (ht : TrueOf c d r) : EvT c ds (.Name x pos) r := evt_val h ht rfl
theorem evt_sub {a b pos d} {r : Bool} (h : Ev c ds (.Subscript a b pos) d) (ht : TrueOf c d r) : EvT c ds (.Subscript a b pos) r := evt_val h ht rfl
theorem evt_call {f l k pos d} {r : Bool} (h : Ev c ds (.Call f l k pos) d) (ht : TrueOf c d r) : EvT c ds (.Call f l k pos) r := evt_val h ht rfl
theorem evt_listcomp {e g s pos d} {r : Bool} (h : Ev c ds (.ListComp e g s pos) d) (ht : TrueOf c d r) : EvT c ds (.ListComp e g s pos) r := evt_val h ht rfl
theorem nm (i : Nat) {x pos d} (hx : c.ns[i]? = some x := by kernel_rfl) (hd : ds[i]? = some d := by rfl) (hk : d.known = true := by rfl) : Ev c ds (.Name x pos) d := ev_name i hx hd hk
end Mine
end
/-! ## part B1 -/
section
open PySem PySem.W PyProof.Rows
set_option maxRecDepth 100000
namespace Mine

noncomputable def KP (P : Params) : Frag := hd.heap_39 P
structure Law (c : Cx) (P : Params) : Prop where
  X : (KP P).In c.H
  lim : c.H.NoLimit
  g : ∃ mg mb, c.H.Ns mainGlobals mg ∧ c.H.Ns builtinsNs mb ∧ ∀ x : Str, x ≠ "__name__" → mb x = bootBuiltins x

section
variable {c : Cx} {P : Params} {ds : List D}
theorem glob_is (L : Law c P) {x : Str} {v : Value} (e : nsIn (KP P) mainGlobals x = some (some v)) : GlobIs c.H x v :=
  let ⟨mg, _, g, _⟩ := L.g; ⟨mg, g, mg_of L.X g e⟩
theorem blt_is (L : Law c P) {x : Str} {v : Value} (e : nsIn (KP P) mainGlobals x = some none) (e2 : bootBuiltins x = some v) (e3 : (x == ("__name__" : Str)) = false) : BltIs c.H x v :=
  let ⟨mg, mb, g, b, h⟩ := L.g; ⟨mg, mb, g, mg_none_of L.X g e, b, (h x (by rintro rfl; simp at e3)).trans e2⟩
theorem fn_at {K : Frag} {h : Heap} {a : Addr} (X : K.In h) (e : (match K.lookup a with | some ⟨_, _, .func _, _⟩ => true | _ => false) = true) : ∃ o, h.get? a = some o ∧ o.data = .func (fnAt K a) := by
  unfold fnAt
  cases hk : K.lookup a with
  | none => rw [hk] at e; cases e
  | some o =>
    obtain ⟨cl, d, dt, sl⟩ := o
    rw [hk] at e
    cases dt <;> first | (cases e; done) | exact ⟨_, X _ _ hk, rfl⟩
noncomputable def codeIn (K : Frag) (cv : Value) (q : Str) : Bool := match cv with
  | .ref c => (match K.lookup c with
    | some ⟨_, _, .fields vs, _⟩ => (match (vs[1]? : Option Value) with | some (.str q' _) => q' == q | _ => false)
    | _ => false)
  | _ => false
set_option tactic.hygienic true in
theorem code_in {K : Frag} {h : Heap} {cv : Value} {q : Str} (X : K.In h) (e : codeIn K cv q = true) : h.CodeRec cv q := by
  unfold codeIn at e
  split at e
  · rename_i c
    split at e
    · rename_i hk
      split at e
      · rename_i vs q' t hv
        rw [beq_iff_eq.mp e] at hv
        exact ⟨c, _, _, t, rfl, X _ _ hk, rfl, hv⟩
      · cases e
    · cases e
  · cases e
noncomputable def fnOkB (K : Frag) (a : Addr) : Bool :=
  (match K.lookup a with | some ⟨_, _, .func _, _⟩ => true | _ => false) && codeIn K (fnAt K a).code (fnAt K a).qualname && (fnAt K a).closure.isEmpty && (fnAt K a).scope.kind == .function && !(fnAt K a).scope.isCoroutine && !(fnAt K a).scope.isGenerator &&
  (fnAt K a).globals == mainGlobals && (fnAt K a).builtins == builtinsNs
noncomputable abbrev Cx.fn (c : Cx) (P : Params) (a L : Addr) (ns : List Str) : Cx :=
  c.into (fnEnv (fnAt (KP P) a) a L (cellsFrom (L + 1) (fnAt (KP P) a).scope.names [])) (wrOf L (cellsFrom (L + 1) (fnAt (KP P) a).scope.names [])) ns
theorem call_fn (a : Addr) (ns : List Str) (bnd : List (Str × D)) (ds0 : List D) {body : List Stmt} {l : List D} {kw : List (Str × D)} {d : D} (L : Law c P) (R : Room c.A 1)
    (hbind : ∀ (s : Shared) vs ks, Base c.H c.X s.heap → repAll (fz c.X s.heap) l vs → repAll (fz c.X s.heap) (kw.map Prod.snd) ks →
      ∃ binds, (∀ S, peek (KP P) S (bindArgs (fnAt (KP P) a) ⟨vs, (kw.map Prod.fst).zip ks⟩) = some binds) ∧ binds.map (·.1) = bnd.map (·.1) ∧ repAll (fz c.X s.heap) (bnd.map (·.2)) (binds.map (·.2)))
    (hbody : (fnAt (KP P) a).body = .stmts body)
    (h : ∀ L, Ex (c.fn P a L ns) ds0 (execs body (c.fn P a L ns).env) (fun fl _ => match fl with | .ret d' => d' = d | .next => d = .none | _ => False))
    (hds : (ns.map fun x => (bnd.lookup x).getD .unk) = ds0 := by kernel_rfl) (ok : fnOkB (KP P) a = true := by kernel_rfl)
    (hns : nsOkB (fnAt (KP P) a).scope.names ns = true := by kernel_rfl) (hbn : ((bnd.map (·.1)).all (keptB (fnAt (KP P) a).scope.names) && decide (bnd.map (·.1)).Nodup) = true := by kernel_rfl) :
    CallD c (.val (.ref a)) l kw d := by
  subst hds
  unfold fnOkB at ok
  simp only [Bool.and_eq_true, Bool.not_eq_true', beq_iff_eq, List.isEmpty_iff] at ok
  obtain ⟨⟨⟨⟨⟨⟨⟨e1, e2⟩, e3⟩, e4⟩, e5⟩, e6⟩, e7⟩, e8⟩ := ok
  obtain ⟨o, ho, hd⟩ := fn_at L.X e1
  refine call_def bnd ns R ho hd L.lim (code_in L.X e2) hbody e3 e4 e5 e6 e7 e8 hns hbn (fun s vs ks B r1 r2 => ?_) h
  obtain ⟨binds, b1, b2⟩ := hbind s vs ks B r1 r2
  exact ⟨binds, kp_binds (Frag.In.keeps L.X B.h) b1, b2⟩


theorem yl_fn {a L : Addr} {ns : List Str} : (c.fn P a L ns).Y (c.fn P a L ns).env.locals := mem_wrOf.mpr (.inl rfl)
theorem ev_gf (L : Law c P) {x : Str} {pos : Pos} (a : Addr) (e : nsIn (KP P) mainGlobals x = some (some (.ref a)) := by kernel_rfl) (hk : c.env.kindOf x = some .globalImplicit := by rfl) (hx : (x == ("__debug__" : Str)) = false := by rfl) : Ev c ds (.Name x pos) (.val (.ref a)) :=
  ev_glob hk (glob_is L e) (fun _ => rep_val) hx
noncomputable def gIntB (K : Frag) (x : Str) (i : Int) : Bool := match nsIn K mainGlobals x with
  | some (some (.int j _)) => j == i
  | _ => false
set_option tactic.hygienic true in
theorem ev_gi (L : Law c P) {x : Str} {pos : Pos} (i : Int) (e : gIntB (KP P) x i = true := by kernel_rfl) (hk : c.env.kindOf x = some .globalImplicit := by rfl) (hx : (x == ("__debug__" : Str)) = false := by rfl) : Ev c ds (.Name x pos) (.int i) := by
  unfold gIntB at e
  split at e
  · rename_i j t h
    rw [beq_iff_eq.mp e] at h
    exact ev_glob hk (glob_is L h) (fun _ => ⟨_, rfl⟩) hx
  · cases e
theorem ev_gb (L : Law c P) {x : Str} {pos : Pos} (v : Value) (e : nsIn (KP P) mainGlobals x = some none := by kernel_rfl) (e2 : bootBuiltins x = some v := by kernel_rfl) (hk : c.env.kindOf x = some .globalImplicit := by rfl) (hx : (x == ("__debug__" : Str)) = false := by rfl)
    (e3 : (x == ("__name__" : Str)) = false := by rfl) : Ev c ds (.Name x pos) (.val v) := ev_blt hk (blt_is L e e2 e3) (fun _ => rep_val) hx
theorem kpr_fn (L : Law c P) (a : Addr) (e : (match (KP P).lookup a with | some ⟨_, _, .func _, _⟩ => true | _ => false) = true := by kernel_rfl) : Kpr c (.val (.ref a)) :=
  let ⟨_, ho, hd⟩ := fn_at L.X e; kpr_func ho hd
theorem Law.fn {a L' : Addr} {ns : List Str} (L : Law c P) : Law (c.fn P a L' ns) P := ⟨L.X, L.lim, L.g⟩
theorem Law.comp {scope own caps wr C} (L : Law c P) : Law (c.comp scope own caps wr C) P := ⟨L.X, L.lim, L.g⟩
theorem Law.own {a : Addr} (L : Law c P) : Law (c.own a) P := ⟨L.X, L.lim, L.g⟩
theorem Law.at {X' : Addr → Prop} (L : Law c P) : Law (c.at X') P := ⟨L.X, L.lim, L.g⟩
theorem Law.frz (L : Law c P) : Law c.frz P := ⟨L.X, L.lim, L.g⟩
end
end Mine
end
/-! ## part B2 -/
section
open PySem PySem.W PyProof.Rows
set_option maxRecDepth 100000
namespace Mine
section
variable {c : Cx} {P : Params} {ds : List D}
theorem c_isterm (L : Law c P) (R : Room c.A 1) (x : Int) : CallD c (.val (.ref 106)) [.int x] [] (.bool (decide (x < 256))) := by
  refine call_fn 106 ["x"] [("x", .int x)] [.int x] L R ?_ (by exact rfl) ?_
  · intro s vs ks B r1 r2
    cases repAll0 r2
    obtain ⟨v, rfl, r⟩ := repAll1 r1
    exact ⟨[("x", v)], fun _ => by kernel_rfl, rfl, r, trivial⟩
  intro L'
  exact ex_cons (ex_ret (ev_cmp (ev_name 0 rfl rfl rfl) (ev_gi L.fn 256) op_lt) rfl)
theorem c_isnonterm (L : Law c P) (R : Room c.A 1) (x : Int) : CallD c (.val (.ref 113)) [.int x] [] (.bool (decide (256 ≤ x))) := by
  refine call_fn 113 ["x"] [("x", .int x)] [.int x] L R ?_ (by exact rfl) ?_
  · intro s vs ks B r1 r2
    cases repAll0 r2
    obtain ⟨v, rfl, r⟩ := repAll1 r1
    exact ⟨[("x", v)], fun _ => by kernel_rfl, rfl, r, trivial⟩
  intro L'
  exact ex_cons (ex_ret (ev_cmp (ev_name 0 rfl rfl rfl) (ev_gi L.fn 256) op_ge) rfl)
theorem c_iseof (L : Law c P) (R : Room c.A 1) (x : Int) : CallD c (.val (.ref 120)) [.int x] [] (.bool (x == 0)) := by
  refine call_fn 120 ["x"] [("x", .int x)] [.int x] L R ?_ (by exact rfl) ?_
  · intro s vs ks B r1 r2
    cases repAll0 r2
    obtain ⟨v, rfl, r⟩ := repAll1 r1
    exact ⟨[("x", v)], fun _ => by kernel_rfl, rfl, r, trivial⟩
  intro L'
  exact ex_cons (ex_ret (ev_cmp (ev_name 0 rfl rfl rfl) (ev_gi L.fn 0) op_eq) rfl)

noncomputable def lawSum (w : List Int) (m : Nat) : Int := 256 + w.getD 3 0 + (((List.range 3).filter fun k => (bit m k : Int) != 0).map fun k => w.getD k 0).sum
theorem c_sum (L : Law c P) (R : Room c.A 3) (w : List Int) (hw : w.length = 4) (m : Nat) : CallD c (.val (.ref 132)) [.ints w, .int m] [] (.int (lawSum w m)) := by
  refine call_fn 132 ["weights", "mask"] [("weights", .ints w), ("mask", .int m)] [.ints w, .int m] L (R.of_le (by decide)) ?_ (by exact rfl) ?_
  · intro s vs ks B r1 r2
    cases repAll0 r2
    obtain ⟨v, v2, rfl, r, r'⟩ := repAll2 r1
    exact ⟨[("weights", v), ("mask", v2)], fun _ => by kernel_rfl, rfl, r, r', trivial⟩
  intro L'
  have R1 : Room (c.fn P 132 L' ["weights", "mask"]).A 2 := R.deeper _
  refine ex_cons (ex_ret (ev_bin (ev_bin (ev_gi L.fn 256) (ev_item (k := 3) (ev_name 0 rfl rfl rfl) ev_int (by (first | lia | omega)) (by decide)) op_add)
    (ev_call1 (ev_gb L.fn (.builtin "sum")) ((ev_listcomp ["k"] [("mask", 1), ("weights", 0)] (fun k => (bit m k : Int) != 0) (fun k => .int (w.getD k 0)) (evi_range (n := 3) (R1.of_le (by decide)) (ev_gb L.fn (.type "range")) ev_int (by decide)) ?_).cast (by rw [upTo_length, outs_int])) kpr_builtin (call_sum_l R1)) op_add) rfl)
  intro wr C i d hd
  obtain ⟨hi, rfl⟩ := upTo_get hd
  exact ⟨_, as_name 0 rfl (owl yl_comp rfl), ⟨.inl rfl, .inr rfl, .inr rfl, trivial⟩, test_one (evt_bin (ev_bit (ev_name 1 rfl rfl rfl) (ev_name 0 rfl rfl rfl)) true_int), fun _ => ev_item (ev_name 2 rfl rfl rfl) (ev_name 0 rfl rfl rfl) (by (first | lia | omega)) (by (first | lia | omega))⟩
end
end Mine
end
/-! ## part B3 -/
section
open PySem PySem.W PyProof.Rows
set_option maxRecDepth 100000
namespace Mine
section
variable {c : Cx} {P : Params} {ds : List D}
theorem numbered_get {l : List D} {i : Nat} {d : D} (h : (numbered l)[i]? = some d) : i < l.length ∧ d = .tup [.int (i : Int), l.getD i .unk] := by
  have hlt : i < l.length := by simpa using (List.getElem?_eq_some_iff.mp h).1
  refine ⟨hlt, ?_⟩
  rw [List.getElem?_map, List.getElem?_range hlt] at h
  cases h; rfl
theorem ints_getD {ns : List Int} {i : Nat} (h : i < ns.length) : (ns.map D.int).getD i .unk = .int (ns.getD i 0) := by
  simp [List.getD, List.getElem?_map, List.getElem?_eq_getElem h]

noncomputable def dr0 : List Int := [25, 13, 29, 26, 232, 3, 8, 5, 0, 2, 13]
noncomputable def dr (xs : List Int) : Nat → List Int
  | 0 => dr0
  | i + 1 => (dr xs i).set (i % 11) ((dr xs i).getD (i % 11) 0 + xs.getD i 0 % 1000000)
theorem dr_length (xs : List Int) : ∀ i, (dr xs i).length = 11
  | 0 => rfl
  | i + 1 => by rw [dr, List.length_set, dr_length xs i]
noncomputable def lawDrawn (script : List Int) : List Int := dr (script.take 60) (script.take 60).length
theorem c_drawn (L : Law c P) (R : Room c.A 3) (xs : List Int) (hx : xs.length ≤ 63) : CallD c (.val (.ref 127)) [.ints xs] [] (.ints (lawDrawn xs)) := by
  refine call_fn 127 ["script", "drawn", "place", "number"] [("script", .ints xs)] [.ints xs, .unk, .unk, .unk] L (R.of_le (by decide)) ?_ (by exact rfl) ?_
  · intro s vs ks B r1 r2
    cases repAll0 r2
    obtain ⟨v, rfl, r⟩ := repAll1 r1
    exact ⟨[("script", v)], fun _ => by kernel_rfl, rfl, r, trivial⟩
  intro L'
  have R1 : Room (c.fn P 127 L' ["script", "drawn", "place", "number"]).A 2 := R.deeper _
  refine ex_own (d := .ints dr0) 1 (new_list (evl_cons ev_int (evl_cons ev_int (evl_cons ev_int (evl_cons ev_int (evl_cons ev_int (evl_cons ev_int (evl_cons ev_int (evl_cons ev_int (evl_cons ev_int (evl_cons ev_int (evl_cons ev_int evl_nil))))))))))) (by decide)) rfl (owl yl_fn (by kernel_rfl)) rfl (fun x b e => by cases e) ?_
  intro a
  have hsl : ((xs.map D.int).take (60 : Int).toNat) = (xs.take 60).map D.int := by rw [List.map_take]; rfl
  refine ex_cons (ex_for (Inv := fun i ds => ∃ p n, ds = [.ints xs, .val (.ref a), p, n, .ints (dr (xs.take 60) i)])
    (evi_enumerate (l := (xs.take 60).map D.int) (R1.of_le (by decide)) (ev_gb L.fn.own (.type "enumerate")) ((ev_slice_upto (nm 0) ev_int (by decide) (by simp; (first | lia | omega))).cast (by rw [hsl]))) rfl ⟨_, _, rfl⟩ ?_ ?_ (R1.of_le (by decide)))
  · rintro wr i d _ hd ⟨p, n, rfl⟩
    obtain ⟨hi, rfl⟩ := numbered_get hd
    rw [List.length_map] at hi
    rw [ints_getD hi]
    have h11 : i % 11 < (dr (xs.take 60) i).length := by rw [dr_length]; (first | lia | omega)
    refine ⟨_, as_tup (R1.of_le (by decide)) ⟨_, as_name 2 rfl (owl (.inl yl_fn) (by kernel_rfl)), _, as_name 3 rfl (owl (.inl yl_fn) (by kernel_rfl)), rfl⟩, ?_⟩
    refine ex_cons (ex_aug_list (l := (dr (xs.take 60) i).map D.int) (k := i % 11) (d1 := .int ((dr (xs.take 60) i).getD (i % 11) 0)) (d2 := .int ((xs.take 60).getD i 0 % 1000000)) 1 0 rfl rfl rfl rfl (.inr (by simp)) ?_ ?_ (by (first | lia | omega)) (ev_bin (nm 3) ev_int (op_mod (by decide))) op_iadd (ex_nil ?_))
    · exact (ev_bin (nm 2) ev_int (op_mod (by decide))).cast (by simp)
    · exact (congrArg (fun k => ((dr (xs.take 60) i).map D.int)[k]?) (Int.toNat_natCast (i % 11))).symm.trans (ints_get h11)
    · refine ⟨.int i, .int ((xs.take 60).getD i 0), ?_⟩
      show [D.ints xs, .val (.ref a), .int i, .int ((xs.take 60).getD i 0), .list (((dr (xs.take 60) i).map D.int).set (i % 11) (.int ((dr (xs.take 60) i).getD (i % 11) 0 + (xs.take 60).getD i 0 % 1000000)))] = _
      rw [dr]
      simp only [D.ints, List.map_set]
  · rintro _ ⟨p, n, rfl⟩
    rw [show (numbered ((xs.take 60).map D.int)).length = (xs.take 60).length by simp]
    refine ex_frz [.ints xs, .ints (lawDrawn xs), p, n] (fun s S => ?_) (ex_cons (ex_ret (nm 1) rfl))
    exact S.frz.melt (i := 1) (Nat.le_of_ble_eq_true rfl) rfl (S.held (j := 0) rfl rfl rfl)
end
end Mine
end
/-! ## part A16 -/
section
set_option maxRecDepth 100000
namespace Mine
open PySem PyProof.Rows
variable {c : Cx} {ds : List D}

noncomputable def WTurn (Inv : Nat → List D → Prop) (n : Nat) (Q : Fl → List D → Prop) (fl : Fl) (ds : List D) : Prop := match fl with
  | .next | .cont => ∃ m, m < n ∧ Inv m ds
  | .brk => Q .next ds
  | .ret d => Q (.ret d) ds
theorem ex_while {test : Expr} {body : List Stmt} {pos : Pos} {Q : Fl → List D → Prop} (Inv : Nat → List D → Prop) (n : Nat) (h0 : Inv n ds)
    (turn : ∀ n ds₁, Inv n ds₁ → ∃ b, EvT c ds₁ test b ∧ (b = true → Ex c ds₁ (execs body c.env) (WTurn Inv n Q)) ∧ (b = false → Q .next ds₁)) : Ex c ds (exec (.While test body [] pos) c.env) Q := .mk fun s E S => by
  refine wpAny_While (codeAny_whileLoop (fun n s1 => ∃ ds₁, Inv n ds₁ ∧ StB c ds₁ s s1) ?_ n ⟨ds, h0, S, .refl _ _⟩)
  rintro n s1 ⟨ds₁, hi, b1⟩
  obtain ⟨b, ht, h1, h2⟩ := turn n ds₁ hi
  refine wpAny_mono (ht.run s1 _ b1.st) (fun v s2 zz => ?_) fun _ _ x => x
  obtain ⟨e2, q⟩ := zz
  subst q
  have b2 : StB c ds₁ s s2 := b1.trans ⟨b1.st.ext e2, e2.but⟩
  cases v with
  | true =>
    refine wpAny_mono ((h1 rfl).run s2 _ b2.st) (fun f s3 zz => ?_) fun _ _ x => x
    obtain ⟨fl, ds₃, r, b3, q⟩ := zz
    have b4 := b2.trans b3
    cases fl with
    | next => cases (show f = .next from r); obtain ⟨m, hm, hi⟩ := q; exact ⟨m, hm, ds₃, hi, b4⟩
    | cont => cases (show f = .cont from r); obtain ⟨m, hm, hi⟩ := q; exact ⟨m, hm, ds₃, hi, b4⟩
    | brk => cases (show f = .brk from r); exact ⟨.next, ds₃, rfl, b4, q⟩
    | ret d => obtain ⟨v, rfl, rv⟩ := r; exact ⟨.ret d, ds₃, ⟨v, rfl, rv⟩, b4, q⟩
  | false => exact wpAny_execs_nil ⟨.next, ds₁, rfl, b2, h2 rfl⟩
end Mine
end
/-! ## part A17 -/
section
set_option maxRecDepth 100000
namespace Mine
open PySem PyProof.Rows
variable {c : Cx} {ds : List D}

theorem codeAmong_append {pos : Pos} (l m : List Value) (h : TriplesOk l) : codeAmong pos (l ++ m) = (codeAmong pos l).or (codeAmong pos m) := by
  fun_induction TriplesOk l with
  | case1 => simp [codeAmong]
  | case2 a t b u x rest ih =>
    simp only [List.cons_append, codeAmong]
    split
    · rfl
    · exact ih h
  | case3 l h1 h2 => exact h.elim
structure TopOk (H : Heap) : Prop where
  code : PySem.W.CodeHd H 156 154
  code1 : PySem.W.CodeHd H 55 51
  bm : ∃ mg bm ob, H.Ns mainGlobals mg ∧ mg "__builtins__" = some (.ref bm) ∧ bm ≠ builtinsNs ∧ bm ≠ mainGlobals ∧ H.get? bm = some ob ∧ ob.cls = .type "module" ∧ ob.dict = some builtinsNs ∧ ob.data = .plain
theorem TopOk.builtinsAt {H : Heap} (T : TopOk H) {h : Heap} (k : ∀ b o, H.get? b = some o → h.get? b = some o) {P : Addr} {ps : Array Value} (hP : h.get? P = some (PySem.W.tabObj ps)) : ∃ mg, h.Ns mainGlobals mg ∧ h.BuiltinsAt mg P := by
  obtain ⟨mg, bm, ob, a1, a2, a3, a4, a5, a6, a7, a8⟩ := T.bm
  refine ⟨mg, a1.keeps k, bm, ob, a2, a3, a4, ?_, k _ _ a5, a6, a7, a8⟩
  rintro rfl
  rw [k _ _ a5] at hP
  cases hP
  cases a6

inductive lamP (params : Arguments) (body : Expr) (scope : Scope) (y : Str) (dy : D) (g : Fz) (v : Value) : Prop
  | mk (a : Addr) (pm cv ctv : Value) (ca : Addr) (o : Obj) (v' : Value) (e : v = .ref a)
    (ho : g a { cls := .type "function", data := .func (PySem.W.kla_fn "<lambda>" "law.<locals>.<lambda>" params body scope [(y, ca)] pm cv ctv) }) (hcv : FzCode g cv "law.<locals>.<lambda>")
    (hca : g ca o) (hod : o.data = .cell (some v')) (hr : dy.rep g v')

theorem grown_tabs {Z : Addr → Prop} {h h' : Heap} {ps : Array Value} {c' : Addr} {pos : Pos} (hx : Heap.ExtBut 154 h h') (hP : h.get? 154 = some (PySem.W.tabObj ps)) (hge : h.objs.size ≤ c') (hrec : h'.CodeRec (.ref c') "law.<locals>.<lambda>")
    (hP' : h'.get? 154 = some (PySem.W.tabObj (ps ++ #[rawInt pos.line, rawInt pos.col, .ref c']))) (l : ∀ a, Z a → Alive h a) (t : TabsOk Z h) : TabsOk Z h' := by
  have le : Fle (fz Z h) (fz Z h') := fle_of fun b o n e => hx b o (fun q => n (.inr q)) e
  refine ⟨t.t1.mono (fun o e => hx _ o (by decide) e) le, ?_⟩
  obtain ⟨ps2, e2, t2, co⟩ := t.t2
  rw [hP] at e2
  cases e2
  have hl : (ps ++ #[rawInt pos.line, rawInt pos.col, Value.ref c']).toList = ps.toList ++ [rawInt pos.line, rawInt pos.col, .ref c'] := by simp
  refine ⟨_, hP', by rw [hl]; exact TriplesOk_snoc _ _ _ _ t2, fun p cv x => ?_⟩
  rw [hl, codeAmong_append _ _ t2] at x
  cases hc : codeAmong p ps.toList with
  | some cv2 => rw [hc] at x; cases x; exact (co p _ hc).mono le
  | none =>
    rw [hc] at x
    simp only [Option.none_or, codeAmong, rawInt] at x
    split at x
    · cases x
      obtain ⟨a, o, vs, tk, e, g, r⟩ := hrec
      cases e
      refine ⟨c', o, vs, tk, rfl, ⟨fun z => ?_, g⟩, r⟩
      rcases z with z | z
      · obtain ⟨o', q⟩ := l _ z; rw [get?_size_none _ _ hge] at q; cases q
      · obtain ⟨o', q⟩ := t.alive z; rw [get?_size_none _ _ hge] at q; cases q
    · cases x

theorem ev_lambda {params : Arguments} {body : Expr} {scope : Scope} {pos : Pos} {y : Str} {i : Nat} {dy : D} {ca : Addr} (T : TopOk c.H) (hcode : c.env.code = .ref 156) (hq : c.env.qual ++ "<lambda>" = "law.<locals>.<lambda>")
    (hdef : defaultsOf params c.env = ([], [])) (hcl : closureFor scope c.env = pure [(y, ca)]) (hy : c.ns[i]? = some y) (hd : ds[i]? = some dy) (hk : dy.known = true) (hca : c.env.cells.lookup y = some ca) (hn : c.env.kindOf y ≠ some .local) (hX : ¬ c.X ca) :
    Ev c ds (.Lambda params body scope pos) (.any (lamP params body scope y dy)) := .mk fun s E S => by
  refine PySem.W.kla_eval hdef ?_
  rw [hq]
  obtain ⟨ok, look, hn0, hc, hsl⟩ := S.fr
  have hcell := hc y ca hca hn
  obtain ⟨o, ho, hod⟩ := hcell
  have rv := hsl.get hy (take_get hy hd)
  cases hlv : look y with
  | none => rw [hlv] at rv; exact (D.known_none hk _ rv).elim
  | some v' =>
    rw [hlv] at rv hod
    have rv' : dy.rep (fz c.X s.heap) v' := by cases dy <;> first | trivial | exact rv
    have nca : ¬ (c.X ca ∨ tb ca) := fun z => z.elim hX (ok.celt y ca hca)
    obtain ⟨ps, hP, ht, co⟩ := S.base.tabs.t2
    obtain ⟨mg, hg, hb⟩ := T.builtinsAt S.base.h hP
    have C := T.code.keeps S.base.h
    cases hf : codeAmong pos ps.toList with
    | some cv =>
      refine PySem.W.kla_makeFunctionHit (mg := mg) hcl ok.glob hg hcode C hP ht hf hb fun ctv h' tk hk hsz => ?_
      have k2 : ∀ b o, s.heap.get? b = some o → (h'.push { cls := .type "function", data := .func (PySem.W.kla_fn "<lambda>" "law.<locals>.<lambda>" params body scope [(y, ca)] ((mg "__name__").getD .none) cv ctv) }).get? b = some o := fun b o e => Heap.get?_push_of_some _ (hk b o e)
      have le : Fle (fz c.X s.heap) (fz c.X (h'.push { cls := .type "function", data := .func (PySem.W.kla_fn "<lambda>" "law.<locals>.<lambda>" params body scope [(y, ca)] ((mg "__name__").getD .none) cv ctv) })) := fle_of fun b o _ => k2 b o
      refine ⟨⟨.of k2, rfl, id⟩, _, Fle.refl _, h'.objs.size, _, cv, ctv, ca, o, v', rfl, ⟨S.base.fresh (get?_size_none _ _ hsz), Heap.get?_push_size _ rfl⟩, (co pos cv hf).mono le, ⟨nca, k2 _ _ ho⟩, hod, D.rep_mono le _ _ rv'⟩
    | none =>
      refine PySem.W.kla_makeFunction (mg := mg) hcl ok.glob hg hcode C hP ht hf (by decide) hb fun c' ctv h' tk hx hge hlt hrec htb => ?_
      have hsz : s.heap.objs.size ≤ h'.objs.size := Nat.le_trans hge (Nat.le_of_lt hlt)
      have k2 : ∀ b o, ¬ tb b → s.heap.get? b = some o → (h'.push (PySem.W.kla_obj "<lambda>" "law.<locals>.<lambda>" params body scope [(y, ca)] ((mg "__name__").getD .none) c' ctv)).get? b = some o := fun b o n e => Heap.get?_push_of_some _ (hx b o (fun q => n (.inr q)) e)
      have le : Fle (fz c.X s.heap) (fz c.X (h'.push (PySem.W.kla_obj "<lambda>" "law.<locals>.<lambda>" params body scope [(y, ca)] ((mg "__name__").getD .none) c' ctv))) := fle_of k2
      have tabs : ∀ Z, (∀ a, Z a → Alive s.heap a) → TabsOk Z s.heap → TabsOk Z (h'.push (PySem.W.kla_obj "<lambda>" "law.<locals>.<lambda>" params body scope [(y, ca)] ((mg "__name__").getD .none) c' ctv)) := fun Z l t =>
        (grown_tabs hx hP hge hrec htb l t).mono (fun b o _ e => Heap.get?_push_of_some _ e) (fle_of fun b o _ e => Heap.get?_push_of_some _ e)
      refine ⟨⟨⟨k2, fun b t l => ?_, tabs⟩, rfl, id⟩, _, Fle.refl _, h'.objs.size, _, .ref c', ctv, ca, o, v', rfl, ⟨S.base.fresh (get?_size_none _ _ hsz), Heap.get?_push_size _ rfl⟩, ?_, ⟨nca, k2 _ _ (fun z => nca (.inr z)) ho⟩, hod, D.rep_mono le _ _ rv'⟩
      · rcases t with rfl | rfl
        · obtain ⟨o, e⟩ := l; exact ⟨o, Heap.get?_push_of_some _ (hx _ _ (by decide) e)⟩
        · exact ⟨_, Heap.get?_push_of_some _ htb⟩
      · obtain ⟨a, o2, vs, tk2, e, g, r⟩ := hrec
        cases e
        exact ⟨c', o2, vs, tk2, rfl, ⟨S.base.fresh (get?_size_none _ _ hge), Heap.get?_push_of_some _ g⟩, r⟩

noncomputable def lamEnv (scope : Scope) (y : Str) (a ca : Addr) (cv : Value) (L : Addr) : Env := newEnv scope L mainGlobals [(y, ca)] (("law.<locals>.<lambda>" : Str) ++ ".<locals>.") (some a) cv none builtinsNs
noncomputable abbrev Cx.lam (c : Cx) (scope : Scope) (x y : Str) (a ca : Addr) (cv : Value) (L : Addr) : Cx := { c with A := c.A.deeper (lamEnv scope y a ca cv L), X := XW c.X [L], Y := (· ∈ [L]), env := lamEnv scope y a ca cv L, ns := [x, y], mem := [], R := c.X }
noncomputable def lamOkB (scope : Scope) (x y : Str) : Bool :=
  scope.kind == .function && !scope.isCoroutine && !scope.isGenerator && (scope.names.all fun p => p.2 != .cell) && scope.names.lookup x == some .local && scope.names.lookup y == some .free && decide ([x, y] : List Str).Nodup &&
  (([x, y] : List Str).all fun z => !(z == ("__debug__" : Str)) && !(z == ("__classdict__" : Str)))
theorem kpr_lam {params : Arguments} {body : Expr} {scope : Scope} {y : Str} {dy : D} : Kpr c (.any (lamP params body scope y dy)) := fun h v B zz => by
  obtain ⟨g, le, a, pm, cv, ctv, ca, o, v', e, ho, _⟩ := zz
  subst e
  refine ⟨.frame, .inl rfl, ?_⟩
  intro A Q E s k q
  refine wpAny_bind (wpAny_load (k _ _ (le _ _ ho).2) ?_)
  exact wpAny_pure q
theorem call_lam {params : Arguments} {body : Expr} {scope : Scope} {x y : Str} {dy d1 d : D} (R : Room c.A 1) (hlim : c.H.NoLimit) (hk : dy.known = true)
    (hbind : ∀ pm cv ctv ca v, bindArgs (PySem.W.kla_fn "<lambda>" "law.<locals>.<lambda>" params body scope [(y, ca)] pm cv ctv) ⟨[v], []⟩ = pure [(x, v)]) (ok : lamOkB scope x y = true)
    (h : ∀ a ca cv L, Ev (c.lam scope x y a ca cv L) [d1, dy] body d) : CallD c (.any (lamP params body scope y dy)) [d1] [] d := fun s E u vs ks B hu r1 r2 => by
  obtain ⟨g, le, a, pm, cv, ctv, ca, o, v', e, ho, hcv, hca, hod, rv⟩ := hu
  subst e
  obtain ⟨v, rfl, r⟩ := repAll1 r1
  ·
    have ho := le _ _ ho
    have hca := le _ _ hca
    obtain ⟨cva, cvo, cvs, ct, ecv, gcv, dcv, qcv⟩ := hcv
    have gcv := le _ _ gcv
    unfold lamOkB at ok
    simp only [Bool.and_eq_true, beq_iff_eq, Bool.not_eq_true', decide_eq_true_eq] at ok
    obtain ⟨⟨⟨⟨⟨⟨⟨k1, k2⟩, k3⟩, k4⟩, k5⟩, k6⟩, k7⟩, k8⟩ := ok
    refine wpAny_call ?_
    have hdep : c.A.depth < recursionLimit := by have := R.depth; (first | lia | omega)
    refine PySem.W.kla_callFunE hdep ho.2 rfl k2 k3 rfl ⟨cva, cvo, cvs, ct, ecv, gcv.2, dcv, qcv⟩ ?_
    rw [show ((List.map Prod.fst ([] : List (Str × D))).zip ks) = [] from rfl, hbind]
    refine wpAny_pure ?_
    have hcell : ∀ p ∈ scope.names, p.2 ≠ .cell := fun p hp => by simpa using List.all_eq_true.mp k4 p hp
    refine wpAny_newFunctionEnv hcell (fun p hp => by rw [List.mem_singleton.mp hp]; exact k5) (fun h' hn hs => ?_) k1
    have dL : s.heap.get? s.heap.objs.size = none := get?_size_none _ _ (Nat.le_refl _)
    have kp : ∀ b o, s.heap.get? b = some o → h'.get? b = some o := fun b o q => (hs.2 b (fun z => by rw [z, dL] at q; cases q)).trans (Heap.get?_push_of_some _ q)
    refine ⟨hlim.keeps fun b o q => kp b o (B.h b o q), PySem.W.kla_codeExpr ?_⟩
    have ef : ExtF s { s with heap := h', toks := s.toks + ([(x, v)] : List (Str × Value)).length } := ⟨kp, rfl, id⟩
    have hf : ∀ b ∈ [s.heap.objs.size], s.heap.get? b = none := fun b hb => by rw [List.mem_singleton.mp hb]; exact dL
    obtain ⟨oL, esL, epL, eL, _⟩ := id hn
    have lw : ∀ b ∈ [s.heap.objs.size], Alive h' b := fun b hb => by rw [List.mem_singleton.mp hb]; exact ⟨oL, eL⟩
    have lg : Fle (fz c.X s.heap) (fz (XW c.X [s.heap.objs.size]) h') := fle_grow (fun b o _ => kp b o) hf
    have ntL : ¬ tb s.heap.objs.size := fun t => by obtain ⟨o, q⟩ := B.tabs.alive t; rw [dL] at q; cases q
    have nxy : x ≠ y := by
      have := List.nodup_cons.mp k7
      simpa using this.1
    have S : St (c.lam scope x y a ca cv s.heap.objs.size) [d1, dy] { s with heap := h', toks := s.toks + ([(x, v)] : List (Str × Value)).length } := by
      refine ⟨⟨B.sys, fun b o q => ⟨?_, kp b o (B.old b o q).2⟩, fun b z => ?_, B.tabs.mono (fun b o _ => kp b o) lg⟩,
        ⟨⟨k1, rfl, rfl, .inr (by simp [lamEnv, newEnv]), ntL, fun z b q => ?_, List.pairwise_singleton _ _, fun z hz => ?_, k7⟩, fun z => if z = x then some v else if z = y then some v' else none, ⟨_, hn, fun z hz => ?_⟩, fun z b q n => ?_, ?_⟩, fun b z => .inr z, .of_nil, fun b z => .inl z, fun _ h => by simp at h⟩
      · rintro ((z | z) | z)
        · exact (B.old b o q).1 (.inl z)
        · have := (B.old b o q).2; rw [hf b z] at this; cases this
        · exact (B.old b o q).1 (.inr z)
      · rcases z with z | z
        · obtain ⟨o, q⟩ := B.live b z; exact ⟨o, kp b o q⟩
        · exact lw b z
      · have : ([(y, ca)] : List (Str × Addr)).lookup z = some b := q
        rw [List.lookup_cons] at this
        split at this
        · cases this; exact fun t => hca.1 (.inr t)
        · simp at this
      · have k8' := List.all_eq_true.mp k8 z hz
        simp only [Bool.and_eq_true, Bool.not_eq_true'] at k8'
        refine ⟨?_, k8'.1, k8'.2⟩
        rcases List.mem_cons.mp hz with rfl | hz
        · exact .inl k5
        · rw [List.mem_singleton.mp hz]
          refine .inr ⟨.inr k6, ca, ?_⟩
          show ([(y, ca)] : List (Str × Addr)).lookup y = some ca
          simp [List.lookup_cons]
      · show ([(x, v)] : List (Str × Value)).reverse.lookup z = (if z = x then some v else if z = y then some v' else none)
        have hzl : scope.names.lookup z = some .local := hz
        by_cases hzx : z = x
        · subst hzx; simp
        · have hzy : z ≠ y := by rintro rfl; rw [k6] at hzl; cases hzl
          have hb : (z == x) = false := by simpa using hzx
          simp [List.lookup_cons, hb, hzx, hzy]
      · have q' : ([(y, ca)] : List (Str × Addr)).lookup z = some b := q
        rw [List.lookup_cons] at q'
        split at q'
        · rename_i hzy
          have hzy := beq_iff_eq.mp hzy
          subst hzy
          cases q'
          show Heap.IsCell h' ca (if z = x then some v else if z = z then some v' else none)
          rw [if_neg nxy.symm, if_pos rfl]
          exact ⟨o, kp _ _ hca.2, hod⟩
        · simp at q'
      · refine ⟨?_, ?_, trivial⟩
        · show D.repO _ d1 (if x = x then some v else _)
          rw [if_pos rfl]; exact D.repO_some (D.rep_mono lg _ _ r)
        · show D.repO _ dy (if y = x then some v else if y = y then some v' else none)
          rw [if_neg nxy.symm, if_pos rfl]; exact D.repO_some (D.rep_mono (le.trans lg) _ _ rv)
    refine wpAny_mono ((h a ca cv s.heap.objs.size).run _ _ S) (fun r s2 zz => ?_) fun _ _ x => x
    obtain ⟨e2, r2⟩ := zz
    exact ⟨ef.ext.trans e2, D.rep_mono (fz_mono (fun _ x => .inl x) _) _ _ r2⟩
end Mine
end
/-! ## part S1 -/
section
set_option maxRecDepth 100000
namespace Mine
open PySem PyProof.Rows

theorem mid_ge {lo hi : Nat} (h : lo < hi) : lo ≤ (lo + hi) / 2 := (Nat.le_div_iff_mul_le (by decide)).mpr (by rw [Nat.mul_two]; exact Nat.add_le_add_left (Nat.le_of_lt h) lo)
theorem mid_lt {lo hi : Nat} (h : lo < hi) : (lo + hi) / 2 < hi := (Nat.div_lt_iff_lt_mul (by decide)).mpr (by rw [Nat.mul_two]; exact Nat.add_lt_add_right h hi)
noncomputable def itemOf (xs : Array Keyed) (i : Nat) : Int := match xs[i]? with
  | some p => numOf p.2
  | none => 0
noncomputable def Lex (xs : Array Keyed) (i j : Nat) : Prop := K xs i < K xs j ∨ (K xs i = K xs j ∧ itemOf xs i < itemOf xs j)
noncomputable def Stab (xs : Array Keyed) (k : Nat) : Prop := ∀ i j, i < j → j < k → Lex xs i j
noncomputable def Anti (xs : Array Keyed) (k : Nat) : Prop := ∀ i j, i < j → j < k → Lex xs j i
structure Pre (a₀ xs : Array Keyed) (k : Nat) : Prop where
  lo : ∀ i, i < k → ∃ i', i' < k ∧ xs[i]? = a₀[i']?
  hi : ∀ j, k ≤ j → xs[j]? = a₀[j]?
noncomputable def Idx (a₀ : Array Keyed) : Prop := ∀ i j, i < j → j < a₀.size → itemOf a₀ i < itemOf a₀ j
theorem item_congr {xs ys : Array Keyed} {i j : Nat} (h : xs[i]? = ys[j]?) : itemOf xs i = itemOf ys j := by unfold itemOf; rw [h]
theorem lex_congr {xs ys : Array Keyed} {i j i' j' : Nat} (h : xs[i]? = ys[i']?) (h' : xs[j]? = ys[j']?) (x : Lex ys i' j') : Lex xs i j := by
  unfold Lex at *; rw [K_congr h, K_congr h', item_congr h, item_congr h']; exact x
theorem Stab.sorted {xs : Array Keyed} {k : Nat} (h : Stab xs k) : SortedTo xs k := fun i j hij hj => by
  by_cases e : i = j
  · subst e; exact Int.le_refl _
  · rcases h i j (by (first | lia | omega)) hj with h | h
    · (first | lia | omega)
    · (first | lia | omega)
theorem Pre.refl (a₀ : Array Keyed) (k : Nat) : Pre a₀ a₀ k := ⟨fun i h => ⟨i, h, rfl⟩, fun _ _ => rfl⟩
theorem Pre.mono {a₀ xs : Array Keyed} {k m : Nat} (h : Pre a₀ xs k) (hm : k ≤ m) : Pre a₀ xs m :=
  ⟨fun i hi => by
    by_cases q : i < k
    · obtain ⟨i', a, b⟩ := h.lo i q; exact ⟨i', by (first | lia | omega), b⟩
    · exact ⟨i, hi, h.hi i (by (first | lia | omega))⟩, fun j hj => h.hi j (by (first | lia | omega))⟩
theorem Pre.item {a₀ xs : Array Keyed} {k : Nat} (h : Pre a₀ xs k) (hx : Idx a₀) {i j : Nat} (hi : i < k) (hj : k ≤ j) (hs : j < a₀.size) : itemOf xs i < itemOf xs j := by
  obtain ⟨i', a, b⟩ := h.lo i hi
  rw [item_congr b, item_congr (h.hi j hj)]
  exact hx _ _ (by (first | lia | omega)) hs
theorem mir_lt {p i j k : Nat} (hj : j ≤ k) (h : i ≤ p ∧ p < j) : i + j - 1 - p < k := by omega
theorem Pre.mirror {a₀ xs : Array Keyed} {k i j : Nat} (h : Pre a₀ xs k) (hj : j ≤ k) (hs : j ≤ xs.size) : Pre a₀ (mirror xs i j ((j - i) / 2)) k := by
  refine ⟨fun p hp => ?_, fun p hp => ?_⟩
  · rw [getElem?_mirror_all (i := i) hs]
    split
    · exact h.lo _ (mir_lt hj (by assumption))
    · exact h.lo _ hp
  · rw [getElem?_mirror_all (i := i) hs, if_neg fun z => absurd z.2 (Nat.not_lt.mpr (Nat.le_trans hj hp))]
    exact h.hi _ hp
theorem Pre.bubble {a₀ xs : Array Keyed} {k d : Nat} (h : Pre a₀ xs (k + 1)) (hd : d ≤ k) (hs : k < xs.size) : Pre a₀ (bubble xs k d) (k + 1) := by
  refine ⟨fun p hp => ?_, fun p hp => ?_⟩
  · rw [getElem?_bubble hs d hd]
    split
    · exact h.lo _ (Nat.lt_succ_self k)
    · split
      · exact h.lo _ (Nat.lt_of_le_of_lt (Nat.sub_le _ _) hp)
      · exact h.lo _ hp
  · rw [getElem?_bubble hs d hd, if_neg (fun e => absurd hp (Nat.not_le.mpr (Nat.lt_succ_of_le (by rw [e]; exact Nat.sub_le _ _)))), if_neg (fun z => absurd hp (Nat.not_le.mpr (Nat.lt_succ_of_le z.2)))]
    exact h.hi _ hp

section
variable {prog : Program} {w : World} {A : Around} {E : Value → Shared → Prop} {s : Shared} {a₀ : Array Keyed}

theorem bub_at {xs : Array Keyed} {k l : Nat} (hks : k < xs.size) (hlk : l ≤ k) : (bubble xs k (k - l))[l]? = xs[k]? := by
  have g := getElem?_bubble hks (k - l) (Nat.sub_le _ _) l
  rwa [Nat.sub_sub_self hlk, if_pos rfl] at g
theorem bub_lo {xs : Array Keyed} {k l i : Nat} (hks : k < xs.size) (hlk : l ≤ k) (h : i < l) : (bubble xs k (k - l))[i]? = xs[i]? := by
  have g := getElem?_bubble hks (k - l) (Nat.sub_le _ _) i
  rwa [Nat.sub_sub_self hlk, if_neg (Nat.ne_of_lt h), if_neg (fun x => Nat.lt_asymm h x.1)] at g
theorem bub_hi {xs : Array Keyed} {k l i : Nat} (hks : k < xs.size) (hlk : l ≤ k) (h : l ≤ i) (h' : i < k) : (bubble xs k (k - l))[i + 1]? = xs[i]? := by
  have g := getElem?_bubble hks (k - l) (Nat.sub_le _ _) (i + 1)
  rwa [Nat.sub_sub_self hlk, if_neg (Nat.ne_of_gt (Nat.lt_succ_of_le h)), if_pos ⟨Nat.lt_succ_of_le h, h'⟩] at g
theorem Stab.bubble {xs : Array Keyed} {k l : Nat} (hs : Stab xs k) (hx : Idx a₀) (hk : k < a₀.size) (hks : k < xs.size) (hlk : l ≤ k) (hp : Pre a₀ xs k) (hlo : ∀ i, i < l → K xs i ≤ K xs k) (hhi : ∀ i, l ≤ i → i < k → K xs k < K xs i) : Stab (bubble xs k (k - l)) (k + 1) := by
  intro i j hij hj
  have hj := Nat.le_of_lt_succ hj
  rcases Nat.lt_trichotomy j l with jl | rfl | jl
  · exact lex_congr (bub_lo hks hlk (Nat.lt_trans hij jl)) (bub_lo hks hlk jl) (hs i j hij (Nat.lt_of_lt_of_le jl hlk))
  · refine lex_congr (bub_lo hks hlk hij) (bub_at hks hlk) ?_
    rcases Int.lt_or_eq_of_le (hlo i hij) with h1 | h1
    · exact .inl h1
    · exact .inr ⟨h1, hp.item hx (Nat.lt_of_lt_of_le hij hlk) (Nat.le_refl k) hk⟩
  · cases j with
    | zero => exact absurd jl (Nat.not_lt_zero l)
    | succ j =>
      have jl := Nat.le_of_lt_succ jl
      rcases Nat.lt_trichotomy i l with il | rfl | il
      · exact lex_congr (bub_lo hks hlk il) (bub_hi hks hlk jl hj) (hs i j (Nat.lt_of_lt_of_le il jl) hj)
      · exact lex_congr (bub_at hks hlk) (bub_hi hks hlk jl hj) (.inl (hhi j jl hj))
      · cases i with
        | zero => exact absurd il (Nat.not_lt_zero l)
        | succ i => exact lex_congr (bub_hi hks hlk (Nat.le_of_lt_succ il) (Nat.lt_of_succ_lt (Nat.lt_of_lt_of_le hij hj))) (bub_hi hks hlk jl hj) (hs i j (Nat.lt_of_succ_lt_succ hij) hj)

theorem rk_le {l r k : Nat} (h : r + k ≤ k + l) : r ≤ l := by omega
theorem rk_dn {l r k x m : Nat} (g : m < r) (h : r + x ≤ k + l) : m + (x + 1) ≤ k + l := by omega
theorem rk_up {l r k x m : Nat} (g : l ≤ m) (h : r + x ≤ k + l) : r + (x + 1) ≤ k + (m + 1) := by omega
theorem st_binary {st : SortSt} {n ok : Nat} {Q : Bool → SortSt → Prop} (h0 : IntKeys a₀) (hx : Idx a₀) (hn : n ≤ a₀.size) (hok : ok ≤ n) (hB : SBase a₀ st) (hp : Pre a₀ (arrOf st) ok) (hs : Stab (arrOf st) ok)
    (h : ∀ st', SBase a₀ st' → Stab (arrOf st') n → Q true st') : wpS (model prog w) A E s (binarySort' 0 n ok) Q st := by
  rw [binarySort'_eq]
  simp only [Nat.zero_add]
  refine wpS_bind (wpS_mono (wpS_forRange (I := fun k c st' => c = (none, ()) ∧ SBase a₀ st' ∧ Pre a₀ (arrOf st') (min k n) ∧ Stab (arrOf st') (min k n))
    (Q := fun c st' => c = (none, ()) ∧ SBase a₀ st' ∧ Stab (arrOf st') n) ?step ?fin ?init) ?post)
  case post =>
    rintro c st' ⟨rfl, hB', hs'⟩
    exact wpS_pure (h st' hB' hs')
  case init =>
    refine ⟨rfl, hB, hp.mono (by (first | lia | omega)), fun i j hij hj => ?_⟩
    by_cases h1 : ok = 0
    · (first | lia | omega)
    · exact hs i j hij (by (first | lia | omega))
  case fin =>
    rintro c st' ⟨hc, hB', _, hs'⟩
    refine ⟨hc, hB', ?_⟩
    rwa [show min (max (max ok 1) n) n = n by (first | lia | omega)] at hs'
  case step =>
    rintro k c st' hak hkn ⟨rfl, hB', hp', hs'⟩
    rw [show min k n = k by (first | lia | omega)] at hs' hp'
    have hk : k < a₀.size := by (first | lia | omega)
    refine wpS_bind (wpS_mono (wpS_forRange (I := fun x c st'' => st'' = st' ∧ ∃ l r, c = (none, l, r) ∧ l ≤ r ∧ r ≤ k ∧ r + x ≤ k + l ∧
        (∀ i, i < l → K (arrOf st') i ≤ K (arrOf st') k) ∧ (∀ i, r ≤ i → i < k → K (arrOf st') k < K (arrOf st') i))
      (Q := fun c st'' => st'' = st' ∧ ∃ l r, c = (none, l, r) ∧ l ≤ k ∧
        (∀ i, i < l → K (arrOf st') i ≤ K (arrOf st') k) ∧ (∀ i, l ≤ i → i < k → K (arrOf st') k < K (arrOf st') i)) ?istep ?ifin ?iinit) ?ipost)
    case iinit => exact ⟨rfl, 0, k, rfl, Nat.zero_le _, Nat.le_refl _, Nat.le_refl _, fun i hi => absurd hi (Nat.not_lt_zero i), fun i h1 h2 => absurd h2 (Nat.not_lt.mpr h1)⟩
    case ifin =>
      rintro c st'' ⟨rfl, l, r, rfl, hlr, hrk, hm, hlo, hhi⟩
      cases Nat.le_antisymm hlr (rk_le hm)
      exact ⟨rfl, l, l, rfl, hrk, hlo, hhi⟩
    case istep =>
      rintro x c st'' _ hxk ⟨rfl, l, r, rfl, hlr, hrk, hm, hlo, hhi⟩
      dsimp only
      by_cases hge : l ≥ r
      · rw [if_pos hge]
        cases Nat.le_antisymm hlr hge
        exact wpS_pure ⟨rfl, l, l, rfl, hrk, hlo, hhi⟩
      · rw [if_neg hge]
        have hlt := Nat.lt_of_not_le hge
        have g1 := mid_ge hlt
        have g2 := mid_lt hlt
        generalize (l + r) / 2 = m at *
        have hmk := Nat.lt_of_lt_of_le g2 hrk
        refine wpS_bind (wpS_ltK hB' h0 hk (Nat.lt_trans hmk hk) ?_)
        by_cases hless : K (arrOf st'') k < K (arrOf st'') m
        · simp only [hless, decide_true, if_true]
          exact wpS_pure ⟨rfl, l, m, rfl, g1, Nat.le_of_lt hmk, rk_dn g2 hm, hlo, fun i h1 h2 => Int.lt_of_lt_of_le hless (hs'.sorted _ _ h1 h2)⟩
        · simp only [hless, decide_false, Bool.false_eq_true, if_false]
          exact wpS_pure ⟨rfl, m + 1, r, rfl, g2, hrk, rk_up g1 hm, fun i h1 => Int.le_trans (hs'.sorted i m (Nat.le_of_lt_succ h1) hmk) (Int.not_lt.mp hless), hhi⟩
    case ipost =>
      rintro c st'' ⟨rfl, l, r, rfl, hlk, hlo, hhi⟩
      show wpS _ _ _ _ (do moveDown' k l; pure (ForInStep.yield (none, ()))) _ _
      rw [moveDown'_eq]
      have hks : k < (arrOf st'').size := by rw [hB'.size]; exact hk
      refine wpS_bind (wpS_modify (wpS_pure ⟨rfl, hB'.setArr (bubble_perm _ _ _), ?_, ?_⟩))
      · rw [show min (k + 1) n = k + 1 by (first | lia | omega)]
        exact (hp'.mono (Nat.le_succ k)).bubble (by (first | lia | omega)) hks
      rw [show min (k + 1) n = k + 1 by (first | lia | omega)]
      exact hs'.bubble hx hk hks hlk hp' hlo hhi

theorem st_asc {st : SortSt} {a nrem : Nat} {Q : AscSt → SortSt → Prop} (h0 : IntKeys a₀) (hx : Idx a₀) (hn : nrem ≤ a₀.size) (ha : 1 ≤ a) (han : a ≤ nrem) (hB : SBase a₀ st) (hp : Pre a₀ (arrOf st) a)
    (hs : Stab (arrOf st) a)
    (h : ∀ n, a ≤ n → n ≤ nrem → Stab (arrOf st) n → (n = nrem ∨ K (arrOf st) n < K (arrOf st) (n - 1)) → Q (none, n) st) :
    wpS (model prog w) A E s (ascLoop a nrem) Q st := by
  unfold ascLoop
  refine wpS_forRange (I := fun x c st' => st' = st ∧ c = (none, x) ∧ Stab (arrOf st) x) ?step ?fin ⟨rfl, rfl, hs⟩
  case fin =>
    rintro c st' ⟨rfl, rfl, hs'⟩
    rw [show max a nrem = nrem by (first | lia | omega)] at hs' ⊢
    exact h nrem han (Nat.le_refl _) hs' (.inl rfl)
  case step =>
    rintro x c st' hax hxn ⟨rfl, rfl, hs'⟩
    dsimp only
    refine wpS_bind (wpS_ltK hB h0 (by (first | lia | omega)) (by (first | lia | omega)) ?_)
    by_cases hless : K (arrOf st') x < K (arrOf st') (x - 1)
    · simp only [hless, decide_true, if_true]
      exact wpS_pure (h x hax (by (first | lia | omega)) hs' (.inr hless))
    · simp only [hless, decide_false, Bool.false_eq_true, if_false]
      refine wpS_pure ⟨rfl, rfl, fun i j hij hj => ?_⟩
      by_cases hjx : j < x
      · exact hs' i j hij hjx
      · have hj' : j = x := by (first | lia | omega)
        subst hj'
        have h1 : K (arrOf st') i ≤ K (arrOf st') j := Int.le_trans (hs'.sorted i (j - 1) (by (first | lia | omega)) (by (first | lia | omega))) (Int.not_lt.mp hless)
        rcases Int.lt_or_eq_of_le h1 with h1 | h1
        · exact .inl h1
        · exact .inr ⟨h1, (hp.mono hax).item hx hij (Nat.le_refl _) (by (first | lia | omega))⟩

theorem st_tail {st : SortSt} {n nrem : Nat} {Q : Option Nat → SortSt → Prop} (h0 : IntKeys a₀) (hx : Idx a₀) (hn : nrem ≤ a₀.size) (h1 : 1 ≤ n) (hnn : n ≤ nrem) (hB : SBase a₀ st) (hp : Pre a₀ (arrOf st) n)
    (hs : Anti (arrOf st) n) (h : ∀ m st', SBase a₀ st' → 1 ≤ m → m ≤ nrem → Pre a₀ (arrOf st') m → Stab (arrOf st') m → Q (some m) st') :
    wpS (model prog w) A E s (tail3 n nrem) Q st := by
  unfold tail3
  have hsz : n ≤ (arrOf st).size := by rw [hB.size]; (first | lia | omega)
  refine wpS_bind (wpS_reverse ?_)
  have hB' : SBase a₀ (setArr st (mirror (arrOf st) 0 n ((n - 0) / 2))) := hB.setArr (mirror_perm _ _ _ _)
  have hp' : Pre a₀ (mirror (arrOf st) 0 n ((n - 0) / 2)) n := hp.mirror (Nat.le_refl _) hsz
  refine wpS_bind (st_asc h0 hx hn h1 hnn hB' hp' ?_ fun m hm1 hm2 hsm _ => wpS_pure (h m _ hB' (by (first | lia | omega)) hm2 (hp'.mono hm1) hsm))
  intro i j hij hj
  have gi := getElem?_mirror_all (i := 0) hsz i
  have gj := getElem?_mirror_all (i := 0) hsz j
  rw [if_pos (by (first | lia | omega))] at gi gj
  exact lex_congr gi gj (hs _ _ (by (first | lia | omega)) (by (first | lia | omega)))

structure Desc (xs : Array Keyed) (x neq : Nat) : Prop where
  anti : Anti xs (x - (neq + 1))
  cross : ∀ i j, i < x - (neq + 1) → x - (neq + 1) ≤ j → j < x → K xs j < K xs i
  chunk : ∀ i j, x - (neq + 1) ≤ i → i < j → j < x → K xs i = K xs j ∧ itemOf xs i < itemOf xs j
theorem rf {x y j : Nat} (h : j < x) : y + x - 1 - j = y + (x - (1 + j)) := by rw [Nat.sub_sub, Nat.add_sub_assoc (by rw [Nat.add_comm]; exact h)]
theorem rf_ge {x y j : Nat} (h : j < x) : y ≤ y + x - 1 - j := by rw [rf h]; exact Nat.le_add_right _ _
theorem rf_lt {x y i j : Nat} (h : i < j) (hj : j < x) : y + x - 1 - j < y + x - 1 - i := by
  rw [rf hj, rf (Nat.lt_trans h hj)]; exact Nat.add_lt_add_left (Nat.sub_lt_sub_left (by rw [Nat.add_comm]; exact Nat.lt_of_le_of_lt h hj) (Nat.add_lt_add_left h 1)) y
theorem rf_hi {x y i : Nat} (h : y ≤ i) (hi : i < x) : y + x - 1 - i < x := by
  rw [rf hi]
  refine Nat.lt_of_lt_of_le (Nat.add_lt_add_right (Nat.lt_succ_of_le h) _) (Nat.le_of_eq ?_)
  rw [Nat.add_comm 1 i]
  exact Nat.add_sub_cancel' hi
theorem mir_in {xs : Array Keyed} {y x i : Nat} (hs : x ≤ xs.size) (h : y ≤ i) (hi : i < x) : (mirror xs y x ((x - y) / 2))[i]? = xs[y + x - 1 - i]? :=
  (getElem?_mirror_all (i := y) hs i).trans (if_pos ⟨h, hi⟩)
theorem mir_lo {xs : Array Keyed} {y x i : Nat} (hs : x ≤ xs.size) (h : i < y) : (mirror xs y x ((x - y) / 2))[i]? = xs[i]? :=
  (getElem?_mirror_all (i := y) hs i).trans (if_neg fun z => absurd h (Nat.not_lt.mpr z.1))
theorem Desc.turned {xs : Array Keyed} {x neq : Nat} (h : Desc xs x neq) (hq : neq + 1 ≤ x) (hs : x ≤ xs.size) : Anti (mirror xs (x - (neq + 1)) x ((x - (x - (neq + 1))) / 2)) x := by
  intro i j hij hj
  have hi := Nat.lt_trans hij hj
  rcases Nat.lt_or_ge j (x - (neq + 1)) with j1 | j1
  · exact lex_congr (mir_lo hs j1) (mir_lo hs (Nat.lt_trans hij j1)) (h.anti i j hij j1)
  · rcases Nat.lt_or_ge i (x - (neq + 1)) with i1 | i1
    · exact lex_congr (mir_in hs j1 hj) (mir_lo hs i1) (.inl (h.cross i _ i1 (rf_ge hj) (rf_hi j1 hj)))
    · exact lex_congr (mir_in hs j1 hj) (mir_in hs i1 hi) (.inr (h.chunk _ _ (rf_ge hj) (rf_lt hij hj) (rf_hi i1 hi)))
theorem Desc.single {xs : Array Keyed} {x : Nat} (h : Desc xs x 0) (h1 : 1 ≤ x) : Anti xs x := by
  intro i j hij hj
  by_cases j1 : j < x - (0 + 1)
  · exact h.anti i j hij j1
  · exact .inl (h.cross i j (by (first | lia | omega)) (by (first | lia | omega)) hj)
theorem neq_le {x neq : Nat} (hq : neq + 1 ≤ x) : x - (neq + 1) ≤ x - 1 := Nat.sub_le_sub_left (Nat.le_add_left 1 neq) x
theorem pos_lt {x neq : Nat} (hq : neq + 1 ≤ x) : x - 1 < x := Nat.sub_lt (Nat.lt_of_lt_of_le (Nat.succ_pos neq) hq) (by decide)
theorem Desc.equal {xs : Array Keyed} {x neq : Nat} (h : Desc xs x neq) (hq : neq + 1 ≤ x) : ∀ k, x - (neq + 1) ≤ k → k < x → K xs k = K xs (x - 1) := fun k h1 h2 => by
  rcases Nat.lt_or_eq_of_le (Nat.le_sub_one_of_lt h2) with e | rfl
  · exact (h.chunk k (x - 1) h1 e (pos_lt hq)).1
  · rfl
theorem Desc.le {xs : Array Keyed} {x neq : Nat} (h : Desc xs x neq) (hq : neq + 1 ≤ x) {i : Nat} (hi : i < x) : K xs (x - 1) ≤ K xs i := by
  rcases Nat.lt_or_ge i (x - (neq + 1)) with i1 | i1
  · exact Int.le_of_lt (h.cross i _ i1 (neq_le hq) (pos_lt hq))
  · exact Int.le_of_eq (h.equal hq i i1 hi).symm

theorem st_desc {st : SortSt} {n nrem : Nat} {Q : DescSt → SortSt → Prop} (h0 : IntKeys a₀) (hx : Idx a₀) (hn : nrem ≤ a₀.size) (h1 : 1 ≤ n) (hnn : n ≤ nrem) (hB : SBase a₀ st) (hp : Pre a₀ (arrOf st) n)
    (hs : Desc (arrOf st) n 0)
    (h : ∀ m neq st', SBase a₀ st' → n ≤ m → m ≤ nrem → Pre a₀ (arrOf st') m → neq + 1 ≤ m → Desc (arrOf st') m neq → Q (none, m, neq) st') :
    wpS (model prog w) A E s (descLoop n nrem) Q st := by
  unfold descLoop
  refine wpS_forRange (I := fun x c st' => ∃ neq, c = (none, x, neq) ∧ SBase a₀ st' ∧ Pre a₀ (arrOf st') x ∧ neq + 1 ≤ x ∧ Desc (arrOf st') x neq) ?step ?fin ⟨0, rfl, hB, hp, by (first | lia | omega), hs⟩
  case fin =>
    rintro c st' ⟨neq, rfl, hB', hp', hq, hd⟩
    rw [show max n nrem = nrem by (first | lia | omega)] at hp' hq hd ⊢
    exact h nrem neq st' hB' hnn (Nat.le_refl _) hp' hq hd
  case step =>
    rintro x c st' hax hxn ⟨neq, rfl, hB', hp', hq, hd⟩
    dsimp only
    have hsz : x ≤ (arrOf st').size := by rw [hB'.size]; (first | lia | omega)
    refine wpS_bind (wpS_ltK hB' h0 (by (first | lia | omega)) (by (first | lia | omega)) ?_)
    by_cases hless : K (arrOf st') x < K (arrOf st') (x - 1)
    · simp only [hless, decide_true, if_true]
      have next : ∀ xs : Array Keyed, Anti xs x → (∀ k, K xs k = K (arrOf st') k) → Desc xs (x + 1) 0 := fun xs ha hk =>
        ⟨by simpa using ha, fun i j hi h1 h2 => by
          have : j = x := by (first | lia | omega)
          subst this
          rw [hk, hk]
          exact Int.lt_of_lt_of_le hless (hd.le hq (by (first | lia | omega))), fun i j h1 h2 h3 => by (first | lia | omega)⟩
      by_cases hneq : neq > 0
      · rw [if_pos hneq]
        exact wpS_bind (wpS_reverse (wpS_pure ⟨0, rfl, hB'.setArr (mirror_perm _ _ _ _), (hp'.mirror (Nat.le_refl _) hsz).mono (Nat.le_succ x), by (first | lia | omega), next _ (hd.turned hq hsz) (K_mirror_equal hsz (hd.equal hq))⟩))
      · rw [if_neg hneq]
        have : neq = 0 := by (first | lia | omega)
        subst this
        exact wpS_pure ⟨0, rfl, hB', hp'.mono (Nat.le_succ x), by (first | lia | omega), next _ (hd.single hq) (fun _ => rfl)⟩
    · simp only [hless, decide_false, Bool.false_eq_true, if_false]
      refine wpS_bind (wpS_ltK hB' h0 (by (first | lia | omega)) (by (first | lia | omega)) ?_)
      by_cases hlarger : K (arrOf st') (x - 1) < K (arrOf st') x
      · simp only [hlarger, decide_true, if_true]
        exact wpS_pure (h x neq st' hB' hax (by (first | lia | omega)) hp' hq hd)
      · simp only [hlarger, decide_false, Bool.false_eq_true, if_false]
        have heqx : K (arrOf st') x = K (arrOf st') (x - 1) := by (first | lia | omega)
        have eq : x + 1 - (neq + 1 + 1) = x - (neq + 1) := by (first | lia | omega)
        refine wpS_pure ⟨neq + 1, rfl, hB', hp'.mono (Nat.le_succ x), by (first | lia | omega), ⟨by rw [eq]; exact hd.anti, fun i j h1 h2 h3 => ?_, fun i j h1 h2 h3 => ?_⟩⟩
        · rw [eq] at h1 h2
          by_cases e : j = x
          · subst e; rw [heqx]; exact hd.cross i _ h1 (by (first | lia | omega)) (by (first | lia | omega))
          · exact hd.cross i j h1 h2 (by (first | lia | omega))
        · rw [eq] at h1
          by_cases e : j = x
          · subst e
            exact ⟨by rw [heqx]; exact hd.equal hq i h1 h2, hp'.item hx h2 (Nat.le_refl _) (by (first | lia | omega))⟩
          · exact hd.chunk i j h1 h2 (by (first | lia | omega))

theorem st_descPart {st : SortSt} {n nrem : Nat} {Q : Option Nat → SortSt → Prop} (h0 : IntKeys a₀) (hx : Idx a₀) (hn : nrem ≤ a₀.size) (hnn : n + 1 ≤ nrem) (hB : SBase a₀ st) (hp : Pre a₀ (arrOf st) (n + 1))
    (hs : Desc (arrOf st) (n + 1) 0) (h : ∀ m st', SBase a₀ st' → 1 ≤ m → m ≤ nrem → Pre a₀ (arrOf st') m → Stab (arrOf st') m → Q (some m) st') :
    wpS (model prog w) A E s (descPart n nrem) Q st := by
  unfold descPart
  refine wpS_bind (wpS_lift (wpAny_rule ⟨rfl, ?_⟩))
  refine wpS_bind (st_desc h0 hx hn (by (first | lia | omega)) hnn hB hp hs fun m neq st' hB' hm1 hm2 hp' hq hd => ?_)
  dsimp only
  have hsz : m ≤ (arrOf st').size := by rw [hB'.size]; (first | lia | omega)
  by_cases hneq : neq > 0
  · rw [if_pos hneq]
    exact wpS_bind (wpS_reverse (st_tail h0 hx hn (by (first | lia | omega)) hm2 (hB'.setArr (mirror_perm _ _ _ _)) (hp'.mirror (Nat.le_refl _) hsz) (hd.turned hq hsz) h))
  · rw [if_neg hneq]
    have : neq = 0 := by (first | lia | omega)
    subst this
    exact st_tail h0 hx hn (by (first | lia | omega)) hm2 hB' hp' (hd.single hq) h

theorem st_count {st : SortSt} {nrem : Nat} {Q : Option Nat → SortSt → Prop} (h0 : IntKeys a₀) (hx : Idx a₀) (hn : nrem ≤ a₀.size) (h1 : 1 ≤ nrem) (hB : SBase a₀ st) (ha : arrOf st = a₀)
    (h : ∀ m st', SBase a₀ st' → 1 ≤ m → m ≤ nrem → Pre a₀ (arrOf st') m → Stab (arrOf st') m → Q (some m) st') :
    wpS (model prog w) A E s (countRun' 0 nrem) Q st := by
  rw [countRun0_eq]
  have hp0 : ∀ k, Pre a₀ (arrOf st) k := fun k => by rw [ha]; exact Pre.refl _ _
  refine wpS_bind (st_asc h0 hx hn (Nat.le_refl 1) h1 hB (hp0 1) (fun i j hij hj => by (first | lia | omega)) fun n hn1 hn2 hsn hor => ?_)
  dsimp only
  by_cases hnn : n = nrem
  · rw [if_pos (by simpa using hnn)]
    exact wpS_pure (h n st hB hn1 hn2 (hp0 n) hsn)
  · rw [if_neg (by simpa using hnn)]
    have hlt : K (arrOf st) n < K (arrOf st) (n - 1) := hor.resolve_left hnn
    by_cases hgt : n > 1
    · rw [if_pos hgt]
      refine wpS_bind (wpS_ltK hB h0 (by (first | lia | omega)) (by (first | lia | omega)) ?_)
      by_cases hrose : K (arrOf st) 0 < K (arrOf st) (n - 1)
      · simp only [hrose, decide_true, if_true]
        exact wpS_pure (h n st hB hn1 hn2 (hp0 n) hsn)
      · simp only [hrose, decide_false, Bool.false_eq_true, if_false]
        have hsz : n ≤ (arrOf st).size := by rw [hB.size]; (first | lia | omega)
        have hall : ∀ k, 0 ≤ k → k < n → K (arrOf st) k = K (arrOf st) (n - 1) := by
          intro k _ hk
          have a1 := hsn.sorted 0 k (by (first | lia | omega)) hk
          have a2 := hsn.sorted k (n - 1) (by (first | lia | omega)) (by (first | lia | omega))
          (first | lia | omega)
        refine wpS_bind (wpS_reverse (st_descPart h0 hx hn (by (first | lia | omega)) (hB.setArr (mirror_perm _ _ _ _)) (((hp0 n).mirror (Nat.le_refl _) hsz).mono (Nat.le_succ n)) ?_ h))
        refine ⟨fun i j hij hj => ?_, fun i j hi h1 h2 => ?_, fun i j h1 h2 h3 => by (first | lia | omega)⟩
        · have hj : j < n := by (first | lia | omega)
          have gi := getElem?_mirror_all (i := 0) hsz i
          have gj := getElem?_mirror_all (i := 0) hsz j
          rw [if_pos (by (first | lia | omega))] at gi gj
          refine lex_congr gj gi (.inr ⟨?_, ?_⟩)
          · exact (hall _ (by (first | lia | omega)) (by (first | lia | omega))).trans (hall _ (by (first | lia | omega)) (by (first | lia | omega))).symm
          · have : ∀ i j, i < j → j < n → itemOf (arrOf st) i < itemOf (arrOf st) j := fun i j h1 h2 => by rw [ha]; exact hx i j h1 (by (first | lia | omega))
            exact this _ _ (by (first | lia | omega)) (by (first | lia | omega))
        · have : j = n := by (first | lia | omega)
          subst this
          show K (mirror (arrOf st) 0 j ((j - 0) / 2)) j < K (mirror (arrOf st) 0 j ((j - 0) / 2)) i
          rw [K_mirror_equal hsz hall, K_mirror_equal hsz hall, hall i (by (first | lia | omega)) (by (first | lia | omega))]
          exact hlt
    · rw [if_neg hgt]
      have hn1' : n = 1 := by (first | lia | omega)
      subst hn1'
      refine st_descPart h0 hx hn (by (first | lia | omega)) hB (hp0 2) ⟨fun i j hij hj => by (first | lia | omega), fun i j hi h1 h2 => ?_, fun i j h1 h2 h3 => by (first | lia | omega)⟩ h
      have hi0 : i = 0 := by (first | lia | omega)
      have hj1 : j = 1 := by (first | lia | omega)
      subst hi0 hj1
      exact hlt

theorem st_sortRuns {st : SortSt} {Q : Unit → SortSt → Prop} (h0 : IntKeys a₀) (hx : Idx a₀) (hB : SBase a₀ st) (ha : arrOf st = a₀) (h2 : 2 ≤ a₀.size) (h64 : a₀.size < 64)
    (h : ∀ st', (arrOf st').Perm a₀ → failedOf st' = none → Stab (arrOf st') a₀.size → Q () st') : wpS (model prog w) A E s sortRuns' Q st := by
  rw [sortRuns'_eq]
  refine wpS_bind (wpS_get ?_)
  dsimp only
  have hmr : minRun' a₀.size a₀.size 0 = a₀.size := by
    obtain ⟨f, hf⟩ : ∃ f, a₀.size = f + 1 := ⟨a₀.size - 1, by (first | lia | omega)⟩
    have : minRun' (f + 1) a₀.size 0 = a₀.size := by rw [minRun'_succ, if_pos h64]; rfl
    rwa [← hf] at this
  simp only [hB.size, hmr]
  refine wpS_bind (wpS_mono (wpS_forRange
    (I := fun x c st' => (x = 0 ∧ c = (none, 0) ∧ SBase a₀ st' ∧ arrOf st' = a₀) ∨ (1 ≤ x ∧ c = (none, a₀.size) ∧ SDone a₀ st' ∧ Stab (arrOf st') a₀.size))
    (Q := fun c st' => c = (none, a₀.size) ∧ SDone a₀ st' ∧ Stab (arrOf st') a₀.size) ?step ?fin (.inl ⟨rfl, rfl, hB, ha⟩)) ?post)
  case fin =>
    rintro c st' (⟨hx, _, _⟩ | ⟨_, hc, hD⟩)
    · (first | lia | omega)
    · exact ⟨hc, hD⟩
  case step =>
    rintro x c st' _ hxx (⟨rfl, rfl, hB', ha'⟩ | ⟨hx1, rfl, hD⟩)
    · dsimp only
      rw [if_neg (by (first | lia | omega))]
      simp only [Nat.sub_zero, Nat.min_self, Nat.zero_add]
      refine wpS_bind (st_count h0 hx (Nat.le_refl _) (by (first | lia | omega)) hB' ha' fun m st2 hB2 hm1 hm2 hp2 hs2 => ?_)
      dsimp only
      by_cases hlt : m < a₀.size
      · rw [if_pos hlt]
        refine wpS_bind (wpS_lift (wpAny_rule ⟨rfl, ?_⟩))
        refine wpS_bind (st_binary h0 hx (Nat.le_refl _) hm2 hB2 hp2 hs2 fun st3 hB3 hs3 => ?_)
        simp only [Bool.not_true, Bool.false_eq_true, if_false]
        refine wpS_bind (wpS_get ?_)
        have hb : (pendingOf st3).back? = none := by rw [hB3.pend]; rfl
        rw [hb]
        dsimp only
        exact wpS_bind (wpS_modify (wpS_pure (.inr ⟨by (first | lia | omega), rfl, hB3.done hs3.sorted, hs3⟩)))
      · rw [if_neg hlt]
        have hm : m = a₀.size := by (first | lia | omega)
        subst hm
        refine wpS_bind (wpS_get ?_)
        have hb : (pendingOf st2).back? = none := by rw [hB2.pend]; rfl
        rw [hb]
        dsimp only
        exact wpS_bind (wpS_modify (wpS_pure (.inr ⟨by (first | lia | omega), rfl, hB2.done hs2.sorted, hs2⟩)))
    · dsimp only
      rw [if_pos (Nat.le_refl _)]
      exact wpS_pure ⟨rfl, hD⟩
  case post =>
    rintro c st' ⟨rfl, hD, hS⟩
    dsimp only
    refine wpS_bind (wpS_mono (wpS_forRange (I := fun _ c st'' => st'' = st' ∧ c = (none, ())) (Q := fun c st'' => st'' = st' ∧ c = (none, ())) ?_ (fun _ _ hh => hh) ⟨rfl, rfl⟩) ?_)
    · rintro x c st'' _ _ ⟨rfl, rfl⟩
      refine wpS_bind (wpS_get ?_)
      rw [if_pos (by rw [hD.2.2.1]; exact Nat.le_refl 1)]
      exact wpS_pure ⟨rfl, rfl⟩
    · rintro c st'' ⟨rfl, rfl⟩
      exact wpS_pure (h _ hD.1 hD.2.1 hS)
end
end Mine
end
/-! ## part S2 -/
section
set_option maxRecDepth 100000
namespace Mine
open PySem PyProof.Rows
variable {c : Cx} {ds : List D}

structure KeyD (c : Cx) (dk : D) (l : List D) (kf : Nat → Int) (n : Nat) : Prop where
  is : ∃ p, dk = .any p ∧ ∀ g v, p g v → ∃ a, v = .ref a
  kpr : ∀ c' : Cx, c'.prog = c.prog → c'.w = c.w → c'.H = c.H → Kpr c' dk
  call : ∀ c' : Cx, c'.prog = c.prog → c'.w = c.w → c'.H = c.H → Room c'.A n → ∀ i d, l[i]? = some d → CallD c' dk [d] [] (.int (kf i))

theorem Base.grow {H : Heap} {X : Addr → Prop} {h h' : Heap} {wr : List Addr} (B : Base H X h) (k : ∀ b o, h.get? b = some o → h'.get? b = some o) (hf : ∀ b ∈ wr, h.get? b = none) (l : ∀ b ∈ wr, Alive h' b) : Base H (XW X wr) h' := by
  refine ⟨B.sys, fun a o x => ⟨?_, k a o (B.old a o x).2⟩, fun a x => ?_, B.tabs.mono (fun b o _ => k b o) (fle_grow (fun b o _ => k b o) hf)⟩
  · rintro ((y | y) | y)
    · exact (B.old a o x).1 (.inl y)
    · have := (B.old a o x).2; rw [hf a y] at this; cases this
    · exact (B.old a o x).1 (.inr y)
  · rcases x with x | x
    · obtain ⟨o, e⟩ := B.live a x; exact ⟨o, k a o e⟩
    · exact l a x

noncomputable def lexLe (kf : Nat → Int) (a b : Nat) : Bool := decide (kf a < kf b ∨ (kf a = kf b ∧ a ≤ b))
noncomputable def sortK (kf : Nat → Int) (n : Nat) : List Nat := (List.range n).mergeSort (lexLe kf)
theorem lexLe_trans (kf : Nat → Int) (a b c : Nat) (h1 : lexLe kf a b = true) (h2 : lexLe kf b c = true) : lexLe kf a c = true := by
  simp only [lexLe, decide_eq_true_eq] at *
  rcases h1 with h1 | ⟨e1, l1⟩
  · rcases h2 with h2 | ⟨e2, l2⟩
    · exact .inl (Int.lt_trans h1 h2)
    · exact .inl (e2 ▸ h1)
  · rcases h2 with h2 | ⟨e2, l2⟩
    · exact .inl (e1 ▸ h2)
    · exact .inr ⟨e1.trans e2, Nat.le_trans l1 l2⟩
theorem lexLe_total (kf : Nat → Int) (a b : Nat) : (lexLe kf a b || lexLe kf b a) = true := by
  simp only [lexLe, Bool.or_eq_true, decide_eq_true_eq]; (first | lia | omega)
theorem sortK_perm (kf : Nat → Int) (n : Nat) : (sortK kf n).Perm (List.range n) := List.mergeSort_perm _ _
theorem sortK_pairwise (kf : Nat → Int) (n : Nat) : (sortK kf n).Pairwise fun a b => lexLe kf a b = true := List.pairwise_mergeSort (lexLe_trans kf) (lexLe_total kf) _
theorem sortK_unique (kf : Nat → Int) (n : Nat) {l : List Nat} (hp : l.Perm (List.range n)) (hs : l.Pairwise fun a b => lexLe kf a b = true) : l = sortK kf n :=
  (hp.trans (sortK_perm kf n).symm).eq_of_pairwise (fun a b _ _ h1 h2 => by simp only [lexLe, decide_eq_true_eq] at h1 h2; (first | lia | omega)) hs (sortK_pairwise kf n)
noncomputable def sortI (ns : List Int) : List Int := ns.mergeSort fun a b => decide (a ≤ b)
theorem sortI_perm (ns : List Int) : (sortI ns).Perm ns := List.mergeSort_perm _ _
theorem sortI_pairwise (ns : List Int) : (sortI ns).Pairwise (· ≤ ·) := by
  have := List.pairwise_mergeSort (le := fun a b : Int => decide (a ≤ b)) (fun a b c h1 h2 => by simp at *; (first | lia | omega)) (fun a b => by simp; (first | lia | omega)) ns
  exact this.imp fun h => by simpa using h
theorem sortI_unique {ns l : List Int} (hp : l.Perm ns) (hs : l.Pairwise (· ≤ ·)) : l = sortI ns :=
  (hp.trans (sortI_perm ns).symm).eq_of_pairwise (fun a b _ _ h1 h2 => Int.le_antisymm h1 h2) hs (sortI_pairwise ns)

theorem intsAre_rep {g : Fz} : ∀ {vs : List Value} {ns : List Int}, IntsAre vs ns → repAll g (ns.map D.int) vs
  | _, _, .nil => trivial
  | _, _, .cons n t h => ⟨⟨t, rfl⟩, intsAre_rep h⟩
theorem rep_intsAre {g : Fz} : ∀ {ns : List Int} {vs : List Value}, repAll g (ns.map D.int) vs → IntsAre vs ns
  | [], [], _ => .nil
  | n :: ns, v :: vs, ⟨⟨t, e⟩, h⟩ => by subst e; exact .cons n t (rep_intsAre h)
  | [], _ :: _, h => h.elim
  | _ :: _, [], h => h.elim

theorem call_sorted_ints {ns : List Int} (h64 : ns.length < 64) : CallD c (.val (.builtin "sorted")) [.ints ns] [] (.ints (sortI ns)) := by
  intro s E v vs ks B hv hvs hks
  rw [of_val hv]
  obtain ⟨u, rfl, ⟨a, items, n, e, ha, hr⟩⟩ := repAll1 hvs
  ·
    subst e
    have hl : s.heap.IsList a items.toList.toArray := by rw [Array.toArray_toList]; exact fz_isList ha
    have hI := rep_intsAre hr
    refine sorted_ints hl hI (by rw [hI.length]; exact h64) fun out ns' h1 h2 h3 => ?_
    have e := sortI_unique h2 h3
    subst e
    have keep : ∀ b o, s.heap.get? b = some o → (sortedAll s.heap items.toList out).get? b = some o := fun b o q => by
      have hlt : b < s.heap.objs.size := Heap.lt_size q
      have hsz : ((s.heap.push (seqObj "list" #[] 0)).update s.heap.objs.size (Obj.mapSeq (· ++ items.toList.toArray))).objs.size = s.heap.objs.size + 1 := by rw [Heap.size_update, size_push']
      have q1 : (((s.heap.push (seqObj "list" #[] 0)).update s.heap.objs.size (Obj.mapSeq (· ++ items.toList.toArray))).push (seqObj "list" items.toList.toArray 0)).get? b = some o :=
        Heap.get?_push_of_some _ ((Heap.get?_update_ne _ _ _ _ (Nat.ne_of_lt hlt)).trans (Heap.get?_push_of_some _ q))
      unfold sortedAll sortedHeap
      have nb : b ≠ s.heap.objs.size + 1 := Nat.ne_of_lt (Nat.lt_succ_of_lt hlt)
      exact (Heap.get?_update_ne _ _ _ _ nb).trans (Heap.get?_push_of_some _ (Heap.get?_push_of_some _ ((Heap.get?_update_ne _ _ _ _ nb).trans q1)))
    obtain ⟨e, he⟩ := sortedAll_at s.heap items.toList out
    exact ⟨⟨.of keep, rfl, id⟩, s.heap.objs.size + 1, out, e, rfl, ⟨B.fresh (get?_size_none _ _ (by (first | lia | omega))), he⟩, intsAre_rep h1⟩

theorem collect_range {prog : Program} {w : World} {A : Around} {E : Value → Shared → Prop} {s : Shared} {r : Addr} {t u v : Tok} {n : Nat} {Q : List Value → Shared → Prop} (hh : A.handled = none) (hr : IsRange s.heap r 0 (n : Int) 1 t u v) (hn : n ≤ 1000)
    (h : ∀ h' tk vs, (∀ b o, s.heap.get? b = some o → h'.get? b = some o) → IntsAre vs ((List.range n).map fun (i : Nat) => (i : Int)) → Q vs { s with heap := h', toks := tk }) : wpAny (model prog w) A (collect (.ref r)) Q E s := by
  unfold collect
  refine wpAny_bind (wpAny_runValue (codeAny_builtin F.entry_proto_collect ?_))
  rw [Around.under_plainId F.plain_proto_collect _]
  show wpAny _ A.in1 (newList [] >>= fun l => again (.builtin "list.__iadd__" ⟨[l, .ref r], []⟩)) _ _ s
  refine wpAny_bind (wpAny_newObj_type ?_)
  refine wpAny_pure ⟨plainId_quiet F.plain_list_iadd _, codeAny_builtin F.entry_list_iadd ?_⟩
  rw [Around.under_plainId F.plain_list_iadd _]
  show wpAny _ A.in1 (Builtin.List.listExtendWith (.ref s.heap.objs.size) (.ref r) (.ref s.heap.objs.size)) _ _ _
  have fin : ∀ (s' : Shared) (acc' : Array Value) (c' : Nat), s'.heap.get? s.heap.objs.size = some { cls := .type "list", dict := none, data := .seq acc' c', slots := #[] } → Q acc'.toList s' →
      wpAny (model prog w) A (load s.heap.objs.size >>= fun o => match o.data with | .seq xs _ => pure xs.toList | _ => unsupported "internal:collect") Q E s' := fun s' acc' c' hS hq => wpAny_bind (wpAny_load hS (wpAny_pure hq))
  have R0 := wpAny_extend_range (prog := prog) (w := w) (A := A) (R := fun r s' => ∃ acc' c', r = .ok (.ret (.ref s.heap.objs.size)) ∧ s'.heap.get? s.heap.objs.size = some { cls := .type "list", dict := none, data := .seq acc' c', slots := #[] } ∧ Q acc'.toList s')
    (s := { s with heap := s.heap.push { cls := .type "list", data := .seq ([] : List Value).toArray } }) (n := n) hh (Heap.get?_push_of_some _ hr) (range_small n hn) (range_size n) (by (first | lia | omega)) s.heap.objs.size (.ref s.heap.objs.size) 0 (Heap.get?_push_size _ rfl)
    fun h' tk acc' c' hk hS hacc => ⟨acc', c', rfl, hS, ?_⟩
  · refine wpAny_mono R0 (fun fn s' hf => ?_) fun e s' ⟨_, _, q, _⟩ => by cases q
    cases fn with
    | done f =>
      obtain ⟨acc', c', q, hS, hq⟩ := hf
      cases q
      exact fin s' acc' c' hS hq
    | again cd =>
      refine ⟨hf.1, codeAny_mono hf.2 fun r s' hr => ?_⟩
      obtain ⟨acc', c', rfl, hS, hq⟩ := hr
      exact fin s' acc' c' hS hq
  refine h h' tk acc'.toList (fun b o q => hk b o (Nat.ne_of_lt (Heap.lt_size q)) (Heap.get?_push_of_some _ q)) ?_
  obtain ⟨h1, h2⟩ := hacc
  have key : ∀ (vs : List Value) (k : Nat), (∀ j v, vs[j]? = some v → ∃ t, v = Value.int ((k + j : Nat) : Int) t) → IntsAre vs ((List.range' k vs.length).map fun (i : Nat) => (i : Int)) := by
    intro vs
    induction vs with
    | nil => intro k _; exact .nil
    | cons x vs ih =>
      intro k hj
      obtain ⟨t, rfl⟩ := hj 0 x rfl
      rw [List.length_cons, List.range'_succ]
      exact .cons _ t (ih (k + 1) fun j v q => by
        obtain ⟨t, e⟩ := hj (j + 1) v q
        exact ⟨t, by rw [e]; congr 1; (first | lia | omega)⟩)
  have := key acc'.toList 0 fun j v q => by
    obtain ⟨t, e⟩ := h2 j v (by rw [← Array.getElem?_toList]; exact q)
    exact ⟨t, by rw [e]; congr 1; (first | lia | omega)⟩
  rw [Array.length_toList, h1] at this
  rw [List.range_eq_range']
  exact this
end Mine
end
/-! ## part S3 -/
section
set_option maxRecDepth 100000
namespace Mine
open PySem PyProof.Rows
variable {c : Cx} {ds : List D}

theorem zip_get {keys : Array Value} {vs : List Value} {i : Nat} {p : Keyed} (h : (keys.zip vs.toArray)[i]? = some p) : keys[i]? = some p.1 ∧ vs[i]? = some p.2 := by
  have h' : (keys.zip vs.toArray).toList[i]? = some p := by rw [Array.getElem?_toList]; exact h
  rw [ksk_zip] at h'
  obtain ⟨h1, h2⟩ := List.getElem?_zip_eq_some.mp (show (keys.toList.zip vs)[i]? = some (p.1, p.2) from h')
  exact ⟨by rw [← Array.getElem?_toList]; exact h1, h2⟩
theorem intsAre_get {vs : List Value} {ns : List Int} (h : IntsAre vs ns) {i : Nat} {v : Value} (e : vs[i]? = some v) : ∃ n t, ns[i]? = some n ∧ v = .int n t := by
  have := rep_intsAre (g := fun _ _ => True) (ns := ns) (vs := vs) (intsAre_rep h)
  exact repAll_ints (g := fun _ _ => True) (intsAre_rep h) e

theorem places_sorted {keys : Array Value} {vs : List Value} {n : Nat} {kf : Nat → Int} (hk : IntsAre keys.toList ((List.range n).map kf)) (hv : IntsAre vs ((List.range n).map fun (i : Nat) => (i : Int))) {xs : Array Keyed} (hp : xs.Perm (keys.zip vs.toArray)) (hs : Stab xs (keys.zip vs.toArray).size) :
    IntsAre (xs.map (·.2)).toList ((sortK kf n).map fun (i : Nat) => (i : Int)) := by
  have hlk : keys.size = n := by have := hk.length; simpa using this
  have hlv : vs.length = n := by have := hv.length; simpa using this
  have hl : xs.toList.Perm (keys.toList.zip vs) := by rw [← ksk_zip]; exact Array.perm_iff_toList_perm.mp hp
  have hsz : (keys.zip vs.toArray).size = n := by rw [Array.size_zip, hlk, List.size_toArray, hlv, Nat.min_self]
  have hxs : xs.size = n := by rw [hp.size_eq, hsz]
  -- each pair is (key of i, i)
  have mem : ∀ p ∈ xs.toList, ∃ i, i < n ∧ numOf p.1 = kf i ∧ ∃ t, p.2 = .int (i : Int) t := fun p hp' => by
    have := hl.mem_iff.mp hp'
    obtain ⟨i, hi⟩ := List.getElem?_of_mem this
    obtain ⟨h1, h2⟩ := List.getElem?_zip_eq_some.mp (show (keys.toList.zip vs)[i]? = some (p.1, p.2) from hi)
    obtain ⟨k, t, e1, e2⟩ := intsAre_get hk h1
    obtain ⟨m, u, e3, e4⟩ := intsAre_get hv h2
    have hlt : i < n := by
      have := (List.getElem?_eq_some_iff.mp h2).1; (first | lia | omega)
    rw [List.getElem?_map, List.getElem?_range hlt] at e1 e3
    cases e1; cases e3
    exact ⟨i, hlt, by rw [e2]; rfl, u, e4⟩
  let pl : Keyed → Nat := fun p => (numOf p.2).toNat
  have hpl : ∀ p ∈ xs.toList, numOf p.1 = kf (pl p) ∧ (∃ t, p.2 = .int ((pl p : Nat) : Int) t) := fun p hp' => by
    obtain ⟨i, _, h1, t, h2⟩ := mem p hp'
    have : pl p = i := by show (numOf p.2).toNat = i; rw [h2]; rfl
    rw [this]
    exact ⟨h1, t, h2⟩
  have hperm : (xs.toList.map pl).Perm (List.range n) := by
    refine (hl.map pl).trans ?_
    have : (keys.toList.zip vs).map pl = List.range n := by
      refine List.ext_getElem? fun i => ?_
      by_cases hlt : i < n
      · rw [List.getElem?_map, List.getElem?_range hlt]
        have h1 : i < keys.toList.length := by simpa [hlk] using hlt
        have h2 : i < vs.length := by (first | lia | omega)
        have e : (keys.toList.zip vs)[i]? = some (keys.toList[i], vs[i]) := List.getElem?_zip_eq_some.mpr ⟨List.getElem?_eq_getElem h1, List.getElem?_eq_getElem h2⟩
        rw [e]
        obtain ⟨m, u, e3, e4⟩ := intsAre_get hv (List.getElem?_eq_getElem h2)
        rw [List.getElem?_map, List.getElem?_range hlt] at e3
        cases e3
        show some ((numOf vs[i]).toNat) = some i
        rw [e4]; rfl
      · rw [List.getElem?_eq_none (by simp; (first | lia | omega)), List.getElem?_eq_none (by simp; (first | lia | omega))]
    rw [this]
  have hpw : (xs.toList.map pl).Pairwise fun a b => lexLe kf a b = true := by
    rw [List.pairwise_map, List.pairwise_iff_getElem]
    intro i j hi hj hij
    have hi' : i < xs.size := by simpa using hi
    have hj' : j < xs.size := by simpa using hj
    have q := hs i j hij (by rw [hsz, ← hxs]; exact hj')
    have m1 := hpl xs.toList[i] (List.getElem_mem _)
    have m2 := hpl xs.toList[j] (List.getElem_mem _)
    unfold Lex at q
    rw [K_eq hi', K_eq hj'] at q
    have i1 : itemOf xs i = numOf xs[i].2 := by unfold itemOf; rw [getElem?_pos xs i hi']
    have i2 : itemOf xs j = numOf xs[j].2 := by unfold itemOf; rw [getElem?_pos xs j hj']
    rw [i1, i2] at q
    have x1 : xs.toList[i] = xs[i] := by simp
    have x2 : xs.toList[j] = xs[j] := by simp
    rw [x1] at m1
    rw [x2] at m2
    rw [x1, x2]
    obtain ⟨t1, t2⟩ := m1.2
    obtain ⟨u1, u2⟩ := m2.2
    rw [m1.1, m2.1, t2, u2] at q
    simp only [lexLe, decide_eq_true_eq]
    simp only [numOf] at q
    rcases q with q | ⟨q, q'⟩
    · exact .inl q
    · exact .inr ⟨q, by (first | lia | omega)⟩
  rw [← sortK_unique kf n hperm hpw, Array.toList_map, List.map_map]
  have : ∀ l : List Keyed, (∀ p ∈ l, ∃ t, p.2 = .int ((pl p : Nat) : Int) t) → IntsAre (l.map (·.2)) (l.map ((fun (i : Nat) => (i : Int)) ∘ pl)) := by
    intro l
    induction l with
    | nil => exact fun _ => .nil
    | cons p l ih =>
      intro h
      obtain ⟨t, e⟩ := h p (.head _)
      rw [List.map_cons, List.map_cons, e]
      exact .cons _ t (ih fun q hq => h q (.tail _ hq))
  exact this _ fun p hp' => (hpl p hp').2

theorem idx_zip {keys : Array Value} {vs : List Value} {n : Nat} (hlk : keys.size = n) (hv : IntsAre vs ((List.range n).map fun (i : Nat) => (i : Int))) : Idx (keys.zip vs.toArray) := by
  have hlv : vs.length = n := by have := hv.length; simpa using this
  have key : ∀ i, i < n → itemOf (keys.zip vs.toArray) i = (i : Int) := fun i hi => by
    have hz : i < (keys.zip vs.toArray).size := by rw [Array.size_zip, hlk, List.size_toArray, hlv]; (first | lia | omega)
    have e := getElem?_pos (keys.zip vs.toArray) i hz
    unfold itemOf
    rw [e]
    obtain ⟨_, h2⟩ := zip_get e
    obtain ⟨m, u, e3, e4⟩ := intsAre_get hv h2
    rw [List.getElem?_map, List.getElem?_range hi] at e3
    cases e3
    show numOf _ = _
    rw [e4]; rfl
  intro i j hij hj
  have hj' : j < n := by rw [Array.size_zip, hlk, List.size_toArray, hlv] at hj; (first | lia | omega)
  rw [key i (by (first | lia | omega)), key j hj']
  (first | lia | omega)

theorem ext_two {all : List Addr} {s1 : Shared} {h' : Heap} {tk : Nat} {a : Addr} {o : Obj} (ha : a ∈ all) (nt : ¬ tb a) (hs : Heap.SameBut a s1.heap h') (ho : h'.get? a = some o) : ExtB (· ∈ all) s1 { s1 with heap := h', toks := tk } :=
  ⟨.of_same hs ha nt ⟨o, ho⟩, rfl, id⟩

theorem list_sort_key {n : Nat} {kf : Nat → Int} {m : Nat} {dk : D} {q : Addr} {s : Shared} {E : Value → Shared → Prop} {A2 : Around} {P : PySem.Fin → Shared → Prop} {vs : List Value} {s1 : Shared} {a : Addr} (K : KeyD c dk (upTo n) kf m) (R : Room A2 m) (h2 : 2 ≤ n) (h64 : n < 64)
    (B : Base c.H c.X s.heap) (hf : dk.rep (fz c.X s.heap) (.ref q)) (hv : IntsAre vs ((List.range n).map fun (i : Nat) => (i : Int))) (e1 : ExtF s s1) (da : s.heap.get? a = none) (ho : s1.heap.get? a = some (seqObj "list" vs.toArray 0))
    (h : ∀ s', Ext s s' → (∃ out e, s'.heap.get? a = some (seqObj "list" out e) ∧ IntsAre out.toList ((sortK kf n).map fun (i : Nat) => (i : Int))) → P (.done (.ret .none)) s') :
    wpAny (model c.prog c.w) A2 (ksk_tree a (.ref q) false) P E s1 := by
  have hlv : vs.length = n := by have := hv.length; simpa using this
  have al : a < s1.heap.objs.size := Heap.lt_size ho
  have sb1 := Heap.SameBut.update s1.heap a (Obj.mapSeq fun _ => (#[] : Array Value))
  obtain ⟨ep, ho1⟩ : ∃ e, (s1.heap.update a (Obj.mapSeq fun _ => (#[] : Array Value))).get? a = some (seqObj "list" #[] e) := ⟨_, get?_update_seq ho fun _ => #[]⟩
  unfold ksk_tree
  refine wpAny_bind (listItems_at ho rfl ?_)
  refine wpAny_bind (listUpdate_at ho rfl ?_ (by rw [List.size_toArray, sizeLine_eq]; (first | lia | omega)) (Nat.zero_le _))
  refine wpAny_bind (seqEpoch_at ho1 rfl ?_)
  refine wpAny_bind (wpAny_newTuple ?_ (by show vs.length ≤ _; rw [sizeLine_eq]; (first | lia | omega)))
  refine wpAny_bind (wpAny_newList ?_ (Nat.zero_le _))
  refine wpAny_holding ?_
  dsimp only
  generalize hg1 : (s1.heap.update a (Obj.mapSeq fun _ => (#[] : Array Value))).push (seqObj "tuple" vs.toArray 0) = g1
  have sz1 : g1.objs.size = s1.heap.objs.size + 1 := by rw [← hg1, size_push', Heap.size_update]
  have ag1 : g1.get? a = some (seqObj "list" #[] ep) := by rw [← hg1]; exact Heap.get?_push_of_some _ ho1
  have kg1 : ∀ b o, b ≠ a → s1.heap.get? b = some o → g1.get? b = some o := fun b o nb e => by rw [← hg1]; exact Heap.get?_push_of_some _ ((sb1.2 b nb).trans e)
  generalize hkS : g1.objs.size = kS at *
  have nak : kS ≠ a := by rw [sz1]; exact Nat.ne_of_gt (Nat.lt_succ_of_lt al)
  have da' : ∀ b, Alive s.heap b → b ≠ a := fun b ⟨o, e⟩ z => by rw [z, da] at e; cases e
  have dk0 : s.heap.get? kS = none := by
    cases e : s.heap.get? kS with
    | none => rfl
    | some o => exact absurd (Heap.lt_size (e1.keep _ _ e)) (by rw [sz1]; exact Nat.not_lt.mpr (Nat.le_succ _))
  -- the state with the three objects made
  generalize hg2 : g1.push (seqObj "list" #[] 0) = g2
  have hkS2 : g2.get? kS = some (seqObj "list" #[] 0) := by rw [← hg2, ← hkS]; exact Heap.get?_push_size _ rfl
  have ha2 : g2.get? a = some (seqObj "list" #[] ep) := by rw [← hg2]; exact Heap.get?_push_of_some _ ag1
  have k02 : ∀ b o, s.heap.get? b = some o → g2.get? b = some o := fun b o e => by rw [← hg2]; exact Heap.get?_push_of_some _ (kg1 b o (da' b ⟨o, e⟩) (e1.keep b o e))
  have e02 : ExtF s { s1 with heap := g2 } := ⟨k02, e1.os, e1.bare⟩
  have dead : ∀ b ∈ [a, kS], s.heap.get? b = none := fun b hb => by
    simp only [List.mem_cons, List.not_mem_nil, or_false] at hb
    rcases hb with rfl | rfl
    · exact da
    · exact dk0
  have live2 : ∀ b ∈ [a, kS], Alive g2 b := fun b hb => by
    simp only [List.mem_cons, List.not_mem_nil, or_false] at hb
    rcases hb with rfl | rfl
    · exact ⟨_, ha2⟩
    · exact ⟨_, hkS2⟩
  have nt : ∀ b ∈ [a, kS], ¬ tb b := fun b hb t => by obtain ⟨o, e⟩ := B.tabs.alive t; rw [dead b hb] at e; cases e
  have B2 : Base c.H (XW c.X [a, kS]) g2 := B.grow k02 dead live2
  have lg : Fle (fz c.X s.heap) (fz (XW c.X [a, kS]) g2) := fle_grow (fun b o _ => k02 b o) dead
  have hf2 : dk.rep (fz (XW c.X [a, kS]) g2) (.ref q) := D.rep_mono lg _ _ hf
  have toP : ∀ (s' : Shared), ExtB (· ∈ [a, kS]) { s1 with heap := g2 } s' → Ext s s' := fun s' x => ext_of_grow e02 dead live2 x
  unfold ksk_rest
  refine wpAny_bind (wpAny_rule ?_)
  first
    | rw [List.forIn_toArray]
    | (rw [← Array.forIn_toList]; simp only [List.toList_toArray])
    | rw [← Array.forIn_toList]
  refine wpAny_bind (ksk_fold (fun i s' => ∃ kA e, s'.heap.get? kS = some (seqObj "list" kA e) ∧ s'.heap.get? a = some (seqObj "list" #[] ep) ∧ IntsAre kA.toList (((List.range n).map kf).take i) ∧ Base c.H (XW c.X [a, kS]) s'.heap ∧ ExtB (· ∈ [a, kS]) { s1 with heap := g2 } s') vs 0 _
    ⟨#[], 0, hkS2, ha2, by simpa using IntsAre.nil, B2, .refl _ _⟩ ?step ?done)
  case step =>
    rintro j x s' hx ⟨kA, e, p1, p2, p3, p4, p5⟩
    simp only [Nat.zero_add] at p3 ⊢
    have hj : j < n := by have := (List.getElem?_eq_some_iff.mp hx).1; (first | lia | omega)
    obtain ⟨nx, tx, ex, rfl⟩ := intsAre_get hv hx
    rw [List.getElem?_map, List.getElem?_range hj] at ex
    cases ex
    have hz : kA.size ≤ n := by
      have h1 := p3.length
      rw [Array.length_toList, List.length_take] at h1
      simp at h1; (first | lia | omega)
    have fle : Fle (fz (XW c.X [a, kS]) g2) (fz (XW c.X [a, kS]) s'.heap) := fun b o e => ⟨e.1, p5.keep.keep b o (fun y => e.1 (y.imp .inr id)) e.2⟩
    have hd : (upTo n)[j]? = some (.int (j : Int)) := by rw [List.getElem?_map, List.getElem?_range hj]; rfl
    have call := K.call { c with A := A2, X := XW c.X [a, kS] } rfl rfl rfl R j _ hd
    refine wpAny_bind (wpAny_attempt (wpAny_mono (call s' (fun _ _ => False) (.ref q) [.int (j : Int) tx] [] p4 (D.rep_mono fle _ _ hf2) ⟨⟨tx, rfl⟩, trivial⟩ trivial) (fun v s'' zz => ?_) fun _ _ hF => hF.elim))
    obtain ⟨x'', tv, hv''⟩ := zz
    subst hv''
    try dsimp only
    have p1' := x''.keep.get _ _ (nt kS (by simp)) p1
    have p2' := x''.keep.get _ _ (nt a (by simp)) p2
    have sbk := Heap.SameBut.update s''.heap kS (Obj.mapSeq (·.push (Value.int (kf j) tv)))
    obtain ⟨c2, hc2⟩ : ∃ c2, (s''.heap.update kS (Obj.mapSeq (·.push (Value.int (kf j) tv)))).get? kS = some (seqObj "list" (kA.push (.int (kf j) tv)) c2) := ⟨_, get?_update_seq p1' (·.push (.int (kf j) tv))⟩
    have ek : ((List.range n).map kf).take (j + 1) = ((List.range n).map kf).take j ++ [kf j] := by rw [List.take_add_one, List.getElem?_map, List.getElem?_range hj]; simp
    have ea : (kA.push (Value.int (kf j) tv)).toList = kA.toList ++ [Value.int (kf j) tv] := by simp
    refine wpAny_bind (listUpdate_at p1' rfl ?_ (by rw [sizeLine_eq]; (first | lia | omega)) (Nat.le_trans (Nat.le_of_eq (Array.size_push ..)) (by rw [sizeLine_eq]; (first | lia | omega))))
    have xk := ext_two (tk := s''.toks) (show kS ∈ [a, kS] by simp) (nt kS (by simp)) sbk hc2
    refine wpAny_pure ⟨rfl, kA.push (.int (kf j) tv), c2, hc2, (sbk.2 a nak.symm).trans p2', by rw [ea, ek]; exact ksk_snoc p3, (p4.keep x''.keep.but).keep (xk.keep.mono fun b z => .inr z), (p5.trans x''.but).trans xk⟩
  case done =>
    rintro s' ⟨kA, e, p1, p2, p3, p4, p5⟩
    have hk : IntsAre kA.toList ((List.range n).map kf) := by
      have e3 : ((List.range n).map kf).take (0 + vs.length) = (List.range n).map kf := List.take_of_length_le (by simp; (first | lia | omega))
      rw [e3] at p3; exact p3
    have hlk : kA.size = n := by have := hk.length; simpa using this
    try dsimp only
    refine wpAny_bind (listItems_at p1 rfl ?_)
    unfold ksk_end
    try dsimp only
    have hzs : (kA.zip vs.toArray).size = n := by rw [Array.size_zip, hlk, List.size_toArray, hlv, Nat.min_self]
    rw [if_neg (by simp)]
    rw [if_neg (by rw [List.size_toArray]; (first | lia | omega)), if_neg (by rw [List.size_toArray]; (first | lia | omega))]
    rw [ksk_kind hk (by (first | lia | omega))]
    refine wpAny_bind (wpAny_pure ?_)
    refine wpAny_bind (wpAny_mono (st_sortRuns (a₀ := kA.zip vs.toArray) (st := SortSt.mk' oneType' (kA.zip vs.toArray) #[] 7 none)
      (Q := fun _ st' => (arrOf st').Perm (kA.zip vs.toArray) ∧ failedOf st' = none ∧ Stab (arrOf st') (kA.zip vs.toArray).size)
      (ksk_intKeys hk) (idx_zip hlk hv) ⟨Array.Perm.refl _, rfl, rfl, rfl⟩ rfl (by rw [hzs]; exact h2) (by rw [hzs]; exact h64) fun st' a1 a2 a3 => ⟨a1, a2, a3⟩) ?_ fun _ _ e => e)
    rintro ⟨⟨⟩, st'⟩ s'' ⟨rfl, hp, hfl, hs⟩
    try dsimp only
    have hout := places_sorted hk hv hp hs
    have hsz2 : (arrOf st').size = n := by rw [hp.size_eq, hzs]
    have s1k := Heap.SameBut.update s''.heap kS (Obj.mapSeq fun _ => (#[] : Array Value))
    obtain ⟨ek, hke⟩ : ∃ e, (s''.heap.update kS (Obj.mapSeq fun _ => (#[] : Array Value))).get? kS = some (seqObj "list" #[] e) := ⟨_, get?_update_seq p1 fun _ => #[]⟩
    have na1 : (s''.heap.update kS (Obj.mapSeq fun _ => (#[] : Array Value))).get? a = some (seqObj "list" #[] ep) := (s1k.2 a nak.symm).trans p2
    have hoz : ((arrOf st').map (·.2)).size ≤ sizeLine + 1 := Nat.le_trans (Nat.le_of_eq ((Array.size_map ..).trans hsz2)) (by rw [sizeLine_eq]; (first | lia | omega))
    unfold ksk_tail
    generalize (arrOf st').map (·.2) = outA at hout hoz
    have s2a := Heap.SameBut.update (s''.heap.update kS (Obj.mapSeq fun _ => (#[] : Array Value))) a (Obj.mapSeq fun _ => outA)
    obtain ⟨c2, hc2⟩ : ∃ c2, ((s''.heap.update kS (Obj.mapSeq fun _ => (#[] : Array Value))).update a (Obj.mapSeq fun _ => outA)).get? a = some (seqObj "list" outA c2) := ⟨_, get?_update_seq na1 fun _ => outA⟩
    try dsimp only
    refine wpAny_bind (listUpdate_at p1 rfl ?_ (by rw [hlk, sizeLine_eq]; (first | lia | omega)) (Nat.zero_le _))
    refine wpAny_bind (wpAny_letGo ?_)
    refine wpAny_bind (seqEpoch_at na1 rfl ?_)
    rw [if_neg (by simp)]
    refine wpAny_bind (listUpdate_at na1 rfl ?_ (Nat.zero_le _) hoz)
    rw [hfl]
    simp only [bne_self_eq_false, Bool.false_eq_true, if_false]
    have x1 := ext_two (tk := s''.toks) (show kS ∈ [a, kS] by simp) (nt kS (by simp)) s1k hke
    have x2 := ext_two (s1 := { s'' with heap := s''.heap.update kS (Obj.mapSeq fun _ => (#[] : Array Value)) }) (tk := s''.toks) (show a ∈ [a, kS] by simp) (nt a (by simp)) s2a hc2
    exact wpAny_pure (h _ (toP _ ((p5.trans x1).trans x2)) ⟨_, c2, hc2, hout⟩)

theorem call_sorted_range {dk : D} {n m : Nat} {kf : Nat → Int} (K : KeyD c dk (upTo n) kf m) (R : Room c.A (m + 2)) (h2 : 2 ≤ n) (h64 : n < 64) :
    CallD c (.val (.builtin "sorted")) [.range (n : Int)] [("key", dk)] (.ints ((sortK kf n).map fun (i : Nat) => (i : Int))) := by
  intro s E v vs ks B hv hvs hks
  rw [of_val hv]
  obtain ⟨f, rfl, hf⟩ := repAll1 hks
  obtain ⟨u, rfl, ⟨g₀, le, r, t, t', t'', e, hr⟩⟩ := repAll1 hvs
  ·
    subst e
    obtain ⟨pk, ek, hpk⟩ := K.is
    obtain ⟨q, eq⟩ : ∃ q, f = .ref q := by
      rw [ek] at hf
      obtain ⟨g1, _, hp⟩ := hf
      exact hpk _ _ hp
    subst eq
    have hr := (le _ _ hr).2
    show wpAny _ _ (call (.builtin "sorted") [.ref r] [(Str.ofString "key", .ref q)]) _ _ _
    refine call_function_entry_kw kind_sorted plain_sorted entry_sorted (ksk_s1 _ _) ?_
    unfold Builtin.«sorted»
    refine wpAny_bind (m := checkCount "sorted" 1 1 _) (wpAny_pure ?_)
    refine wpAny_bind (collect_range (n := n) R.handled hr (by (first | lia | omega)) fun h' tk vs hk hI => ?_)
    have hlv : vs.length = n := by have := hI.length; simpa using this
    refine wpAny_bind (wpAny_newList ?_ (by rw [sizeLine_eq, hlv]; (first | lia | omega)))
    have e1 : ExtF s { s with heap := h'.push (seqObj "list" vs.toArray 0), toks := tk } := ⟨fun b o e => Heap.get?_push_of_some _ (hk b o e), rfl, id⟩
    have hoL : (h'.push (seqObj "list" vs.toArray 0)).get? h'.objs.size = some (seqObj "list" vs.toArray 0) := Heap.get?_push_size _ rfl
    have dL : s.heap.get? h'.objs.size = none := by
      cases e : s.heap.get? h'.objs.size with
      | none => rfl
      | some o => exact absurd (Heap.lt_size (hk _ _ e)) (Nat.lt_irrefl _)
    have R2 : Room c.A.in1.in1 m := (R.in1).in1
    refine wpAny_bind (wpAny_holding (wpAny_call_entry_kw slot_list_sort ⟨_, hoL, rfl⟩ entry_list_sort ?_ (ksk_l1 _ _)))
    rw [ksk_t1]
    refine list_sort_key K R2 h2 h64 B hf hI e1 dL hoL fun s' x ⟨out, e, ho, hout⟩ => ⟨_, rfl, ?_⟩
    exact wpAny_pure ⟨_, rfl, x, h'.objs.size, out, e, rfl, ⟨B.fresh dL, ho⟩, intsAre_rep hout⟩
end Mine
end
/-! ## part X1 -/
section
set_option maxRecDepth 100000
namespace Mine
open PySem PyProof.Rows PySem.W
variable {c : Cx} {ds : List D}

noncomputable def sOf (i : Int) (h : Int) (o : Option Tok) : List (Int × Value) := match o with | some t => [(h, .int i t)] | none => []
noncomputable def pOf (p : Nat) (o : Option Tok) : List Nat := match o with | some _ => [p] | none => []
noncomputable def smEs (a b m : Option Tok) : Array (Int × Value) := (sOf 0 0 a ++ sOf 1 1 b ++ sOf (-1) (-2) m).toArray
noncomputable def smPl (a b m : Option Tok) : Array Nat := (pOf 0 a ++ pOf 1 b ++ pOf 6 m).toArray
noncomputable def smTab (led : Bool) (a b m : Option Tok) : SetTable := { mask := 7, place := smPl a b m, dummies := #[], finger := 0, led, moves := 0, plain := true }
noncomputable def smObj (ep : Nat) (led : Bool) (a b m : Option Tok) : Obj := { cls := .type "set", dict := none, data := .set (smEs a b m) ep (smTab led a b m), slots := #[] }
noncomputable def smAdd (i : Int) (t : Tok) (s : Option Tok × Option Tok × Option Tok) : Option Tok × Option Tok × Option Tok :=
  if i = 0 then (s.1.or (some t), s.2.1, s.2.2) else if i = 1 then (s.1, s.2.1.or (some t), s.2.2) else (s.1, s.2.1, s.2.2.or (some t))

section
variable {prog : Program} {w : World} {A : Around} {E : Value → Shared → Prop} {s : Shared} {sa : Addr}
theorem sm_elems (a b m : Option Tok) : ElemsOf (PySem.intKind prog w) (smEs a b m).toList := by
  intro e he
  unfold smEs sOf at he
  cases a <;> cases b <;> cases m <;> simp at he <;> (first | done | (rcases he with rfl | rfl | rfl) | (rcases he with rfl | rfl) | subst he) <;>
    first
    | exact ⟨⟨0, intKind_is _ _ _ _, by rfl⟩, rfl⟩
    | exact ⟨⟨1, intKind_is _ _ _ _, by rfl⟩, rfl⟩
    | exact ⟨⟨-1, intKind_is _ _ _ _, by rfl⟩, rfl⟩
theorem sm_fits (led : Bool) (a b m : Option Tok) : (smTab led a b m).fits (smEs a b m).size = true := by
  cases a <;> cases b <;> cases m <;> rfl
theorem sm_small (a b m : Option Tok) : (smEs a b m).size ≤ 3 := by
  cases a <;> cases b <;> cases m <;> exact Nat.le_of_ble_eq_true rfl

theorem set_add_exact {o : Obj} {es : Array (Int × Value)} {ep : Nat} {t : SetTable} {k : Int} {x : Value} {Q : Value → Shared → Prop} (hkey : (PySem.intKind prog w).is k x = true) (hsc : x.scannable = true) (hpl : plainKind x = true)
    (ho : s.heap.get? sa = some o) (hcl : o.cls = .type "set") (hd : o.data = .set es ep t) (hf : t.fits es.size = true) (hel : ElemsOf (PySem.intKind prog w) es.toList) (hb : es.size < 100)
    (h1 : es.toList.findIdx? (fun e => (PySem.intKind prog w).is k e.2) ≠ none → Q .none { s with toks := s.toks + 1 })
    (h2 : es.toList.findIdx? (fun e => (PySem.intKind prog w).is k e.2) = none → (layNew t es ((PySem.intKind prog w).hash k) x).2.1.tooFull = false ∧ (layNew t es ((PySem.intKind prog w).hash k) x).1.size ≤ 1000 ∧
      Q .none { s with heap := s.heap.update sa (Obj.putSet (layNew t es ((PySem.intKind prog w).hash k) x).1 (layNew t es ((PySem.intKind prog w).hash k) x).2.1), toks := s.toks + 1 }) :
    wpAny (model prog w) A (call (.builtin "set.add") [.ref sa, x]) Q E s := by
  refine wpAny_call_entry F.slot_set_add ⟨o, ho, hcl⟩ F.entry_set_add ?_ (F.args_set_add_2 _ _)
  unfold Builtin.«set.add» Builtin.Frozenset.oneOther
  simp only [List.isEmpty_nil, bind_assoc]
  unfold Builtin.Frozenset.addrOf setAdd
  refine wpAny_bind (wpAny_pure ?_)
  try dsimp only
  refine wpAny_bind (wpAny_pure ?_)
  try dsimp only
  refine wpAny_bind ?_
  refine wpAny_holding ?_
  refine wpAny_bind ((PySem.intKind prog w).pyHash hkey ?_)
  have hsb : es.size < scanBound := by unfold scanBound; omega
  unfold setAddHashed setAddHashedIn
  refine wpAny_holding (wpAny_bind (wpAny_setState_of (s := { s with toks := s.toks + 1 }) ho hd hf ?_))
  dsimp only
  rw [byScan_of hsc hsb hel]
  simp only [↓reduceIte]
  unfold setAddByScan
  refine wpAny_bind ?_
  refine wpAny_bind (wpAny_rule ?_)
  refine wpAny_bind (wpAny_setScan_of (s := { s with toks := s.toks + 1 }) hkey ho hd hf hel ?_)
  cases hr : List.findIdx? (fun e => (PySem.intKind prog w).is k e.2) es.toList with
  | some j =>
    dsimp only
    refine wpAny_pure (wpAny_pure ?_)
    show wpAny _ _ (ret Value.none) _ _ _
    exact wpAny_pure ⟨_, rfl, h1 (by rw [hr]; simp)⟩
  | none =>
    dsimp only
    have hgw : ∀ (b : Bool) {s₁ : Shared} {Q' : Unit → Shared → Prop}, Q' () s₁ → wpAny (model prog w) A.in1 (match b with | true => rule "set.scan.the-table-gave-way" | false => pure ()) Q' (fun e s' => E e s') s₁ :=
      fun b s₁ Q' hq => by cases b <;> first | exact wpAny_pure hq | exact wpAny_rule hq
    obtain ⟨g1, g2, g3⟩ := h2 hr
    generalize hL : layNew t es ((PySem.intKind prog w).hash k) x = L at g1 g2 g3 ⊢
    obtain ⟨es1, t1, wasDummy, gave⟩ := L
    dsimp only at g1 g2 g3 ⊢
    refine wpAny_bind (hgw _ ?_)
    split
    · refine wpAny_bind ?_
      rw [hashByValue_scannable 8 hsc, hpl]
      refine wpAny_pure ?_
      simp only [↓reduceIte]
      refine wpAny_bind (wpAny_storeSet_of (s := { s with toks := s.toks + 1 }) ho hd ?_ (by rw [sizeLine_eq]; omega))
      rw [g1, Bool.and_false]
      simp only [Bool.false_eq_true, ↓reduceIte]
      refine wpAny_pure (wpAny_pure ?_)
      show wpAny _ _ (ret Value.none) _ _ _
      exact wpAny_pure ⟨_, rfl, g3⟩
    · refine wpAny_bind (wpAny_pure ?_)
      simp only [↓reduceIte]
      refine wpAny_bind (wpAny_storeSet_of (s := { s with toks := s.toks + 1 }) ho hd ?_ (by rw [sizeLine_eq]; omega))
      rw [g1, Bool.and_false]
      simp only [Bool.false_eq_true, ↓reduceIte]
      refine wpAny_pure (wpAny_pure ?_)
      show wpAny _ _ (ret Value.none) _ _ _
      exact wpAny_pure ⟨_, rfl, g3⟩
theorem get?_putSet {h : Heap} {o : Obj} {es es' : Array (Int × Value)} {ep : Nat} {t t' : SetTable} (ho : h.get? sa = some o) (hd : o.data = .set es ep t) : (h.update sa (Obj.putSet es' t')).get? sa = some { o with data := .set es' (ep + 1) t' } := by
  have := Heap.get?_update_self (Obj.putSet es' t') ho (by rw [putSet_of es' t' hd]; rfl)
  rw [putSet_of es' t' hd] at this; exact this
theorem ln_eq {t : SetTable} {es : Array (Int × Value)} {h : Int} {x : Value} {j : Nat} (e : t.freeSlot h = some (j, false)) : layNew t es h x = (SetTable.insertAt es (t.put j).2 (h, x), (t.put j).1.orStandIn (SetTable.insertAt es (t.put j).2 (h, x)).size, false, !(t.put j).1.fits (SetTable.insertAt es (t.put j).2 (h, x)).size) := by
  unfold layNew; rw [e]
theorem fs_m (led : Bool) (a b : Option Tok) : (smTab led a b none).freeSlot (-2) = some (6, false) := by cases led <;> cases a <;> cases b <;> (simp only [smTab, smPl, pOf, List.nil_append, List.cons_append, List.append_nil, List.length_nil, List.length_cons]; decide)
theorem put_m (led : Bool) (a b : Option Tok) (t : Tok) : (smTab led a b none).put 6 = (smTab led a b (some t), (pOf 0 a ++ pOf 1 b).length) := by cases led <;> cases a <;> cases b <;> (simp only [smTab, smPl, pOf, List.nil_append, List.cons_append, List.append_nil, List.length_nil, List.length_cons]; decide)
theorem es_m (a b : Option Tok) (t : Tok) : SetTable.insertAt (smEs a b none) ((pOf 0 a ++ pOf 1 b).length) ((-2), Value.int (-1) t) = smEs a b (some t) := by cases a <;> cases b <;> rfl
theorem ln_m (led : Bool) (a b : Option Tok) (t : Tok) : (layNew (smTab led a b none) (smEs a b none) (-2) (.int (-1) t)).1 = smEs a b (some t) ∧ (layNew (smTab led a b none) (smEs a b none) (-2) (.int (-1) t)).2.1 = smTab led a b (some t) := by
  rw [ln_eq (fs_m led a b), put_m led a b t]
  dsimp only
  rw [es_m a b t]
  refine ⟨rfl, ?_⟩
  unfold SetTable.orStandIn
  rw [if_pos (sm_fits led a b (some t))]
theorem fs_0 (led : Bool) (b m : Option Tok) : (smTab led none b m).freeSlot 0 = some (0, false) := by cases led <;> cases b <;> cases m <;> (simp only [smTab, smPl, pOf, List.nil_append, List.cons_append, List.append_nil, List.length_nil, List.length_cons]; decide)
theorem put_0 (led : Bool) (b m : Option Tok) (t : Tok) : (smTab led none b m).put 0 = (smTab led (some t) b m, 0) := by cases led <;> cases b <;> cases m <;> (simp only [smTab, smPl, pOf, List.nil_append, List.cons_append, List.append_nil, List.length_nil, List.length_cons]; decide)
theorem es_0 (b m : Option Tok) (t : Tok) : SetTable.insertAt (smEs none b m) (0) (0, Value.int 0 t) = smEs (some t) b m := by cases b <;> cases m <;> rfl
theorem ln_0 (led : Bool) (b m : Option Tok) (t : Tok) : (layNew (smTab led none b m) (smEs none b m) 0 (.int 0 t)).1 = smEs (some t) b m ∧ (layNew (smTab led none b m) (smEs none b m) 0 (.int 0 t)).2.1 = smTab led (some t) b m := by
  rw [ln_eq (fs_0 led b m), put_0 led b m t]
  dsimp only
  rw [es_0 b m t]
  refine ⟨rfl, ?_⟩
  unfold SetTable.orStandIn
  rw [if_pos (sm_fits led (some t) b m)]
theorem fs_1 (led : Bool) (a m : Option Tok) : (smTab led a none m).freeSlot 1 = some (1, false) := by cases led <;> cases a <;> cases m <;> (simp only [smTab, smPl, pOf, List.nil_append, List.cons_append, List.append_nil, List.length_nil, List.length_cons]; decide)
theorem put_1 (led : Bool) (a m : Option Tok) (t : Tok) : (smTab led a none m).put 1 = (smTab led a (some t) m, (pOf 0 a).length) := by cases led <;> cases a <;> cases m <;> (simp only [smTab, smPl, pOf, List.nil_append, List.cons_append, List.append_nil, List.length_nil, List.length_cons]; decide)
theorem es_1 (a m : Option Tok) (t : Tok) : SetTable.insertAt (smEs a none m) ((pOf 0 a).length) (1, Value.int 1 t) = smEs a (some t) m := by cases a <;> cases m <;> rfl
theorem ln_1 (led : Bool) (a m : Option Tok) (t : Tok) : (layNew (smTab led a none m) (smEs a none m) 1 (.int 1 t)).1 = smEs a (some t) m ∧ (layNew (smTab led a none m) (smEs a none m) 1 (.int 1 t)).2.1 = smTab led a (some t) m := by
  rw [ln_eq (fs_1 led a m), put_1 led a m t]
  dsimp only
  rw [es_1 a m t]
  refine ⟨rfl, ?_⟩
  unfold SetTable.orStandIn
  rw [if_pos (sm_fits led a (some t) m)]
theorem sm_notFull (led : Bool) (a b m : Option Tok) : (smTab led a b m).tooFull = false := by cases led <;> cases a <;> cases b <;> cases m <;> (simp only [smTab, smPl, pOf, List.nil_append, List.cons_append, List.append_nil, List.length_nil, List.length_cons]; decide)
theorem sm_add {led : Bool} {a b m : Option Tok} {ep : Nat} {i : Int} {t : Tok} {Q : Value → Shared → Prop} (ho : s.heap.get? sa = some (smObj ep led a b m)) (hi : i = 0 ∨ i = 1 ∨ i = -1)
    (h : ∀ h' ep', Heap.SameBut sa s.heap h' → h'.get? sa = some (smObj ep' led (smAdd i t (a, b, m)).1 (smAdd i t (a, b, m)).2.1 (smAdd i t (a, b, m)).2.2) → Q .none { s with heap := h', toks := s.toks + 1 }) :
    wpAny (model prog w) A (call (.builtin "set.add") [.ref sa, .int i t]) Q E s := by
  refine set_add_exact (k := i) (intKind_is _ _ _ _) rfl rfl ho rfl rfl (sm_fits led a b m) (sm_elems a b m) (by have := sm_small a b m; omega) (fun hne => ?_) fun heq => ?_
  · refine h s.heap ep (Heap.SameBut.refl ..) (ho.trans ?_)
    rcases hi with rfl | rfl | rfl <;> cases a <;> cases b <;> cases m <;> first | rfl | exact absurd rfl hne
  · have key : (layNew (smTab led a b m) (smEs a b m) ((PySem.intKind prog w).hash i) (.int i t)).1 = smEs (smAdd i t (a, b, m)).1 (smAdd i t (a, b, m)).2.1 (smAdd i t (a, b, m)).2.2 ∧
        (layNew (smTab led a b m) (smEs a b m) ((PySem.intKind prog w).hash i) (.int i t)).2.1 = smTab led (smAdd i t (a, b, m)).1 (smAdd i t (a, b, m)).2.1 (smAdd i t (a, b, m)).2.2 := by
      clear h ho
      rcases hi with rfl | rfl | rfl
      · cases a with
        | none => exact ln_0 led b m t
        | some v => exact Bool.noConfusion ((intKind_is _ _ _ _).symm.trans (List.findIdx?_eq_none_iff.mp heq (0, .int (0) v) (by simp [smEs, sOf])))
      · cases b with
        | none => exact ln_1 led a m t
        | some v => exact Bool.noConfusion ((intKind_is _ _ _ _).symm.trans (List.findIdx?_eq_none_iff.mp heq (1, .int (1) v) (by simp [smEs, sOf])))
      · cases m with
        | none => exact ln_m led a b t
        | some v => exact Bool.noConfusion ((intKind_is _ _ _ _).symm.trans (List.findIdx?_eq_none_iff.mp heq (-2, .int (-1) v) (by simp [smEs, sOf])))
    obtain ⟨k3, k4⟩ := key
    rw [k3, k4]
    refine ⟨sm_notFull .., by have := sm_small (smAdd i t (a, b, m)).1 (smAdd i t (a, b, m)).2.1 (smAdd i t (a, b, m)).2.2; omega, ?_⟩
    exact h _ (ep + 1) (Heap.SameBut.update ..) (get?_putSet ho rfl)
end
end Mine
end
/-! ## part X2 -/
section
set_option maxRecDepth 100000
namespace Mine
open PySem PyProof.Rows PySem.W

theorem slot_si_next : Slot "set_iterator" "__next__" "set_iterator.__next__" :=
  .of (owner := "set_iterator") (n := "__next__") (by rw [typeLookup_type, builtinLookup_eq_fast]; kernel_rfl) (by decide +kernel) (by decide +kernel) (by decide +kernel)
    (by first | exact .inl (by decide +kernel) | exact .inr (by decide +kernel)) (by rw [isSubtype_type]; kernel_rfl)
theorem slot_si_iter : Slot "set_iterator" "__iter__" "set_iterator.__iter__" :=
  .of (owner := "set_iterator") (n := "__iter__") (by rw [typeLookup_type, builtinLookup_eq_fast]; kernel_rfl) (by decide +kernel) (by decide +kernel) (by decide +kernel)
    (by first | exact .inl (by decide +kernel) | exact .inr (by decide +kernel)) (by rw [isSubtype_type]; kernel_rfl)
theorem entry_si_next : entryFor table "set_iterator.__next__" = some Builtin.«set_iterator.__next__» := entryFor_of_tree (by kernel_rfl)
theorem entry_si_iter : entryFor table "set_iterator.__iter__" = some Builtin.«dict_keyiterator.__iter__» :=
  entryFor_alias (id' := "dict_keyiterator.__iter__") (by kernel_rfl) rfl (by decide +kernel) (by kernel_rfl)
theorem entry_set_iter : entryFor table "set.__iter__" = some Builtin.«frozenset.__iter__» :=
  entryFor_alias (id' := "frozenset.__iter__") (by kernel_rfl) rfl (by decide +kernel) (by kernel_rfl)
theorem args_si_next (a : Value) : argsOk "set_iterator.__next__" ⟨[a], []⟩ := by
  unfold argsOk; rw [signature?_of (id := "set_iterator.__next__") (n := ['_', '_', 't', 'x', 'e', 'n', '_', '_']) (o := "set_iterator".toList.reverse) (by kernel_rfl) (by kernel_rfl : Manifest.owners.lookup (String.ofList "set_iterator".toList.reverse.reverse) = some Manifest.sig_set_iterator)]; kernel_rfl
theorem args_si_iter (a : Value) : argsOk "set_iterator.__iter__" ⟨[a], []⟩ := by
  unfold argsOk; rw [signature?_of (id := "set_iterator.__iter__") (n := ['_', '_', 'r', 'e', 't', 'i', '_', '_']) (o := "set_iterator".toList.reverse) (by kernel_rfl) (by kernel_rfl : Manifest.owners.lookup (String.ofList "set_iterator".toList.reverse.reverse) = some Manifest.sig_set_iterator)]; kernel_rfl

set_option tactic.hygienic true in
theorem pick_perm {α : Type} (next : Nat → Nat) : ∀ (fuel k : Nat) (l : List α) (out : Array α), l.length ≤ fuel → List.Perm (pickOrder.go next fuel k l out).toList (out.toList ++ l)
  | 0, k, l, out, h => by
    have : l = [] := List.eq_nil_of_length_eq_zero (Nat.le_zero.mp h)
    subst this; unfold pickOrder.go; simp
  | fuel + 1, k, l, out, h => by
    unfold pickOrder.go
    split
    · rename_i x hx
      have hlt := (List.getElem?_eq_some_iff.mp hx).1
      have hx' := (List.getElem?_eq_some_iff.mp hx).2
      refine (pick_perm next fuel (k + 1) _ _ (by rw [List.length_eraseIdx_of_lt hlt]; omega)).trans ?_
      rw [Array.toList_push, List.append_assoc]
      refine List.Perm.append_left _ ?_
      rw [List.eraseIdx_eq_take_drop_succ]
      have e : l = l.take (next k % l.length) ++ x :: l.drop (next k % l.length + 1) := by
        rw [← hx', ← List.drop_eq_getElem_cons hlt, List.take_append_drop]
      conv => rhs; rw [e]
      show List.Perm (x :: (List.take (next k % l.length) l ++ List.drop (next k % l.length + 1) l)) _
      exact List.perm_middle.symm
    · rename_i hx
      cases l with
      | nil => simp
      | cons a l => exact absurd hx (by rw [List.getElem?_eq_getElem (Nat.mod_lt _ (by simp))]; simp)

noncomputable def byText (w : World) : Bool := w.params.followText "set-order"
noncomputable def smW (w : World) (sa : Addr) (ep : Nat) (es : Array (Int × Value)) : Array (Int × Value) := if byText w then pickOrder (w.params.setOrder sa ep) es else es
theorem smW_perm (w : World) (sa : Addr) (ep : Nat) (es : Array (Int × Value)) : List.Perm (smW w sa ep es).toList es.toList := by
  unfold smW
  split
  · unfold pickOrder
    exact (pick_perm _ _ _ _ _ (by simp)).trans (by simp)
  · exact .rfl
theorem smW_size (w : World) (sa : Addr) (ep : Nat) (es : Array (Int × Value)) : (smW w sa ep es).size = es.size := by
  have := (smW_perm w sa ep es).length_eq; simpa using this

noncomputable def IsSetIter (h : Heap) (I sa : Addr) (slot i n ep : Nat) : Prop := ∃ o, h.get? I = some o ∧ o.cls = .type "set_iterator" ∧ o.data = .fields #[.int slot 0, .int i 0, .ref sa, .int n 0, .int ep 0]
theorem IsSetIter.typeIs {s : Shared} {I sa slot i n ep} (x : IsSetIter s.heap I sa slot i n ep) : s.TypeIs (.ref I) "set_iterator" := let ⟨o, ho, hc, _⟩ := x; ⟨o, ho, hc⟩
theorem IsSetIter.at {h h' : Heap} {I sa slot i n ep} (x : IsSetIter h I sa slot i n ep) (e : ∀ o, h.get? I = some o → h'.get? I = some o) : IsSetIter h' I sa slot i n ep := let ⟨o, ho, r⟩ := x; ⟨o, e _ ho, r⟩

theorem below_0 (a b m : Option Tok) : SetTable.below (smPl a b m) 0 = 0 := by
  cases a <;> cases b <;> cases m <;> (simp only [smPl, pOf, List.nil_append, List.cons_append, List.append_nil]; decide)
theorem below_s (a b m : Option Tok) : ∀ i < 3, i < (smPl a b m).size → SetTable.below (smPl a b m) ((smPl a b m).getD i 0 + 1) = i + 1 := by
  cases a <;> cases b <;> cases m <;> (simp only [smPl, pOf, List.nil_append, List.cons_append, List.append_nil]; decide)
theorem smPl_size (a b m : Option Tok) : (smPl a b m).size = (smEs a b m).size := by
  cases a <;> cases b <;> cases m <;> rfl

section
variable {prog : Program} {w : World} {A : Around} {E : Value → Shared → Prop} {s : Shared} {sa I : Addr} {a b m : Option Tok} {ep slot i : Nat} {led : Bool}

theorem setsByText_of {M : Model} {Q : Bool → Shared → Prop} (h : Q (M.w.params.followText "set-order") s) : wpAny M A setsByText Q E s := by
  unfold setsByText
  exact wpAny_bind (wpAny_askSetting (wpAny_pure h))

theorem sm_next_item {Q : Option (Value × Nat) → Shared → Prop} (ho : s.heap.get? sa = some (smObj ep led a b m)) (hled : led = !byText w) (hs : byText w = false → SetTable.below (smPl a b m) slot = i) (hi : i < (smEs a b m).size)
    (h : ∀ slot' e, (smW w sa ep (smEs a b m))[i]? = some e → (byText w = false → SetTable.below (smPl a b m) slot' = i + 1) → Q (some (e.2, slot')) s) : wpAny (model prog w) A (setNext sa slot i ep) Q E s := by
  unfold setNext
  refine wpAny_bind (wpAny_setState_of ho rfl (sm_fits _ a b m) ?_)
  refine wpAny_bind (setsByText_of ?_)
  show wpAny _ _ (if byText w = true then _ else _) _ _ _
  have hlt : i < (smW w sa ep (smEs a b m)).size := by rw [smW_size]; exact hi
  obtain ⟨e0, hget⟩ : ∃ e0, (smW w sa ep (smEs a b m))[i]? = some e0 := ⟨_, Array.getElem?_eq_getElem hlt⟩
  cases hb : byText w with
  | true =>
    simp only [if_true]
    rw [if_neg (by simp)]
    refine wpAny_bind ?_
    unfold setWalk
    refine wpAny_bind (wpAny_setState_of ho rfl (sm_fits _ a b m) ?_)
    refine wpAny_bind (setsByText_of ?_)
    show wpAny _ _ (if byText w = true then _ else _) _ _ _
    rw [hb]
    simp only [if_true]
    refine wpAny_bind (wpAny_askSetting (wpAny_pure ?_))
    refine wpAny_pure ?_
    have e : smW w sa ep (smEs a b m) = pickOrder (w.params.setOrder sa ep) (smEs a b m) := by unfold smW; rw [hb]; rfl
    rw [e] at hget h
    have := h slot _ hget (fun q => by rw [hb] at q; cases q)
    show Q (Option.map (fun e => (e.2, slot)) (pickOrder (w.params.setOrder sa ep) (smEs a b m))[i]?) _
    rw [hget]
    exact this
  | false =>
    have hl : led = true := by rw [hled, hb]; rfl
    subst hl
    simp only [Bool.false_eq_true, if_false]
    refine wpAny_ite_split (fun q => absurd q Bool.false_ne_true) (fun _ => ?_)
    refine wpAny_bind (wpAny_pure (a := ()) ?_)
    have e : smW w sa ep (smEs a b m) = smEs a b m := by unfold smW; rw [hb]; rfl
    rw [e] at hget h
    have hp : i < (smPl a b m).size := by rw [smPl_size]; exact hi
    have h3 : i < 3 := Nat.lt_of_lt_of_le hi (sm_small a b m)
    have hpl : (smPl a b m)[i]? = some ((smPl a b m).getD i 0) := by simp [Array.getD, hp]
    show wpAny _ _ (pure (match (smEs a b m)[SetTable.below (smPl a b m) slot]?, (smPl a b m)[SetTable.below (smPl a b m) slot]? with | some (_, x), some j => some (x, j + 1) | _, _ => none)) _ _ _
    rw [hs hb, hget, hpl]
    exact wpAny_pure (h _ e0 hget fun _ => below_s a b m i h3 hp)
theorem sm_next_end {Q : Option (Value × Nat) → Shared → Prop} (ho : s.heap.get? sa = some (smObj ep led a b m)) (hled : led = !byText w) (hs : byText w = false → SetTable.below (smPl a b m) slot = i) (hi : i = (smEs a b m).size)
    (h : Q none s) : wpAny (model prog w) A (setNext sa slot i ep) Q E s := by
  unfold setNext
  refine wpAny_bind (wpAny_setState_of ho rfl (sm_fits _ a b m) ?_)
  refine wpAny_bind (setsByText_of ?_)
  show wpAny _ _ (if byText w = true then _ else _) _ _ _
  have hget : (smW w sa ep (smEs a b m))[i]? = none := Array.getElem?_eq_none (by rw [smW_size]; omega)
  cases hb : byText w with
  | true =>
    simp only [if_true]
    rw [if_neg (by simp)]
    refine wpAny_bind ?_
    unfold setWalk
    refine wpAny_bind (wpAny_setState_of ho rfl (sm_fits _ a b m) ?_)
    refine wpAny_bind (setsByText_of ?_)
    show wpAny _ _ (if byText w = true then _ else _) _ _ _
    rw [hb]
    simp only [if_true]
    refine wpAny_bind (wpAny_askSetting (wpAny_pure ?_))
    refine wpAny_pure ?_
    have e : smW w sa ep (smEs a b m) = pickOrder (w.params.setOrder sa ep) (smEs a b m) := by unfold smW; rw [hb]; rfl
    rw [e] at hget
    show Q (Option.map (fun e => (e.2, slot)) (pickOrder (w.params.setOrder sa ep) (smEs a b m))[i]?) _
    rw [hget]
    exact h
  | false =>
    have hl : led = true := by rw [hled, hb]; rfl
    subst hl
    simp only [Bool.false_eq_true, if_false]
    refine wpAny_ite_split (fun q => absurd q Bool.false_ne_true) (fun _ => ?_)
    refine wpAny_bind (wpAny_pure (a := ()) ?_)
    show wpAny _ _ (pure (match (smEs a b m)[SetTable.below (smPl a b m) slot]?, (smPl a b m)[SetTable.below (smPl a b m) slot]? with | some (_, x), some j => some (x, j + 1) | _, _ => none)) _ _ _
    rw [hs hb, Array.getElem?_eq_none (show (smEs a b m).size ≤ i by omega)]
    exact wpAny_pure h

theorem pyNext_set_item {Q : Option Value → Shared → Prop} (hit : IsSetIter s.heap I sa slot i (smEs a b m).size ep) (hne : sa ≠ I) (ho : s.heap.get? sa = some (smObj ep led a b m)) (hled : led = !byText w) (hs : byText w = false → SetTable.below (smPl a b m) slot = i) (hi : i < (smEs a b m).size)
    (hQ : ∀ h' slot' e, (smW w sa ep (smEs a b m))[i]? = some e → (byText w = false → SetTable.below (smPl a b m) slot' = i + 1) → IsSetIter h' I sa slot' (i + 1) (smEs a b m).size ep → Heap.SameBut I s.heap h' → Q (some e.2) { s with heap := h' }) :
    wpAny (model prog w) A (pyNext (.ref I)) Q E s := by
  obtain ⟨o, hoI, hc, hd⟩ := id hit
  unfold pyNext
  refine wpAny_bind (wpAny_attempt (wpAny_callSpecial?_slot (name := Str.ofString "__next__") hit.typeIs slot_si_next
    (wpAny_call_entry slot_si_next hit.typeIs entry_si_next ?_ (args_si_next _))))
  unfold Builtin.«set_iterator.__next__»
  refine wpAny_bind (wpAny_pure ?_)
  refine wpAny_bind (wpAny_fieldsOf hoI hd ?_)
  refine wpAny_bind (wpAny_setEntries_of ho rfl (sm_fits _ a b m) ?_)
  refine wpAny_ite_split (fun q => absurd q (by simp)) (fun _ => ?_)
  show wpAny _ _ (setNext sa ((slot : Nat) : Int).toNat ((i : Nat) : Int).toNat ((ep : Nat) : Int).toNat >>= _) _ _ _
  simp only [Int.toNat_natCast]
  refine wpAny_bind (sm_next_item ho hled hs hi fun slot' e he hsl => ?_)
  dsimp only
  refine wpAny_bind (wpAny_setField hoI hd (by simp) ?_)
  have h1 := Heap.get?_update_self (Obj.mapFields (·.setIfInBounds 0 (rawInt (slot' : Int)))) hoI (Obj.isFreed_of_fields (Obj.data_mapFields hd _))
  refine wpAny_bind (wpAny_setField h1 (Obj.data_mapFields hd _) (by simp) ?_)
  have h2 := Heap.get?_update_self (Obj.mapFields (·.setIfInBounds 1 (rawInt ((i : Int) + 1)))) h1 (Obj.isFreed_of_fields (Obj.data_mapFields (Obj.data_mapFields hd _) _))
  refine wpAny_pure ⟨_, rfl, wpAny_pure (hQ _ slot' e he hsl ⟨_, h2, (Obj.cls_mapFields ..).trans ((Obj.cls_mapFields ..).trans hc), ?_⟩ ((Heap.SameBut.update ..).trans (Heap.SameBut.update ..)))⟩
  rw [Obj.data_mapFields (Obj.data_mapFields hd _)]
  simp [rawInt]
theorem pyNext_set_end {Q : Option Value → Shared → Prop} (hh : A.handled = none) (hit : IsSetIter s.heap I sa slot i (smEs a b m).size ep) (ho : s.heap.get? sa = some (smObj ep led a b m)) (hled : led = !byText w) (hs : byText w = false → SetTable.below (smPl a b m) slot = i) (hi : i = (smEs a b m).size)
    (hQ : ∀ h', Heap.ExtBut I s.heap h' → Q none { s with heap := h' }) :
    wpAny (model prog w) A (pyNext (.ref I)) Q E s := by
  obtain ⟨o, hoI, hc, hd⟩ := id hit
  unfold pyNext
  refine wpAny_bind (wpAny_attempt (wpAny_callSpecial?_slot (name := Str.ofString "__next__") hit.typeIs slot_si_next
    (wpAny_call_entry slot_si_next hit.typeIs entry_si_next ?_ (args_si_next _))))
  unfold Builtin.«set_iterator.__next__»
  refine wpAny_bind (wpAny_pure ?_)
  refine wpAny_bind (wpAny_fieldsOf hoI hd ?_)
  refine wpAny_bind (wpAny_setEntries_of ho rfl (sm_fits _ a b m) ?_)
  refine wpAny_ite_split (fun q => absurd q (by simp)) (fun _ => ?_)
  show wpAny _ _ (setNext sa ((slot : Nat) : Int).toNat ((i : Nat) : Int).toNat ((ep : Nat) : Int).toNat >>= _) _ _ _
  simp only [Int.toNat_natCast]
  refine wpAny_bind (sm_next_end ho hled hs hi ?_)
  dsimp only
  refine wpAny_bind (wpAny_setField hoI hd (by simp) ?_)
  show wpAny _ _ (newExc (.type "StopIteration") [] >>= _) _ _ _
  refine wpAny_bind ?_
  simp only [newExc, newTuple]
  refine wpAny_bind (wpAny_newObj_type ?_ (by size_fits))
  refine wpAny_bind (m := firstArgMember _ _) (wpAny_of_eq (a := Value.none) (by first | rfl | (simp only [firstArgMember]; rfl)) ?_)
  refine wpAny_newObj_type ?_ (by size_fits)
  simp only [raiseNew]
  refine wpAny_bind (wpAny_handled ?_)
  rw [show A.in1.handled = none from hh]
  refine wpAny_bind (wpAny_pure (wpAny_throw ?_))
  refine wpAny_bind (wpAny_isInstance (T := "StopIteration") (b := true) ⟨_, Heap.get?_push_size _ rfl, rfl⟩ isSubtype_stop ?_)
  exact wpAny_pure (hQ _ (((Heap.SameBut.update ..).extBut.push _).push _))
theorem pyIter_si {Q : Value → Shared → Prop} {n : Nat} (hit : IsSetIter s.heap I sa slot i n ep) (h : Q (.ref I) s) : wpAny (model prog w) A (pyIter (.ref I)) Q E s := by
  refine wpAny_pyIter_slot hit.typeIs slot_si_iter (wpAny_call_entry slot_si_iter hit.typeIs entry_si_iter ?_ (args_si_iter _))
  show wpAny _ _ (ret (.ref I)) _ _ s
  exact wpAny_pure ⟨_, rfl, "set_iterator", _, hit.typeIs, slot_si_next.lookup, h⟩
theorem pyIter_set {Q : Value → Shared → Prop} (ho : s.heap.get? sa = some (smObj ep led a b m))
    (hQ : Q (.ref s.heap.objs.size) { s with heap := s.heap.push { cls := .type "set_iterator", data := .fields #[.int 0 0, .int 0 0, .ref sa, .int (smEs a b m).size 0, .int ep 0] } }) :
    wpAny (model prog w) A (pyIter (.ref sa)) Q E s := by
  have hT : s.TypeIs (.ref sa) "set" := ⟨_, ho, rfl⟩
  refine wpAny_pyIter_slot hT F.slot_set_iter (wpAny_call_entry F.slot_set_iter hT entry_set_iter ?_ (F.args_set_iter_1 _))
  unfold Builtin.«frozenset.__iter__»
  refine wpAny_bind (m := Builtin.Frozenset.slot0 _ _) (wpAny_pure ?_)
  unfold Builtin.Frozenset.sizeOf
  refine wpAny_bind (wpAny_bind (wpAny_setEntries_of ho rfl (sm_fits _ a b m) (wpAny_pure ?_)))
  refine wpAny_bind ?_
  unfold setDrawn
  refine wpAny_bind (wpAny_setState_of ho rfl (sm_fits _ a b m) ?_)
  refine wpAny_bind (setsByText_of (wpAny_pure ?_))
  dsimp only
  refine wpAny_ite_split (fun q => absurd ((Bool.and_eq_true _ _ ▸ q : _ ∧ _).2) Bool.false_ne_true) (fun _ => wpAny_bind (wpAny_pure ?_))
  refine wpAny_bind (m := setEpoch sa) (wpAny_setEpoch_of ho rfl (sm_fits _ a b m) ?_)
  refine wpAny_bind (m := newFields _ _) (wpAny_newObj_type (wpAny_pure ⟨_, rfl, "set_iterator", _, ⟨_, Heap.get?_push_size _ rfl, rfl⟩, slot_si_next.lookup, ?_⟩))
  exact hQ
theorem walks_set (hh : A.handled = none) (hne : sa ≠ I) (hled : led = !byText w) : Walks prog w A I [I, sa] [I] (smEs a b m).size (fun i v => ∃ e, (smW w sa ep (smEs a b m))[i]? = some e ∧ v = e.2)
    (fun i h => (∃ slot, IsSetIter h I sa slot i (smEs a b m).size ep ∧ (byText w = false → SetTable.below (smPl a b m) slot = i)) ∧ h.get? sa = some (smObj ep led a b m)) where
  sub := fun b hb => by simp at hb; simp [hb]
  frame := fun _ _ _ ⟨⟨sl, h1, h2⟩, h3⟩ hk => ⟨⟨sl, h1.at fun o e => hk I (by simp) o e, h2⟩, hk sa (by simp) _ h3⟩
  item := fun i s Q E hi ⟨⟨sl, h1, h2⟩, h3⟩ hQ => pyNext_set_item h1 hne h3 hled h2 hi fun h' sl' e he hsl hit hs' =>
    hQ _ h' s.toks ⟨e, he, rfl⟩ ⟨⟨sl', hit, hsl⟩, (hs'.2 sa hne).trans h3⟩ fun b o hb q => (hs'.2 b (fun x => hb (by simp [x]))).trans q
  done := fun s Q E ⟨⟨sl, h1, h2⟩, h3⟩ hQ => pyNext_set_end hh h1 h3 hled h2 rfl fun h' he => hQ h' s.toks fun b o hb q => he b o (fun x => hb (by simp [x])) q
  self := fun _ _ _ _ ⟨⟨_, h1, _⟩, _⟩ hQ => pyIter_si h1 hQ
theorem hint_set {r : Addr} {Q : Bool → Shared → Prop} (hT : s.TypeIs (.ref r) "set") (h : Q false s) : wpAny (model prog w) A (Builtin.List.listLengthHint (.ref r)) Q E s := by
  unfold Builtin.List.listLengthHint
  refine wpAny_bind (wpAny_specialOf hT PySem.F.slot_set_len.lookup ?_)
  generalize hid : ("set.__len__" : String) = id0
  wp_delta
  rw [show splitId id0 = some ("set", "__len__") from by subst hid; decide +kernel]
  subst hid
  refine wpAny_bind (wpAny_isInstance (T := "set") (b := true) hT (by rw [isSubtype_type]; kernel_rfl) ?_)
  refine wpAny_ite_split (fun hab => absurd hab (by decide)) (fun _ => ?_)
  refine wpAny_ite_split (fun _ => ?_) (fun hab => absurd (by decide +kernel) hab)
  refine wpAny_bind (wpAny_typeOf hT ?_)
  exact wpAny_pure h
theorem kdl_set (hled : led = !byText w) : KdlSrc prog w "set" sa sa (smEs a b m).size (fun i v => ∃ e, (smW w sa ep (smEs a b m))[i]? = some e ∧ v = e.2) (fun h => h.get? sa = some (smObj ep led a b m)) where
  type := fun _ hm => ⟨_, hm, rfl⟩
  there := fun _ hm => ⟨Heap.lt_size hm, Heap.lt_size hm⟩
  keep := fun _ _ hm hk => hk sa (.inl rfl) _ hm
  notList := by decide
  notTuple := by decide
  hint := fun _ _ _ _ hm hq => hint_set ⟨_, hm, rfl⟩ hq
  iter := fun _ s hh hm => ⟨_, _, (fun _ _ hq => pyIter_set hm hq), walks_set hh (Nat.ne_of_lt (Heap.lt_size hm)) hled, ⟨⟨0, ⟨_, Heap.get?_push_size _ rfl, rfl, rfl⟩, fun _ => below_0 a b m⟩, Heap.get?_push_of_some _ hm⟩⟩
end
end Mine
end
/-! ## part X3 -/
section
set_option maxRecDepth 100000
namespace Mine
open PySem PyProof.Rows PySem.W
variable {c : Cx} {ds : List D}

noncomputable abbrev B3 := Bool × Bool × Bool
noncomputable def badd (i : Int) (s : B3) : B3 := if i = 0 then (true, s.2.1, s.2.2) else if i = 1 then (s.1, true, s.2.2) else (s.1, s.2.1, true)
noncomputable def sbits (p : Nat → Bool) (e : Nat → Int) : Nat → B3
  | 0 => (false, false, false)
  | n + 1 => if p n then badd (e n) (sbits p e n) else sbits p e n
noncomputable def slist (s : B3) : List Int := (if s.2.2 then [-1] else []) ++ (if s.1 then [0] else []) ++ (if s.2.1 then [1] else [])
noncomputable def obits (a b m : Option Tok) : B3 := (a.isSome, b.isSome, m.isSome)
theorem obits_add (i : Int) (t : Tok) (a b m : Option Tok) : obits (smAdd i t (a, b, m)).1 (smAdd i t (a, b, m)).2.1 (smAdd i t (a, b, m)).2.2 = badd i (obits a b m) := by
  unfold smAdd badd obits
  split
  · cases a <;> rfl
  · split
    · cases b <;> rfl
    · cases m <;> rfl
noncomputable def setO (w : World) (s : B3) (o : Obj) : Prop := ∃ ep a b m led, o = smObj ep led a b m ∧ led = !byText w ∧ obits a b m = s
noncomputable def setP (w : World) (s : B3) (g : Fz) (v : Value) : Prop := ∃ sa o, v = .ref sa ∧ g sa o ∧ setO w s o
noncomputable abbrev D.set (w : World) (s : B3) : D := .any (setP w s)

theorem collect_set {prog : Program} {w : World} {A : Around} {E : Value → Shared → Prop} {s : Shared} {sa : Addr} {ep : Nat} {led : Bool} {a b m : Option Tok} {Q : List Value → Shared → Prop} (hh : A.handled = none) (ho : s.heap.get? sa = some (smObj ep led a b m)) (hled : led = !byText w)
    (h : ∀ h' tk vs, (∀ b o, s.heap.get? b = some o → h'.get? b = some o) → vs = (smW w sa ep (smEs a b m)).toList.map (·.2) → Q vs { s with heap := h', toks := tk }) : wpAny (model prog w) A (collect (.ref sa)) Q E s := by
  unfold collect
  refine wpAny_bind (wpAny_runValue (codeAny_builtin F.entry_proto_collect ?_))
  rw [Around.under_plainId F.plain_proto_collect _]
  show wpAny _ A.in1 (newList [] >>= fun l => again (.builtin "list.__iadd__" ⟨[l, .ref sa], []⟩)) _ _ s
  refine wpAny_bind (wpAny_newObj_type ?_)
  refine wpAny_pure ⟨plainId_quiet F.plain_list_iadd _, codeAny_builtin F.entry_list_iadd ?_⟩
  rw [Around.under_plainId F.plain_list_iadd _]
  show wpAny _ A.in1 (Builtin.List.listExtendWith (.ref s.heap.objs.size) (.ref sa) (.ref s.heap.objs.size)) _ _ _
  have fin : ∀ (s' : Shared) (acc' : Array Value) (c' : Nat), s'.heap.get? s.heap.objs.size = some { cls := .type "list", dict := none, data := .seq acc' c', slots := #[] } → Q acc'.toList s' →
      wpAny (model prog w) A (load s.heap.objs.size >>= fun o => match o.data with | .seq xs _ => pure xs.toList | _ => unsupported "internal:collect") Q E s' := fun s' acc' c' hS hq => wpAny_bind (wpAny_load hS (wpAny_pure hq))
  have ns : s.heap.objs.size ≠ sa := (Nat.ne_of_lt (Heap.lt_size ho)).symm
  have R0 := kdl_extend (prog := prog) (w := w) (A := A) (R := fun r s' => ∃ acc' c', r = .ok (.ret (.ref s.heap.objs.size)) ∧ s'.heap.get? s.heap.objs.size = some { cls := .type "list", dict := none, data := .seq acc' c', slots := #[] } ∧ Q acc'.toList s')
    (s := { s with heap := s.heap.push { cls := .type "list", data := .seq ([] : List Value).toArray } }) (kdl_set (a := a) (b := b) (m := m) (ep := ep) (led := led) hled) hh (Heap.get?_push_of_some _ ho) s.heap.objs.size ns ns (.ref s.heap.objs.size) 0 (Heap.get?_push_size _ rfl)
    (fun h' tk acc' c' hk hS hacc => ⟨acc', c', rfl, hS, ?_⟩) (by rw [sizeLine_eq]; have := sm_small a b m; omega)
  · refine wpAny_mono R0 (fun fn s' hf => ?_) fun e s' ⟨_, _, q, _⟩ => by cases q
    cases fn with
    | done f =>
      obtain ⟨acc', c', q, hS, hq⟩ := hf
      cases q
      exact fin s' acc' c' hS hq
    | again cd =>
      refine ⟨hf.1, codeAny_mono hf.2 fun r s' hr => ?_⟩
      obtain ⟨acc', c', rfl, hS, hq⟩ := hr
      exact fin s' acc' c' hS hq
  refine h h' tk acc'.toList (fun b o q => hk b o (Nat.ne_of_lt (Heap.lt_size q)) (Heap.get?_push_of_some _ q)) ?_
  obtain ⟨h1, h2⟩ := hacc
  refine List.ext_getElem? fun i => ?_
  rw [List.getElem?_map]
  cases hv : acc'.toList[i]? with
  | none =>
    have hlt : acc'.size ≤ i := by simpa using hv
    rw [h1, ← smW_size w sa ep (smEs a b m)] at hlt
    rw [List.getElem?_eq_none (by simpa using hlt)]; rfl
  | some v =>
    obtain ⟨e, he, hv'⟩ := h2 i v (by rw [← Array.getElem?_toList]; exact hv)
    rw [Array.getElem?_toList, he, hv']; rfl

theorem perm_ints {l : List (Int × Value)} : ∀ {r : List (Int × Value)} (h : l.Perm r) {ns : List Int}, IntsAre (r.map (·.2)) ns → ∃ ns', IntsAre (l.map (·.2)) ns' ∧ ns'.Perm ns := by
  intro r h
  induction h with
  | nil => intro ns hI; exact ⟨ns, hI, .refl _⟩
  | @cons x l1 l2 hp ih =>
    intro ns hI
    simp only [List.map_cons] at hI ⊢
    generalize hx : x.2 = y at hI ⊢
    cases hI with
    | cons n t h =>
      obtain ⟨ns', h1, h2⟩ := ih h
      exact ⟨n :: ns', .cons n t h1, h2.cons n⟩
  | swap x y l =>
    intro ns hI
    simp only [List.map_cons] at hI ⊢
    generalize hx : x.2 = u at hI ⊢
    generalize hy : y.2 = v at hI ⊢
    cases hI with
    | cons n t h => cases h with
      | cons n' t' h => exact ⟨_, .cons _ _ (.cons _ _ h), List.Perm.swap ..⟩
  | trans _ _ ih1 ih2 =>
    intro ns hI
    obtain ⟨ns1, h1, p1⟩ := ih2 hI
    obtain ⟨ns2, h2, p2⟩ := ih1 h1
    exact ⟨ns2, h2, p2.trans p1⟩
theorem sm_ints (a b m : Option Tok) : IntsAre ((smEs a b m).toList.map (·.2)) ((if a.isSome then [0] else []) ++ (if b.isSome then [1] else []) ++ if m.isSome then [-1] else []) := by
  cases a <;> cases b <;> cases m <;> (simp only [smEs, sOf]; repeat (first | exact .nil | refine .cons _ _ ?_))
theorem slist_sorted (x y z : Bool) : (slist (x, y, z)).Pairwise (· ≤ ·) := by cases x <;> cases y <;> cases z <;> decide
theorem slist_perm (x y z : Bool) : (slist (x, y, z)).Perm ((if x then [0] else []) ++ (if y then [1] else []) ++ if z then [-1] else []) := by cases x <;> cases y <;> cases z <;> decide

theorem sorted_set {prog : Program} {w : World} {A : Around} {E : Value → Shared → Prop} {s : Shared} {sa : Addr} {ep : Nat} {led : Bool} {a b m : Option Tok} {Q : Value → Shared → Prop} (hh : A.handled = none) (ho : s.heap.get? sa = some (smObj ep led a b m)) (hled : led = !byText w)
    (h : ∀ (h' : Heap) tk vs (out : Array Value), (∀ b o, s.heap.get? b = some o → h'.get? b = some o) → IntsAre out.toList (slist (obits a b m)) → Q (.ref h'.objs.size) { s with heap := sortedHeap (h'.push (seqObj "list" vs 0)) h'.objs.size vs.toList out, toks := tk }) :
    wpAny (model prog w) A (call (.builtin "sorted") [.ref sa]) Q E s := by
  refine Calls.call_function_entry kind_sorted plain_sorted entry_sorted (args_sorted1 _) ?_
  unfold Builtin.«sorted»
  refine wpAny_bind (m := checkCount "sorted" 1 1 _) (wpAny_pure ?_)
  refine wpAny_bind (collect_set hh ho hled fun h' tk vs hk hv => ?_)
  obtain ⟨ns, hI, hp⟩ := perm_ints (smW_perm w sa ep (smEs a b m)) (sm_ints a b m)
  rw [← hv] at hI
  have hlv : vs.length ≤ 3 := by
    rw [hv, List.length_map]
    have := sm_small a b m
    rw [Array.length_toList, smW_size]; exact this
  refine wpAny_bind (wpAny_newList ?_ (by rw [sizeLine_eq]; omega))
  have hoL : (h'.push (seqObj "list" vs.toArray 0)).get? h'.objs.size = some (seqObj "list" vs.toArray 0) := Heap.get?_push_size _ rfl
  refine wpAny_bind (wpAny_holding (wpAny_call_entry slot_list_sort ⟨_, hoL, rfl⟩ entry_list_sort (list_sort_tree hoL hI (by omega) fun out ns' a1 a2 a3 => ⟨_, rfl, ?_⟩) (args_list_sort _)))
  have key : ns' = slist (obits a b m) := ((a2.trans hp).trans (slist_perm _ _ _).symm).eq_of_pairwise (fun a b _ _ h1 h2 => Int.le_antisymm h1 h2) a3 (slist_sorted _ _ _)
  have := h h' tk vs.toArray out hk (key ▸ a1)
  exact wpAny_pure ⟨_, rfl, this⟩
theorem sortedHeap_at {h : Heap} {a : Addr} {vs : List Value} {out : Array Value} (ho : h.get? a = some (seqObj "list" vs.toArray 0)) : ∃ e, (sortedHeap h a vs out).get? a = some { cls := .type "list", data := .seq out e } := by
  unfold sortedHeap
  have h1 := Heap.get?_update_self (Obj.mapSeq fun _ => (#[] : Array Value)) ho rfl
  have h2 := Heap.get?_push_of_some (seqObj "tuple" vs.toArray 0) h1
  have h3 := Heap.get?_push_of_some (seqObj "list" #[] 0) h2
  have h4 := Heap.get?_update_self (Obj.mapSeq fun _ => out) h3 rfl
  exact ⟨_, h4⟩
theorem sortedHeap_old {h : Heap} {a b : Addr} {vs : List Value} {out : Array Value} {o : Obj} (hne : b ≠ a) (ho : h.get? b = some o) : (sortedHeap h a vs out).get? b = some o := by
  unfold sortedHeap
  exact (Heap.get?_update_ne _ _ _ _ hne).trans (Heap.get?_push_of_some _ (Heap.get?_push_of_some _ ((Heap.get?_update_ne _ _ _ _ hne).trans ho)))
theorem ext_sorted {X : Addr → Prop} {H : Heap} {s : Shared} {h' : Heap} {tk : Nat} {vs : Array Value} {out : Array Value} {ns : List Int} (B : Base H X s.heap) (hk : ∀ b o, s.heap.get? b = some o → h'.get? b = some o) (hI : IntsAre out.toList ns) :
    Ext s { s with heap := sortedHeap (h'.push (seqObj "list" vs 0)) h'.objs.size vs.toList out, toks := tk } ∧ (D.ints ns).rep (fz X (sortedHeap (h'.push (seqObj "list" vs 0)) h'.objs.size vs.toList out)) (.ref h'.objs.size) := by
  have dL : s.heap.get? h'.objs.size = none := by
    cases e : s.heap.get? h'.objs.size with
    | none => rfl
    | some o => exact absurd (Heap.lt_size (hk _ _ e)) (Nat.lt_irrefl _)
  have hoL : (h'.push (seqObj "list" vs 0)).get? h'.objs.size = some (seqObj "list" vs.toList.toArray 0) := by rw [Array.toArray_toList]; exact Heap.get?_push_size _ rfl
  obtain ⟨e, he⟩ := sortedHeap_at (out := out) hoL
  have hkeep : ∀ b o, s.heap.get? b = some o → (sortedHeap (h'.push (seqObj "list" vs 0)) h'.objs.size vs.toList out).get? b = some o := fun b o q => by
    have hne : b ≠ h'.objs.size := fun x => by rw [x, dL] at q; cases q
    exact sortedHeap_old hne (Heap.get?_push_of_some _ (hk b o q))
  refine ⟨⟨Keep.of hkeep, rfl, id⟩, ?_⟩
  exact ⟨h'.objs.size, out, e, rfl, ⟨B.fresh dL, he⟩, intsAre_rep hI⟩
theorem call_sorted_set {st : B3} (R : Room c.A 1) : CallD c (.val (.builtin "sorted")) [D.set c.w st] [] (.ints (slist st)) := by
  intro s E v vs ks B hv hvs hks
  rw [of_val hv]
  obtain ⟨u, e, hu⟩ := repAll1 hvs
  obtain ⟨g₀, le, hp⟩ := hu
  obtain ⟨sa, o, e1, hr, hs⟩ := hp
  obtain ⟨ep, a, b, m, led, e2, hled, hb⟩ := hs
  rw [e, e1]
  have hr := (le _ _ hr).2
  rw [e2] at hr
  show wpAny _ _ (call (.builtin "sorted") [.ref sa]) _ _ _
  refine sorted_set R.handled hr hled fun h' tk vs out hk hI => ?_
  rw [hb] at hI
  exact ext_sorted B hk hI

section
variable {elt target iter : Expr} {ifs : List Expr} {scope : Scope} {pos : Pos} {tt : Bool} {items : List D}
theorem set_emits {D' : Addr} {ds₂ : List D} {st : B3} {i : Int} {p : Pos} (h : Ev c ds₂ elt (.int i)) (hi : i = 0 ∨ i = 1 ∨ i = -1) : Emits c ds₂ D' (do let v ← eval elt c.env; standAt p; let _ ← call (.builtin "set.add") [.ref D', v]) (fun _ o => setO c.w st o) (fun _ o => setO c.w (badd i st) o) := by
  intro s E o S ho hP
  refine wpAny_bind (wpAny_mono (h.run s E S) (fun v s1 zz => ?_) fun _ _ x => x)
  obtain ⟨e1, r1⟩ := zz
  obtain ⟨ep, a, b, m, led, e2, hled, hb⟩ := hP
  obtain ⟨t, hv⟩ := r1
  rw [e2] at ho
  rw [hv]
  have nt : ¬ tb D' := fun t => by
    rcases t with rfl | rfl
    · obtain ⟨ps, e, _⟩ := S.base.tabs.t1; rw [ho] at e; cases e
    · obtain ⟨ps, e, _⟩ := S.base.tabs.t2; rw [ho] at e; cases e
  have ho1 := e1.keep.get D' _ nt ho
  refine wpAny_bind (wpAny_standAt ?_)
  refine wpAny_bind (sm_add ho1 hi fun h' ep' sb hp => ?_)
  refine wpAny_pure ⟨s1, h', s1.toks + 1, e1, rfl, sb, _, hp, ep', _, _, _, led, rfl, hled, ?_⟩
  rw [obits_add, hb]
theorem wpAny_newSet (s : Shared) (Q : Value → Shared → Prop) (E : Value → Shared → Prop) (k : ∀ oAcc : Obj, oAcc.isFreed = false → setO c.w (false, false, false) oAcc → Q (.ref s.heap.objs.size) { s with heap := s.heap.push oAcc }) : wpAny c.M c.A (newSet (.type "set")) Q E s := by
  unfold newSet
  refine wpAny_bind (setsByText_of ?_)
  dsimp only
  simp only [newObj]
  exact wpAny_bind (wpAny_alloc (wpAny_pure (k _ rfl ⟨0, none, none, none, !byText c.w, rfl, rfl, rfl⟩)))
theorem eval_SetComp (elt gens scope pos) : eval (.SetComp elt gens scope pos) c.env = comprehension (.SetComp elt gens scope pos) scope c.env (firstIterPos gens pos) (newSet (.type "set")) (firstAsync gens) (firstIter gens c.env) := rfl
theorem ev_setcomp (own : List Str) (caps : List (Str × Nat)) (p : Nat → Bool) (e : Nat → Int) (hi : EvI c ds iter tt items) (he : ∀ i, i < items.length → p i = true → e i = 0 ∨ e i = 1 ∨ e i = -1) (st : Step c scope own caps ds target ifs items p fun c' ds' i => Ev c' ds' elt (.int (e i)))
    (ok : compOkB scope c.env c.ns own caps = true := by kernel_rfl) (ht : tgtOk tt target = true := by rfl) (hs : ∀ x, foldedSetIterable iter c.env x = pure x := by intro _; rfl) :
    Ev c ds (.SetComp elt [⟨target, iter, ifs, 0⟩] scope pos) (.set c.w (sbits p e items.length)) := .mk fun s E S => by
  show wpAny _ _ (eval _ _) _ _ _
  rw [eval_SetComp]
  show wpAny _ _ (comprehension (.SetComp elt [⟨target, iter, ifs, 0⟩] scope pos) scope c.env (firstIterPos [⟨target, iter, ifs, 0⟩] pos) (newSet (.type "set")) false (eval iter c.env)) _ _ _
  refine comp_all (own := own) (caps := caps) (use := none) (emit := fun acc env => do let v ← eval elt env; standAt elt.pos; let _ ← call (.builtin "set.add") [acc, v]) (fun i g o => setO c.w (sbits p e i) o) S rfl hs ok hi ht
    (fun s Q E k => wpAny_newSet s Q E fun oAcc hf hP => k oAcc hf fun _ => hP) (fun _ _ _ => ⟨⟨rfl, rfl, rfl⟩, fun _ => ⟨rfl, rfl⟩⟩) (fun I D env => rfl) (fun wr D C hCD i d hd => ?_) (fun i g g' o le h => h) ?_
  · obtain ⟨ds₂, h1, h2, h3, h4⟩ := st wr C i d hd
    have hlt := (List.getElem?_eq_some_iff.mp hd).1
    refine ⟨ds₂, p i, h1, h2, h3, fun hp => ?_, fun hp g o h => ?_⟩
    · have := set_emits (D' := D) (st := sbits p e i) (p := elt.pos) (h4 hp) (he i hlt hp)
      rw [show sbits p e (i + 1) = badd (e i) (sbits p e i) by rw [sbits, if_pos hp]]
      exact this
    · rw [show sbits p e (i + 1) = sbits p e i by rw [sbits, if_neg (by rw [hp]; simp)]]; exact h
  · intro s0 s' h' tk C D o m x0 x1 dC dD ne hn ho hP
    refine ⟨m, hn, fun h'' sb => ⟨x0.trans (ext_sameBut x1 dC hn sb), ?_⟩⟩
    have S0 := S.ext x0
    exact ⟨_, Fle.refl _, D, o, rfl, ⟨S0.base.fresh dD, (sb.2 D (Ne.symm ne)).trans ho⟩, hP⟩
end
end Mine
end
/-! ## part B4 -/
section
open PySem PySem.W PyProof.Rows
set_option maxRecDepth 100000
namespace Mine

theorem mid_up {lo hi : Nat} (h : lo < hi) : hi - ((lo + hi) / 2 + 1) < hi - lo := Nat.sub_lt_sub_left h (Nat.lt_succ_of_le (mid_ge h))
theorem mid_dn {lo hi : Nat} (h : lo < hi) : (lo + hi) / 2 - lo < hi - lo := Nat.sub_lt_sub_right (mid_ge h) (mid_lt h)
noncomputable def bsearch (p : Nat → Bool) (lo hi : Nat) : Nat :=
  if h : lo < hi then (if p ((lo + hi) / 2) then bsearch p ((lo + hi) / 2 + 1) hi else bsearch p lo ((lo + hi) / 2)) else lo
termination_by hi - lo
decreasing_by
  · exact mid_up h
  · exact mid_dn h
theorem bsearch_step (p : Nat → Bool) {lo hi : Nat} (h : lo < hi) : bsearch p lo hi = if p ((lo + hi) / 2) then bsearch p ((lo + hi) / 2 + 1) hi else bsearch p lo ((lo + hi) / 2) := by
  rw [bsearch, dif_pos h]
theorem bsearch_end (p : Nat → Bool) {lo hi : Nat} (h : ¬ lo < hi) : bsearch p lo hi = lo := by
  rw [bsearch, dif_neg h]

section
variable {c : Cx} {P : Params} {ds : List D}
theorem op_is_none_any {p : Fz → Value → Prop} (h : ∀ g v, p g v → ∃ a, v = .ref a) : Op2 c (compareOp .Is) (.any p) .none (.bool false) := by
  rintro s E v1 v2 B ⟨g, _, hp⟩ rfl
  obtain ⟨a, rfl⟩ := h _ _ hp
  exact PySem.is_none ⟨.refl s, rfl⟩
noncomputable abbrev KwB (l : List D) (kw : List (Str × D)) (c : Cx) (P : Params) (a : Addr) (bnd : List (Str × D)) : Prop :=
  ∀ (s : Shared) vs ks, Base c.H c.X s.heap → repAll (fz c.X s.heap) l vs → repAll (fz c.X s.heap) (kw.map Prod.snd) ks →
      ∃ binds, (∀ S, peek (KP P) S (bindArgs (fnAt (KP P) a) ⟨vs, (kw.map Prod.fst).zip ks⟩) = some binds) ∧ binds.map (·.1) = bnd.map (·.1) ∧ repAll (fz c.X s.heap) (bnd.map (·.2)) (binds.map (·.2))
noncomputable def HiOk (l : List D) (dh : D) (hi : Nat) : Prop := (dh = .none ∧ hi = l.length) ∨ (dh = .int (hi : Int) ∧ hi ≤ l.length)

section
variable {l0 : List D} {kw : List (Str × D)} {l : List D} {x : Int} {lo hi : Nat} {dh dk : D}

theorem mid_eq {lo hi : Nat} : ((lo : Int) + (hi : Int)) / 2 = (((lo + hi) / 2 : Nat) : Int) := by (first | lia | omega)

theorem bis_loop {c1 : Cx} {bodyIf : Stmt} {p1 p2 p3 p4 p5 p6 p7 p8 p9 p10 p11 : Pos} {u1} (p : Nat → Bool) (hloc : c1.Y c1.env.locals) (hns : c1.ns = (["a", "x", "lo", "hi", "key", "mid"] : List Str))
    (k1 : c1.env.kindOf "mid" = some .local) (hl : hi ≤ l.length) (hb : l.length ≤ 2 ^ 20) (dm : D)
    (hif : ∀ (lo hi : Nat), lo < hi → hi ≤ l.length → Ex c1 [.list l, .int x, .int lo, .int hi, dk, .int (((lo + hi) / 2 : Nat) : Int)] (exec bodyIf c1.env)
      (fun fl ds => fl = .next ∧ ds = if p ((lo + hi) / 2) then [.list l, .int x, .int (((lo + hi) / 2 + 1 : Nat) : Int), .int hi, dk, .int (((lo + hi) / 2 : Nat) : Int)] else [.list l, .int x, .int lo, .int (((lo + hi) / 2 : Nat) : Int), dk, .int (((lo + hi) / 2 : Nat) : Int)])) :
    Ex c1 [.list l, .int x, .int lo, .int hi, dk, dm] (exec (.While (.Compare (.Name "lo" p1) [.Lt] [.Name "hi" p2] p3) [.Assign [.Name "mid" p4] (.BinOp (.BinOp (.Name "lo" p5) .Add (.Name "hi" p6) p7) .FloorDiv (.Constant (.int 2) u1 p8) p9) p10, bodyIf] [] p11) c1.env)
      (fun fl ds => fl = .next ∧ ∃ hi' dm, ds = [.list l, .int x, .int (bsearch p lo hi : Nat), hi', dk, dm]) := by
  refine ex_while (fun n ds => ∃ (lo' hi' : Nat) (dm : D), ds = [.list l, .int x, .int lo', .int hi', dk, dm] ∧ n = hi' - lo' ∧ hi' ≤ l.length ∧ bsearch p lo' hi' = bsearch p lo hi) (hi - lo) ⟨lo, hi, dm, rfl, rfl, hl, rfl⟩ ?_
  rintro n _ ⟨lo', hi', dm, rfl, rfl, hle, hbs⟩
  refine ⟨decide ((lo' : Int) < hi'), evt_cmp (ev_name 2 (by rw [hns]; rfl) rfl rfl) (ev_name 3 (by rw [hns]; rfl) rfl rfl) op_lt, fun h => ?_, fun h => ?_⟩
  · have h : lo' < hi' := by simpa using h
    refine ex_cons (ex_assign 5 (((ev_bin (ev_bin (ev_name 2 (by rw [hns]; rfl) rfl rfl) (ev_name 3 (by rw [hns]; rfl) rfl rfl) op_add) ev_int (op_div (by decide) (by decide)))).cast (by rw [mid_eq])) (by rw [hns]; rfl) (owl hloc k1) ?_)
    refine ex_cons ((hif lo' hi' h hle).mono ?_)
    rintro _ _ ⟨rfl, rfl⟩
    refine ex_nil ?_
    have hs := bsearch_step p h
    cases hp : p ((lo' + hi') / 2) with
    | true =>
      rw [hp] at hs
      refine ⟨hi' - ((lo' + hi') / 2 + 1), mid_up h, (lo' + hi') / 2 + 1, hi', _, rfl, rfl, hle, ?_⟩
      rw [← hbs, hs]; rfl
    | false =>
      rw [hp] at hs
      refine ⟨(lo' + hi') / 2 - lo', mid_dn h, lo', (lo' + hi') / 2, _, rfl, rfl, Nat.le_trans (Nat.le_of_lt (mid_lt h)) hle, ?_⟩
      rw [← hbs, hs]; rfl
  · have h : ¬ lo' < hi' := by simpa using h
    refine ⟨rfl, .int hi', dm, ?_⟩
    rw [← hbs, bsearch_end p h]
end

theorem c_bl_plain {l0 : List D} {kw : List (Str × D)} {ns : List Int} {x : Int} {lo hi : Nat} {dh : D} (L : Law c P) (R : Room c.A 3) (hh : HiOk (ns.map D.int) dh hi) (hb : ns.length ≤ 1000) (h0 : lo ≤ 1000)
    (hbind : KwB l0 kw c P 99 [("a", .ints ns), ("x", .int x), ("lo", .int (lo : Int)), ("hi", dh), ("key", .none)]) : CallD c (.val (.ref 99)) l0 kw (.int ((bsearch (fun i => decide (ns.getD i 0 < x)) lo hi : Nat) : Int)) := by
  refine call_fn 99 ["a", "x", "lo", "hi", "key", "mid"] _ [.ints ns, .int x, .int lo, dh, .none, .unk] L (R.of_le (by decide)) hbind (by exact rfl) ?_
  intro L'
  have R1 : Room (c.fn P 99 L' ["a", "x", "lo", "hi", "key", "mid"]).A 2 := R.deeper _
  refine ex_cons (ex_if_false ((evt_cmp (nm 2) ev_int op_lt).cast (by simp)) (ex_nil ?_))
  refine ex_cons (Ex.mono (Q := fun fl ds => fl = .next ∧ ds = [.ints ns, .int x, .int lo, .int hi, .none, .unk] ∧ hi ≤ ns.length) ?_ ?_)
  · rcases hh with ⟨rfl, e⟩ | ⟨rfl, hle⟩
    · rw [List.length_map] at e
      subst e
      exact ex_if_true (evt_cmp (nm 3) ev_none op_is_none_none) (ex_cons (ex_assign 3 ((ev_call1 (ev_gb L.fn (.builtin "len")) (nm 0) kpr_builtin (call_len_l (by simp; (first | lia | omega)))).cast (by rw [List.length_map])) rfl (owl yl_fn (by kernel_rfl)) (ex_nil ⟨rfl, rfl, Nat.le_refl _⟩)))
    · exact ex_if_false (evt_cmp (nm 3) ev_none (op_is_none rfl)) (ex_nil ⟨rfl, rfl, by simpa using hle⟩)
  rintro _ _ ⟨rfl, rfl, hle⟩
  refine ex_cons (ex_if_true (evt_cmp (nm 4) ev_none op_is_none_none) ?_)
  refine ex_cons ((bis_loop (fun i => decide (ns.getD i 0 < x)) yl_fn rfl (by kernel_rfl) (by simpa using hle) (by simp; (first | lia | omega)) _ ?_).mono ?_)
  · intro lo hi hlt hle
    have hm : (lo + hi) / 2 < ns.length := by simp at hle; (first | lia | omega)
    refine ex_if (evt_cmp (ev_item (nm 0) (nm 5) hm (by (first | lia | omega))) (nm 1) op_lt) (fun h => ?_) (fun h => ?_)
    · exact ex_cons (ex_assign 2 (ev_bin (nm 5) ev_int op_add) rfl (owl yl_fn (by kernel_rfl)) (ex_nil ⟨rfl, by rw [if_pos h]; rfl⟩))
    · exact ex_cons (ex_assign 3 (nm 5) rfl (owl yl_fn (by kernel_rfl)) (ex_nil ⟨rfl, by rw [if_neg (by rw [h]; simp)]; rfl⟩))
  · rintro _ _ ⟨rfl, hi2, dm, rfl⟩
    exact ex_nil (ex_cons (ex_ret (nm 2) rfl))

theorem c_br_plain {l0 : List D} {kw : List (Str × D)} {ns : List Int} {x : Int} {lo hi : Nat} {dh : D} (L : Law c P) (R : Room c.A 3) (hh : HiOk (ns.map D.int) dh hi) (hb : ns.length ≤ 1000) (h0 : lo ≤ 1000)
    (hbind : KwB l0 kw c P 81 [("a", .ints ns), ("x", .int x), ("lo", .int (lo : Int)), ("hi", dh), ("key", .none)]) : CallD c (.val (.ref 81)) l0 kw (.int ((bsearch (fun i => !decide (x < ns.getD i 0)) lo hi : Nat) : Int)) := by
  refine call_fn 81 ["a", "x", "lo", "hi", "key", "mid"] _ [.ints ns, .int x, .int lo, dh, .none, .unk] L (R.of_le (by decide)) hbind (by exact rfl) ?_
  intro L'
  have R1 : Room (c.fn P 81 L' ["a", "x", "lo", "hi", "key", "mid"]).A 2 := R.deeper _
  refine ex_cons (ex_if_false ((evt_cmp (nm 2) ev_int op_lt).cast (by simp)) (ex_nil ?_))
  refine ex_cons (Ex.mono (Q := fun fl ds => fl = .next ∧ ds = [.ints ns, .int x, .int lo, .int hi, .none, .unk] ∧ hi ≤ ns.length) ?_ ?_)
  · rcases hh with ⟨rfl, e⟩ | ⟨rfl, hle⟩
    · rw [List.length_map] at e
      subst e
      exact ex_if_true (evt_cmp (nm 3) ev_none op_is_none_none) (ex_cons (ex_assign 3 ((ev_call1 (ev_gb L.fn (.builtin "len")) (nm 0) kpr_builtin (call_len_l (by simp; (first | lia | omega)))).cast (by rw [List.length_map])) rfl (owl yl_fn (by kernel_rfl)) (ex_nil ⟨rfl, rfl, Nat.le_refl _⟩)))
    · exact ex_if_false (evt_cmp (nm 3) ev_none (op_is_none rfl)) (ex_nil ⟨rfl, rfl, by simpa using hle⟩)
  rintro _ _ ⟨rfl, rfl, hle⟩
  refine ex_cons (ex_if_true (evt_cmp (nm 4) ev_none op_is_none_none) ?_)
  refine ex_cons ((bis_loop (fun i => !decide (x < ns.getD i 0)) yl_fn rfl (by kernel_rfl) (by simpa using hle) (by simp; (first | lia | omega)) _ ?_).mono ?_)
  · intro lo hi hlt hle
    have hm : (lo + hi) / 2 < ns.length := by simp at hle; (first | lia | omega)
    refine ex_if (evt_cmp (nm 1) (ev_item (nm 0) (nm 5) hm (by (first | lia | omega))) op_lt) (fun h => ?_) (fun h => ?_)
    · exact ex_cons (ex_assign 3 (nm 5) rfl (owl yl_fn (by kernel_rfl)) (ex_nil ⟨rfl, by rw [if_neg (by rw [h]; simp)]; rfl⟩))
    · exact ex_cons (ex_assign 2 (ev_bin (nm 5) ev_int op_add) rfl (owl yl_fn (by kernel_rfl)) (ex_nil ⟨rfl, by rw [if_pos (by rw [h]; rfl)]; rfl⟩))
  · rintro _ _ ⟨rfl, hi2, dm, rfl⟩
    exact ex_nil (ex_cons (ex_ret (nm 2) rfl))

theorem c_bl_key {l0 : List D} {kw : List (Str × D)} {l : List D} {x : Int} {lo hi n : Nat} {dh dk : D} {kf : Nat → Int} (L : Law c P) (R : Room c.A (n + 3)) (K : KeyD c dk l kf n) (hh : HiOk l dh hi) (hb : l.length ≤ 1000) (h0 : lo ≤ 1000)
    (hbind : KwB l0 kw c P 99 [("a", .list l), ("x", .int x), ("lo", .int (lo : Int)), ("hi", dh), ("key", dk)]) : CallD c (.val (.ref 99)) l0 kw (.int ((bsearch (fun i => decide (kf i < x)) lo hi : Nat) : Int)) := by
  refine call_fn 99 ["a", "x", "lo", "hi", "key", "mid"] _ [.list l, .int x, .int lo, dh, dk, .unk] L (R.of_le (by (first | lia | omega))) hbind (by exact rfl) ?_
  intro L'
  have R1 : Room (c.fn P 99 L' ["a", "x", "lo", "hi", "key", "mid"]).A (n + 2) := R.deeper _
  obtain ⟨pk, ek, hk⟩ := K.is
  refine ex_cons (ex_if_false ((evt_cmp (nm 2) ev_int op_lt).cast (by simp)) (ex_nil ?_))
  refine ex_cons (Ex.mono (Q := fun fl ds => fl = .next ∧ ds = [.list l, .int x, .int lo, .int hi, dk, .unk] ∧ hi ≤ l.length) ?_ ?_)
  · rcases hh with ⟨rfl, e⟩ | ⟨rfl, hle⟩
    · subst e
      exact ex_if_true (evt_cmp (nm 3) ev_none op_is_none_none) (ex_cons (ex_assign 3 (ev_call1 (ev_gb L.fn (.builtin "len")) (nm 0) kpr_builtin (call_len_l (by (first | lia | omega)))) rfl (owl yl_fn (by kernel_rfl)) (ex_nil ⟨rfl, rfl, Nat.le_refl _⟩)))
    · exact ex_if_false (evt_cmp (nm 3) ev_none (op_is_none rfl)) (ex_nil ⟨rfl, rfl, hle⟩)
  rintro _ _ ⟨rfl, rfl, hle⟩
  refine ex_cons (ex_if_false (evt_cmp (ev_name 4 rfl rfl (by rw [ek]; rfl)) ev_none (by rw [ek]; exact op_is_none_any hk)) ?_)
  refine ex_cons ((bis_loop (fun i => decide (kf i < x)) yl_fn rfl (by kernel_rfl) hle (by (first | lia | omega)) _ ?_).mono ?_)
  · intro lo hi hlt hle
    have hm : (lo + hi) / 2 < l.length := by (first | lia | omega)
    have hg : l[((((lo + hi) / 2 : Nat) : Int)).toNat]? = some l[(lo + hi) / 2] := by rw [Int.toNat_natCast]; exact List.getElem?_eq_getElem hm
    refine ex_if (evt_cmp (ev_call1 (ev_name 4 rfl rfl (by rw [ek]; rfl)) (ev_sub (nm 0) (nm 5) (op_item_list (by (first | lia | omega)) (by (first | lia | omega)) hg)) (K.kpr (c.fn P 99 L' ["a", "x", "lo", "hi", "key", "mid"]) rfl rfl rfl) (K.call (c.fn P 99 L' ["a", "x", "lo", "hi", "key", "mid"]) rfl rfl rfl (R1.of_le (by (first | lia | omega))) ((lo + hi) / 2) _ (List.getElem?_eq_getElem hm))) (nm 1) op_lt) (fun h => ?_) (fun h => ?_)
    · exact ex_cons (ex_assign 2 (ev_bin (nm 5) ev_int op_add) rfl (owl yl_fn (by kernel_rfl)) (ex_nil ⟨rfl, by rw [if_pos h]; rfl⟩))
    · exact ex_cons (ex_assign 3 (nm 5) rfl (owl yl_fn (by kernel_rfl)) (ex_nil ⟨rfl, by rw [if_neg (by rw [h]; simp)]; rfl⟩))
  · rintro _ _ ⟨rfl, hi2, dm, rfl⟩
    exact ex_nil (ex_cons (ex_ret (nm 2) rfl))

theorem c_br_key {l0 : List D} {kw : List (Str × D)} {l : List D} {x : Int} {lo hi n : Nat} {dh dk : D} {kf : Nat → Int} (L : Law c P) (R : Room c.A (n + 3)) (K : KeyD c dk l kf n) (hh : HiOk l dh hi) (hb : l.length ≤ 1000) (h0 : lo ≤ 1000)
    (hbind : KwB l0 kw c P 81 [("a", .list l), ("x", .int x), ("lo", .int (lo : Int)), ("hi", dh), ("key", dk)]) : CallD c (.val (.ref 81)) l0 kw (.int ((bsearch (fun i => !decide (x < kf i)) lo hi : Nat) : Int)) := by
  refine call_fn 81 ["a", "x", "lo", "hi", "key", "mid"] _ [.list l, .int x, .int lo, dh, dk, .unk] L (R.of_le (by (first | lia | omega))) hbind (by exact rfl) ?_
  intro L'
  have R1 : Room (c.fn P 81 L' ["a", "x", "lo", "hi", "key", "mid"]).A (n + 2) := R.deeper _
  obtain ⟨pk, ek, hk⟩ := K.is
  refine ex_cons (ex_if_false ((evt_cmp (nm 2) ev_int op_lt).cast (by simp)) (ex_nil ?_))
  refine ex_cons (Ex.mono (Q := fun fl ds => fl = .next ∧ ds = [.list l, .int x, .int lo, .int hi, dk, .unk] ∧ hi ≤ l.length) ?_ ?_)
  · rcases hh with ⟨rfl, e⟩ | ⟨rfl, hle⟩
    · subst e
      exact ex_if_true (evt_cmp (nm 3) ev_none op_is_none_none) (ex_cons (ex_assign 3 (ev_call1 (ev_gb L.fn (.builtin "len")) (nm 0) kpr_builtin (call_len_l (by (first | lia | omega)))) rfl (owl yl_fn (by kernel_rfl)) (ex_nil ⟨rfl, rfl, Nat.le_refl _⟩)))
    · exact ex_if_false (evt_cmp (nm 3) ev_none (op_is_none rfl)) (ex_nil ⟨rfl, rfl, hle⟩)
  rintro _ _ ⟨rfl, rfl, hle⟩
  refine ex_cons (ex_if_false (evt_cmp (ev_name 4 rfl rfl (by rw [ek]; rfl)) ev_none (by rw [ek]; exact op_is_none_any hk)) ?_)
  refine ex_cons ((bis_loop (fun i => !decide (x < kf i)) yl_fn rfl (by kernel_rfl) hle (by (first | lia | omega)) _ ?_).mono ?_)
  · intro lo hi hlt hle
    have hm : (lo + hi) / 2 < l.length := by (first | lia | omega)
    have hg : l[((((lo + hi) / 2 : Nat) : Int)).toNat]? = some l[(lo + hi) / 2] := by rw [Int.toNat_natCast]; exact List.getElem?_eq_getElem hm
    refine ex_if (evt_cmp (nm 1) (ev_call1 (ev_name 4 rfl rfl (by rw [ek]; rfl)) (ev_sub (nm 0) (nm 5) (op_item_list (by (first | lia | omega)) (by (first | lia | omega)) hg)) (K.kpr (c.fn P 81 L' ["a", "x", "lo", "hi", "key", "mid"]) rfl rfl rfl) (K.call (c.fn P 81 L' ["a", "x", "lo", "hi", "key", "mid"]) rfl rfl rfl (R1.of_le (by (first | lia | omega))) ((lo + hi) / 2) _ (List.getElem?_eq_getElem hm))) op_lt) (fun h => ?_) (fun h => ?_)
    · exact ex_cons (ex_assign 3 (nm 5) rfl (owl yl_fn (by kernel_rfl)) (ex_nil ⟨rfl, by rw [if_neg (by rw [h]; simp)]; rfl⟩))
    · exact ex_cons (ex_assign 2 (ev_bin (nm 5) ev_int op_add) rfl (owl yl_fn (by kernel_rfl)) (ex_nil ⟨rfl, by rw [if_pos (by rw [h]; rfl)]; rfl⟩))
  · rintro _ _ ⟨rfl, hi2, dm, rfl⟩
    exact ex_nil (ex_cons (ex_ret (nm 2) rfl))
end
end Mine
end
/-! ## part B5 -/
section
open PySem PySem.W PyProof.Rows
set_option maxRecDepth 100000
namespace Mine
section
variable {c : Cx} {P : Params} {ds : List D}
theorem op_and_nat {x y : Nat} : Op2 c (binaryOp .BitAnd) (.int x) (.int y) (.int ((x &&& y : Nat) : Int)) := by
  have := op_and (c := c) (x := (x : Int)) (y := (y : Int))
  rw [bitAnd_pp (Int.natCast_nonneg _) (Int.natCast_nonneg _)] at this
  exact this
theorem or_nat : ∀ x : Nat, x < 8 → ∀ y : Nat, y < 8 → Builtin.bitOr (x : Int) (y : Int) = ((x ||| y : Nat) : Int) := by decide
theorem op_or_nat {x y : Nat} (hx : x < 8) (hy : y < 8) : Op2 c (binaryOp .BitOr) (.int x) (.int y) (.int ((x ||| y : Nat) : Int)) := by
  have := op_or (c := c) (x := (x : Int)) (y := (y : Int))
  rw [or_nat x hx y hy] at this
  exact this
noncomputable def lawLeads (truth : List Int) (on off : Nat) : List Int := slist (sbits (fun m => ((m &&& (on ||| off) : Nat) : Int) == 0) (fun m => truth.getD (m ||| on) 0 - truth.getD (m ||| off) 0) 8)
theorem getD_01 {truth : List Int} (h01 : ∀ x ∈ truth, x = 0 ∨ x = 1) (i : Nat) : truth.getD i 0 = 0 ∨ truth.getD i 0 = 1 := by
  rw [List.getD_eq_getElem?_getD]
  cases h : truth[i]? with
  | none => exact .inl rfl
  | some x => exact h01 x (List.mem_of_getElem? h)
theorem c_leads (L : Law c P) (R : Room c.A 4) (truth : List Int) (ht : truth.length = 8) (h01 : ∀ x ∈ truth, x = 0 ∨ x = 1) (on off : Nat) (hon : on < 8) (hoff : off < 8) :
    CallD c (.val (.ref 147)) [.ints truth, .int on, .int off] [] (.ints (lawLeads truth on off)) := by
  refine call_fn 147 ["truth", "on", "off"] [("truth", .ints truth), ("on", .int on), ("off", .int off)] [.ints truth, .int on, .int off] L (R.of_le (by decide)) ?_ (by exact rfl) ?_
  · intro s vs ks B r1 r2
    cases repAll0 r2
    obtain ⟨v, v2, v3, rfl, r, r', r''⟩ := repAll3 r1
    exact ⟨[("truth", v), ("on", v2), ("off", v3)], fun _ => by kernel_rfl, rfl, r, r', r'', trivial⟩
  intro L'
  have R1 : Room (c.fn P 147 L' ["truth", "on", "off"]).A 3 := R.deeper _
  refine ex_cons (ex_ret (ev_call1 (ev_gb L.fn (.builtin "sorted")) ((ev_setcomp ["mask"] [("truth", 0), ("on", 1), ("off", 2)] (fun m => ((m &&& (on ||| off) : Nat) : Int) == 0) (fun m => truth.getD (m ||| on) 0 - truth.getD (m ||| off) 0) (evi_range (n := 8) (R1.of_le (by decide)) (ev_gb L.fn (.type "range")) ev_int (by decide)) ?_ ?_).cast (by rw [upTo_length])) kpr_builtin (call_sorted_set (R1.of_le (by decide)))) rfl)
  · intro i hi _
    rcases getD_01 h01 (i ||| on) with h | h <;> rcases getD_01 h01 (i ||| off) with h' | h' <;> rw [h, h'] <;> simp
  intro wr C i d hd
  obtain ⟨hi, rfl⟩ := upTo_get hd
  have b1 : i ||| on < 2 ^ 3 := Nat.or_lt_two_pow (by (first | lia | omega)) (by (first | lia | omega))
  have b2 : i ||| off < 2 ^ 3 := Nat.or_lt_two_pow (by (first | lia | omega)) (by (first | lia | omega))
  refine ⟨_, as_name 0 rfl (owl yl_comp rfl), ⟨.inl rfl, .inr rfl, .inr rfl, .inr rfl, trivial⟩, test_one (evt_cmp (ev_bin (nm 0) (ev_bin (nm 2) (nm 3) (op_or_nat hon hoff)) op_and_nat) ev_int op_eq), fun _ => ?_⟩
  exact ev_bin (ev_item (nm 1) (ev_bin (nm 0) (nm 2) (op_or_nat hi hon)) (by (first | lia | omega)) (by (first | lia | omega))) (ev_item (nm 1) (ev_bin (nm 0) (nm 3) (op_or_nat hi hoff)) (by (first | lia | omega)) (by (first | lia | omega))) op_sub

theorem itd_vals_get {l : List Int} {i : Nat} {d : D} (h : (l.map D.int)[i]? = some d) : i < l.length ∧ d = .int (l.getD i 0) := by
  rw [List.getElem?_map] at h
  cases e : l[i]? with
  | none => rw [e] at h; cases h
  | some x =>
    rw [e] at h; cases h
    exact ⟨(List.getElem?_eq_some_iff.mp e).1, by rw [List.getD_eq_getElem?_getD, e]; rfl⟩
theorem c_count (L : Law c P) (R : Room c.A 3) (ks : List Int) (vs : List Int) (hv : vs.length ≤ 1000) : CallD c (.val (.ref 63)) [.dict ks (vs.map D.int)] [] (.int vs.sum) := by
  refine call_fn 63 ["callers", "nc", "calls"] [("callers", .dict ks (vs.map D.int))] [.dict ks (vs.map D.int), .unk, .unk] L (R.of_le (by decide)) ?_ (by exact rfl) ?_
  · intro s vs ks B r1 r2
    cases repAll0 r2
    obtain ⟨v, rfl, r⟩ := repAll1 r1
    exact ⟨[("callers", v)], fun _ => by kernel_rfl, rfl, r, trivial⟩
  intro L'
  have R1 : Room (c.fn P 63 L' ["callers", "nc", "calls"]).A 2 := R.deeper _
  have hy := yl_fn (c := c) (P := P) (a := 63) (L := L') (ns := ["callers", "nc", "calls"])
  refine ex_cons (ex_assign 1 ev_int rfl (owl hy (by kernel_rfl)) ?_)
  refine ex_cons (ex_for (Inv := fun i ds => ∃ d, ds = [.dict ks (vs.map D.int), .int (vs.take i).sum, d]) (evi (ev_values (nm 0)) (itd_values (tt := false) (R1.of_le (by decide)))) rfl ⟨_, rfl⟩ ?_ ?_ (R1.of_le (by decide)))
  · rintro wr i d _ hd ⟨x, rfl⟩
    obtain ⟨hi, rfl⟩ := itd_vals_get hd
    refine ⟨_, as_name 2 rfl (owl hy (by kernel_rfl)), ?_⟩
    refine ex_cons (ex_aug 1 rfl rfl rfl (nm 2) op_iadd (owl hy (by kernel_rfl)) (ex_nil ⟨.int (vs.getD i 0), ?_⟩))
    · show [_, D.int ((vs.take i).sum + vs.getD i 0), _] = _
      rw [List.take_succ, List.sum_append, List.getD_eq_getElem?_getD]
      cases vs[i]? <;> simp
  · rintro _ ⟨x, rfl⟩
    refine ex_cons (ex_ret (nm 1) ?_)
    show D.int _ = _
    rw [List.take_of_length_le (by simp)]
end
end Mine
end
/-! ## part B6 -/
section
open PySem PySem.W PyProof.Rows
set_option maxRecDepth 100000
namespace Mine
section
variable {c : Cx} {P : Params} {ds : List D}
noncomputable abbrev WE := List Int × Int
noncomputable def lnew (truth w : List Int) (m : Nat) : List Int := (List.range 4).map fun k => w.getD k 0 + (if ((k : Int) == 3 || (bit m k : Int) != 0) then (if truth.getD m 0 != 0 then -1 else 1) else 0)
noncomputable def lerr (truth w : List Int) (m : Nat) : Bool := decide (lawSum w m < 256) != (truth.getD m 0 == 1)
noncomputable def lstep (truth : List Int) (s : WE) (m : Nat) : WE := if lerr truth s.1 m then (lnew truth s.1 m, s.2 + 1) else s
noncomputable def lp (truth : List Int) (s : WE) : Nat → WE
  | 0 => s
  | m + 1 => lstep truth (lp truth s m) m
noncomputable def lrn (truth : List Int) (s : WE) : Nat → WE
  | 0 => s
  | n + 1 => if (lp truth s 8).2 = s.2 then lp truth s 8 else lrn truth (lp truth s 8) n
noncomputable def lawLearned (truth : List Int) : WE := lrn truth ([0, 0, 0, 0], 0) 197
theorem sub_step {n i : Nat} (h : i < n) : n - i = n - (i + 1) + 1 := by omega
theorem lstep_len {truth : List Int} {s : WE} (h : s.1.length = 4) (m : Nat) : (lstep truth s m).1.length = 4 := by
  unfold lstep; split
  · simp [lnew]
  · exact h
theorem lp_len {truth : List Int} {s : WE} (h : s.1.length = 4) : ∀ m, (lp truth s m).1.length = 4
  | 0 => h
  | m + 1 => lstep_len (lp_len h m) m
theorem ints_map (f : Nat → Int) (n : Nat) : D.list (outs (fun _ => true) (fun i => .int (f i)) n) = .ints ((List.range n).map f) := by
  rw [outs_all]; simp [D.ints]

theorem owc_fn {a L' : Addr} {ns : List Str} {x : Str} (k : (c.fn P a L' ns).env.kindOf x = some .cell) (e : ((c.fn P a L' ns).env.cells.lookup x).isSome = true) : Owns (c.fn P a L' ns).env (c.fn P a L' ns).Y x := by
  obtain ⟨b, hb⟩ := Option.isSome_iff_exists.mp e
  exact .inr ⟨k, b, hb, mem_wrOf.mpr (.inr ⟨x, hb⟩)⟩
theorem c_learned (L : Law c P) (R : Room c.A 6) (truth : List Int) (ht : truth.length = 8) :
    CallD c (.val (.ref 152)) [.ints truth] [] (.tup [.ints (lawLearned truth).1, .int (lawLearned truth).2]) := by
  refine call_fn 152 ["truth", "weights", "errors", "turn", "before", "mask", "step"] [("truth", .ints truth)] [.ints truth, .unk, .unk, .unk, .unk, .unk, .unk] L (R.of_le (by decide)) ?_ (by exact rfl) ?_
  · intro s vs ks B r1 r2
    cases repAll0 r2
    obtain ⟨v, rfl, r⟩ := repAll1 r1
    exact ⟨[("truth", v)], fun _ => by kernel_rfl, rfl, r, trivial⟩
  intro L'
  have R1 : Room (c.fn P 152 L' ["truth", "weights", "errors", "turn", "before", "mask", "step"]).A 5 := R.deeper _
  have hy := yl_fn (c := c) (P := P) (a := 152) (L := L') (ns := ["truth", "weights", "errors", "turn", "before", "mask", "step"])
  have ow1 : Owns (c.fn P 152 L' ["truth", "weights", "errors", "turn", "before", "mask", "step"]).env (c.fn P 152 L' ["truth", "weights", "errors", "turn", "before", "mask", "step"]).Y "weights" := owc_fn (by kernel_rfl) (by kernel_rfl)
  have ow5 : Owns (c.fn P 152 L' ["truth", "weights", "errors", "turn", "before", "mask", "step"]).env (c.fn P 152 L' ["truth", "weights", "errors", "turn", "before", "mask", "step"]).Y "mask" := owc_fn (by kernel_rfl) (by kernel_rfl)
  have ow6 : Owns (c.fn P 152 L' ["truth", "weights", "errors", "turn", "before", "mask", "step"]).env (c.fn P 152 L' ["truth", "weights", "errors", "turn", "before", "mask", "step"]).Y "step" := owc_fn (by kernel_rfl) (by kernel_rfl)
  refine ex_cons (ex_assign_tup (d := .tup [.ints [0, 0, 0, 0], .int 0]) (ev_tup (evl_cons (ev_list (evl_cons ev_int (evl_cons ev_int (evl_cons ev_int (evl_cons ev_int evl_nil)))) (by decide)) (evl_cons ev_int evl_nil)) (by decide)) (as_tup (R1.of_le (by decide)) ⟨_, as_name 1 rfl ow1, _, as_name 2 rfl (owl hy (by kernel_rfl)), rfl⟩) ?_)
  refine ex_cons (ex_for (Inv := fun i ds => ∃ (s : WE) (d3 d4 d5 d6 : D), ds = [.ints truth, .ints s.1, .int s.2, d3, d4, d5, d6] ∧ s.1.length = 4 ∧ lrn truth s (197 - i) = lawLearned truth)
    (evi_range (n := 197) (R1.of_le (by decide)) (ev_gb L.fn (.type "range")) ev_int (by decide)) rfl ⟨([0, 0, 0, 0], 0), .unk, .unk, .unk, .unk, rfl, rfl, rfl⟩ ?_ ?_ (R1.of_le (by decide)))
  · rintro wr i d _ hd ⟨s, d3, d4, d5, d6, rfl, hlen, hinv⟩
    obtain ⟨hi, rfl⟩ := upTo_get hd
    refine ⟨_, as_name 3 rfl (owl hy (by kernel_rfl)), ?_⟩
    refine ex_cons (ex_assign 4 (nm 2) rfl (owl hy (by kernel_rfl)) ?_)
    refine ex_cons (ex_for (Inv := fun m ds => ∃ (d5 d6 : D), ds = [.ints truth, .ints (lp truth s m).1, .int (lp truth s m).2, .int i, .int s.2, d5, d6])
      (evi_range (n := 8) (R1.of_le (by decide)) (ev_gb L.fn.at (.type "range")) ev_int (by decide)) rfl ⟨_, _, rfl⟩ ?_ ?_ (R1.of_le (by decide)))
    · rintro wr' m d _ hd ⟨e5, e6, rfl⟩
      obtain ⟨hm, rfl⟩ := upTo_get hd
      have hl := lp_len (truth := truth) hlen m
      refine ⟨_, as_name 5 rfl ow5, ?_⟩
      refine ex_cons (ex_if (r := lerr truth (lp truth s m).1 m) (evt_cmp (ev_call1 (ev_gf L.fn.at 106) (ev_call2 (ev_gf L.fn.at 132) (nm 1) (nm 5) (kpr_fn L.fn.at 132) (c_sum L.fn.at (by exact R1.of_le (by decide)) _ hl m)) (kpr_fn L.fn.at 106) (c_isterm L.fn.at (by exact R1.of_le (by decide)) _)) (ev_cmp (ev_item (nm 0) (nm 5) (by (first | lia | omega)) (by (first | lia | omega))) ev_int op_eq) op_isnot_bool) (fun he => ?_) (fun he => ?_))
      · refine ex_cons (ex_aug 2 rfl rfl rfl ev_int op_iadd (owl hy (by kernel_rfl)) ?_)
        refine ex_cons (ex_assign (d := .int (if truth.getD m 0 != 0 then -1 else 1)) 6 (ev_ifexp (evt_sub (ev_item (nm 0) (nm 5) (by (first | lia | omega)) (by (first | lia | omega))) true_int) (fun h => (ev_un ev_int op_neg).cast (by rw [h]; rfl)) (fun h => ev_int.cast (by rw [h]; rfl))) rfl ow6 ?_)
        refine ex_cons (ex_assign 1 (ev_listcomp ["k"] [("weights", 1), ("mask", 5), ("step", 6)] (fun _ => true) (fun k => .int ((lp truth s m).1.getD k 0 + (if ((k : Int) == 3 || (bit m k : Int) != 0) then (if truth.getD m 0 != 0 then -1 else 1) else 0))) (evi_range (n := 4) (R1.of_le (by decide)) (ev_gb L.fn.at (.type "range")) ev_int (by decide)) ?_) rfl ow1 ?_)
        · intro wr C k d hd
          obtain ⟨hk, rfl⟩ := upTo_get hd
          refine ⟨_, as_name 0 rfl (owl yl_comp rfl), ⟨.inl rfl, .inr rfl, .inr rfl, .inr rfl, trivial⟩, test_nil, fun _ => ?_⟩
          refine ev_bin (ev_item (nm 1) (nm 0) (by (first | lia | omega)) (by (first | lia | omega))) (ev_ifexp (evt_boolop (allT_or_cons (evt_cmp (nm 0) ev_int op_eq) fun _ => allT_or_cons (evt_bin (ev_bit (nm 2) (nm 0)) true_int) fun _ => allT_or_nil)) (fun h => ?_) (fun h => ?_)) op_add
          · refine (nm 3).cast ?_
            rw [Bool.or_false] at h; rw [h]; rfl
          · refine ev_int.cast ?_
            rw [Bool.or_false] at h; rw [h]; rfl
        · refine ex_nil (ex_nil ⟨.int m, .int (if truth.getD m 0 != 0 then -1 else 1), ?_⟩)
          have e : lp truth s (m + 1) = (lnew truth (lp truth s m).1 m, (lp truth s m).2 + 1) := by rw [lp, lstep, if_pos he]
          rw [e, upTo_length, ints_map]
          rfl
      · refine ex_nil (ex_nil ⟨.int m, e6, ?_⟩)
        have e : lp truth s (m + 1) = lp truth s m := by rw [lp, lstep, if_neg (by rw [he]; simp)]
        rw [e]; rfl
    · rintro _ ⟨e5, e6, rfl⟩
      rw [upTo_length]
      have hn : 197 - i = (197 - (i + 1)) + 1 := sub_step (by (first | lia | omega))
      rw [hn, lrn] at hinv
      refine ex_cons (ex_if (evt_cmp (nm 2) (nm 4) op_eq) (fun h => ?_) (fun h => ?_))
      · have h : (lp truth s 8).2 = s.2 := by simpa using h
        rw [if_pos h] at hinv
        refine ex_cons (ex_break ?_)
        exact ex_cons (ex_ret (ev_tup (evl_cons (nm 1) (evl_cons (nm 2) evl_nil)) (Nat.le_of_ble_eq_true rfl)) (congrArg (fun z : WE => D.tup [.ints z.1, .int z.2]) hinv))
      · have h : (lp truth s 8).2 ≠ s.2 := by simpa using h
        rw [if_neg h] at hinv
        exact ex_nil (ex_nil ⟨lp truth s 8, _, _, _, _, rfl, lp_len hlen 8, hinv⟩)
  · rintro _ ⟨s, d3, d4, d5, d6, rfl, hlen, hinv⟩
    rw [upTo_length] at hinv
    rw [show lrn truth s (197 - 197) = s from rfl] at hinv
    exact ex_cons (ex_ret (ev_tup (evl_cons (nm 1) (evl_cons (nm 2) evl_nil)) (Nat.le_of_ble_eq_true rfl)) (congrArg (fun z : WE => D.tup [.ints z.1, .int z.2]) hinv))
end
end Mine
end
/-! ## part A18 -/
section
set_option maxRecDepth 100000
namespace Mine
open PySem PyProof.Rows
variable {c : Cx} {ds : List D}

theorem call_coreX {a : Addr} {o : Obj} {fd : FuncData} {body : List Stmt} {l : List Value} {kn : List Str} {ks : List Value} {s : Shared} {E : Value → Shared → Prop} {Q : Value → Shared → Prop} {binds : List (Str × Value)} (bnd : List (Str × D)) (ns : List Str) (R : Room c.A 1)
    (ho : c.H.get? a = some o) (hd : o.data = .func fd) (hlim : c.H.NoLimit) (hcd : c.H.CodeRec fd.code fd.qualname)
    (hbody : fd.body = .stmts body) (hclo : fd.closure = []) (hkind : fd.scope.kind = .function) (hco : fd.scope.isCoroutine = false) (hgen : fd.scope.isGenerator = false)
    (hglob : fd.globals = mainGlobals) (hblt : fd.builtins = builtinsNs)
    (hns : nsOkB fd.scope.names ns = true) (hbn : ((bnd.map (·.1)).all (keptB fd.scope.names) && decide (bnd.map (·.1)).Nodup) = true)
    (B : Base c.H c.X s.heap) (hb1 : BindsTo s fd ⟨l, kn.zip ks⟩ binds) (hb2 : binds.map (·.1) = bnd.map (·.1)) (hb3 : repAll (fz c.X s.heap) (bnd.map (·.2)) (binds.map (·.2)))
    (h : ∀ L s1, ExtF s s1 → (∀ b ∈ wrOf L (cellsFrom (L + 1) fd.scope.names []), s.heap.get? b = none) → (∀ b ∈ wrOf L (cellsFrom (L + 1) fd.scope.names []), Alive s1.heap b) →
      St (c.into (fnEnv fd a L (cellsFrom (L + 1) fd.scope.names [])) (wrOf L (cellsFrom (L + 1) fd.scope.names [])) ns) (ns.map fun x => (bnd.lookup x).getD .unk) s1 →
      wpAny (c.into (fnEnv fd a L (cellsFrom (L + 1) fd.scope.names [])) (wrOf L (cellsFrom (L + 1) fd.scope.names [])) ns).M (c.into (fnEnv fd a L (cellsFrom (L + 1) fd.scope.names [])) (wrOf L (cellsFrom (L + 1) fd.scope.names [])) ns).A
        (execs body (fnEnv fd a L (cellsFrom (L + 1) fd.scope.names []))) (fun f s2 => ∃ v, ((f = .next ∧ v = .none) ∨ f = .ret v) ∧ Q v s2) (fun e s' => wpAny c.M (c.A.deeper (fnEnv fd a L (cellsFrom (L + 1) fd.scope.names []))) (leaving (fnEnv fd a L (cellsFrom (L + 1) fd.scope.names [])) e) (fun _ s'' => E e s'') (fun e' s'' => E e' s'') s') s1) :
    codeAny c.M c.A (.call (.ref a) ⟨l, kn.zip ks⟩) (fun r s' => match r with | .ok (.ret v) => Q v s' | .ok _ => False | .error e => E e s') s := by
  have hdep : c.A.depth < recursionLimit := by have := R.depth; (first | lia | omega)
  refine codeAny_call_function hdep (B.h _ _ ho) hd hco hgen hbody (hcd.keeps B.h) (hb1 _ _ _ _ ?_)
  rw [hclo, hglob, hblt]
  have kept : ∀ x ∈ bnd.map (·.1), keptB fd.scope.names x = true := fun x hx => List.all_eq_true.mp (Bool.and_eq_true_iff.mp hbn).1 x hx
  have nodup : (binds.map (·.1)).Nodup := by rw [hb2]; exact of_decide_eq_true (Bool.and_eq_true_iff.mp hbn).2
  have cases_of : ∀ n x, keptB fd.scope.names x = true → fd.scope.names.lookup x = some .local ∨ (fd.scope.names.lookup x = some .cell ∧ ((cellsFrom n fd.scope.names []).lookup x).isSome = true) := fun n x hx => by
    unfold keptB at hx
    split at hx
    · rename_i e; exact .inl e
    · rename_i e; exact .inr ⟨e, cells_some (.inl e)⟩
    · cases hx
  refine wpAny_newFunctionEnv_cells hkind (fun x hx => cases_of _ x.1 (kept x.1 (hb2 ▸ List.mem_map.mpr ⟨x, hx, rfl⟩))) fun env he s1 I => ?_
  have he : env = fnEnv fd a s.heap.objs.size (cellsFrom (s.heap.objs.size + 1) fd.scope.names []) := by unfold fnEnv; rw [hglob, hblt]; exact he
  have hcells : env.cells = cellsFrom (s.heap.objs.size + 1) fd.scope.names [] := by rw [he]; rfl
  have hloc : env.locals = s.heap.objs.size := by rw [he]; rfl
  have hko : ∀ x, env.kindOf x = fd.scope.names.lookup x := fun x => by rw [he]; rfl
  refine ⟨hlim.keeps fun b o e => I.toInCall.keep b o (B.h b o e), codeAny_func ?_⟩
  have hE := h s.heap.objs.size s1
  rw [← he, ← hcells] at hE
  have above : ∀ x a, env.cells.lookup x = some a → s.heap.objs.size < a := fun x a e => by rw [← hloc]; exact I.above x a (mem_of_lookup e)
  have hf : ∀ b ∈ wrOf s.heap.objs.size env.cells, s.heap.get? b = none := fun b hb => by
    rcases mem_wrOf.mp hb with rfl | ⟨x, e⟩
    · exact get?_size_none _ _ (Nat.le_refl _)
    · exact get?_size_none _ _ (Nat.le_of_lt (above x b e))
  have lw : ∀ b ∈ wrOf s.heap.objs.size env.cells, Alive s1.heap b := fun b hb => by
    rcases mem_wrOf.mp hb with rfl | ⟨x, e⟩
    · obtain ⟨o, _, _, e, _⟩ := I.toInCall.ns; rw [hloc] at e; exact ⟨o, e⟩
    · obtain ⟨o, e, _⟩ := I.cell x b e; exact ⟨o, e⟩
  have ef : ExtF s s1 := by
    obtain ⟨h', tk, rfl, k⟩ := I.done
    exact ⟨k, rfl, id⟩
  have le : Fle (fz c.X s.heap) (fz (XW c.X (wrOf s.heap.objs.size env.cells)) s1.heap) := fle_grow (fun b o _ => ef.keep b o) hf
  have nt : ∀ b ∈ wrOf s.heap.objs.size env.cells, ¬ tb b := fun b hb x => by
    obtain ⟨o, e⟩ := B.tabs.alive x; rw [hf b hb] at e; cases e
  have S : St (c.into env (wrOf s.heap.objs.size env.cells) ns) (ns.map fun x => (bnd.lookup x).getD .unk) s1 := by
    refine ⟨⟨B.sys, fun a o x => ⟨?_, ef.keep a o (B.old a o x).2⟩, fun a x => ?_, B.tabs.mono (fun b o _ => ef.keep b o) le⟩, ⟨⟨?_, ?_, ?_, .inr ?_, ?_, fun x a e => ?_, I.apart, fun x hx => ?_, ?_⟩,
      fun x => if env.kindOf x = some .local then bindL env.kindOf binds (fun _ => none) x else bindC env.kindOf binds (fun _ => none) x, ⟨_, I.toInCall.ns, fun x hx => ?_⟩, fun x a e n => ?_, ?_⟩, fun a x => .inr x, .of_nil, fun a x => .inl x, fun _ h => by simp [Cx.into] at h⟩
    · rintro ((y | y) | y)
      · exact (B.old a o x).1 (.inl y)
      · have := (B.old a o x).2; rw [hf a y] at this; cases this
      · exact (B.old a o x).1 (.inr y)
    · rcases x with x | x
      · obtain ⟨o, e⟩ := B.live a x; exact ⟨o, ef.keep a o e⟩
      · exact lw a x
    · show env.scope.kind = _
      rw [he]; exact hkind
    · show env.globals = _
      rw [he]; exact hglob
    · show env.builtins = _
      rw [he]; exact hblt
    · show env.locals ∈ _
      rw [hloc]; exact mem_wrOf.mpr (.inl rfl)
    · show ¬ tb env.locals
      rw [hloc]; exact nt _ (mem_wrOf.mpr (.inl rfl))
    · exact nt _ (mem_wrOf.mpr (.inr ⟨x, e⟩))
    · have q := List.all_eq_true.mp (Bool.and_eq_true_iff.mp hns).1 x hx
      simp only [Bool.and_eq_true, Bool.not_eq_true'] at q
      refine ⟨?_, q.1.2, q.2⟩
      rcases cases_of (s.heap.objs.size + 1) x q.1.1 with y | ⟨y, z⟩
      · exact .inl ((hko x).trans y)
      · refine .inr ⟨.inl ((hko x).trans y), ?_⟩
        show ∃ c, env.cells.lookup x = some c
        rw [hcells]; exact Option.isSome_iff_exists.mp z
    · exact of_decide_eq_true (Bool.and_eq_true_iff.mp hns).2
    · show _ = (if env.kindOf x = some .local then _ else _)
      rw [if_pos (show env.kindOf x = some .local from hx)]
    · show s1.heap.IsCell a (if env.kindOf x = some .local then _ else _)
      rw [if_neg (show ¬ env.kindOf x = some .local from n)]; exact I.cell x a e
    · show slotsOk _ _ ns (List.take ns.length (ns.map fun x => (bnd.lookup x).getD .unk))
      rw [List.take_of_length_le (by simp)]
      refine slots_of fun x hx => ?_
      rw [bind_look nodup]
      have q := D.repO_mono le _ _ (lookup_bnd (x := x) hb2 hb3)
      cases hl : binds.lookup x with
      | some v => rw [hl] at q; exact q
      | none =>
        rw [hl] at q
        dsimp only
        have : (if env.kindOf x = some .local then (none : Option Value) else none) = none := by split <;> rfl
        rw [this]; exact q
  refine wpAny_mono (hE ef hf lw S) (fun f s2 zz => ?_) fun _ _ x => x
  obtain ⟨v, hv, hq⟩ := zz
  rcases hv with ⟨rfl, rfl⟩ | rfl
  · exact hq
  · exact hq
theorem call_coreC {a : Addr} {o : Obj} {fd : FuncData} {body : List Stmt} {l : List Value} {kn : List Str} {ks : List Value} {s : Shared} {E : Value → Shared → Prop} {Q : Value → Shared → Prop} {binds : List (Str × Value)} (bnd : List (Str × D)) (ns : List Str) (R : Room c.A 1)
    (ho : c.H.get? a = some o) (hd : o.data = .func fd) (hlim : c.H.NoLimit) (hcd : c.H.CodeRec fd.code fd.qualname)
    (hbody : fd.body = .stmts body) (hclo : fd.closure = []) (hkind : fd.scope.kind = .function) (hco : fd.scope.isCoroutine = false) (hgen : fd.scope.isGenerator = false)
    (hglob : fd.globals = mainGlobals) (hblt : fd.builtins = builtinsNs)
    (hns : nsOkB fd.scope.names ns = true) (hbn : ((bnd.map (·.1)).all (keptB fd.scope.names) && decide (bnd.map (·.1)).Nodup) = true)
    (B : Base c.H c.X s.heap) (hb1 : BindsTo s fd ⟨l, kn.zip ks⟩ binds) (hb2 : binds.map (·.1) = bnd.map (·.1)) (hb3 : repAll (fz c.X s.heap) (bnd.map (·.2)) (binds.map (·.2)))
    (h : ∀ L s1 E', ExtF s s1 → (∀ b ∈ wrOf L (cellsFrom (L + 1) fd.scope.names []), s.heap.get? b = none) → (∀ b ∈ wrOf L (cellsFrom (L + 1) fd.scope.names []), Alive s1.heap b) →
      St (c.into (fnEnv fd a L (cellsFrom (L + 1) fd.scope.names [])) (wrOf L (cellsFrom (L + 1) fd.scope.names [])) ns) (ns.map fun x => (bnd.lookup x).getD .unk) s1 →
      wpAny (c.into (fnEnv fd a L (cellsFrom (L + 1) fd.scope.names [])) (wrOf L (cellsFrom (L + 1) fd.scope.names [])) ns).M (c.into (fnEnv fd a L (cellsFrom (L + 1) fd.scope.names [])) (wrOf L (cellsFrom (L + 1) fd.scope.names [])) ns).A
        (execs body (fnEnv fd a L (cellsFrom (L + 1) fd.scope.names []))) (fun f s2 => ∃ v, ((f = .next ∧ v = .none) ∨ f = .ret v) ∧ Q v s2) E' s1) :
    codeAny c.M c.A (.call (.ref a) ⟨l, kn.zip ks⟩) (fun r s' => match r with | .ok (.ret v) => Q v s' | .ok _ => False | .error e => E e s') s :=
  call_coreX bnd ns R ho hd hlim hcd hbody hclo hkind hco hgen hglob hblt hns hbn B hb1 hb2 hb3 fun L s1 => h L s1 _
theorem call_core {a : Addr} {o : Obj} {fd : FuncData} {body : List Stmt} {l : List Value} {kn : List Str} {ks : List Value} {s : Shared} {E : Value → Shared → Prop} {Q : Value → Shared → Prop} {binds : List (Str × Value)} (bnd : List (Str × D)) (ns : List Str) (R : Room c.A 1)
    (ho : c.H.get? a = some o) (hd : o.data = .func fd) (hlim : c.H.NoLimit) (hcd : c.H.CodeRec fd.code fd.qualname)
    (hbody : fd.body = .stmts body) (hclo : fd.closure = []) (hkind : fd.scope.kind = .function) (hco : fd.scope.isCoroutine = false) (hgen : fd.scope.isGenerator = false)
    (hglob : fd.globals = mainGlobals) (hblt : fd.builtins = builtinsNs)
    (hns : nsOkB fd.scope.names ns = true) (hbn : ((bnd.map (·.1)).all (keptB fd.scope.names) && decide (bnd.map (·.1)).Nodup) = true)
    (B : Base c.H c.X s.heap) (hb1 : BindsTo s fd ⟨l, kn.zip ks⟩ binds) (hb2 : binds.map (·.1) = bnd.map (·.1)) (hb3 : repAll (fz c.X s.heap) (bnd.map (·.2)) (binds.map (·.2)))
    (h : ∀ L s1 E', ExtF s s1 → (∀ b ∈ wrOf L (cellsFrom (L + 1) fd.scope.names []), s.heap.get? b = none) → (∀ b ∈ wrOf L (cellsFrom (L + 1) fd.scope.names []), Alive s1.heap b) →
      St (c.into (fnEnv fd a L (cellsFrom (L + 1) fd.scope.names [])) (wrOf L (cellsFrom (L + 1) fd.scope.names [])) ns) (ns.map fun x => (bnd.lookup x).getD .unk) s1 →
      wpAny (c.into (fnEnv fd a L (cellsFrom (L + 1) fd.scope.names [])) (wrOf L (cellsFrom (L + 1) fd.scope.names [])) ns).M (c.into (fnEnv fd a L (cellsFrom (L + 1) fd.scope.names [])) (wrOf L (cellsFrom (L + 1) fd.scope.names [])) ns).A
        (execs body (fnEnv fd a L (cellsFrom (L + 1) fd.scope.names []))) (fun f s2 => ∃ v, ((f = .next ∧ v = .none) ∨ f = .ret v) ∧ Q v s2) E' s1) :
    wpAny c.M c.A (call (.ref a) l (kn.zip ks)) Q E s :=
  wpAny_call (call_coreC bnd ns R ho hd hlim hcd hbody hclo hkind hco hgen hglob hblt hns hbn B hb1 hb2 hb3 h)
end Mine
end
/-! ## part A19 -/
section
set_option maxRecDepth 100000
namespace Mine
open PySem PyProof.Rows
variable {c : Cx} {ds : List D}

noncomputable def flatO (d d' : D) : Prop := ∀ g g' o, d.repO g o → d'.repO g' o
theorem flat_unk {d : D} : flatO d .unk := fun _ _ _ _ => trivial
theorem flat_int {i : Int} : flatO (.int i) (.int i) := fun _ _ o h => by cases o <;> exact h
noncomputable abbrev D.at (a : Addr) (l : List D) : D := .any fun g v => v = .ref a ∧ (D.list l).rep g v
theorem at_list {g : Fz} {a : Addr} {l : List D} {v : Value} (h : (D.at a l).rep g v) : (D.list l).rep g v := by
  obtain ⟨g₀, le, _, h⟩ := h; exact D.rep_mono le _ _ h
theorem flat_at {a : Addr} {l : List D} : flatO (.at a l) (.val (.ref a)) := fun g g' o h => by
  cases o with
  | none => exact h
  | some u =>
    obtain ⟨g₀, le, e, _⟩ := (show (D.at a l).rep g u from h)
    subst e; exact D.repO_some rep_val
noncomputable def flats : List D → List D → Prop
  | [], [] => True
  | d :: l, d' :: l' => flatO d d' ∧ flats l l'
  | _, _ => False
theorem flats_slots {g g' : Fz} {look : Str → Option Value} : ∀ {ns : List Str} {l l' : List D}, flats l l' → slotsOk g look ns l → slotsOk g' look ns l'
  | [], [], [], _, _ => trivial
  | _ :: _, _ :: _, _ :: _, h, k => ⟨h.1 _ _ _ k.1, flats_slots h.2 k.2⟩
  | [], _ :: _, _, _, k => k.elim
  | _ :: _, [], _, _, k => k.elim
  | [], [], _ :: _, h, _ => h.elim
  | _ :: _, _ :: _, [], h, _ => h.elim
theorem ex_thaw {t : Sem Flow} {ds0 : List D} (dsF : List D) {Q : Fl → List D → Prop} (hF : ∀ s, St c ds0 s → St c.frz dsF s)
    (h : Ex c.frz dsF t (fun fl ds₁ => fl = .next ∧ ∃ ds₂, flats (ds₁.take c.ns.length) ds₂ ∧ ds₂.length = c.ns.length ∧ Q .next (ds₂ ++ ds0.drop c.ns.length))) : Ex c ds0 t Q := .mk fun s E S =>
  wpAny_mono (h.run s E (hF s S)) (fun f s' zz => by
    obtain ⟨fl, ds₁, r, b, e0, ds₂, hfl, hlen, q⟩ := zz
    subst e0
    have k0 := b.ext
    have k1 : ExtB c.Y s s' := k0.mono fun a x => x.1
    have k2 : KeepB c.X s.heap s'.heap := k1.keep.mono S.sub
    obtain ⟨_, look, hn, hcl, hs⟩ := b.st.fr
    refine ⟨.next, ds₂ ++ ds0.drop c.ns.length, r, ⟨⟨S.base.keep k2, ⟨S.fr.ok, look, hn, hcl, ?_⟩, S.sub, ⟨S.mem.ap, S.mem.nodup, fun j a d e1 e2 => ?_⟩, S.subR, S.memR⟩, k1⟩, q⟩
    · rw [List.take_append_of_le_length (by (first | lia | omega)), List.take_of_length_le (by (first | lia | omega))]
      exact flats_slots hfl hs
    · have ha := List.mem_of_getElem? e1
      rw [List.getElem?_append_right (by (first | lia | omega)), hlen, show c.ns.length + j - c.ns.length = j from Nat.add_sub_cancel_left .., List.getElem?_drop] at e2
      obtain ⟨o, e, hc⟩ := S.mem.ok j a d e1 e2
      exact ⟨o, k0.keep.keep a o (fun x => x.elim (fun y => y.2 ha) (S.mem.ap a ha).2.2.2.1) e, cont_mono k2.fz hc⟩) fun _ _ x => x

noncomputable def CallM (c : Cx) (df : D) (a : Addr) (d0 d1 : D) (l : List D) (kw : List (Str × D)) : Prop :=
  ∀ s E v vs ks o, Base c.H c.X s.heap → c.X a → ¬ tb a → (a == sysModules) = false → s.heap.get? a = some o → cont (fz c.X s.heap) d0 o → df.rep (fz c.X s.heap) v → repAll (fz c.X s.heap) l vs → repAll (fz c.X s.heap) (kw.map Prod.snd) ks →
    wpAny c.M c.A (call v vs ((kw.map Prod.fst).zip ks)) (fun r s' => r = .none ∧ ExtB (· = a) s s' ∧ ∃ o', s'.heap.get? a = some o' ∧ cont (fz c.X s'.heap) d1 o') E s
theorem St.changed {s s' : Shared} {j : Nat} {a : Addr} {d' : D} {o' : Obj} (S : St c ds s) (hj : c.mem[j]? = some a) (hY : c.Y a) (x : ExtB (· = a) s s') (ho : s'.heap.get? a = some o') (hc : cont (fz c.X s'.heap) d' o') : StB c (ds.set (c.ns.length + j) d') s s' := by
  have ha := List.mem_of_getElem? hj
  obtain ⟨p1, p2, p3, p4, p5⟩ := S.mem.ap a ha
  have k1 : ExtB c.Y s s' := x.mono fun b e => e ▸ hY
  have k2 : KeepB c.X s.heap s'.heap := k1.keep.mono S.sub
  have kp : ∀ b o, b ≠ a → ¬ tb b → s.heap.get? b = some o → s'.heap.get? b = some o := fun b o n t e => x.keep.keep b o (fun y => y.elim n t) e
  obtain ⟨ok, look, ⟨m, hn, hm⟩, hcl, hs⟩ := S.fr
  refine ⟨⟨S.base.keep k2, ⟨ok, look, ⟨m, hn.at' fun o e => kp _ o (Ne.symm p1) ok.loct e, hm⟩, fun y b e n => ?_, ?_⟩, S.sub, ⟨S.mem.ap, S.mem.nodup, fun i b d e1 e2 => ?_⟩, S.subR, S.memR⟩, k1⟩
  · obtain ⟨o, q, r⟩ := hcl y b e n
    exact ⟨o, kp b o (p2 y b e) (ok.celt y b e) q, r⟩
  · rw [List.take_set_of_le (by (first | lia | omega))]; exact hs.mono k2.fz
  · by_cases hij : i = j
    · subst hij
      rw [hj] at e1; cases e1
      have hlt := (List.getElem?_eq_some_iff.mp e2).1
      rw [List.length_set] at hlt
      rw [List.getElem?_set_self hlt] at e2; cases e2
      exact ⟨o', ho, hc⟩
    · rw [List.getElem?_set_ne (by (first | lia | omega))] at e2
      obtain ⟨o, q, r⟩ := S.mem.ok i b d e1 e2
      have hb := List.mem_of_getElem? e1
      have nba : b ≠ a := by
        rintro rfl
        have h1 := (List.getElem?_eq_some_iff.mp e1).2
        have h2 := (List.getElem?_eq_some_iff.mp hj).2
        exact hij ((List.getElem_inj S.mem.nodup).mp (h1.trans h2.symm))
      exact ⟨o, kp b o nba (S.mem.ap b hb).2.2.2.1 q, cont_mono k2.fz r⟩
end Mine
end
/-! ## part A20 -/
section
set_option maxRecDepth 100000
namespace Mine
open PySem PyProof.Rows
variable {c : Cx} {ds : List D}

theorem ins_list {items : Array Value} {k : Nat} {y : Value} (hk : k ≤ items.size) : ((items.extract 0 k).push y ++ items.extract k).toList = items.toList.take k ++ y :: items.toList.drop k := by
  simp [List.extract_eq_take_drop, List.take_of_length_le]
noncomputable def insF (x : Int) (y : Value) (xs : Array Value) : Array Value := have k := if x < 0 then (x + (xs.size : Int)).toNat else min x.toNat xs.size; (xs.extract 0 k).push y ++ xs.extract k
theorem insert_at {prog : Program} {w : World} {A : Around} {E : Value → Shared → Prop} {s : Shared} {Q : Value → Shared → Prop} {D : Addr} {items : Array Value} {n : Nat} {x : Int} {u : Tok} {y : Value} (hf : Builtin.List.listFitsIndex x = true)
    (ho : s.heap.get? D = some { cls := .type "list", dict := none, data := .seq items n, slots := #[] }) (hz : items.size ≤ sizeLine) (h : Q .none { s with heap := s.heap.update D (Obj.mapSeq (insF x y)) }) :
    wpAny (model prog w) A (call (.builtin "list.insert") [.ref D, .int x u, y]) Q E s :=
  call_meets PySem.F.slot_list_insert ⟨_, ho, rfl⟩ PySem.F.entry_list_insert (PySem.F.args_list_insert_3 _ _ _) (PySem.AutoSeq1.list_insert_list_int_val_1 D _ n x u y (by simp [hf]) hz) ⟨ho, h⟩
theorem ex_insert (i j : Nat) {a : Addr} {x px apos pos spos e1 e2} {l : List D} {k : Nat} {d : D} {Q : Fl → List D → Prop} (hx : c.ns[i]? = some x) (hi : ds[i]? = some (.val (.ref a))) (hj : c.mem[j]? = some a) (hl : ds[c.ns.length + j]? = some (.list l)) (hY : c.Y a)
    (h1 : Ev c ds e1 (.int (k : Int))) (h2 : Ev c ds e2 d) (hk : k ≤ l.length) (hlen : l.length ≤ 1000) (q : Q .next (ds.set (c.ns.length + j) (.list (l.take k ++ d :: l.drop k))))
    (hn : noStar [e1, e2] = true := by rfl) (he1 : starEach [e1, e2] c.env = (false, eval e1 c.env) :: starEach [e2] c.env := by rfl) (he2 : starEach [e2] c.env = (false, eval e2 c.env) :: starEach [] c.env := by rfl)
    (hbase : attributeBase (.Name x px) "insert" c.env (eval (.Name x px) c.env) = eval (.Name x px) c.env := by rfl) (hline : (apos.endLine == pos.line) = true := by rfl)
    (hex : exec (.Expr (.Call (.Attribute (.Name x px) "insert" apos) [e1, e2] [] pos) spos) c.env = (do standAt spos; dropValue (.Call (.Attribute (.Name x px) "insert" apos) [e1, e2] [] pos) spos (← eval (.Call (.Attribute (.Name x px) "insert" apos) [e1, e2] [] pos) c.env)) := by rfl)
    (hdr : dropValue (.Call (.Attribute (.Name x px) "insert" apos) [e1, e2] [] pos) spos .none = pure Flow.next := by rfl) :
    Ex c ds (exec (.Expr (.Call (.Attribute (.Name x px) "insert" apos) [e1, e2] [] pos) spos) c.env) Q := .mk fun s E S => by
  rw [hex]
  refine wpAny_bind (wpAny_standAt (wpAny_bind ?_))
  rw [arm_eval_Call, hbase]
  refine wpAny_bind (wpAny_mono ((ev_name i hx hi rfl).run s _ S) (fun u s1 ⟨e1', r1⟩ => wpAny_bind (wpAny_standAt ?_)) fun _ _ x => x)
  rw [of_val r1]
  have S1 := S.ext e1'
  obtain ⟨n1, n2⟩ := backTo_plain pos c.env [e1, e2] hn
  obtain ⟨k1, k2, k3, k4⟩ := kw_names pos c.env (kws := []) (ns := []) rfl
  have hform : methodCallForm ([e1, e2].length + ([] : List Keyword).length) (backTo pos (starEach [e1, e2] c.env)) (backToKw pos (keywordEach [] c.env)) = true := by
    unfold methodCallForm
    rw [n2, k1, k4]
    rfl
  have hpos : methodCallPos true (.Name x px) c.env apos pos = pure pos := by unfold methodCallPos; simp [hline]
  unfold methodCall
  rw [hform]
  refine wpAny_bind (wpAny_holding ?_)
  show wpAny _ _ (getMethod (.ref a) "insert" _) _ _ _
  obtain ⟨o, hoa, items, n, e, hr⟩ := S1.mem.ok j a _ hj hl
  subst e
  refine getMethod_builtin ⟨_, hoa, rfl⟩ F.plainAttrs_list F.slot_list_insert F.type_list_insert (fun b e => by cases e; exact ⟨_, hoa, rfl⟩) ?_
  refine wpAny_bind (wpAny_of_eq hpos ?_)
  refine callWith_rule S1 hn (evl_cons h1 (evl_cons h2 evl_nil he2) he1) evk_nil (fun s' x => kpr_builtin _ _ (S1.ext x).base rep_val) fun s' vs ks x rv rk => ?_
  have S2 := S1.ext x
  obtain ⟨v1, v2, rfl, ⟨t, e⟩, rd⟩ := repAll2 rv
  ·
    subst e
    obtain ⟨o, hoa, items, n, e, hr⟩ := S2.mem.ok j a _ hj hl
    subst e
    have hsz : items.size = l.length := by rw [← repAll_length hr]; simp
    have hfit : Builtin.List.listFitsIndex (k : Int) = true := by
      unfold Builtin.List.listFitsIndex
      simp only [Bool.and_eq_true, decide_eq_true_eq]
      (first | lia | omega)
    show wpAny _ _ (call (.builtin "list.insert") [.ref a, .int (k : Int) t, v2]) _ _ _
    refine insert_at hfit hoa (by rw [sizeLine_eq]; (first | lia | omega)) ?_
    rw [hdr]
    have hu := get?_update_seq (c := "list") (xs := items) (n := n) hoa (insF (k : Int) v2)
    have b := S2.upd (tk := s'.toks) hj hY (Heap.SameBut.update ..) hu (d' := .list (l.take k ++ d :: l.drop k)) ⟨_, _, rfl, by
      unfold insF
      dsimp only
      rw [if_neg (by (first | lia | omega)), Int.toNat_natCast, Nat.min_eq_left (by (first | lia | omega)), ins_list (by (first | lia | omega))]
      exact repAll_append (repAll_take hr k) ⟨rd, repAll_drop hr k⟩⟩
    exact wpAny_pure ⟨.next, _, rfl, .of_ext (e1'.trans x) b, q⟩
end Mine
end
/-! ## part B7 -/
section
open PySem PySem.W PyProof.Rows
set_option maxRecDepth 100000
namespace Mine
section
variable {c : Cx} {P : Params} {ds : List D}
theorem Ev.imp {e : Expr} {d d' : D} (h : Ev c ds e d) (k : ∀ g v, d.rep g v → d'.rep g v) : Ev c ds e d' := .mk fun s E S =>
  wpAny_mono (h.run s E S) (fun v s1 ⟨e1, r1⟩ => ⟨e1, k _ _ r1⟩) fun _ _ x => x
noncomputable abbrev Cx.fnO (c : Cx) (P : Params) (a L : Addr) (ns : List Str) (b : Addr) : Cx :=
  { c.fn P a L ns with Y := fun x => (c.fn P a L ns).Y x ∨ x = b, mem := [b], R := fun x => c.X x ∧ x ≠ b }
theorem Law.fnO {a L' b : Addr} {ns : List Str} (L : Law c P) : Law (c.fnO P a L' ns b) P := ⟨L.X, L.lim, L.g⟩
theorem call_fnM (a b : Addr) (ns : List Str) (bnd : List (Str × D)) (ds0 : List D) {body : List Stmt} {l : List D} {kw : List (Str × D)} {d0 d1 : D} (L : Law c P) (R : Room c.A 1)
    (hbind : KwB l kw c P a bnd)
    (hbody : (fnAt (KP P) a).body = .stmts body)
    (h : ∀ L, L ≠ b → Ex (c.fnO P a L ns b) (ds0 ++ [d0]) (execs body (c.fn P a L ns).env) (fun fl ds' => fl = .next ∧ ds'[ns.length]? = some d1))
    (hds : (ns.map fun x => (bnd.lookup x).getD .unk) = ds0 := by kernel_rfl) (ok : fnOkB (KP P) a = true := by kernel_rfl)
    (hns : nsOkB (fnAt (KP P) a).scope.names ns = true := by kernel_rfl) (hbn : ((bnd.map (·.1)).all (keptB (fnAt (KP P) a).scope.names) && decide (bnd.map (·.1)).Nodup) = true := by kernel_rfl) :
    CallM c (.val (.ref a)) b d0 d1 l kw := by
  subst hds
  unfold fnOkB at ok
  simp only [Bool.and_eq_true, Bool.not_eq_true', beq_iff_eq, List.isEmpty_iff] at ok
  obtain ⟨⟨⟨⟨⟨⟨⟨e1, e2⟩, e3⟩, e4⟩, e5⟩, e6⟩, e7⟩, e8⟩ := ok
  obtain ⟨o, ho, hd⟩ := fn_at L.X e1
  intro s E v vs ks ob B hXb ntb nsb hob hcb hv r1 r2
  rw [of_val hv]
  obtain ⟨binds, b1, b2, b3⟩ := hbind s vs ks B r1 r2
  refine call_core bnd ns R ho hd L.lim (code_in L.X e2) hbody e3 e4 e5 e6 e7 e8 hns hbn B (kp_binds (Frag.In.keeps L.X B.h) b1) b2 b3 fun L0 s1 E' ef hf lw S => ?_
  have nb : b ∉ wrOf L0 (cellsFrom (L0 + 1) (fnAt (KP P) a).scope.names []) := fun x => by rw [hf b x] at hob; cases hob
  have le : Fle (fz c.X s.heap) (fz (c.fn P a L0 ns).X s1.heap) := fle_grow (fun b o _ => ef.keep b o) hf
  have S2 : St (c.fnO P a L0 ns b) ((ns.map fun x => (bnd.lookup x).getD .unk) ++ [d0]) s1 := by
    refine ⟨S.base, ?_, ?_, ⟨fun x hx => ?_, by simp, fun j x d q1 q2 => ?_⟩, fun x y => .inl y.1, fun x hx => ?_⟩
    · have := S.fr
      show FrS _ _ ns (List.take ns.length _) _
      rw [List.take_append_of_le_length (by simp)]
      exact this
    · rintro x (y | rfl)
      · exact S.sub x y
      · exact .inl hXb
    · rw [List.mem_singleton.mp hx]
      refine ⟨fun y => nb (mem_wrOf.mpr (.inl y)), fun y z q w => nb (mem_wrOf.mpr (.inr ⟨y, w ▸ q⟩)), .inl hXb, ntb, nsb⟩
    · cases j with
      | succ j => simp at q1
      | zero =>
        cases q1
        have q2 : ((ns.map fun x => (bnd.lookup x).getD D.unk) ++ [d0])[ns.length + 0]? = some d := q2
        rw [List.getElem?_append_right (by rw [List.length_map]; omega), List.length_map, show ns.length + 0 - ns.length = 0 by omega] at q2
        cases q2
        exact ⟨ob, ef.keep b ob hob, cont_mono le hcb⟩
    · rw [List.mem_singleton.mp hx]; exact fun y => y.2 rfl
  refine wpAny_mono ((h L0 fun y => nb (mem_wrOf.mpr (.inl y.symm))).run s1 E' S2) (fun f s2 zz => ?_) fun _ _ x => x
  obtain ⟨fl, ds', r, st, q1, q2⟩ := zz
  subst q1
  refine ⟨.none, .inl ⟨r, rfl⟩, rfl, ?_, ?_⟩
  · exact extB_shrink (X := (· = b)) ef hf lw (st.ext.mono fun x y => y.elim (fun z => .inr z) fun z => .inl z)
  · obtain ⟨o', ho', hc'⟩ := st.st.mem.ok 0 b d1 rfl q2
    exact ⟨o', ho', cont_mono (fz_mono (fun x y => .inl y) _) hc'⟩
end
end Mine
end
/-! ## part B8 -/
section
open PySem PySem.W PyProof.Rows
set_option maxRecDepth 100000
namespace Mine
section
variable {c : Cx} {P : Params} {ds : List D}
noncomputable def insAt (l : List D) (k : Nat) (d : D) : List D := l.take k ++ d :: l.drop k
theorem bsearch_le (p : Nat → Bool) : ∀ (n lo hi : Nat), hi - lo ≤ n → lo ≤ hi → lo ≤ bsearch p lo hi ∧ bsearch p lo hi ≤ hi := by
  intro n
  induction n with
  | zero =>
    intro lo hi h hl
    have e : lo = hi := Nat.le_antisymm hl (Nat.sub_eq_zero_iff_le.mp (Nat.le_zero.mp h))
    subst e
    rw [bsearch_end p (Nat.lt_irrefl _)]
    exact ⟨Nat.le_refl _, Nat.le_refl _⟩
  | succ n ih =>
    intro lo hi h hl
    by_cases hlt : lo < hi
    · have g1 := mid_ge hlt
      have g2 := mid_lt hlt
      have u := Nat.le_of_lt_succ (Nat.lt_of_lt_of_le (mid_up hlt) h)
      have d := Nat.le_of_lt_succ (Nat.lt_of_lt_of_le (mid_dn hlt) h)
      rw [bsearch_step p hlt]
      cases p ((lo + hi) / 2) with
      | true => rw [if_pos rfl]; exact ⟨Nat.le_trans (Nat.le_trans g1 (Nat.le_succ _)) (ih _ _ u g2).1, (ih _ _ u g2).2⟩
      | false => rw [if_neg Bool.false_ne_true]; exact ⟨(ih _ _ d g1).1, Nat.le_trans (ih _ _ d g1).2 (Nat.le_of_lt g2)⟩
    · rw [bsearch_end p hlt]; exact ⟨Nat.le_refl _, hl⟩
theorem KeyD.sub {c c' : Cx} {dk : D} {L l : List D} {kf : Nat → Int} {n : Nat} (K : KeyD c dk L kf n) (h1 : c'.prog = c.prog) (h2 : c'.w = c.w) (h3 : c'.H = c.H) (h : ∀ (i : Nat) (d : D), l[i]? = some d → L[i]? = some d) : KeyD c' dk l kf n :=
  ⟨K.is, fun c'' a b e => K.kpr c'' (a.trans h1) (b.trans h2) (e.trans h3), fun c'' a b e R i d q => K.call c'' (a.trans h1) (b.trans h2) (e.trans h3) R i d (h i d q)⟩

theorem c_ir (b : Addr) {l : List D} {x : Int} {n : Nat} {dk : D} {kf : Nat → Int} (L : Law c P) (R : Room c.A (n + 5)) (K : KeyD c dk (l ++ [.int x]) kf n) (hb : l.length ≤ 900) :
    CallM c (.val (.ref 72)) b (.list l) (.list (insAt l (bsearch (fun i => !decide (kf l.length < kf i)) 0 l.length) (.int x))) [.val (.ref b), .int x] [("key", dk)] := by
  obtain ⟨pk, ek, hk⟩ := K.is
  refine call_fnM 72 b ["a", "x", "lo", "hi", "key"] [("a", .val (.ref b)), ("x", .int x), ("lo", .int 0), ("hi", .none), ("key", dk)] [.val (.ref b), .int x, .int 0, .none, dk] L (R.of_le (by (first | lia | omega))) ?_ (by exact rfl) ?_
  · intro s vs ks B r1 r2
    obtain ⟨k1, rfl, rk⟩ := repAll1 r2
    obtain ⟨v1, v2, rfl, r1, r2⟩ := repAll2 r1
    exact ⟨[("a", v1), ("x", v2), ("lo", .int 0 271), ("hi", .none), ("key", k1)], fun _ => by kernel_rfl, rfl, r1, r2, ⟨271, rfl⟩, rfl, rk, trivial⟩
  intro L' nLb
  have R1 : Room (c.fn P 72 L' ["a", "x", "lo", "hi", "key"]).A (n + 4) := R.deeper _
  have hy := yl_fn (c := c) (P := P) (a := 72) (L := L') (ns := ["a", "x", "lo", "hi", "key"])
  refine ex_cons (ex_thaw (c := c.fnO P 72 L' ["a", "x", "lo", "hi", "key"] b) [.at b l, .int x, .int 0, .none, dk] (fun s S => ?_) ?_)
  · exact S.frz.melt (i := 0) (Nat.le_of_ble_eq_true rfl) rfl ⟨_, Fle.refl _, rfl, S.held (j := 0) rfl rfl rfl⟩
  refine (ex_if_false (evt_cmp (ev_name 4 rfl rfl (by rw [ek]; rfl)) ev_none (by rw [ek]; exact op_is_none_any hk)) ?_)
  refine ex_cons (ex_assign 2 (ev_call (ev_gf L.fnO.frz 81) (evl_cons ((nm 0).imp fun _ _ => at_list) (evl_cons (ev_call1 (ev_name 4 rfl rfl (by rw [ek]; rfl)) (nm 1) (K.kpr _ rfl rfl rfl) (K.call (c.fnO P 72 L' ["a", "x", "lo", "hi", "key"] b).frz rfl rfl rfl (R1.of_le (by (first | lia | omega))) l.length (.int x) (by simp))) (evl_cons (nm 2) (evl_cons (nm 3) evl_nil)))) (evk_one (ev_name 4 rfl rfl (by rw [ek]; rfl))) (kpr_fn L.fnO.frz 81)
    (c_br_key (l := l) (x := kf l.length) (lo := 0) (hi := l.length) (dh := .none) (dk := dk) (kf := kf) (n := n) L.fnO.frz (by exact R1.of_le (Nat.le_succ _)) (K.sub rfl rfl rfl fun i d q => by rw [List.getElem?_append_left (List.getElem?_eq_some_iff.mp q).1]; exact q) (.inl ⟨rfl, rfl⟩) (by (first | lia | omega)) (by (first | lia | omega)) ?_)) rfl (owl ⟨.inl hy, fun x => nLb (List.mem_singleton.mp x)⟩ (by kernel_rfl)) (ex_nil ?_))
  · intro s vs ks B r1 r2
    obtain ⟨k1, rfl, rk⟩ := repAll1 r2
    obtain ⟨v1, v2, v3, v4, rfl, r1, r2, r3, r4⟩ := repAll4 r1
    exact ⟨[("a", v1), ("x", v2), ("lo", v3), ("hi", v4), ("key", k1)], fun _ => by kernel_rfl, rfl, r1, r2, r3, r4, rk, trivial⟩
  have hle := bsearch_le (fun i => !decide (kf l.length < kf i)) l.length 0 l.length (by (first | lia | omega)) (by (first | lia | omega))
  refine ⟨rfl, [.val (.ref b), .int x, .int (bsearch (fun i => !decide (kf l.length < kf i)) 0 l.length : Nat), .unk, .unk], ⟨flat_at, flat_int, flat_int, flat_unk, flat_unk, trivial⟩, rfl, ?_⟩
  refine ex_cons (ex_insert 0 0 rfl rfl rfl rfl (.inr rfl) (nm 2) (nm 1) hle.2 (by (first | lia | omega)) (ex_nil ⟨rfl, rfl⟩))
theorem c_il (b : Addr) {l : List D} {x : Int} {n : Nat} {dk : D} {kf : Nat → Int} (L : Law c P) (R : Room c.A (n + 5)) (K : KeyD c dk (l ++ [.int x]) kf n) (hb : l.length ≤ 900) :
    CallM c (.val (.ref 90)) b (.list l) (.list (insAt l (bsearch (fun i => decide (kf i < kf l.length)) 0 l.length) (.int x))) [.val (.ref b), .int x] [("key", dk)] := by
  obtain ⟨pk, ek, hk⟩ := K.is
  refine call_fnM 90 b ["a", "x", "lo", "hi", "key"] [("a", .val (.ref b)), ("x", .int x), ("lo", .int 0), ("hi", .none), ("key", dk)] [.val (.ref b), .int x, .int 0, .none, dk] L (R.of_le (by (first | lia | omega))) ?_ (by exact rfl) ?_
  · intro s vs ks B r1 r2
    obtain ⟨k1, rfl, rk⟩ := repAll1 r2
    obtain ⟨v1, v2, rfl, r1, r2⟩ := repAll2 r1
    exact ⟨[("a", v1), ("x", v2), ("lo", .int 0 298), ("hi", .none), ("key", k1)], fun _ => by kernel_rfl, rfl, r1, r2, ⟨298, rfl⟩, rfl, rk, trivial⟩
  intro L' nLb
  have R1 : Room (c.fn P 90 L' ["a", "x", "lo", "hi", "key"]).A (n + 4) := R.deeper _
  have hy := yl_fn (c := c) (P := P) (a := 90) (L := L') (ns := ["a", "x", "lo", "hi", "key"])
  refine ex_cons (ex_thaw (c := c.fnO P 90 L' ["a", "x", "lo", "hi", "key"] b) [.at b l, .int x, .int 0, .none, dk] (fun s S => ?_) ?_)
  · exact S.frz.melt (i := 0) (Nat.le_of_ble_eq_true rfl) rfl ⟨_, Fle.refl _, rfl, S.held (j := 0) rfl rfl rfl⟩
  refine (ex_if_false (evt_cmp (ev_name 4 rfl rfl (by rw [ek]; rfl)) ev_none (by rw [ek]; exact op_is_none_any hk)) ?_)
  refine ex_cons (ex_assign 2 (ev_call (ev_gf L.fnO.frz 99) (evl_cons ((nm 0).imp fun _ _ => at_list) (evl_cons (ev_call1 (ev_name 4 rfl rfl (by rw [ek]; rfl)) (nm 1) (K.kpr _ rfl rfl rfl) (K.call (c.fnO P 90 L' ["a", "x", "lo", "hi", "key"] b).frz rfl rfl rfl (R1.of_le (by (first | lia | omega))) l.length (.int x) (by simp))) (evl_cons (nm 2) (evl_cons (nm 3) evl_nil)))) (evk_one (ev_name 4 rfl rfl (by rw [ek]; rfl))) (kpr_fn L.fnO.frz 99)
    (c_bl_key (l := l) (x := kf l.length) (lo := 0) (hi := l.length) (dh := .none) (dk := dk) (kf := kf) (n := n) L.fnO.frz (by exact R1.of_le (Nat.le_succ _)) (K.sub rfl rfl rfl fun i d q => by rw [List.getElem?_append_left (List.getElem?_eq_some_iff.mp q).1]; exact q) (.inl ⟨rfl, rfl⟩) (by (first | lia | omega)) (by (first | lia | omega)) ?_)) rfl (owl ⟨.inl hy, fun x => nLb (List.mem_singleton.mp x)⟩ (by kernel_rfl)) (ex_nil ?_))
  · intro s vs ks B r1 r2
    obtain ⟨k1, rfl, rk⟩ := repAll1 r2
    obtain ⟨v1, v2, v3, v4, rfl, r1, r2, r3, r4⟩ := repAll4 r1
    exact ⟨[("a", v1), ("x", v2), ("lo", v3), ("hi", v4), ("key", k1)], fun _ => by kernel_rfl, rfl, r1, r2, r3, r4, rk, trivial⟩
  have hle := bsearch_le (fun i => decide (kf i < kf l.length)) l.length 0 l.length (by (first | lia | omega)) (by (first | lia | omega))
  refine ⟨rfl, [.val (.ref b), .int x, .int (bsearch (fun i => decide (kf i < kf l.length)) 0 l.length : Nat), .unk, .unk], ⟨flat_at, flat_int, flat_int, flat_unk, flat_unk, trivial⟩, rfl, ?_⟩
  refine ex_cons (ex_insert 0 0 rfl rfl rfl rfl (.inr rfl) (nm 2) (nm 1) hle.2 (by (first | lia | omega)) (ex_nil ⟨rfl, rfl⟩))
end
end Mine
end
/-! ## part A21 -/
section
set_option maxRecDepth 100000
namespace Mine
open PySem PyProof.Rows
variable {c : Cx} {ds : List D}

theorem ex_callM (j : Nat) {a : Addr} {func : Expr} {args : List Expr} {kws : List Keyword} {pos spos : Pos} {df d0 d1 : D} {l : List D} {kw : List (Str × D)} {Q : Fl → List D → Prop} (hj : c.mem[j]? = some a) (hl : ds[c.ns.length + j]? = some d0) (hY : c.Y a)
    (hf : Ev c ds func df) (ha : EvL c ds pos args l) (hk : EvK c ds pos kws kw) (kp : Kpr c df) (hc : CallM c df a d0 d1 l kw) (q : Q .next (ds.set (c.ns.length + j) d1))
    (hn : noStar args = true := by rfl) (hq : eval (.Call func args kws pos) c.env = (do callWith pos (← eval func c.env) [] (backTo pos (starEach args c.env)) (backToKw pos (keywordEach kws c.env))) := by rfl)
    (hex : exec (.Expr (.Call func args kws pos) spos) c.env = (do standAt spos; dropValue (.Call func args kws pos) spos (← eval (.Call func args kws pos) c.env)) := by rfl)
    (hdr : dropValue (.Call func args kws pos) spos .none = pure Flow.next := by rfl) :
    Ex c ds (exec (.Expr (.Call func args kws pos) spos) c.env) Q := .mk fun s E S => by
  rw [hex]
  refine wpAny_bind (wpAny_standAt (wpAny_bind ?_))
  rw [hq]
  refine wpAny_bind (wpAny_mono (hf.run s _ S) (fun v s1 zz => ?_) fun _ _ x => x)
  obtain ⟨e1, r1⟩ := zz
  refine callWith_rule (S.ext e1) hn ha hk (fun s' x => kp _ _ ((S.ext e1).ext x).base (D.rep_mono x.keep.fz _ _ r1)) fun s' vs ks x rv rk => ?_
  have S2 := (S.ext e1).ext x
  obtain ⟨o, hoa, hco⟩ := S2.mem.ok j a _ hj hl
  obtain ⟨_, _, p3, p4, p5⟩ := S2.mem.ap a (List.mem_of_getElem? hj)
  refine wpAny_mono (hc s' _ v vs ks o S2.base p3 p4 p5 hoa hco (D.rep_mono x.keep.fz _ _ r1) rv rk) (fun r s'' zz => ?_) fun _ _ x => x
  obtain ⟨e, xb, o', ho', hc'⟩ := zz
  rw [e, hdr]
  exact wpAny_pure ⟨.next, _, rfl, .of_ext (e1.trans x) (S2.changed hj hY xb ho' hc'), q⟩
end Mine
end
/-! ## part X4 -/
section
set_option maxRecDepth 100000
namespace Mine
open PySem PyProof.Rows

structure Feed (prog : Program) (w : World) (it : Addr) (xs : List Value) (Pos : Nat → Heap → Prop) (own : Addr → Prop) : Prop where
  at_ : ∀ k h h', Pos k h → (∀ b o, (b = it ∨ own b) → h.get? b = some o → h'.get? b = some o) → Pos k h'
  live : ∀ k h, Pos k h → ∃ o, h.get? it = some o
  item : ∀ (A : Around) (E : Value → Shared → Prop) k x (s : Shared) (Q : Value → Shared → Prop), xs[k]? = some x → Pos k s.heap →
    (∀ h', Pos (k + 1) h' → Heap.SameBut it s.heap h' → Q x { s with heap := h' }) → wpAny (model prog w) A (Builtin.SmallTypes.nextOf (.ref it)) Q E s
  stop : ∀ (A : Around) (E : Value → Shared → Prop) (s : Shared) (Q : Value → Shared → Prop), A.handled = none → Pos xs.length s.heap →
    (∀ h' e, Heap.ExtBut it s.heap h' → (∃ o, h'.get? e = some o ∧ o.cls = .type "StopIteration") → E (.ref e) { s with heap := h' }) → wpAny (model prog w) A (Builtin.SmallTypes.nextOf (.ref it)) Q E s

section
variable {prog : Program} {w : World}
theorem feed_tuple {it t : Addr} {items : Array Value} (hne : t ≠ it) : Feed prog w it items.toList (fun k h => h.IsTupleIter it t k ∧ h.IsTuple t items) (· = t) where
  at_ := fun k h h' ⟨a, b⟩ kp => ⟨let ⟨o, ho, r⟩ := a; ⟨o, kp it o (.inl rfl) ho, r⟩, let ⟨o, ho, r⟩ := b; ⟨o, kp t o (.inr rfl) ho, r⟩⟩
  live := fun k h ⟨⟨o, ho, _⟩, _⟩ => ⟨o, ho⟩
  item := fun A E k x s Q hx zz hQ => by
    obtain ⟨hit, ht⟩ := zz
    obtain ⟨o, ho, hc, hd⟩ := id hit
    obtain ⟨ol, hol, hcl, nl, hdl⟩ := id ht
    have hx : items[k]? = some x := by rw [← Array.getElem?_toList]; exact hx
    unfold Builtin.SmallTypes.nextOf
    refine wpAny_bind (wpAny_callSpecial?_slot (name := Str.ofString "__next__") hit.typeIs F.slot_tuple_iterator_next (wpAny_call_entry F.slot_tuple_iterator_next hit.typeIs F.entry_tuple_iterator_next ?_ (F.args_tuple_iterator_next_1 _)))
    show wpAny _ _ (field (.ref it) 0 >>= _) _ _ s
    refine wpAny_bind (wpAny_field ho hd (x := .ref t) rfl ?_)
    refine wpAny_ite_split (fun q => by cases q) fun _ => ?_
    show wpAny _ _ (field (.ref it) 1 >>= _) _ _ s
    refine wpAny_bind (wpAny_field ho hd (x := .int k 0) rfl ?_)
    show wpAny _ _ (seqItems? (.ref t) >>= _) _ _ s
    refine wpAny_bind (wpAny_seqItems hol hdl ?_)
    simp only [Int.toNat_natCast, hx]
    refine wpAny_bind (wpAny_setField ho hd (by simp) (wpAny_pure ⟨x, rfl, wpAny_pure (hQ _ ⟨⟨_, Heap.get?_update_self _ ho (Obj.isFreed_of_fields (Obj.data_mapFields hd _)), (Obj.cls_mapFields ..).trans hc, ?_⟩, ht.extBut (Heap.SameBut.update ..).extBut hne⟩ (Heap.SameBut.update ..))⟩))
    rw [Obj.data_mapFields hd]; simp [rawInt]
  stop := fun A E s Q hh zz hE => by
    obtain ⟨hit, ht⟩ := zz
    obtain ⟨o, ho, hc, hd⟩ := id hit
    obtain ⟨ol, hol, hcl, nl, hdl⟩ := id ht
    unfold Builtin.SmallTypes.nextOf
    refine wpAny_bind (wpAny_callSpecial?_slot (name := Str.ofString "__next__") hit.typeIs F.slot_tuple_iterator_next (wpAny_call_entry F.slot_tuple_iterator_next hit.typeIs F.entry_tuple_iterator_next ?_ (F.args_tuple_iterator_next_1 _)))
    show wpAny _ _ (field (.ref it) 0 >>= _) _ _ s
    refine wpAny_bind (wpAny_field ho hd (x := .ref t) rfl ?_)
    refine wpAny_ite_split (fun q => by cases q) fun _ => ?_
    show wpAny _ _ (field (.ref it) 1 >>= _) _ _ s
    refine wpAny_bind (wpAny_field ho hd (x := .int items.toList.length 0) rfl ?_)
    show wpAny _ _ (seqItems? (.ref t) >>= _) _ _ s
    refine wpAny_bind (wpAny_seqItems hol hdl ?_)
    simp only [Int.toNat_natCast, Array.getElem?_eq_none (show items.size ≤ items.toList.length by simp)]
    refine wpAny_bind (wpAny_rule (wpAny_bind (wpAny_setField ho hd (by simp) ?_)))
    show wpAny _ _ (newExc (.type "StopIteration") [] >>= _) _ _ _
    refine wpAny_bind ?_
    simp only [newExc, newTuple]
    refine wpAny_bind (wpAny_newObj_type ?_ (by size_fits))
    refine wpAny_bind (m := firstArgMember _ _) (wpAny_of_eq (a := Value.none) (by first | rfl | (simp only [firstArgMember]; rfl)) ?_)
    refine wpAny_newObj_type ?_ (by size_fits)
    simp only [raiseNew]
    refine wpAny_bind (wpAny_handled ?_)
    rw [show A.in1.handled = none from hh]
    refine wpAny_bind (wpAny_pure (wpAny_throw ?_))
    exact hE _ _ (((Heap.SameBut.update ..).extBut.push _).push _) ⟨_, Heap.get?_push_size _ rfl, rfl⟩
end
end Mine
end
/-! ## part X5 -/
section
set_option maxRecDepth 100000
namespace Mine
open PySem PyProof.Rows

section
variable {prog : Program} {w : World} {A : Around} {E : Value → Shared → Prop} {s : Shared} {N : Nat} {xs ys : List Value} {P1 P2 : Nat → Heap → Prop} {o1 o2 : Addr → Prop}
noncomputable def ZipSt (N : Nat) (P1 P2 : Nat → Heap → Prop) (f0 : Value) (k : Nat) (h : Heap) : Prop :=
  IsZip h (N + 4) (N + 2) (N + 3) f0 ∧ IsPair h (N + 2) (.ref N) (.ref (N + 1)) ∧ (∃ a b, IsPair h (N + 3) a b) ∧ P1 k h ∧ P2 k h

theorem Feed.by {it : Addr} {xs : List Value} {P : Nat → Heap → Prop} {o : Addr → Prop} (F : Feed prog w it xs P o) {k : Nat} {h h' : Heap} {a : Addr} (p : P k h) (hs : Heap.SameBut a h h') (h1 : it ≠ a) (h2 : ∀ b, o b → b ≠ a) : P k h' :=
  F.at_ k h h' p fun b ob hb e => (hs.2 b (hb.elim (fun q => q ▸ h1) (h2 b))).trans e

theorem zip_step (F1 : Feed prog w N xs P1 o1) (F2 : Feed prog w (N + 1) ys P2 o2) (h1 : ∀ b, o1 b → b < N) (h2 : ∀ b, o2 b → b < N) {k : Nat} {x y : Value} {Q : Value → Shared → Prop} (hx : xs[k]? = some x) (hy : ys[k]? = some y) (Z : ZipSt N P1 P2 .none k s.heap)
    (hQ : ∀ h', ZipSt N P1 P2 (rawInt s.heap.objs.size) (k + 1) h' → IsPair h' s.heap.objs.size x y → (∀ c o, c ≠ N + 4 → c ≠ N + 3 → c ≠ N → c ≠ N + 1 → s.heap.get? c = some o → h'.get? c = some o) → Q (.ref s.heap.objs.size) { s with heap := h' }) :
    wpAny (model prog w) A (Builtin.«zip.__next__» ⟨[.ref (N + 4)], []⟩) (fun fin s' => ∃ v, fin = .done (.ret v) ∧ Q v s') E s := by
  obtain ⟨hz, hTI, ⟨a, b, hTO⟩, p1, p2⟩ := Z
  have l1 : ∀ {j : Nat} {b : Addr}, o1 b → b ≠ N + j := fun q => Nat.ne_of_lt (Nat.lt_of_lt_of_le (h1 _ q) (Nat.le_add_right _ _))
  have l2 : ∀ {j : Nat} {b : Addr}, o2 b → b ≠ N + j := fun q => Nat.ne_of_lt (Nat.lt_of_lt_of_le (h2 _ q) (Nat.le_add_right _ _))
  have d : ∀ {i j : Nat}, i ≠ j → N + i ≠ N + j := fun h q => h (Nat.add_left_cancel q)
  unfold Builtin.«zip.__next__»
  refine wpAny_bind (m := slotArgs _ _ _) (wpAny_pure ?_)
  refine wpAny_bind (wpAny_field hz rfl (x := .bool false) rfl ?_)
  refine wpAny_bind (wpAny_field hz rfl (x := .ref (N + 2)) rfl ?_)
  refine wpAny_bind (wpAny_seqItems hTI rfl ?_)
  dsimp only
  refine wpAny_ite_split (fun q => by simp at q) fun _ => ?_
  refine wpAny_bind (m := Builtin.SmallTypes.ownedTupleIsFree _) ?_
  unfold Builtin.SmallTypes.ownedTupleIsFree
  refine wpAny_bind (wpAny_field hz rfl (x := .none) rfl (wpAny_pure ?_))
  refine wpAny_ite_split (fun _ => ?_) fun q => absurd rfl q
  refine wpAny_bind (wpAny_rule ?_)
  refine wpAny_bind (wpAny_field hz rfl (x := .ref (N + 3)) rfl ?_)
  dsimp only
  refine wpAny_bind (wpAny_setField_rec hz (by simp) fun ha hza sa => ?_)
  replace hza : IsZip ha (N + 4) (N + 2) (N + 3) .ellipsis := hza
  have p1a := F1.by p1 sa (Nat.ne_of_lt (Nat.lt_add_of_pos_right (by decide))) fun b q => l1 q
  have p2a := F2.by p2 sa (d (by decide)) fun b q => l2 q
  have hTOa : IsPair ha (N + 3) a b := (sa.2 _ (d (by decide))).trans hTO
  refine wpAny_bind ?_
  simp only [List.zipIdx_cons, List.zipIdx_nil, List.forIn_cons, List.forIn_nil]
  refine wpAny_bind (wpAny_bind (wpAny_onRaise ?_))
  show wpAny _ _ (Builtin.SmallTypes.nextOf (.ref N) >>= _) _ _ _
  refine wpAny_bind (F1.item _ _ k x _ _ hx p1a fun hb p1b sb => wpAny_pure ?_)
  have e0 : ∀ {j : Nat}, j ≠ 0 → N + j ≠ N := fun h q => h (Nat.add_left_cancel (q.trans (Nat.add_zero N).symm))
  have p2b := F2.by p2a sb (e0 (by decide)) fun b q => Nat.ne_of_lt (h2 b q)
  have hTOb : IsPair hb (N + 3) a b := (sb.2 _ (e0 (by decide))).trans hTOa
  have hzb : IsZip hb (N + 4) (N + 2) (N + 3) .ellipsis := (sb.2 _ (e0 (by decide))).trans hza
  refine wpAny_bind (wpAny_seqItems hTOb rfl ?_)
  refine wpAny_bind (wpAny_updateSeq_pair hTOb fun hc hTOc sc => ?_)
  replace hTOc : IsPair hc (N + 3) x b := hTOc
  refine wpAny_bind (wpAny_letGo (wpAny_pure ?_))
  have p1c := F1.by p1b sc (e0 (by decide)).symm fun b q => l1 q
  have p2c := F2.by p2b sc (d (by decide)) fun b q => l2 q
  have hzc : IsZip hc (N + 4) (N + 2) (N + 3) .ellipsis := (sc.2 _ (d (by decide))).trans hzb
  refine wpAny_bind (wpAny_bind (wpAny_onRaise ?_))
  show wpAny _ _ (Builtin.SmallTypes.nextOf (.ref (N + 1)) >>= _) _ _ _
  refine wpAny_bind (F2.item _ _ k y _ _ hy p2c fun hd p2d sd => wpAny_pure ?_)
  have p1d := F1.by p1c sd (e0 (by decide)).symm fun b q => l1 q
  have hTOd : IsPair hd (N + 3) x b := (sd.2 _ (d (by decide))).trans hTOc
  have hzd : IsZip hd (N + 4) (N + 2) (N + 3) .ellipsis := (sd.2 _ (d (by decide))).trans hzc
  refine wpAny_bind (wpAny_seqItems hTOd rfl ?_)
  refine wpAny_bind (wpAny_updateSeq_pair hTOd fun he hTOe se => ?_)
  replace hTOe : IsPair he (N + 3) x y := hTOe
  refine wpAny_bind (wpAny_letGo (wpAny_pure (wpAny_pure ?_)))
  have p1e := F1.by p1d se (e0 (by decide)).symm fun b q => l1 q
  have p2e := F2.by p2d se (d (by decide)) fun b q => l2 q
  have hze : IsZip he (N + 4) (N + 2) (N + 3) .ellipsis := (se.2 _ (d (by decide))).trans hzd
  refine wpAny_bind (wpAny_seqItems hTOe rfl ?_)
  refine wpAny_bind (wpAny_newTuple ?_)
  have hsz : he.objs.size = s.heap.objs.size := by rw [se.1, sd.1, sc.1, sb.1, sa.1]
  have hke : ∀ c o, c ≠ N + 4 → c ≠ N + 3 → c ≠ N → c ≠ N + 1 → s.heap.get? c = some o → he.get? c = some o := fun c o c4 c3 c0 c1 q =>
    (se.2 c c3).trans ((sd.2 c c1).trans ((sc.2 c c3).trans ((sb.2 c c0).trans ((sa.2 c c4).trans q))))
  show wpAny _ _ (Builtin.SmallTypes.ownedTupleHandOut (.ref (N + 4)) (.ref he.objs.size) >>= _) _ _ _
  refine wpAny_bind ?_
  unfold Builtin.SmallTypes.ownedTupleHandOut
  have hzf : IsZip (he.push { cls := .type "tuple", data := .seq #[x, y] }) (N + 4) (N + 2) (N + 3) .ellipsis := Heap.get?_push_of_some _ hze
  refine wpAny_bind (wpAny_setField_rec hzf (by simp) fun hg hzg sg => ?_)
  replace hzg : IsZip hg (N + 4) (N + 2) (N + 3) (rawInt he.objs.size) := hzg
  refine wpAny_setField_rec hzg (by simp) fun hh hzh sh => ?_
  replace hzh : IsZip hh (N + 4) (N + 2) (N + 3) (rawInt he.objs.size) := hzh
  have up : ∀ c o, c ≠ N + 4 → he.get? c = some o → hh.get? c = some o := fun c o c4 q => (sh.2 c c4).trans ((sg.2 c c4).trans (Heap.get?_push_of_some _ q))
  have nz : he.objs.size ≠ N + 4 := Nat.ne_of_gt (Heap.lt_size hze)
  have hT : IsPair hh he.objs.size x y := (sh.2 _ nz).trans ((sg.2 _ nz).trans (Heap.get?_push_size _ rfl))
  refine wpAny_pure ⟨_, rfl, ?_⟩
  show Q (.ref he.objs.size) _
  rw [hsz] at hzh hT ⊢
  refine hQ hh ⟨hzh, up _ _ (d (by decide)) (hke _ _ (d (by decide)) (d (by decide)) (e0 (by decide)) (d (by decide)) hTI), ⟨x, y, up _ _ (d (by decide)) hTOe⟩, ?_, ?_⟩ hT fun c o c4 c3 c0 c1 q => up c o c4 (hke c o c4 c3 c0 c1 q)
  · exact F1.at_ _ _ _ p1e fun b o hb q => up b o (hb.elim (fun z => z ▸ (e0 (by decide)).symm) fun z => l1 z) q
  · exact F2.at_ _ _ _ p2e fun b o hb q => up b o (hb.elim (fun z => z ▸ d (by decide)) fun z => l2 z) q
theorem zip_stop (F1 : Feed prog w N xs P1 o1) (h1 : ∀ b, o1 b → b < N) {Q : PySem.Fin → Shared → Prop} (hh : A.handled = none) (Z : ZipSt N P1 P2 .none xs.length s.heap)
    (hE : ∀ h' e, (∀ c o, c ≠ N + 4 → c ≠ N → s.heap.get? c = some o → h'.get? c = some o) → (∃ o, h'.get? e = some o ∧ o.cls = .type "StopIteration") → E (.ref e) { s with heap := h' }) :
    wpAny (model prog w) A (Builtin.«zip.__next__» ⟨[.ref (N + 4)], []⟩) Q E s := by
  obtain ⟨hz, hTI, ⟨a, b, hTO⟩, p1, p2⟩ := Z
  have l1 : ∀ {j : Nat} {b : Addr}, o1 b → b ≠ N + j := fun q => Nat.ne_of_lt (Nat.lt_of_lt_of_le (h1 _ q) (Nat.le_add_right _ _))
  have e0 : ∀ {j : Nat}, j ≠ 0 → N + j ≠ N := fun h q => h (Nat.add_left_cancel (q.trans (Nat.add_zero N).symm))
  unfold Builtin.«zip.__next__»
  refine wpAny_bind (m := slotArgs _ _ _) (wpAny_pure ?_)
  refine wpAny_bind (wpAny_field hz rfl (x := .bool false) rfl ?_)
  refine wpAny_bind (wpAny_field hz rfl (x := .ref (N + 2)) rfl ?_)
  refine wpAny_bind (wpAny_seqItems hTI rfl ?_)
  dsimp only
  refine wpAny_ite_split (fun q => by simp at q) fun _ => ?_
  refine wpAny_bind (m := Builtin.SmallTypes.ownedTupleIsFree _) ?_
  unfold Builtin.SmallTypes.ownedTupleIsFree
  refine wpAny_bind (wpAny_field hz rfl (x := .none) rfl (wpAny_pure ?_))
  refine wpAny_ite_split (fun _ => ?_) fun q => absurd rfl q
  refine wpAny_bind (wpAny_rule ?_)
  refine wpAny_bind (wpAny_field hz rfl (x := .ref (N + 3)) rfl ?_)
  dsimp only
  refine wpAny_bind (wpAny_setField_rec hz (by simp) fun ha hza sa => ?_)
  replace hza : IsZip ha (N + 4) (N + 2) (N + 3) .ellipsis := hza
  have p1a := F1.by p1 sa (Nat.ne_of_lt (Nat.lt_add_of_pos_right (by decide))) fun b q => l1 q
  refine wpAny_bind ?_
  simp only [List.zipIdx_cons, List.zipIdx_nil, List.forIn_cons, List.forIn_nil]
  refine wpAny_bind (wpAny_bind (wpAny_onRaise ?_))
  show wpAny _ _ (Builtin.SmallTypes.nextOf (.ref N) >>= _) _ _ _
  refine wpAny_bind (F1.stop _ _ _ _ hh p1a fun hb e sb he => ?_)
  obtain ⟨oe, hoe, hce⟩ := he
  have hzb : IsZip hb (N + 4) (N + 2) (N + 3) .ellipsis := sb _ _ (e0 (by decide)) hza
  have hez : e ≠ N + 4 := fun x => by
    have := hoe
    rw [x, hzb] at this
    cases this
    exact absurd hce (by simp)
  refine wpAny_setField_rec hzb (by simp) fun hc _ sc => hE hc e (fun c o c4 c0 q => (sc.2 c c4).trans (sb c o c0 ((sa.2 c c4).trans q))) ⟨oe, (sc.2 e hez).trans hoe, hce⟩

theorem walks_zip (F1 : Feed prog w N xs P1 o1) (F2 : Feed prog w (N + 1) ys P2 o2) (h1 : ∀ b, o1 b → b < N) (h2 : ∀ b, o2 b → b < N) (hlen : xs.length = ys.length) (fp1 fp2 : List Addr) (hf1 : ∀ b, o1 b → b ∈ fp1) (hf2 : ∀ b, o2 b → b ∈ fp2) (hA : A.handled = none) :
    WalksU prog w A (N + 4) ([N + 4, N + 2, N + 3, N, N + 1] ++ (fp1 ++ fp2)) [N + 4, N + 3, N, N + 1] xs.length (fun i vals => ∃ x y, xs[i]? = some x ∧ ys[i]? = some y ∧ vals = #[x, y])
      (fun i h => ZipSt N P1 P2 .none i h) (fun i T h => ZipSt N P1 P2 (rawInt T) (i + 1) h ∧ T ≠ N + 4 ∧ T ≠ N + 3 ∧ T ≠ N ∧ T ≠ N + 1) where
  sub := fun b hb => by
    simp only [List.mem_cons, List.not_mem_nil, or_false] at hb
    rcases hb with rfl | rfl | rfl | rfl <;> simp
  frame := fun i h h' ⟨hz, hTI, ⟨a, b, hTO⟩, p1, p2⟩ hk => ⟨hk _ (by simp) _ hz, hk _ (by simp) _ hTI, ⟨a, b, hk _ (by simp) _ hTO⟩,
    F1.at_ _ _ _ p1 fun b o hb q => hk b (hb.elim (fun z => by rw [z]; simp) fun z => by simp [hf1 b z]) o q, F2.at_ _ _ _ p2 fun b o hb q => hk b (hb.elim (fun z => by rw [z]; simp) fun z => by simp [hf2 b z]) o q⟩
  item := fun i s Q E hi Z hQ => by
    have hiy : i < ys.length := hlen ▸ hi
    have hT : s.TypeIs (.ref (N + 4)) "zip" := ⟨_, Z.1, rfl⟩
    unfold pyNext
    refine wpAny_bind (wpAny_attempt (wpAny_callSpecial?_slot (name := Str.ofString "__next__") hT F.slot_zip_next (wpAny_call_entry F.slot_zip_next hT F.entry_zip_next
      (zip_step F1 F2 h1 h2 (List.getElem?_eq_getElem hi) (List.getElem?_eq_getElem hiy) Z fun h' Z' hp hk => wpAny_pure ?_) (F.args_zip_next_1 _))))
    have lt : ∀ {c o}, s.heap.get? c = some o → s.heap.objs.size ≠ c := fun e => Nat.ne_of_gt (Heap.lt_size e)
    obtain ⟨oa, ha⟩ := F1.live _ _ Z.2.2.2.1
    obtain ⟨ob, hb⟩ := F2.live _ _ Z.2.2.2.2
    obtain ⟨ta, tb', hTO⟩ := Z.2.2.1
    exact hQ s.heap.objs.size #[xs[i], ys[i]] h' s.toks ⟨_, _, List.getElem?_eq_getElem hi, List.getElem?_eq_getElem hiy, rfl⟩ ⟨_, hp, rfl, _, rfl⟩ ⟨Z', lt Z.1, lt hTO, lt ha, lt hb⟩
      fun c o hc e => hk c o (fun x => hc (by simp [x])) (fun x => hc (by simp [x])) (fun x => hc (by simp [x])) (fun x => hc (by simp [x])) e
  go := fun elts k pos i T s Q E zz hQ => by
    obtain ⟨⟨hz, hTI, ⟨a, b, hTO⟩, p1, p2⟩, _⟩ := zz
    refine wpAny_letOwnedTupleGo_zip hz fun h' hz' hs' => ?_
    have l1 : ∀ {j : Nat} {b : Addr}, o1 b → b ≠ N + j := fun q => Nat.ne_of_lt (Nat.lt_of_lt_of_le (h1 _ q) (Nat.le_add_right _ _))
    have l2 : ∀ {j : Nat} {b : Addr}, o2 b → b ≠ N + j := fun q => Nat.ne_of_lt (Nat.lt_of_lt_of_le (h2 _ q) (Nat.le_add_right _ _))
    have d : ∀ {i j : Nat}, i ≠ j → N + i ≠ N + j := fun h q => h (Nat.add_left_cancel q)
    exact hQ h' ⟨hz', (hs'.2 _ (d (by decide))).trans hTI, ⟨a, b, (hs'.2 _ (d (by decide))).trans hTO⟩, F1.by p1 hs' (Nat.ne_of_lt (Nat.lt_add_of_pos_right (by decide))) fun b q => l1 q, F2.by p2 hs' (d (by decide)) fun b q => l2 q⟩
      fun c o hc e => (hs'.2 c (fun x => hc (by simp [x]))).trans e
  apart := fun i T h zz hT => by
    obtain ⟨_, t1, t2, t3, t4⟩ := zz
    simp only [List.mem_cons, List.not_mem_nil, or_false] at hT
    rcases hT with rfl | rfl | rfl | rfl
    · exact t1 rfl
    · exact t2 rfl
    · exact t3 rfl
    · exact t4 rfl
  done := fun s Q E Z hQ => by
    have hT : s.TypeIs (.ref (N + 4)) "zip" := ⟨_, Z.1, rfl⟩
    unfold pyNext
    refine wpAny_bind (wpAny_attempt (wpAny_callSpecial?_slot (name := Str.ofString "__next__") hT F.slot_zip_next (wpAny_call_entry F.slot_zip_next hT F.entry_zip_next (zip_stop F1 h1 hA Z fun h' e hk ho => ?_) (F.args_zip_next_1 _))))
    obtain ⟨o, ho, hc⟩ := ho
    refine wpAny_bind (wpAny_isInstance (T := "StopIteration") (b := true) ⟨o, ho, hc⟩ isSubtype_stop ?_)
    exact wpAny_pure (hQ _ s.toks fun c o hc e => hk c o (fun x => hc (by simp [x])) (fun x => hc (by simp [x])) e)
  self := fun i s Q E Z hQ => wpAny_pyIter_zip Z.1 hQ
end
end Mine
end
/-! ## part X6 -/
section
set_option maxRecDepth 100000
namespace Mine
open PySem PyProof.Rows

noncomputable def itO (t : Addr) : Obj := { cls := .type "tuple_iterator", data := .fields #[.ref t, .int 0 0] }
noncomputable def zipHp (h : Heap) (t1 t2 : Addr) : Heap :=
  ((((h.push (itO t1)).push (itO t2)).push { cls := .type "tuple", data := .seq #[.ref h.objs.size, .ref (h.push (itO t1)).objs.size] }).push { cls := .type "tuple", data := .seq #[.none, .none] }).push
    { cls := .type "zip", data := .fields #[.none, .bool false, .bool false, .ref ((h.push (itO t1)).push (itO t2)).objs.size, .ref (((h.push (itO t1)).push (itO t2)).push { cls := .type "tuple", data := .seq #[.ref h.objs.size, .ref (h.push (itO t1)).objs.size] }).objs.size] }
theorem meets_zip_tup (t1 t2 : Addr) (xs ys : Array Value) :
    Meets (Builtin.«zip.__new__» ⟨[.type "zip", .ref t1, .ref t2], []⟩) (fun _ R s => s.heap.IsTuple t1 xs ∧ s.heap.IsTuple t2 ys ∧
      R (.ok (.ret (.ref ((((s.heap.push (itO t1)).push (itO t2)).push { cls := .type "tuple", data := .seq #[.ref s.heap.objs.size, .ref (s.heap.push (itO t1)).objs.size] }).push { cls := .type "tuple", data := .seq #[.none, .none] }).objs.size))) { s with heap := zipHp s.heap t1 t2 }) :=
  .of_wp fun prog w A R s h => by
    obtain ⟨hp, g, d, tk, os⟩ := s; obtain ⟨q1, q2, h⟩ := h
    have hsub := sub_zip
    have k1 : Heap.IsTuple (Shared.heap ⟨hp, g, d, tk, os⟩) t1 xs := q1
    have k2 : Heap.IsTuple (Shared.heap ⟨hp.push { cls := .type "tuple_iterator", data := .fields #[.ref t1, .int 0 0] }, g, d, tk, os⟩) t2 ys := q2.push _
    wp_walk using wpAny_pyIter_tuple k1, wpAny_pyIter_tuple k2
    exact ⟨_, rfl, h⟩
theorem call_zip_tup {prog : Program} {w : World} {A : Around} {E : Value → Shared → Prop} {s : Shared} {t1 t2 : Addr} {xs ys : Array Value} {Q : Value → Shared → Prop} (q1 : s.heap.IsTuple t1 xs) (q2 : s.heap.IsTuple t2 ys)
    (h : ∀ h', ZipSt s.heap.objs.size (fun k h => h.IsTupleIter s.heap.objs.size t1 k ∧ h.IsTuple t1 xs) (fun k h => h.IsTupleIter (s.heap.objs.size + 1) t2 k ∧ h.IsTuple t2 ys) .none 0 h' → h'.objs.size = s.heap.objs.size + 5 →
      (∀ c o, s.heap.get? c = some o → h'.get? c = some o) → Q (.ref (s.heap.objs.size + 4)) { s with heap := h' }) :
    wpAny (model prog w) A (call (.type "zip") [.ref t1, .ref t2]) Q E s := by
  refine callType_new F.called_zip (by decide) (F.typeCall_zip_2 _ _) (F.newCall_zip_2 _ _) (fun obj => F.args_object_init_3 obj _ _) F.entry_zip_new (meets_zip_tup t1 t2 xs ys) ⟨q1, q2, ?_⟩
  have z1 : (s.heap.push (itO t1)).objs.size = s.heap.objs.size + 1 := Heap.size_push ..
  have z2 : ((s.heap.push (itO t1)).push (itO t2)).objs.size = s.heap.objs.size + 2 := by rw [Heap.size_push, z1]
  unfold zipHp
  rw [z1, z2]
  have z3 : (((s.heap.push (itO t1)).push (itO t2)).push { cls := .type "tuple", data := .seq #[.ref s.heap.objs.size, .ref (s.heap.objs.size + 1)] }).objs.size = s.heap.objs.size + 3 := by rw [Heap.size_push, z2]
  rw [z3]
  have z4 : ((((s.heap.push (itO t1)).push (itO t2)).push { cls := .type "tuple", data := .seq #[.ref s.heap.objs.size, .ref (s.heap.objs.size + 1)] }).push { cls := .type "tuple", data := .seq #[.none, .none] }).objs.size = s.heap.objs.size + 4 := by rw [Heap.size_push, z3]
  rw [z4]
  have up : ∀ (c : Addr) (o : Obj), s.heap.get? c = some o → (((((s.heap.push (itO t1)).push (itO t2)).push { cls := .type "tuple", data := .seq #[.ref s.heap.objs.size, .ref (s.heap.objs.size + 1)] }).push { cls := .type "tuple", data := .seq #[.none, .none] }).push
    { cls := .type "zip", data := .fields #[.none, .bool false, .bool false, .ref (s.heap.objs.size + 2), .ref (s.heap.objs.size + 3)] }).get? c = some o := fun c o x =>
    Heap.get?_push_of_some _ (Heap.get?_push_of_some _ (Heap.get?_push_of_some _ (Heap.get?_push_of_some _ (Heap.get?_push_of_some _ x))))
  have g5 := Heap.get?_push_size ((((s.heap.push (itO t1)).push (itO t2)).push { cls := .type "tuple", data := .seq #[.ref s.heap.objs.size, .ref (s.heap.objs.size + 1)] }).push { cls := .type "tuple", data := .seq #[.none, .none] })
    (o := { cls := .type "zip", data := .fields #[.none, .bool false, .bool false, .ref (s.heap.objs.size + 2), .ref (s.heap.objs.size + 3)] }) rfl
  rw [z4] at g5
  have g4 := Heap.get?_push_of_some { cls := .type "zip", data := .fields #[.none, .bool false, .bool false, .ref (s.heap.objs.size + 2), .ref (s.heap.objs.size + 3)] }
    (Heap.get?_push_size (((s.heap.push (itO t1)).push (itO t2)).push { cls := .type "tuple", data := .seq #[.ref s.heap.objs.size, .ref (s.heap.objs.size + 1)] }) (o := { cls := .type "tuple", data := .seq #[.none, .none] }) rfl)
  rw [z3] at g4
  have g3 := Heap.get?_push_of_some { cls := .type "zip", data := .fields #[.none, .bool false, .bool false, .ref (s.heap.objs.size + 2), .ref (s.heap.objs.size + 3)] } (Heap.get?_push_of_some { cls := .type "tuple", data := .seq #[.none, .none] }
    (Heap.get?_push_size ((s.heap.push (itO t1)).push (itO t2)) (o := { cls := .type "tuple", data := .seq #[.ref s.heap.objs.size, .ref (s.heap.objs.size + 1)] }) rfl))
  rw [z2] at g3
  have g2 := Heap.get?_push_of_some { cls := .type "zip", data := .fields #[.none, .bool false, .bool false, .ref (s.heap.objs.size + 2), .ref (s.heap.objs.size + 3)] } (Heap.get?_push_of_some { cls := .type "tuple", data := .seq #[.none, .none] }
    (Heap.get?_push_of_some { cls := .type "tuple", data := .seq #[.ref s.heap.objs.size, .ref (s.heap.objs.size + 1)] } (Heap.get?_push_size (s.heap.push (itO t1)) (o := itO t2) rfl)))
  rw [z1] at g2
  have g1 := Heap.get?_push_of_some { cls := .type "zip", data := .fields #[.none, .bool false, .bool false, .ref (s.heap.objs.size + 2), .ref (s.heap.objs.size + 3)] } (Heap.get?_push_of_some { cls := .type "tuple", data := .seq #[.none, .none] }
    (Heap.get?_push_of_some { cls := .type "tuple", data := .seq #[.ref s.heap.objs.size, .ref (s.heap.objs.size + 1)] } (Heap.get?_push_of_some (itO t2) (Heap.get?_push_size s.heap (o := itO t1) rfl))))
  show _ ∧ _
  refine ⟨⟨_, g5, rfl⟩, h _ ⟨g5, g3, ⟨_, _, g4⟩, ⟨⟨_, g1, rfl, rfl⟩, let ⟨o, e, r⟩ := q1; ⟨o, up _ _ e, r⟩⟩, ⟨⟨_, g2, rfl, rfl⟩, let ⟨o, e, r⟩ := q2; ⟨o, up _ _ e, r⟩⟩⟩ ?_ up⟩
  rw [Heap.size_push, z4]
end Mine
end
/-! ## part X7 -/
section
set_option maxRecDepth 100000
namespace Mine
open PySem PyProof.Rows
variable {c : Cx} {ds : List D}

theorem grown_tabs1 {Z : Addr → Prop} {h h' : Heap} {ps : Array Value} {c' : Addr} {pos : Pos} (hx : Heap.ExtBut 51 h h') (hP : h.get? 51 = some (PySem.W.tabObj ps)) (hge : h.objs.size ≤ c') (hrec : h'.CodeRec (.ref c') "add_callers.<locals>.<genexpr>")
    (hP' : h'.get? 51 = some (PySem.W.tabObj (ps ++ #[rawInt pos.line, rawInt pos.col, .ref c']))) (l : ∀ a, Z a → Alive h a) (t : TabsOk Z h) : TabsOk Z h' := by
  have le : Fle (fz Z h) (fz Z h') := fle_of fun b o n e => hx b o (fun q => n (.inl q)) e
  refine ⟨?_, t.t2.mono (fun o e => hx _ o (by decide) e) le⟩
  obtain ⟨ps2, e2, t2, co⟩ := t.t1
  rw [hP] at e2
  cases e2
  have hl : (ps ++ #[rawInt pos.line, rawInt pos.col, Value.ref c']).toList = ps.toList ++ [rawInt pos.line, rawInt pos.col, .ref c'] := by simp
  refine ⟨_, hP', by rw [hl]; exact TriplesOk_snoc _ _ _ _ t2, fun p cv x => ?_⟩
  rw [hl, codeAmong_append _ _ t2] at x
  cases hc : codeAmong p ps.toList with
  | some cv2 => rw [hc] at x; cases x; exact (co p _ hc).mono le
  | none =>
    rw [hc] at x
    simp only [Option.none_or, codeAmong, rawInt] at x
    split at x
    · cases x
      obtain ⟨a, o, vs, tk, e, g, r⟩ := hrec
      cases e
      refine ⟨c', o, vs, tk, rfl, ⟨fun z => ?_, g⟩, r⟩
      rcases z with z | z
      · obtain ⟨o', q⟩ := l _ z; rw [get?_size_none _ _ hge] at q; cases q
      · obtain ⟨o', q⟩ := t.alive z; rw [get?_size_none _ _ hge] at q; cases q
    · cases x
theorem gen_code {pos : Pos} {scope : Scope} {s : Shared} {E : Value → Shared → Prop} {Q : Value → Shared → Prop} (T : TopOk c.H) (hcode : c.env.code = .ref 55) (B : Base c.H c.X s.heap)
    (hQ : ∀ cv h' tk, Ext s { s with heap := h', toks := tk } → FzCode (fz c.X h') cv "add_callers.<locals>.<genexpr>" → Q cv { s with heap := h', toks := tk }) :
    wpAny c.M c.A (genexprCode c.env pos "add_callers.<locals>.<genexpr>" scope) Q E s := by
  obtain ⟨ps, hP, ht, co⟩ := B.tabs.t1
  have C := T.code1.keeps B.h
  cases hf : codeAmong pos ps.toList with
  | some cv => exact wpAny_genexprCode_hit hcode (C.code hP ht) hf (hQ cv s.heap s.toks (.refl s) (co pos cv hf))
  | none =>
    refine wpAny_genexprCodeX hcode (C.code hP ht) (C.tab hP) hf fun c' h' tk hx hge hlt hok hrec htab _ => ?_
    have htb : h'.get? 51 = some (PySem.W.tabObj (ps ++ #[rawInt pos.line, rawInt pos.col, .ref c'])) := htab.2
    have k2 : ∀ b o, ¬ tb b → s.heap.get? b = some o → h'.get? b = some o := fun b o n e => hx b o (fun q => n (.inl q)) e
    refine hQ (.ref c') h' tk ⟨⟨k2, fun b t l => ?_, fun Z l t => grown_tabs1 hx hP hge hrec htb l t⟩, rfl, id⟩ ?_
    · rcases t with rfl | rfl
      · exact ⟨_, htb⟩
      · obtain ⟨o, e⟩ := l; exact ⟨o, hx _ _ (by decide) e⟩
    · obtain ⟨a, o2, vs, tk2, e, g, r⟩ := hrec
      cases e
      exact ⟨c', o2, vs, tk2, rfl, ⟨B.fresh (get?_size_none _ _ hge), g⟩, r⟩
end Mine
end
/-! ## part X8 -/
section
set_option maxRecDepth 100000
namespace Mine
open PySem PyProof.Rows
variable {c : Cx} {ds : List D}

theorem ev_call_raw {func arg : Expr} {pos : Pos} {T : String} {d : D} (hf : Ev c ds func (.val (.type T)))
    (harg : ∀ s E, St c ds s → wpAny c.M c.A (eval arg c.env) (fun u s1 => wpAny c.M c.A (call (.type T) [u] []) (fun r s2 => Ext s s2 ∧ d.rep (fz c.X s2.heap) r) E s1) E s)
    (hn : noStar [arg] = true := by rfl) (he : starEach [arg] c.env = (false, eval arg c.env) :: starEach [] c.env := by rfl)
    (hq : eval (.Call func [arg] [] pos) c.env = (do callWith pos (← eval func c.env) [] (backTo pos (starEach [arg] c.env)) (backToKw pos (keywordEach [] c.env))) := by rfl) : Ev c ds (.Call func [arg] [] pos) d := .mk fun s E S => by
  show wpAny _ _ (eval (.Call func [arg] [] pos) c.env) _ _ _
  rw [hq]
  refine wpAny_bind (wpAny_mono (hf.run s E S) (fun v s1 zz => ?_) fun _ _ x => x)
  obtain ⟨e1, r1⟩ := zz
  rw [of_val r1]
  obtain ⟨n1, n2⟩ := backTo_plain pos c.env [arg] hn
  obtain ⟨k1, k2, k3, k4⟩ := kw_names pos c.env (kws := []) (ns := []) rfl
  refine PySem.W.callWith_of (P := fun _ => True) (by rw [n1, k2]; rfl) (fun h _ => ⟨.machine, .inr (.inl rfl), .of_pure rfl⟩) ?_
  have body : wpAny c.M c.A (spliced (backTo pos (starEach [arg] c.env))) (fun vs s₁ => wpAny c.M c.A (evalAll ((backToKw pos (keywordEach [] c.env)).map (·.2))) (fun ks s₂ =>
      True ∧ wpAny c.M c.A (call (.type T) ([] ++ vs) (([] : List Str).zip ks)) (fun r s2 => Ext s s2 ∧ d.rep (fz c.X s2.heap) r) E s₂) E s₁) E s1 := by
    refine wpAny_items_cons (wpAny_mono (harg s1 E (S.ext e1)) (fun u s2 hu => ?_) fun _ _ x => x) he
    refine wpAny_items_nil ?_
    refine wpAny_pure ⟨trivial, ?_⟩
    exact wpAny_mono hu (fun r s3 ⟨e3, r3⟩ => ⟨e1.trans e3, r3⟩) fun _ _ x => x
  rw [he] at body ⊢
  refine evalArgs_kw k1 ?_
  rw [k3]
  exact body
end Mine
end
/-! ## part X9 -/
section
set_option maxRecDepth 100000
namespace Mine
open PySem PyProof.Rows
variable {c : Cx} {ds : List D}

theorem zip_iter {zf e1 e2 : Expr} {zpos : Pos} {l1 l2 : List D} (hz : Ev c ds zf (.val (.type "zip"))) (h1 : Ev c ds e1 (.tup l1)) (h2 : Ev c ds e2 (.tup l2))
    (hn : noStar [e1, e2] = true := by rfl) (he1 : starEach [e1, e2] c.env = (false, eval e1 c.env) :: starEach [e2] c.env := by rfl) (he2 : starEach [e2] c.env = (false, eval e2 c.env) :: starEach [] c.env := by rfl)
    (hq : eval (.Call zf [e1, e2] [] zpos) c.env = (do callWith zpos (← eval zf c.env) [] (backTo zpos (starEach [e1, e2] c.env)) (backToKw zpos (keywordEach [] c.env))) := by rfl)
    {s : Shared} {E : Value → Shared → Prop} {Q : Value → Shared → Prop} (S : St c ds s)
    (hQ : ∀ (s0 : Shared) (h' : Heap) (t1 t2 : Addr) (xs ys : Array Value), Ext s s0 → (∀ b o, s0.heap.get? b = some o → h'.get? b = some o) → repAll (fz c.X s0.heap) l1 xs.toList → repAll (fz c.X s0.heap) l2 ys.toList → t1 < s0.heap.objs.size → t2 < s0.heap.objs.size → ¬ tb t1 → ¬ tb t2 →
      ZipSt s0.heap.objs.size (fun k h => h.IsTupleIter s0.heap.objs.size t1 k ∧ h.IsTuple t1 xs) (fun k h => h.IsTupleIter (s0.heap.objs.size + 1) t2 k ∧ h.IsTuple t2 ys) .none 0 h' → Q (.ref (s0.heap.objs.size + 4)) { s0 with heap := h' }) :
    wpAny c.M c.A (eval (.Call zf [e1, e2] [] zpos) c.env) (fun xv s1 => wpAny c.M c.A (pyIter xv) Q E s1) E s := by
  rw [hq]
  refine wpAny_bind (wpAny_mono (hz.run s E S) (fun v s1 zz => ?_) fun _ _ x => x)
  obtain ⟨x1, r1⟩ := zz
  rw [of_val r1]
  refine callWith_rule (S.ext x1) hn (evl_cons h1 (evl_cons h2 evl_nil he2) he1) evk_nil (fun s' x => kpr_type _ _ ((S.ext x1).ext x).base rep_val) fun s' vs ks x rv rk => ?_
  obtain ⟨u1, u2, rfl, ⟨t1, xs, n1, d1, sl1, q1, g1, r1⟩, ⟨t2, ys, n2, d2, sl2, q2, g2, r2⟩⟩ := repAll2 rv
  ·
    subst q1; subst q2
    show wpAny _ _ (call (.type "zip") [.ref t1, .ref t2]) _ _ _
    refine call_zip_tup (fz_isTuple g1) (fz_isTuple g2) fun h' Z hsz hk => ?_
    exact wpAny_pyIter_zip Z.1 (hQ s' h' t1 t2 xs ys (x1.trans x) hk r1 r2 (Heap.lt_size g1.2) (Heap.lt_size g2.2) (fun z => g1.1 (.inr z)) (fun z => g2.1 (.inr z)) Z)
end Mine
end
/-! ## part X10 -/
section
set_option maxRecDepth 100000
namespace Mine
open PySem PyProof.Rows
variable {c : Cx} {ds : List D}
noncomputable def addD (ns ms : List Int) : List Int := (ns.zip ms).map fun p => p.1 + p.2
theorem ints_tup {g : Fz} {ns : List Int} {xs : Array Value} (r : repAll g (ns.map D.int) xs.toList) {i : Nat} {v : Value} (h : xs.toList[i]? = some v) : ∃ t, v = .int (ns.getD i 0) t := ints_walk r h

theorem repAll_of_ints {g : Fz} : ∀ {ns : List Int} {vs : List Value}, vs.length = ns.length → (∀ j v, vs[j]? = some v → ∃ t, v = Value.int (ns.getD j 0) t) → repAll g (ns.map D.int) vs
  | [], [], _, _ => trivial
  | n :: ns, v :: vs, hl, h => ⟨h 0 v rfl, repAll_of_ints (by simpa using hl) fun j x e => h (j + 1) x e⟩
  | [], _ :: _, hl, _ => by simp at hl
  | _ :: _, [], hl, _ => by simp at hl
theorem ev_tuple_gen {tf zf e1 e2 : Expr} {zpos gpos pos pa pb pt p1 p2 p3 : Pos} {kt : Nat} {scope : Scope} {ns ms : List Int} (T : TopOk c.H) (hlim : c.H.NoLimit) (R : Room c.A 4) (hcode : c.env.code = .ref 55) (hqual : c.env.qual ++ "<genexpr>" = "add_callers.<locals>.<genexpr>")
    (htf : Ev c ds tf (.val (.type "tuple"))) (hz : Ev c ds zf (.val (.type "zip"))) (h1 : Ev c ds e1 (.tup (ns.map D.int))) (h2 : Ev c ds e2 (.tup (ms.map D.int))) (hl : ns.length = ms.length) (hsmall : ns.length ≤ 100)
    (hclos : closureFor scope c.env = pure []) (hsc : scope = { kind := .function, names := [(".0", .local), ("i", .local), ("j", .local)], isGenerator := true, isCoroutine := false })
    (hfold : ∀ x, genFold (.Call zf [e1, e2] [] zpos) c.env x = pure x)
    (hn : noStar [e1, e2] = true := by rfl) (he1 : starEach [e1, e2] c.env = (false, eval e1 c.env) :: starEach [e2] c.env := by rfl) (he2 : starEach [e2] c.env = (false, eval e2 c.env) :: starEach [] c.env := by rfl)
    (hq : eval (.Call zf [e1, e2] [] zpos) c.env = (do callWith zpos (← eval zf c.env) [] (backTo zpos (starEach [e1, e2] c.env)) (backToKw zpos (keywordEach [] c.env))) := by rfl)
    (heg : starEach [.GeneratorExp (.BinOp (.Name "i" p1) .Add (.Name "j" p2) p3) [⟨.Tuple [.Name "i" pa, .Name "j" pb] kt pt, .Call zf [e1, e2] [] zpos, [], 0⟩] scope gpos] c.env = (false, eval (.GeneratorExp (.BinOp (.Name "i" p1) .Add (.Name "j" p2) p3) [⟨.Tuple [.Name "i" pa, .Name "j" pb] kt pt, .Call zf [e1, e2] [] zpos, [], 0⟩] scope gpos) c.env) :: starEach [] c.env := by rfl)
    (hqg : eval (.Call tf [.GeneratorExp (.BinOp (.Name "i" p1) .Add (.Name "j" p2) p3) [⟨.Tuple [.Name "i" pa, .Name "j" pb] kt pt, .Call zf [e1, e2] [] zpos, [], 0⟩] scope gpos] [] pos) c.env = (do callWith pos (← eval tf c.env) [] (backTo pos (starEach [.GeneratorExp (.BinOp (.Name "i" p1) .Add (.Name "j" p2) p3) [⟨.Tuple [.Name "i" pa, .Name "j" pb] kt pt, .Call zf [e1, e2] [] zpos, [], 0⟩] scope gpos] c.env)) (backToKw pos (keywordEach [] c.env))) := by rfl) :
    Ev c ds (.Call tf [.GeneratorExp (.BinOp (.Name "i" p1) .Add (.Name "j" p2) p3) [⟨.Tuple [.Name "i" pa, .Name "j" pb] kt pt, .Call zf [e1, e2] [] zpos, [], 0⟩] scope gpos] [] pos) (.tup ((addD ns ms).map D.int)) := by
  refine ev_call_raw htf (fun s E S => ?_) rfl heg hqg
  subst hsc
  refine wpAny_GeneratorExp_walksQT R.handled rfl hclos (by decide) rfl rfl rfl (by decide) rfl (by have := R.depth; (first | lia | omega)) ?_ hfold
  refine wpAny_mono (zip_iter hz h1 h2 hn he1 he2 hq S fun s0 h' t1 t2 xs ys x0 hk r1 r2 lt1 lt2 nt1 nt2 Z => ?_) (fun _ _ x => x) fun _ _ x => x
  have S0 := S.ext x0
  have x1 : Ext s0 { s0 with heap := h' } := .of hk
  have S1 := S0.ext x1
  refine ⟨hlim.keeps S1.base.h, ?_⟩
  rw [hqual]
  refine gen_code T hcode S1.base fun cv h3 tk x2 hcv => ?_
  have S2 := S1.ext x2
  obtain ⟨mg, bm, ob, b1, b2, b3, b4, b5, b6, b7, b8⟩ := T.bm
  refine wpAny_builtinsFor (m := mg) (by rw [S2.fr.ok.glob]; exact b1.keeps S2.base.h) b2 b3 (S2.base.h _ _ b5) b6 b7 b8 ?_
  have ls1 : xs.toList.length = ns.length := by have := repAll_length r1; simpa using this
  have ls2 : ys.toList.length = ms.length := by have := repAll_length r2; simpa using this
  have dead : ∀ j, s0.heap.get? (s0.heap.objs.size + j) = none := fun j => get?_size_none _ _ (Nat.le_add_right _ _)
  have ntN : ∀ j, ¬ tb (s0.heap.objs.size + j) := fun j x => by obtain ⟨o, q⟩ := S0.base.tabs.alive x; rw [dead j] at q; cases q
  have W : ∀ A' : Around, A'.handled = none → WalksU c.prog c.w A' (s0.heap.objs.size + 4) ([s0.heap.objs.size + 4, s0.heap.objs.size + 2, s0.heap.objs.size + 3, s0.heap.objs.size, s0.heap.objs.size + 1] ++ ([t1] ++ [t2])) [s0.heap.objs.size + 4, s0.heap.objs.size + 3, s0.heap.objs.size, s0.heap.objs.size + 1] xs.toList.length _ _ _ := fun A' hA' =>
    walks_zip (feed_tuple (items := xs) (Nat.ne_of_lt lt1)) (feed_tuple (items := ys) (Nat.ne_of_lt (Nat.lt_succ_of_lt lt2))) (fun b q => q ▸ lt1) (fun b q => q ▸ lt2) (ls1.trans (hl.trans ls2.symm)) [t1] [t2] (fun b q => by rw [q]; simp) (fun b q => by rw [q]; simp) hA'
  have hfpn : ∀ b ∈ [s0.heap.objs.size + 4, s0.heap.objs.size + 2, s0.heap.objs.size + 3, s0.heap.objs.size, s0.heap.objs.size + 1] ++ ([t1] ++ [t2]), ¬ tb b := fun b hb => by
    simp only [List.mem_append, List.mem_cons, List.not_mem_nil, or_false] at hb
    rcases hb with (rfl | rfl | rfl | rfl | rfl) | rfl | rfl <;> first | exact ntN _ | exact ntN 0 | assumption
  have Z3 := (W c.A R.handled).frame 0 h' h3 Z fun b hb o e => x2.keep.get b o (hfpn b hb) e
  refine ⟨_, _, _, _, _, _, _, fun _ => true, fun i y => ∃ t, y = .int (ns.getD i 0 + ms.getD i 0) t, rfl, W, ?_, Z3, ?_, hlim.keeps S2.base.h, ?_, ?_, ?_⟩
  · rintro i vals ⟨x, y, _, _, rfl⟩; exact ⟨x, y, rfl⟩
  · intro b hb
    have al : Alive h' b := by
      simp only [List.mem_append, List.mem_cons, List.not_mem_nil, or_false] at hb
      obtain ⟨z1, z2, ⟨ta, tb', z3⟩, ⟨⟨oa, za, _⟩, ⟨o1, y1, _⟩⟩, ⟨⟨ob', zb, _⟩, ⟨o2, y2, _⟩⟩⟩ := Z
      rcases hb with (rfl | rfl | rfl | rfl | rfl) | rfl | rfl
      · exact ⟨_, z1⟩
      · exact ⟨_, z2⟩
      · exact ⟨_, z3⟩
      · exact ⟨_, za⟩
      · exact ⟨_, zb⟩
      · exact ⟨_, y1⟩
      · exact ⟨_, y2⟩
    obtain ⟨o, q⟩ := x2.keep.alive al
    exact Heap.lt_size q
  · have hcs : cStatics < s0.heap.objs.size := let ⟨_, hn, _⟩ := hlim.keeps S0.base.h; hn.lt
    simp only [List.mem_cons, List.not_mem_nil, or_false, not_or]
    have : ∀ j, cStatics ≠ s0.heap.objs.size + j := fun j => Nat.ne_of_lt (Nat.lt_of_lt_of_le hcs (Nat.le_add_right _ _))
    exact ⟨this 4, this 3, this 0, this 1⟩
  · intro href hkr
    refine ⟨fun A' E' i va vb s₂ m₂ hh hP hn ha hb hk => wpAny_tests_nil ⟨rfl, s₂.heap, s₂.toks, rfl, fun _ _ e => e⟩, fun A' E' i va vb s₂ m₂ hh hP _ hn ha hb hk => ?_⟩
    obtain ⟨x, y, hx, hy, e⟩ := hP
    have ex : va = x ∧ vb = y := by simpa using congrArg Array.toList e
    obtain ⟨u1, q1⟩ := ints_tup r1 hx
    obtain ⟨u2, q2⟩ := ints_tup r2 hy
    refine wpAny_BinOp (wpAny_Name (wpAny_loadName_local rfl rfl hn ha ?_) rfl)
    refine wpAny_Name (wpAny_loadName_local rfl rfl hn hb ?_) rfl
    rw [ex.1, ex.2, q1, q2]
    exact PyProof.Rows.add_int ⟨⟨_, rfl⟩, s₂.heap, _, rfl, fun _ _ e => e⟩
  · intro a h5 tk5 gs hgs hlt hsz hk5 WS hG
    have hlen : (passing (fun _ => true) xs.toList.length 0) = List.range xs.toList.length := by simp [passing]
    refine call_tuple_gen (WalksS.of_in1 WS) (fun j s' q => q.1.typeIs) hG (fun b hb => ?_) (by simp) (fun s' acc hm hacc => ?_) (by rw [hlen, List.length_range, ls1, sizeLine_eq]; (first | lia | omega))
    · show b < h5.objs.size
      rw [hsz]
      rcases List.mem_cons.mp hb with rfl | hb
      · exact Nat.lt_succ_self _
      · rcases List.mem_cons.mp hb with rfl | hb
        · exact Nat.lt_succ_of_lt hlt
        · exact Nat.lt_succ_of_lt (Nat.lt_trans (List.mem_range.mp hb) hlt)
    · obtain ⟨z1, z2, ⟨ta, tb', z3⟩, ⟨⟨oa, za, _⟩, ⟨o1, y1, _⟩⟩, ⟨⟨ob', zb, _⟩, ⟨o2, y2, _⟩⟩⟩ := id Z
      have live4 : ∀ b ∈ [s0.heap.objs.size + 4, s0.heap.objs.size + 3, s0.heap.objs.size, s0.heap.objs.size + 1], Alive h' b := fun b hb => by
        simp only [List.mem_cons, List.not_mem_nil, or_false] at hb
        rcases hb with rfl | rfl | rfl | rfl
        · exact ⟨_, z1⟩
        · exact ⟨_, z3⟩
        · exact ⟨_, za⟩
        · exact ⟨_, zb⟩
      have dead4 : ∀ b ∈ [s0.heap.objs.size + 4, s0.heap.objs.size + 3, s0.heap.objs.size, s0.heap.objs.size + 1], s0.heap.get? b = none := fun b hb => by
        simp only [List.mem_cons, List.not_mem_nil, or_false] at hb
        rcases hb with rfl | rfl | rfl | rfl <;> first | exact dead _ | exact dead 0
      have x12 := x1.trans x2
      have nG : h3.get? h3.objs.size = none := get?_size_none _ _ (Nat.le_refl _)
      have kp : ∀ b o, b ∉ [s0.heap.objs.size + 4, s0.heap.objs.size + 3, s0.heap.objs.size, s0.heap.objs.size + 1] → h3.get? b = some o → (s'.heap.push { cls := .type "tuple", data := .seq acc }).get? b = some o := fun b o n e =>
        Heap.get?_push_of_some _ (hm.heap b o (fun x => by
          rcases List.mem_cons.mp x with q | q
          · rw [q] at e; rw [show h3.get? h3.objs.size = none from nG] at e; cases e
          · exact n q) (hk5 b o e))
      have nw : ∀ b, Alive s0.heap b → b ∉ [s0.heap.objs.size + 4, s0.heap.objs.size + 3, s0.heap.objs.size, s0.heap.objs.size + 1] := fun b ⟨o, e⟩ x => by rw [dead4 b x] at e; cases e
      have al : ∀ b, Alive s0.heap b → Alive (s'.heap.push { cls := .type "tuple", data := .seq acc }) b := fun b l => let ⟨o, e⟩ := x12.keep.alive l; ⟨o, kp b o (nw b l) e⟩
      have X : Ext s0 { s' with heap := s'.heap.push { cls := .type "tuple", data := .seq acc } } := by
        refine ⟨⟨fun b o n e => kp b o (nw b ⟨o, e⟩) (x12.keep.get b o n e), fun b _ l => al b l, fun Z' l t => ?_⟩, hm.os, fun b => AllBare.moved (AllBare.push b hgs) hm.gens⟩
        have w4 : ∀ a, XW Z' [s0.heap.objs.size + 4, s0.heap.objs.size + 3, s0.heap.objs.size, s0.heap.objs.size + 1] a → Alive h' a := fun a y => y.elim (fun y => let ⟨o, q⟩ := l a y; ⟨o, hk a o q⟩) (live4 a)
        have t1 : TabsOk (XW Z' [s0.heap.objs.size + 4, s0.heap.objs.size + 3, s0.heap.objs.size, s0.heap.objs.size + 1]) h' := t.mono (fun b o _ => hk b o) (fle_grow (fun b o _ => hk b o) dead4)
        have t2 := x2.keep.tabs _ w4 t1
        refine t2.mono (fun b o q e => kp b o (fun x => ?_) e) fun a o q => ⟨fun x => q.1 (x.imp .inl id), kp a o (fun x => q.1 (.inl (.inr x))) q.2⟩
        obtain ⟨o', e'⟩ := t.alive q
        rw [dead4 b x] at e'; cases e'
      refine ⟨x0.trans X, _, _, _, _, _, rfl, ⟨S0.base.fresh ?_, Heap.get?_push_size _ rfl⟩, ?_⟩
      · cases e : s0.heap.get? s'.heap.objs.size with
        | none => rfl
        | some o =>
          obtain ⟨o', e'⟩ := x12.keep.alive ⟨o, e⟩
          exact absurd (Heap.lt_size (hm.heap _ o' (fun x => by
            rcases List.mem_cons.mp x with q | q
            · rw [q] at e'; rw [show h3.get? h3.objs.size = none from nG] at e'; cases e'
            · exact nw _ ⟨o, e⟩ q) (hk5 _ o' e'))) (Nat.lt_irrefl _)
      · refine repAll_of_ints ?_ fun j v hv => ?_
        · have := hacc.1
          rw [hlen, List.length_range] at this
          rw [Array.length_toList, this, ls1]; simp [addD, hl]
        · rw [Array.getElem?_toList] at hv
          obtain ⟨i, hi, t, e⟩ := hacc.2 j v hv
          rw [hlen] at hi
          have hj := List.getElem?_eq_some_iff.mp hi
          obtain ⟨hj1, hj2⟩ := hj
          rw [List.getElem_range] at hj2
          subst hj2
          rw [List.length_range] at hj1
          refine ⟨t, e.trans ?_⟩
          congr 1
          have l1 : j < ns.length := ls1 ▸ hj1
          have l2 : j < ms.length := hl ▸ l1
          have e3 : (ns.zip ms)[j]? = some (ns[j], ms[j]) := List.getElem?_zip_eq_some.mpr ⟨List.getElem?_eq_getElem l1, List.getElem?_eq_getElem l2⟩
          simp [addD, List.getD_eq_getElem?_getD, l1, l2, e3]
end Mine
end
/-! ## part C1 -/
section
open PySem PySem.W PyProof.Rows
set_option maxRecDepth 100000
namespace Mine

section
variable {α : Type}
noncomputable def kset (m : List (Int × α)) (k : Int) (v : α) : List (Int × α) := if k ∈ m.map Prod.fst then m.map (fun p => if p.1 = k then (p.1, v) else p) else m ++ [(k, v)]
noncomputable def kget : List (Int × α) → Int → Option α
  | [], _ => none
  | p :: m, k => if p.1 = k then some p.2 else kget m k
noncomputable abbrev kd (f : α → D) (m : List (Int × α)) : D := .dict (m.map Prod.fst) (m.map fun p => f p.2)
theorem dset_kset (f : α → D) (m : List (Int × α)) (k : Int) (v : α) : D.dict (dset (m.map Prod.fst) (m.map fun p => f p.2) k (f v)).1 (dset (m.map Prod.fst) (m.map fun p => f p.2) k (f v)).2 = kd f (kset m k v) := by
  unfold dset kset kd
  by_cases h : k ∈ m.map Prod.fst
  · simp only [h, if_true]
    have e1 : (m.map fun p => if p.1 = k then (p.1, v) else p).map Prod.fst = m.map Prod.fst := by
      rw [List.map_map]; apply List.map_congr_left; intro p _; dsimp; split <;> rfl
    have e2 : ((m.map Prod.fst).zip (m.map fun p => f p.2)).map (fun p => if p.1 = k then f v else p.2) = (m.map fun p => if p.1 = k then (p.1, v) else p).map fun p => f p.2 := by
      rw [List.zip_map', List.map_map, List.map_map]
      apply List.map_congr_left; intro p _; dsimp; split <;> rfl
    rw [e1, e2]
  · simp only [h, if_false, List.map_append, List.map_cons, List.map_nil]
theorem dget_kget (f : α → D) (k : Int) : ∀ m : List (Int × α), dget (m.map Prod.fst) (m.map fun p => f p.2) k = (kget m k).map f
  | [] => rfl
  | p :: m => by
    rw [List.map_cons, List.map_cons, dget, kget, dget_kget f k m]
    split <;> rfl
theorem kget_isSome (k : Int) : ∀ m : List (Int × α), (kget m k).isSome = decide (k ∈ m.map Prod.fst)
  | [] => by simp [kget]
  | p :: m => by
    rw [kget]
    split
    · rename_i h; simp [h]
    · rename_i h
      rw [kget_isSome k m]
      have : ¬ k = p.1 := fun e => h e.symm
      simp [this]
theorem kset_length (m : List (Int × α)) (k : Int) (v : α) : (kset m k v).length ≤ m.length + 1 := by
  unfold kset; split <;> simp
noncomputable def copyK (m : List (Int × α)) : List (Int × α) := m.foldl (fun acc p => kset acc p.1 p.2) []
noncomputable def addStep (add : α → α → α) (acc : List (Int × α)) (p : Int × α) : List (Int × α) := match kget acc p.1 with
  | some v => kset acc p.1 (add p.2 v)
  | none => kset acc p.1 p.2
noncomputable def addK (add : α → α → α) (t s : List (Int × α)) : List (Int × α) := s.foldl (addStep add) (copyK t)
theorem paired_kd (f : α → D) (m : List (Int × α)) : paired (m.map Prod.fst) (m.map fun p => f p.2) = m.map fun p => D.tup [.int p.1, f p.2] := by
  unfold paired
  rw [List.zip_map', List.map_map]; rfl
theorem foldl_take_succ {β γ : Type} (g : γ → β → γ) (z : γ) (l : List β) {i : Nat} {x : β} (h : l[i]? = some x) : (l.take (i + 1)).foldl g z = g ((l.take i).foldl g z) x := by
  rw [List.take_add_one, h, List.foldl_append]; rfl
theorem foldl_len {β : Type} (g : List (Int × α) → β → List (Int × α)) (hg : ∀ a b, (g a b).length ≤ a.length + 1) : ∀ (l : List β) (z : List (Int × α)), (l.foldl g z).length ≤ z.length + l.length
  | [], z => by simp
  | b :: l, z => by
    have := foldl_len g hg l (g z b)
    have := hg z b
    simp only [List.foldl_cons, List.length_cons]; (first | lia | omega)
theorem addStep_len (add : α → α → α) (a : List (Int × α)) (b : Int × α) : (addStep add a b).length ≤ a.length + 1 := by
  unfold addStep; split <;> exact kset_length _ _ _
noncomputable def Summed (f : α → D) (add : α → α → α) : Prop := (∃ g : α → Int, (∀ a, f a = .int (g a)) ∧ ∀ a b, g (add a b) = g b + g a) ∨
  (∃ g : α → List Int, (∀ a, f a = .tup ((g a).map D.int)) ∧ (∀ a b, (g a).length = (g b).length) ∧ (∀ a, (g a).length ≤ 100) ∧ ∀ a b, g (add a b) = addD (g a) (g b))
end

section
variable {c : Cx} {P : Params} {ds : List D} {α : Type}
theorem c_add (L : Law c P) (T : TopOk c.H) (R : Room c.A 6) (f : α → D) (add : α → α → α) (hf : Summed f add) (t s : List (Int × α)) (ht : t.length ≤ 1000) (hs : s.length ≤ 1000) :
    CallD c (.val (.ref 56)) [kd f t, kd f s] [] (kd f (addK add t s)) := by
  refine call_fn 56 ["target", "source", "new_callers", "func", "caller"] [("target", kd f t), ("source", kd f s)] [kd f t, kd f s, .unk, .unk, .unk] L (R.of_le (by decide)) ?_ (by exact rfl) ?_
  · intro s vs ks B r1 r2
    cases repAll0 r2
    obtain ⟨v, v2, rfl, r, r'⟩ := repAll2 r1
    exact ⟨[("target", v), ("source", v2)], fun _ => by kernel_rfl, rfl, r, r', trivial⟩
  intro L'
  have R1 : Room (c.fn P 56 L' ["target", "source", "new_callers", "func", "caller"]).A 5 := R.deeper _
  have hy := yl_fn (c := c) (P := P) (a := 56) (L := L') (ns := ["target", "source", "new_callers", "func", "caller"])
  refine ex_own (d := .dict [] []) 2 new_dict rfl (owl hy (by kernel_rfl)) rfl (fun x b e => by cases e) ?_
  intro a
  refine ex_cons (ex_for (Inv := fun i ds => ∃ p n, ds = [kd f t, kd f s, .val (.ref a), p, n, kd f ((t.take i).foldl (fun acc p => kset acc p.1 p.2) [])])
    (evi (ev_items (nm 0)) (itd_items (R1.of_le (by decide)))) rfl ⟨_, _, rfl⟩ ?_ ?_ (R1.of_le (by decide)))
  · rintro wr i d _ hd ⟨p, n, rfl⟩
    rw [paired_kd, List.getElem?_map] at hd
    cases he : t[i]? with
    | none => rw [he] at hd; cases hd
    | some kv =>
      rw [he] at hd; cases hd
      refine ⟨_, as_tup (R1.of_le (by decide)) ⟨_, as_name 3 rfl (owl (.inl hy) (by kernel_rfl)), _, as_name 4 rfl (owl (.inl hy) (by kernel_rfl)), rfl⟩, ?_⟩
      have hlen := foldl_len (fun (acc : List (Int × α)) p => kset acc p.1 p.2) (fun a b => kset_length a b.1 b.2) (t.take i) []
      have htl : (t.take i).length ≤ t.length := by simp; (first | lia | omega)
      refine ex_cons (ex_set_dict (d := f kv.2) (k := kv.1) 2 0 rfl rfl rfl rfl (.inr (by simp)) (by simp at hlen ⊢; (first | lia | omega)) ?_ (nm 3) (ex_nil ⟨.int kv.1, f kv.2, ?_⟩))
      · refine ev_name 4 (by kernel_rfl) rfl ?_
        rcases hf with ⟨g, h1, _⟩ | ⟨g, h1, _⟩ <;> rw [h1] <;> rfl
      · rw [foldl_take_succ _ _ _ he]
        show [kd f t, kd f s, _, _, _, D.dict _ _] = _
        rw [dset_kset]
  · rintro _ ⟨p, n, rfl⟩
    have hl1 : (paired (t.map Prod.fst) (t.map fun p => f p.2)).length = t.length := by rw [paired_kd, List.length_map]
    rw [hl1, List.take_of_length_le (Nat.le_refl _)]
    change Ex _ [kd f t, kd f s, .val (.ref a), p, n, kd f (copyK t)] _ _
    refine ex_cons (ex_for (Inv := fun i ds => ∃ p n, ds = [kd f t, kd f s, .val (.ref a), p, n, kd f ((s.take i).foldl (addStep add) (copyK t))])
      (evi (ev_items (nm 1)) (itd_items (R1.of_le (by decide)))) rfl ⟨_, _, rfl⟩ ?_ ?_ (R1.of_le (by decide)))
    · rintro wr i d _ hd ⟨p, n, rfl⟩
      rw [paired_kd, List.getElem?_map] at hd
      cases he : s[i]? with
      | none => rw [he] at hd; cases hd
      | some kv =>
        rw [he] at hd; cases hd
        refine ⟨_, as_tup (R1.of_le (by decide)) ⟨_, as_name 3 rfl (owl (.inl hy) (by kernel_rfl)), _, as_name 4 rfl (owl (.inl hy) (by kernel_rfl)), rfl⟩, ?_⟩
        have hlen := foldl_len (addStep add) (addStep_len add) (s.take i) (copyK t)
        have hlen2 := foldl_len (fun (acc : List (Int × α)) p => kset acc p.1 p.2) (fun a b => kset_length a b.1 b.2) t []
        have hsl : (s.take i).length ≤ s.length := by simp; (first | lia | omega)
        have fold : (s.take (i + 1)).foldl (addStep add) (copyK t) = addStep add ((s.take i).foldl (addStep add) (copyK t)) kv := foldl_take_succ _ _ _ he
        change (copyK t).length ≤ _ at hlen2
        simp only [List.length_nil] at hlen2
        generalize (s.take i).foldl (addStep add) (copyK t) = m at *
        have hm : m.length ≤ 2 ^ 20 := by (first | lia | omega)
        have hk : ∀ x, dget (m.map Prod.fst) (m.map fun p => f p.2) x = (kget m x).map f := fun x => dget_kget f x m
        have hin := kget_isSome kv.1 m
        refine ex_cons (ex_if (evt_in_own 2 0 (nm 3) rfl rfl rfl rfl) (fun h => ?_) (fun h => ?_))
        · rw [h] at hin
          obtain ⟨v, hv⟩ := Option.isSome_iff_exists.mp hin
          have hd1 : dget (m.map Prod.fst) (m.map fun p => f p.2) kv.1 = some (f v) := by rw [hk, hv]; rfl
          have fin : kd f (kset m kv.1 (add kv.2 v)) = kd f ((s.take (i + 1)).foldl (addStep add) (copyK t)) := by
            rw [fold, addStep, hv]
          rcases hf with ⟨g, h1, h2⟩ | ⟨g, h1, h2, h3, h4⟩
          · refine ex_cons (ex_if_false (evt_call (ev_call2 (ev_gb L.fn.own.at (.builtin "isinstance")) (ev_name (d := .int (g kv.2)) 4 (by kernel_rfl) (by rw [← h1]; rfl) rfl) (ev_gb L.fn.own.at (.type "tuple")) kpr_builtin call_isi_int) true_bool) ?_)
            refine ex_cons (ex_aug_dict (d1 := .int (g v)) (d2 := .int (g kv.2)) 2 0 rfl rfl rfl rfl (.inr (by simp)) (by simpa using hm) (nm 3) (by rw [hd1, h1]) (ev_name 4 (by kernel_rfl) (by rw [← h1]; rfl) rfl) op_iadd (ex_nil (ex_nil (ex_nil ⟨.int kv.1, f kv.2, ?_⟩))))
            rw [← fin, ← h2, ← h1]
            show [kd f t, kd f s, _, _, _, D.dict _ _] = _
            rw [dset_kset]
          · refine ex_cons (ex_if_true (evt_call (ev_call2 (ev_gb L.fn.own.at (.builtin "isinstance")) (ev_name (d := .tup ((g kv.2).map D.int)) 4 (by kernel_rfl) (by rw [← h1]; rfl) rfl) (ev_gb L.fn.own.at (.type "tuple")) kpr_builtin call_isi_tup) true_bool) ?_)
            refine ex_cons (ex_set_dict (d := .tup ((addD (g kv.2) (g v)).map D.int)) (k := kv.1) 2 0 rfl rfl rfl rfl (.inr (by simp)) (by simpa using hm) ?_ (nm 3) (ex_nil (ex_nil (ex_nil ⟨.int kv.1, f kv.2, ?_⟩))))
            · exact ev_tuple_gen T L.lim (by exact R1.of_le (by decide)) (by kernel_rfl) (by kernel_rfl) (ev_gb L.fn.own.at (.type "tuple")) (ev_gb L.fn.own.at (.type "zip")) (ev_name 4 (by kernel_rfl) (by rw [← h1]; rfl) rfl)
                (ev_item_own 2 0 (nm 3) rfl rfl rfl rfl (by rw [hd1, h1])) (h2 _ _) (h3 _) (by kernel_rfl) (by kernel_rfl) (fun _ => rfl)
            · rw [← fin, ← h4, ← h1]
              show [kd f t, kd f s, _, _, _, D.dict _ _] = _
              rw [dset_kset]
        · rw [h] at hin
          have hv : kget m kv.1 = none := by
            cases e : kget m kv.1 with
            | none => rfl
            | some v => rw [e] at hin; cases hin
          refine ex_cons (ex_set_dict (d := f kv.2) (k := kv.1) 2 0 rfl rfl rfl rfl (.inr (by simp)) (by simpa using hm) ?_ (nm 3) (ex_nil (ex_nil ⟨.int kv.1, f kv.2, ?_⟩)))
          · refine ev_name 4 (by kernel_rfl) rfl ?_
            rcases hf with ⟨g, h1, _⟩ | ⟨g, h1, _⟩ <;> rw [h1] <;> rfl
          · rw [fold, addStep, hv]
            show [kd f t, kd f s, _, _, _, D.dict _ _] = _
            rw [dset_kset]
    · rintro _ ⟨p, n, rfl⟩
      have hl2 : (paired (s.map Prod.fst) (s.map fun p => f p.2)).length = s.length := by rw [paired_kd, List.length_map]
      rw [hl2, List.take_of_length_le (Nat.le_refl _)]
      refine ex_frz [kd f t, kd f s, kd f (addK add t s), p, n] (fun s S => ?_) (ex_cons (ex_ret (nm 2) rfl))
      exact S.frz.melt (i := 2) (Nat.le_of_ble_eq_true rfl) rfl (S.held (j := 0) rfl rfl rfl)
end
end Mine
end
/-! ## part C2 -/
section
open PySem PySem.W PyProof.Rows
set_option maxRecDepth 100000
namespace Mine

structure En where
  n : Int
  a : Int
  b : Int
  c : Int
  m : List (Int × Int)
noncomputable abbrev En.d (e : En) : D := .tup [.int e.n, .int e.a, .int e.b, .int e.c, kd D.int e.m]
noncomputable def iadd (x y : Int) : Int := x + y
noncomputable def enAdd (t s : En) : En := ⟨s.n + t.n, s.a + t.a, s.b + t.b, s.c + t.c, addK iadd t.m s.m⟩
theorem summed_int : Summed D.int iadd := .inl ⟨id, fun _ => rfl, fun a b => Int.add_comm a b⟩
theorem addK_len {α : Type} (add : α → α → α) (t s : List (Int × α)) : (addK add t s).length ≤ t.length + s.length := by
  have h1 := foldl_len (addStep add) (addStep_len add) s (copyK t)
  have h2 := foldl_len (fun (acc : List (Int × α)) p => kset acc p.1 p.2) (fun a b => kset_length a b.1 b.2) t []
  change (addK add t s).length ≤ _ at h1
  change (copyK t).length ≤ _ at h2
  simp only [List.length_nil] at h2
  (first | lia | omega)

section
variable {c : Cx} {P : Params} {ds : List D}
theorem ev_cast {e : Expr} {d d' : D} (q : d' = d) (h : Ev c ds e d') : Ev c ds e d := q ▸ h
theorem c_stats (L : Law c P) (T : TopOk c.H) (R : Room c.A 8) (t s : En) (ht : t.m.length ≤ 1000) (hs : s.m.length ≤ 1000) :
    CallD c (.val (.ref 49)) [t.d, s.d] [] (enAdd t s).d := by
  refine call_fn 49 ["target", "source", "cc", "nc", "tt", "ct", "callers", "t_cc", "t_nc", "t_tt", "t_ct", "t_callers"] [("target", t.d), ("source", s.d)] [t.d, s.d, .unk, .unk, .unk, .unk, .unk, .unk, .unk, .unk, .unk, .unk] L (R.of_le (by decide)) ?_ (by exact rfl) ?_
  · intro s vs ks B r1 r2
    cases repAll0 r2
    obtain ⟨v, v2, rfl, r, r'⟩ := repAll2 r1
    exact ⟨[("target", v), ("source", v2)], fun _ => by kernel_rfl, rfl, r, r', trivial⟩
  intro L'
  have R1 : Room (c.fn P 49 L' ["target", "source", "cc", "nc", "tt", "ct", "callers", "t_cc", "t_nc", "t_tt", "t_ct", "t_callers"]).A 7 := R.deeper _
  have hy := yl_fn (c := c) (P := P) (a := 49) (L := L') (ns := ["target", "source", "cc", "nc", "tt", "ct", "callers", "t_cc", "t_nc", "t_tt", "t_ct", "t_callers"])
  refine ex_cons (ex_assign_tup (d := s.d) (nm 1) (as_tup (R1.of_le (by decide)) ⟨_, as_name 2 rfl (owl hy (by kernel_rfl)), _, as_name 3 rfl (owl hy (by kernel_rfl)), _, as_name 4 rfl (owl hy (by kernel_rfl)), _, as_name 5 rfl (owl hy (by kernel_rfl)), _, as_name 6 rfl (owl hy (by kernel_rfl)), rfl⟩) ?_)
  refine ex_cons (ex_assign_tup (d := t.d) (nm 0) (as_tup (R1.of_le (by decide)) ⟨_, as_name 7 rfl (owl hy (by kernel_rfl)), _, as_name 8 rfl (owl hy (by kernel_rfl)), _, as_name 9 rfl (owl hy (by kernel_rfl)), _, as_name 10 rfl (owl hy (by kernel_rfl)), _, as_name 11 rfl (owl hy (by kernel_rfl)), rfl⟩) ?_)
  exact ex_cons (ex_ret (ev_tup (evl_cons (ev_bin (nm 2) (nm 7) op_add) (evl_cons (ev_bin (nm 3) (nm 8) op_add) (evl_cons (ev_bin (nm 4) (nm 9) op_add) (evl_cons (ev_bin (nm 5) (nm 10) op_add)
    (evl_cons (ev_call2 (ev_gf L.fn 56) (nm 11) (nm 6) (kpr_fn L.fn 56) (c_add L.fn T (by exact R1.of_le (by decide)) D.int iadd summed_int t.m s.m ht hs)) evl_nil))))) (Nat.le_of_ble_eq_true rfl)) rfl)

noncomputable abbrev sidesD (sd : List (Int × Int)) : D := .list (sd.map fun p => .tup [.int p.1, .int p.2])
noncomputable def sideV (sd : List (Int × Int)) (k m : Nat) : Int := if bit m k = 0 then (sd.getD k (0, 0)).1 else (sd.getD k (0, 0)).2
theorem bit_01 (m k : Nat) : bit m k = 0 ∨ bit m k = 1 := by unfold bit; (first | lia | omega)
theorem ev_side {se ke be : Expr} {p1 p2 : Pos} {sd : List (Int × Int)} {k m : Nat} (h1 : Ev c ds se (sidesD sd)) (h2 : Ev c ds ke (.int (k : Int))) (h3 : Ev c ds be (.int ((bit m k : Nat) : Int))) (hk : k < sd.length) (hs : sd.length = 3)
    (n1 : notSlice ke = true := by rfl) (n2 : notSlice be = true := by rfl) : Ev c ds (.Subscript (.Subscript se ke p1) be p2) (.int (sideV sd k m)) := by
  refine ev_sub (ev_sub h1 h2 (op_item_list (d := .tup [.int (sd.getD k (0, 0)).1, .int (sd.getD k (0, 0)).2]) (by (first | lia | omega)) (by (first | lia | omega)) ?_ n1)) h3 (op_item_tup (by (first | lia | omega)) ?_ ?_ n2)
  · rw [Int.toNat_natCast, List.getElem?_map, List.getElem?_eq_getElem hk]
    simp [hk]
  · rcases bit_01 m k with h | h <;> rw [h] <;> decide
  · unfold sideV
    rcases bit_01 m k with h | h <;> rw [h] <;> rfl
noncomputable def entS (truth : List Int) (sd : List (Int × Int)) : Nat → En
  | 0 => ⟨0, 0, 0, 0, []⟩
  | m + 1 => if truth.getD m 0 != 0 then enAdd (entS truth sd m) ⟨1, sideV sd 0 m, sideV sd 1 m, sideV sd 2 m, [((m : Int), 1)]⟩ else entS truth sd m
theorem entS_len (truth : List Int) (sd : List (Int × Int)) : ∀ m, (entS truth sd m).m.length ≤ m
  | 0 => Nat.le_refl _
  | m + 1 => by
    have := entS_len truth sd m
    rw [entS]; split
    · have h2 := addK_len iadd (entS truth sd m).m [((m : Int), 1)]
      simp only [enAdd, List.length_cons, List.length_nil] at h2 ⊢; (first | lia | omega)
    · (first | lia | omega)
theorem c_entry (L : Law c P) (T : TopOk c.H) (R : Room c.A 12) (truth : List Int) (ht : truth.length = 8) (sd : List (Int × Int)) (hs : sd.length = 3) :
    CallD c (.val (.ref 137)) [.ints truth, sidesD sd] [] (entS truth sd 8).d := by
  refine call_fn 137 ["truth", "sides", "entry", "mask"] [("truth", .ints truth), ("sides", sidesD sd)] [.ints truth, sidesD sd, .unk, .unk] L (R.of_le (by decide)) ?_ (by exact rfl) ?_
  · intro s vs ks B r1 r2
    cases repAll0 r2
    obtain ⟨v, v2, rfl, r, r'⟩ := repAll2 r1
    exact ⟨[("truth", v), ("sides", v2)], fun _ => by kernel_rfl, rfl, r, r', trivial⟩
  intro L'
  have R1 : Room (c.fn P 137 L' ["truth", "sides", "entry", "mask"]).A 11 := R.deeper _
  have hy := yl_fn (c := c) (P := P) (a := 137) (L := L') (ns := ["truth", "sides", "entry", "mask"])
  have ow3 : Owns (c.fn P 137 L' ["truth", "sides", "entry", "mask"]).env (c.fn P 137 L' ["truth", "sides", "entry", "mask"]).Y "mask" := owc_fn (by kernel_rfl) (by kernel_rfl)
  refine ex_cons (ex_assign 2 (ev_tup (evl_cons ev_int (evl_cons ev_int (evl_cons ev_int (evl_cons ev_int (evl_cons ev_dict0 evl_nil))))) (by decide)) rfl (owl hy (by kernel_rfl)) ?_)
  refine ex_cons (ex_for (Inv := fun i ds => ∃ d, ds = [.ints truth, sidesD sd, (entS truth sd i).d, d])
    (evi_range (n := 8) (R1.of_le (by decide)) (ev_gb L.fn (.type "range")) ev_int (by decide)) rfl ⟨_, rfl⟩ ?_ ?_ (R1.of_le (by decide)))
  · rintro wr i d _ hd ⟨d3, rfl⟩
    obtain ⟨hi, rfl⟩ := upTo_get hd
    refine ⟨_, as_name 3 rfl ow3, ?_⟩
    refine ex_cons (ex_if (evt_sub (ev_item (nm 0) (nm 3) (by (first | lia | omega)) (by (first | lia | omega))) true_int) (fun h => ?_) (fun h => ?_))
    · refine ex_cons (ex_assign (d := (enAdd (entS truth sd i) ⟨1, sideV sd 0 i, sideV sd 1 i, sideV sd 2 i, [((i : Int), 1)]⟩).d) 2 (ev_call2 (ev_gf L.fn.at 49) (nm 2) (ev_cast (d := (En.mk 1 (sideV sd 0 i) (sideV sd 1 i) (sideV sd 2 i) [((i : Int), 1)]).d) ?_ <| ev_bin (ev_bin (ev_tup (evl_cons ev_int evl_nil) (by decide)) (ev_call1 (ev_gb L.fn.at (.type "tuple")) (ev_cast (by rw [upTo_length, outs_all]) (ev_listcomp ["k"] [("mask", 3), ("sides", 1)] (fun _ => true) (fun k => .int (sideV sd k i)) (evi_range (n := 3) (by exact R1.of_le (by decide)) (ev_gb L.fn.at (.type "range")) ev_int (by decide)) ?_)) kpr_type (call_tuple_l (by simp))) (op_cat_tup (by simp) (by simp) (by simp)))
        (ev_tup (evl_cons (ev_dict1 (fun D => nm 3) (fun D => ev_int)) evl_nil) (Nat.le_of_ble_eq_true rfl)) (op_cat_tup (by simp) (by simp) (by simp))) (kpr_fn L.fn.at 49) (c_stats L.fn.at T (by exact R1.of_le (by decide)) (entS truth sd i) ⟨1, sideV sd 0 i, sideV sd 1 i, sideV sd 2 i, [((i : Int), 1)]⟩ ?_ ?_)) rfl (owl (hy) (by kernel_rfl)) (ex_nil (ex_nil ⟨.int (i : Int), ?_⟩)))
      · rfl
      · intro wr C k d hd
        obtain ⟨hk, rfl⟩ := upTo_get hd
        exact ⟨_, as_name 0 rfl (owl yl_comp rfl), ⟨.inl rfl, .inr rfl, .inr rfl, trivial⟩, test_nil, fun _ => ev_side (nm 2) (nm 0) (ev_bit (nm 1) (nm 0)) (by (first | lia | omega)) hs⟩
      · have := entS_len truth sd i; (first | lia | omega)
      · simp
      · rw [entS, if_pos h]; rfl
    · refine ex_nil (ex_nil ⟨.int (i : Int), ?_⟩)
      rw [entS, if_neg (by rw [h]; simp)]; rfl
  · rintro _ ⟨d3, rfl⟩
    rw [upTo_length]
    exact ex_cons (ex_ret (nm 2) rfl)
end
end Mine
end
/-! ## part C3 -/
section
open PySem PySem.W PyProof.Rows
set_option maxRecDepth 100000
namespace Mine

section
variable {α : Type}
noncomputable def kouts (p : Nat → Bool) (k : Nat → Int) (v : Nat → α) : Nat → List (Int × α)
  | 0 => []
  | n + 1 => if p n then kset (kouts p k v n) (k n) (v n) else kouts p k v n
theorem douts_kouts (f : α → D) (p : Nat → Bool) (k : Nat → Int) (v : Nat → α) : ∀ n, (douts p k (fun i => f (v i)) n).1 = (kouts p k v n).map Prod.fst ∧ (douts p k (fun i => f (v i)) n).2 = (kouts p k v n).map fun p => f p.2
  | 0 => ⟨rfl, rfl⟩
  | n + 1 => by
    obtain ⟨h1, h2⟩ := douts_kouts f p k v n
    rw [douts, kouts]
    split
    · rw [h1, h2]
      have := dset_kset f (kouts p k v n) (k n) (v n)
      injection this with e1 e2
      exact ⟨e1, e2⟩
    · exact ⟨h1, h2⟩
theorem douts_kd (f : α → D) (p : Nat → Bool) (k : Nat → Int) (v : Nat → α) (n : Nat) : D.dict (douts p k (fun i => f (v i)) n).1 (douts p k (fun i => f (v i)) n).2 = kd f (kouts p k v n) := by
  obtain ⟨h1, h2⟩ := douts_kouts f p k v n
  rw [h1, h2]
theorem kset_new (m : List (Int × α)) {k : Int} (v : α) (h : k ∉ m.map Prod.fst) : kset m k v = m ++ [(k, v)] := by unfold kset; rw [if_neg h]
theorem kouts_eq (p : Nat → Bool) (k : Nat → Int) (v : Nat → α) : ∀ n, (∀ i j, i < n → j < n → k i = k j → i = j) → kouts p k v n = ((List.range n).filter p).map fun i => (k i, v i)
  | 0, _ => rfl
  | n + 1, h => by
    have ih := kouts_eq p k v n fun i j hi hj => h i j (by (first | lia | omega)) (by (first | lia | omega))
    rw [kouts, List.range_succ, List.filter_append, List.map_append, ih]
    cases hp : p n with
    | false => simp [hp]
    | true =>
      rw [if_pos rfl, kset_new]
      · simp [hp]
      · simp only [List.map_map, List.mem_map, List.mem_filter, List.mem_range, Function.comp]
        rintro ⟨i, ⟨hi, _⟩, e⟩
        have := h i n (by (first | lia | omega)) (by (first | lia | omega)) e
        (first | lia | omega)
theorem kget_get {m : List (Int × α)} (nd : (m.map Prod.fst).Nodup) {i : Nat} {kv : Int × α} (h : m[i]? = some kv) : kget m kv.1 = some kv.2 := by
  induction m generalizing i with
  | nil => simp at h
  | cons p m ih =>
    rw [List.map_cons, List.nodup_cons] at nd
    rw [kget]
    cases i with
    | zero => cases h; simp
    | succ i =>
      have h : m[i]? = some kv := h
      rw [if_neg, ih nd.2 h]
      intro e
      exact nd.1 (List.mem_map.mpr ⟨kv, List.mem_of_getElem? h, e.symm⟩)
end

noncomputable abbrev P2 := Int × Int
noncomputable abbrev fP (p : P2) : D := .tup [.int p.1, .int p.2]
noncomputable def padd (p q : P2) : P2 := (p.1 + q.1, p.2 + q.2)
theorem summed_pair : Summed fP padd := .inr ⟨fun p => [p.1, p.2], fun _ => rfl, fun _ _ => rfl, fun _ => Nat.le_of_ble_eq_true rfl, fun _ _ => rfl⟩
noncomputable def stepV (sd : List (Int × Int)) (m : Nat) : Int := ((4096 + sideV sd 0 m) * 4096 + sideV sd 1 m) * 4096 + sideV sd 2 m
noncomputable def shiftT (st : Int) (m : Nat) (t : List (Int × P2)) : List (Int × P2) := t.map fun kv => (kv.1 + st, (kv.2.1, kv.2.2 + kv.2.1 * 2 ^ m))
noncomputable def cnt (sd : List (Int × Int)) : Nat → List (Int × P2)
  | 0 => [(0, (1, 0))]
  | m + 1 => addK padd (cnt sd m) (shiftT (stepV sd m) m (cnt sd m))
noncomputable def CntOk (sd : List (Int × Int)) : Prop := ∀ m, m ≤ 8 → (cnt sd m).length ≤ 1000 ∧ ((cnt sd m).map Prod.fst).Nodup ∧ ∀ kv ∈ cnt sd m, kv.2.1.natAbs < 2 ^ 64
theorem mul_4096 (x : Int) : IntMulOk x 4096 := IntMulOk.of_right (by decide)
theorem getD_kv {t : List (Int × P2)} {i : Nat} (h : i < t.length) : t[i]? = some (t.getD i (0, (0, 0))) := by
  rw [List.getD_eq_getElem?_getD, List.getElem?_eq_getElem h]; rfl
theorem shift_kouts (t : List (Int × P2)) (st : Int) (m : Nat) (nd : (t.map Prod.fst).Nodup) :
    kouts (fun _ => true) (fun i => (t.getD i (0, (0, 0))).1 + st) (fun i => ((t.getD i (0, (0, 0))).2.1, (t.getD i (0, (0, 0))).2.2 + (t.getD i (0, (0, 0))).2.1 * 2 ^ m)) t.length = shiftT st m t := by
  rw [kouts_eq]
  · unfold shiftT
    apply List.ext_getElem?
    intro i
    rw [List.getElem?_map, List.getElem?_map, List.filter_eq_self.mpr (fun _ _ => rfl)]
    by_cases hi : i < t.length
    · rw [List.getElem?_range hi, getD_kv hi]; rfl
    · rw [List.getElem?_eq_none (by simp; (first | lia | omega)), List.getElem?_eq_none (by (first | lia | omega))]; rfl
  · intro i j hi hj e
    have e : (t.getD i (0, (0, 0))).1 = (t.getD j (0, (0, 0))).1 := by (first | lia | omega)
    have h1 : (t.map Prod.fst)[i]'(by simpa using hi) = (t.map Prod.fst)[j]'(by simpa using hj) := by
      simpa [List.getD_eq_getElem?_getD, hi, hj] using e
    exact (List.getElem_inj nd).mp h1

section
variable {c : Cx} {P : Params} {ds : List D}
theorem c_counts (L : Law c P) (T : TopOk c.H) (R : Room c.A 12) (sd : List (Int × Int)) (hs : sd.length = 3) (ok : CntOk sd) :
    CallD c (.val (.ref 142)) [sidesD sd] [] (kd fP (cnt sd 8)) := by
  refine call_fn 142 ["sides", "table", "mask", "a", "b", "c", "step"] [("sides", sidesD sd)] [sidesD sd, .unk, .unk, .unk, .unk, .unk, .unk] L (R.of_le (by decide)) ?_ (by exact rfl) ?_
  · intro s vs ks B r1 r2
    cases repAll0 r2
    obtain ⟨v, rfl, r⟩ := repAll1 r1
    exact ⟨[("sides", v)], fun _ => by kernel_rfl, rfl, r, trivial⟩
  intro L'
  have R1 : Room (c.fn P 142 L' ["sides", "table", "mask", "a", "b", "c", "step"]).A 11 := R.deeper _
  have hy := yl_fn (c := c) (P := P) (a := 142) (L := L') (ns := ["sides", "table", "mask", "a", "b", "c", "step"])
  have ow1 : Owns (c.fn P 142 L' ["sides", "table", "mask", "a", "b", "c", "step"]).env (c.fn P 142 L' ["sides", "table", "mask", "a", "b", "c", "step"]).Y "table" := owc_fn (by kernel_rfl) (by kernel_rfl)
  have ow2 : Owns (c.fn P 142 L' ["sides", "table", "mask", "a", "b", "c", "step"]).env (c.fn P 142 L' ["sides", "table", "mask", "a", "b", "c", "step"]).Y "mask" := owc_fn (by kernel_rfl) (by kernel_rfl)
  have ow6 : Owns (c.fn P 142 L' ["sides", "table", "mask", "a", "b", "c", "step"]).env (c.fn P 142 L' ["sides", "table", "mask", "a", "b", "c", "step"]).Y "step" := owc_fn (by kernel_rfl) (by kernel_rfl)
  refine ex_cons (ex_assign 1 (ev_dict1 (d := fP (1, 0)) (fun D => ev_int) (fun D => ev_tup (evl_cons ev_int (evl_cons ev_int evl_nil)) (Nat.le_of_ble_eq_true rfl))) rfl ow1 ?_)
  refine ex_cons (ex_for (Inv := fun i ds => ∃ d2 d3 d4 d5 d6, ds = [sidesD sd, kd fP (cnt sd i), d2, d3, d4, d5, d6])
    (evi_range (n := 8) (R1.of_le (by decide)) (ev_gb L.fn (.type "range")) ev_int (by decide)) rfl ⟨_, _, _, _, _, rfl⟩ ?_ ?_ (R1.of_le (by decide)))
  · rintro wr i d _ hd ⟨d2, d3, d4, d5, d6, rfl⟩
    obtain ⟨hi, rfl⟩ := upTo_get hd
    refine ⟨_, as_name 2 rfl ow2, ?_⟩
    obtain ⟨hlen, hnd, hb⟩ := ok i (by (first | lia | omega))
    refine ex_cons (ex_assign_tup (d := .list ((List.range 3).map fun k => .int (sideV sd k i))) (ds' := [sidesD sd, kd fP (cnt sd i), .int i, .int (sideV sd 0 i), .int (sideV sd 1 i), .int (sideV sd 2 i), d6]) (ev_cast (by rw [upTo_length, outs_all]) (ev_listcomp ["k"] [("mask", 2), ("sides", 0)] (fun _ => true) (fun k => .int (sideV sd k i)) (evi_range (n := 3) (by exact R1.of_le (by decide)) (ev_gb L.fn.at (.type "range")) ev_int (by decide)) ?_))
      (as_list (R1.of_le (by decide)) ⟨_, as_name 3 rfl (owl hy (by kernel_rfl)), _, as_name 4 rfl (owl hy (by kernel_rfl)), _, as_name 5 rfl (owl hy (by kernel_rfl)), rfl⟩) ?_)
    · intro wr C k d hd
      obtain ⟨hk, rfl⟩ := upTo_get hd
      exact ⟨_, as_name 0 rfl (owl yl_comp rfl), ⟨.inl rfl, .inr rfl, .inr rfl, trivial⟩, test_nil, fun _ => ev_side (nm 2) (nm 0) (ev_bit (nm 1) (nm 0)) (by (first | lia | omega)) hs⟩
    refine ex_cons (ex_assign (d := .int (stepV sd i)) 6 (ev_bin (ev_bin (ev_bin (ev_bin (ev_bin ev_int (nm 3) op_add) ev_int (op_mul (mul_4096 _))) (nm 4) op_add) ev_int (op_mul (mul_4096 _))) (nm 5) op_add) rfl ow6 ?_)
    refine ex_cons (ex_assign (d := kd fP (cnt sd (i + 1))) 1 (ev_call2 (ev_gf L.fn.at 56) (nm 1) (ev_cast (d := kd fP (shiftT (stepV sd i) i (cnt sd i))) ?_ (ev_dictcomp ["key"] [("mask", 2), ("step", 6), ("table", 1)] (fun _ => true) (fun j => ((cnt sd i).getD j (0, (0, 0))).1 + stepV sd i)
        (fun j => fP (((cnt sd i).getD j (0, (0, 0))).2.1, ((cnt sd i).getD j (0, (0, 0))).2.2 + ((cnt sd i).getD j (0, (0, 0))).2.1 * 2 ^ i)) (evi (nm 1) (itd_dict (tt := false) (by exact R1.of_le (by decide)))) ?_ (hlen := by simp; (first | lia | omega))))
      (kpr_fn L.fn.at 56) (c_add L.fn.at T (by exact R1.of_le (by decide)) fP padd summed_pair (cnt sd i) (shiftT (stepV sd i) i (cnt sd i)) hlen (by simpa [shiftT] using hlen))) rfl ow1 (ex_nil ⟨_, _, _, _, _, rfl⟩))
    · rw [List.length_map, List.length_map, douts_kd, shift_kouts _ _ _ hnd]
    · intro wr C j d hd
      rw [List.getElem?_map, List.getElem?_map] at hd
      cases he : (cnt sd i)[j]? with
      | none => rw [he] at hd; cases hd
      | some kv =>
        rw [he] at hd; cases hd
        have ej : (cnt sd i).getD j (0, (0, 0)) = kv := by rw [List.getD_eq_getElem?_getD, he]; rfl
        have hg : dget ((cnt sd i).map Prod.fst) ((cnt sd i).map fun p => fP p.2) kv.1 = some (fP kv.2) := by rw [dget_kget, kget_get hnd he]; rfl
        have hb' := hb kv (List.mem_of_getElem? he)
        refine ⟨_, as_name 0 rfl (owl yl_comp rfl), ⟨.inl rfl, .inr rfl, .inr rfl, .inr rfl, trivial⟩, test_nil, fun _ => ?_⟩
        dsimp only
        rw [ej]
        refine ⟨ev_bin (nm 0) (nm 2) op_add, ev_tup (evl_cons (ev_sub (ev_sub (nm 3) (nm 0) (op_item_dict hg)) ev_int (op_item_tup (by decide) (by decide) rfl)) (evl_cons (ev_bin (ev_sub (ev_sub (nm 3) (nm 0) (op_item_dict hg)) ev_int (op_item_tup (by decide) (by decide) rfl)) (ev_cast ?_ (ev_bin (ev_sub (ev_sub (nm 3) (nm 0) (op_item_dict hg)) ev_int (op_item_tup (by decide) (by decide) rfl)) (nm 1) (op_shl (by (first | lia | omega)) (by (first | lia | omega)) hb'))) op_add) evl_nil)) (Nat.le_of_ble_eq_true rfl)⟩
        rw [Int.toNat_natCast]
  · rintro _ ⟨d2, d3, d4, d5, d6, rfl⟩
    rw [upTo_length]
    exact ex_cons (ex_ret (nm 1) rfl)
end
end Mine
end
/-! ## part C4 -/
section
open PySem PySem.W PyProof.Rows
set_option maxRecDepth 100000
namespace Mine

noncomputable def selO (hs : Int) (t : Tok) (lv : Value) : Obj := { cls := .type "dict", data := .dict #[⟨hs, .str "comp_select_list" t, lv⟩] 1 }
noncomputable def instP (l : List D) (g : Fz) (v : Value) : Prop := ∃ x dx hs t lv, v = .ref x ∧ g x (instObj 38 dx) ∧ g dx (selO hs t lv) ∧ (D.list l).rep g lv
noncomputable abbrev D.inst (l : List D) : D := .any (instP l)

section
variable {prog : Program} {w : World} {A : Around} {K : Frag} {C x : Addr} {s : Shared} {R : Result → Shared → Prop}
theorem osa_own {ox : Obj} {od : Obj} {dx : Addr} {name : Str} {tk : Tok} {v : Value} {es₀ : Array DictEntry} {n₀ : Nat} {es : List DictEntry} {n : Nat} (X : K.In s.heap) (D : s.heap.get? dx = some od) (q : od.data = .dict es₀ n₀)
    (c : (!es₀.any (·.key.isStr name) && es₀.any (·.refKey)) = false)
    (I : InstAt s.heap x ox C (some od)) (hd : ox.dict = some dx) (hp : plainOver K C = true) (ht : takerIn K C name = some none) (hh : (clsIn K C).any (·.hasDict) = true)
    (e' : (Obj.putName name (PyData.keyHash w.params name) (.str name s.toks) v od).data = .dict es.toArray n) (hz : es.length ≤ 1000)
    (h : R (.ok (.ret .none)) { s with heap := s.heap.update dx (Obj.putName name (PyData.keyHash w.params name) (.str name s.toks) v), toks := s.toks + 1 }) :
    codeAny (model prog w) A (.call (.builtin "object.__setattr__") ⟨[.ref x, .str name tk, v], []⟩) R s := by
  refine osa_open X I hp ht fun b => ?_
  obtain ⟨cd, hc, hd'⟩ := any_some hh
  have D' : (s.heap.update dx (Obj.putName name (PyData.keyHash w.params name) (.str name s.toks) v)).get? dx = some (Obj.putName name (PyData.keyHash w.params name) (.str name s.toks) v od) :=
    Heap.get?_update_self _ D (by
      generalize Obj.putName name (PyData.keyHash w.params name) (.str name s.toks) v od = o at e'
      obtain ⟨_, _, dd, _⟩ := o; cases e'; rfl)
  obtain ⟨hx, hcl, hn, -⟩ := I
  obtain ⟨oc, odi, oda, osl⟩ := ox
  dsimp only at hcl hd
  subst hcl hd
  refine wpAny_bind (wpAny_pure (wpAny_bind (wpAny_bind (wpAny_loadPart hx (wpAny_bind ((looks_clsIn X hc).here ?_))))))
  rw [hd']
  refine wpAny_pure (a := some dx) (wpAny_bind (wpAny_pure (wpAny_bind ?_)))
  unfold nsSet
  refine wpAny_bind (wpAny_bind (wpAny_askSetting (wpAny_pure (wpAny_bind (wpAny_mkText (wpAny_bind (wpAny_loadPart D ?_)))))))
  rw [q]
  dsimp only
  rw [aRefKeyMayBeTheName_at, c]
  refine wpAny_updatePart D ?_
  refine wpAny_bind (wpAny_lookBehind D' (by rw [e']; exact pastItsLine_dict (by rw [List.size_toArray, sizeLine_eq]; (first | lia | omega))) ?_)
  exact wpAny_pure h
end

section
variable {c : Cx} {P : Params} {ds : List D}
noncomputable abbrev Cx.mk1 (c : Cx) (l : List Value) (dx : Addr) : Cx := { c with A := c.A.under (.builtin "type.__call__" ⟨.ref 38 :: l, []⟩), X := XW c.X [dx] }
theorem call_tc (L : Law c P) (R : Room c.A 3) (l : List D) : CallD c (.val (.ref 38)) [.list l] [] (.inst l) := by
  intro s E v vs ks B hv hvs hks
  rw [of_val hv]
  obtain ⟨lv, rfl, rl⟩ := repAll1 hvs
  have X := Frag.In.keeps L.X B.h
  refine wpAny_call ?_
  obtain ⟨h, g, d, t, os⟩ := s
  refine make_core (init := .ref 28) (makes_of X (by kernel_rfl)) (looks_findIn X (by kernel_rfl)) (fun self => bind_fn X self (by kernel_rfl)) (.inl rfl) ?_
  have e0 : ExtF ⟨h, g, d, t, os⟩ ⟨(h.push emptyDict).push (instObj 38 h.objs.size), g, d, t, os⟩ := ⟨fun b o e => Heap.get?_push_of_some _ (Heap.get?_push_of_some _ e), rfl, id⟩
  have dD : h.get? h.objs.size = none := get?_size_none _ _ (Nat.le_refl _)
  have dX : h.get? (h.objs.size + 1) = none := get?_size_none _ _ (Nat.le_succ _)
  have gD : ((h.push emptyDict).push (instObj 38 h.objs.size)).get? h.objs.size = some emptyDict := Heap.get?_push_of_some _ (Heap.get?_push_size _ rfl)
  have gX : ((h.push emptyDict).push (instObj 38 h.objs.size)).get? (h.objs.size + 1) = some (instObj 38 h.objs.size) := by heap_get
  have hf : ∀ b ∈ [h.objs.size], h.get? b = none := fun b hb => by rw [List.mem_singleton.mp hb]; exact dD
  have B1 : Base (c.mk1 [lv] h.objs.size).H (c.mk1 [lv] h.objs.size).X ((h.push emptyDict).push (instObj 38 h.objs.size)) := B.grow e0.keep hf fun b hb => by rw [List.mem_singleton.mp hb]; exact ⟨_, gD⟩
  have hfn : fnOkB (KP P) 28 = true := by kernel_rfl
  unfold fnOkB at hfn
  simp only [Bool.and_eq_true, Bool.not_eq_true', beq_iff_eq, List.isEmpty_iff] at hfn
  obtain ⟨⟨⟨⟨⟨⟨⟨e1, e2⟩, e3⟩, e4⟩, e5⟩, e6⟩, e7⟩, e8⟩ := hfn
  obtain ⟨o, ho, hd⟩ := fn_at (a := 28) L.X e1
  have le0 : Fle (fz c.X h) (fz (XW c.X [h.objs.size]) ((h.push emptyDict).push (instObj 38 h.objs.size))) := fle_grow (fun b o _ => e0.keep b o) hf
  have R' : Room (c.mk1 [lv] h.objs.size).A 1 := ⟨R.handled, by have := R.depth; show c.A.depth + 1 + 1 < _; (first | lia | omega), by
    have := R.units
    show (c.A.under (.builtin "type.__call__" ⟨.ref 38 :: [lv], []⟩)).units + 10 < _
    have e : (c.A.under (.builtin "type.__call__" ⟨.ref 38 :: [lv], []⟩)).units ≤ c.A.units + 10 := by
      show c.A.units + _ ≤ _
      exact Nat.add_le_add_left (Nat.le_of_ble_eq_true (by kernel_rfl)) _
    (first | lia | omega)⟩
  refine codeAny_mono (call_coreC (c := c.mk1 [lv] h.objs.size) (kn := []) (ks := []) (E := fun e s' => E e s') (Q := fun v s' => v = .none ∧ Ext ⟨h, g, d, t, os⟩ s' ∧ (D.inst l).rep (fz c.X s'.heap) (.ref (h.objs.size + 1))) (binds := [("self", .ref (h.objs.size + 1)), ("comp_select_list", lv)])
    [("self", .val (.ref (h.objs.size + 1))), ("comp_select_list", .list l)] ["self", "comp_select_list"] R' ho hd L.lim (code_in L.X e2) (by exact rfl) e3 e4 e5 e6 e7 e8 (by kernel_rfl) (by kernel_rfl) B1 ?_ rfl ⟨rep_val, D.rep_mono le0 _ _ rl, trivial⟩ ?_) ?_
  · exact kp_binds (Frag.In.keeps L.X (fun b o e => e0.keep b o (B.h b o e))) (fun _ => by kernel_rfl)
  · intro L' s1 E' ef hf1 lw S
    have c1 : ((c.mk1 [lv] h.objs.size).into (fnEnv (fnAt (KP P) 28) 28 L' (cellsFrom (L' + 1) (fnAt (KP P) 28).scope.names [])) (wrOf L' (cellsFrom (L' + 1) (fnAt (KP P) 28).scope.names [])) ["self", "comp_select_list"]) = ((c.mk1 [lv] h.objs.size).into (fnEnv (fnAt (KP P) 28) 28 L' (cellsFrom (L' + 1) (fnAt (KP P) 28).scope.names [])) (wrOf L' (cellsFrom (L' + 1) (fnAt (KP P) 28).scope.names [])) ["self", "comp_select_list"]) := rfl
    have ev1 : Ev ((c.mk1 [lv] h.objs.size).into (fnEnv (fnAt (KP P) 28) 28 L' (cellsFrom (L' + 1) (fnAt (KP P) 28).scope.names [])) (wrOf L' (cellsFrom (L' + 1) (fnAt (KP P) 28).scope.names [])) ["self", "comp_select_list"]) [.val (.ref (h.objs.size + 1)), .list l] (.Name "comp_select_list" ⟨5, 32, 5, 48⟩) (.list l) := ev_name 1 rfl rfl rfl
    have ev0 : Ev ((c.mk1 [lv] h.objs.size).into (fnEnv (fnAt (KP P) 28) 28 L' (cellsFrom (L' + 1) (fnAt (KP P) 28).scope.names [])) (wrOf L' (cellsFrom (L' + 1) (fnAt (KP P) 28).scope.names [])) ["self", "comp_select_list"]) [.val (.ref (h.objs.size + 1)), .list l] (.Name "self" ⟨5, 8, 5, 12⟩) (.val (.ref (h.objs.size + 1))) := ev_name 0 rfl rfl rfl
    refine wpAny_execs_cons (plainObj_wpAny_Assign_Attribute (wpAny_mono (ev1.run s1 _ S) (fun u s2 ⟨x2, r2⟩ => wpAny_mono (ev0.run s2 _ (S.ext x2)) (fun u' s3 zz => ?_) fun _ _ x => x) fun _ _ x => x))
    obtain ⟨x3, r3⟩ := zz
    rw [of_val r3]
    have S3 := (S.ext x2).ext x3
    have X3 : (KP P).In s3.heap := Frag.In.keeps L.X S3.base.h
    have nt : ∀ b, h.get? b = none → ¬ tb b := fun b e x => by obtain ⟨o, q⟩ := B.tabs.alive x; rw [e] at q; cases q
    have x23 := x2.trans x3
    have gX3 : s3.heap.get? (h.objs.size + 1) = some (instObj 38 h.objs.size) := x23.keep.get _ _ (nt _ dX) (ef.keep _ _ gX)
    have gD3 : s3.heap.get? h.objs.size = some emptyDict := x23.keep.get _ _ (nt _ dD) (ef.keep _ _ gD)
    have I : InstAt s3.heap (h.objs.size + 1) (instObj 38 h.objs.size) 38 (some emptyDict) := ⟨gX3, rfl, rfl, gD3⟩
    refine set_plain (K := KP P) X3 I (by kernel_rfl) ?_
    refine osa_own (K := KP P) (s := { s3 with toks := s3.toks + 1 }) (od := emptyDict) (dx := h.objs.size) (es₀ := #[]) (n₀ := 0) (n := 1) (es := [⟨PyData.keyHash c.w.params "comp_select_list", .str "comp_select_list" (s3.toks + 1), u⟩]) X3 gD3 rfl (by simp) I rfl (by kernel_rfl) (by kernel_rfl) (by kernel_rfl) rfl (by simp) ?_
    refine wpAny_execs_nil ⟨.none, .inl ⟨rfl, rfl⟩, rfl, ?_, ?_⟩
    · refine ext_sameBut' (C := h.objs.size) (e0.ext.trans (ef.ext.trans (x23.trans (Ext.tok s3 _)))) dD (fun o vs q => by rw [gD3] at q; cases q; exact fun z => by cases z) (Heap.SameBut.update ..)
    · have sb := Heap.SameBut.update s3.heap h.objs.size (Obj.putName "comp_select_list" (PyData.keyHash c.w.params "comp_select_list") (.str "comp_select_list" (s3.toks + 1)) u)
      refine ⟨_, Fle.refl _, h.objs.size + 1, h.objs.size, PyData.keyHash c.w.params "comp_select_list", s3.toks + 1, u, rfl, ⟨B.fresh dX, (sb.2 _ (Nat.succ_ne_self _)).trans gX3⟩, ⟨B.fresh dD, ?_⟩, ?_⟩
      · exact Heap.get?_update_self _ gD3 rfl
      · exact D.rep_mono (fle_sameBut sb) _ _ (D.rep_mono (fz_mono (fun _ x => .inl x) _) _ _ (D.rep_mono x3.keep.fz _ _ r2))
  · intro r s' hr
    rcases r with e | (v | _ | _ | _) <;> first | exact hr | exact hr.elim | skip
end
end Mine
end
/-! ## part C5 -/
section
open PySem PySem.W PyProof.Rows
set_option maxRecDepth 100000
namespace Mine
section
variable {c : Cx} {P : Params} {ds : List D}
theorem inst_at {X : Addr → Prop} {h : Heap} {l : List D} {v : Value} (r : (D.inst l).rep (fz X h) v) : ∃ x dx hs t lv, v = .ref x ∧ InstAt h x (instObj 38 dx) 38 (some (selO hs t lv)) ∧ (D.list l).rep (fz X h) lv := by
  obtain ⟨g, le, x, dx, hs, t, lv, e, g1, g2, r⟩ := r
  exact ⟨x, dx, hs, t, lv, e, ⟨(le _ _ g1).2, rfl, rfl, (le _ _ g2).2⟩, D.rep_mono le _ _ r⟩
theorem find_sel (P : Params) (hs : Int) (t : Tok) (lv : Value) : findObj (KP P) 38 (some (selO hs t lv)) "comp_select_list" = some (.value lv) := by kernel_rfl
theorem ev_sel (L : Law c P) {x : Str} {xp pos : Pos} {l : List D} (h : Ev c ds (.Name x xp) (.inst l)) : Ev c ds (.Attribute (.Name x xp) "comp_select_list" pos) (.list l) := .mk fun s E S =>
  Attribute_name (wpAny_mono (h.run s E S) (fun v s1 zz => by
    obtain ⟨x1, r1⟩ := zz
    obtain ⟨x, dx, hs, t, lv, e, I, r⟩ := inst_at r1
    subst e
    have hl : handedIn lv = true := by obtain ⟨a, _, _, e, _⟩ := r; subst e; rfl
    exact get_value (K := KP P) (Frag.In.keeps L.X (S.ext x1).base.h) I (by kernel_rfl) (find_sel P hs t lv) hl ⟨x1.trans (Ext.tok s1 _), r⟩) fun _ _ x => x)
noncomputable def cmpV (way x y : Int) : Int := if x < y then -way else if y < x then way else 0
theorem c_compare (L : Law c P) (R : Room c.A 4) (way i x j y : Int) : CallD c (.val (.ref 35)) [.inst [.tup [.int 1, .int way]], .tup [.int i, .int x], .tup [.int j, .int y]] [] (.int (cmpV way x y)) := by
  refine call_fn 35 ["self", "left", "right", "index", "direction", "l", "r"] [("self", .inst [.tup [.int 1, .int way]]), ("left", .tup [.int i, .int x]), ("right", .tup [.int j, .int y])]
    [.inst [.tup [.int 1, .int way]], .tup [.int i, .int x], .tup [.int j, .int y], .unk, .unk, .unk, .unk] L (R.of_le (by decide)) ?_ (by exact rfl) ?_
  · intro s vs ks B r1 r2
    obtain ⟨v, v2, v3, rfl, r, r', r''⟩ := repAll3 r1
    exact ⟨[("self", v), ("left", v2), ("right", v3)], fun _ => by kernel_rfl, rfl, r, r', r'', trivial⟩
  intro L'
  have R1 : Room (c.fn P 35 L' ["self", "left", "right", "index", "direction", "l", "r"]).A 3 := R.deeper _
  have hy := yl_fn (c := c) (P := P) (a := 35) (L := L') (ns := ["self", "left", "right", "index", "direction", "l", "r"])
  refine ex_cons (ex_for (Inv := fun k ds => (k = 0 ∨ (¬ x < y ∧ ¬ y < x)) ∧ ∃ d3 d4 d5 d6, ds = [.inst [.tup [.int 1, .int way]], .tup [.int i, .int x], .tup [.int j, .int y], d3, d4, d5, d6])
    (evi (ev_sel L.fn (nm 0)) (itd_list (tt := true) (R1.of_le (by decide)))) rfl ⟨.inl rfl, _, _, _, _, rfl⟩ ?_ ?_ (R1.of_le (by decide)))
  · rintro wr k d _ hd ⟨hk, d3, d4, d5, d6, rfl⟩
    cases k with
    | succ k => simp at hd
    | zero =>
      cases hd
      refine ⟨_, as_tup (R1.of_le (by decide)) ⟨_, as_name 3 rfl (owl hy (by kernel_rfl)), _, as_name 4 rfl (owl hy (by kernel_rfl)), rfl⟩, ?_⟩
      refine ex_cons (ex_assign 5 (ev_sub (nm 1) (nm 3) (op_item_tup (by decide) (by decide) rfl)) rfl (owl hy (by kernel_rfl)) ?_)
      refine ex_cons (ex_assign 6 (ev_sub (nm 2) (nm 3) (op_item_tup (by decide) (by decide) rfl)) rfl (owl hy (by kernel_rfl)) ?_)
      refine ex_cons (ex_if (evt_cmp (nm 5) (nm 6) op_lt) (fun h => ?_) (fun h => ?_))
      · refine ex_cons (ex_ret (ev_un (nm 4) op_neg) ?_)
        show D.int _ = D.int _
        rw [cmpV, if_pos (by simpa using h)]
      · refine ex_nil (ex_cons (ex_if (evt_cmp (nm 5) (nm 6) op_gt) (fun h2 => ?_) (fun h2 => ?_)))
        · refine ex_cons (ex_ret (nm 4) ?_)
          show D.int _ = D.int _
          rw [cmpV, if_neg (by simpa using h), if_pos (by simpa using h2)]
        · exact ex_nil (ex_nil ⟨.inr ⟨by simpa using h, by simpa using h2⟩, .int 1, .int way, .int x, .int y, rfl⟩)
  · rintro _ ⟨hk, d3, d4, d5, d6, rfl⟩
    rcases hk with h | ⟨h1, h2⟩
    · simp at h
    · refine ex_cons (ex_ret ev_int ?_)
      show D.int _ = D.int _
      rw [cmpV, if_neg h1, if_neg h2]
theorem shadow_sel (hs : Int) (t : Tok) (lv : Value) : shadowIn (some (selO hs t lv)) "compare" = some false := by kernel_rfl
theorem meth_compare (L : Law c P) {l : List D} : Meth c (.inst l) "compare" (.ref 35) := by
  intro s E v pl Q B r k
  obtain ⟨x, dx, hs, t, lv, e, I, r⟩ := inst_at r
  subst e
  exact method_fn (K := KP P) (Frag.In.keeps L.X B.h) I (by kernel_rfl) (by kernel_rfl) (by kernel_rfl) (by kernel_rfl) (shadow_sel hs t lv) (k s.toks)
end
end Mine
end
/-! ## part D1 -/
section
open PySem PySem.W PyProof.Rows
set_option maxRecDepth 100000
namespace Mine

noncomputable def msgE : Str := "lo must be non-negative"
noncomputable def fadr (l : List Env) : List Addr := l.filterMap (·.frame)
noncomputable def FramesOk (h : Heap) (l : List Env) : Prop := ∀ env ∈ l, env.scope.kind ≠ .module ∧ ∃ L o, env.frame = some L ∧ h.get? L = some o ∧ (∀ vs, o.data ≠ .fields vs) ∧ ¬ tb L
structure Rsd (F : List Addr) (l : List Env) (B : Heap) (s2 s' : Shared) (ea t : Addr) (tk : Tok) : Prop where
  fly : Heap.FlyingW B l ea (.type "ValueError") (.ref t) s'.heap
  tup : s'.heap.TupAt t [.str msgE tk]
  inB : ∀ b o, s2.heap.get? b = some o → b ∉ F → B.get? b = some o
  upto : s2.heap.UpToSlots s'.heap
  os : s'.os = s2.os
  gens : s'.gens = s2.gens
  newt : B.get? t = none
theorem funFrames_of {h : Heap} {as : List Addr} : ∀ {l : List Env}, FramesOk h l → (∀ a ∈ fadr l, a ∈ as) → h.FunFrames (hideAll h as) l
  | [], _, _ => trivial
  | env :: l, hk, hin => by
    obtain ⟨k, L, o, hf, ho, hd, _⟩ := hk env (.head _)
    refine ⟨k, ⟨L, o, hf, hideAll_none _ (hin L ?_), ho, hd⟩, funFrames_of (fun e he => hk e (.tail _ he)) fun a ha => hin a ?_⟩
    · exact List.mem_filterMap.mpr ⟨env, .head _, hf⟩
    · obtain ⟨e, he, hf⟩ := List.mem_filterMap.mp ha
      exact List.mem_filterMap.mpr ⟨e, .tail _ he, hf⟩
theorem leave_made {M : Model} {A : Around} {E : Value → Shared → Prop} {s2 : Shared} {h' : Heap} {env : Env} {outer : List Env} {e : Addr} {tk : Tok} {Q : Unit → Shared → Prop} (hfr : A.frames = some (env :: outer)) (ok : FramesOk s2.heap (env :: outer)) (hx : Heap.MadeExc s2.heap h' e "ValueError" [.str msgE tk])
    (hQ : ∀ s'' B t, Rsd (fadr (env :: outer)) outer B s2 s'' e t tk → Q () s'') :
    wpAny M A (leaving env (.ref e)) Q E { s2 with heap := h' } := by
  obtain ⟨k, L, o, hf, ho, hd, _⟩ := ok env (.head _)
  refine wpAny_leaves_madeW (base := hideAll s2.heap (fadr (env :: outer))) (h := s2.heap) hfr hf (fun b o q => of_hideAll _ q) (funFrames_of ok fun a ha => ha) ⟨hx.keeps, hx.new, hx.there⟩ fun h'' t x1 x2 x3 x4 =>
    hQ _ _ t ⟨x1, x2, fun b o q n => hideAll_get _ q n, (Heap.UpToSlots.of_keeps hx.keeps).trans x4, rfl, rfl, x3⟩
theorem leave_on {M : Model} {A : Around} {E : Value → Shared → Prop} {s2 s' : Shared} {F : List Addr} {B : Heap} {env : Env} {outer : List Env} {e t L : Addr} {tk : Tok} {Q : Unit → Shared → Prop} (hfr : A.frames = some (env :: outer)) (hf : env.frame = some L) (R : Rsd F (env :: outer) B s2 s' e t tk)
    (hQ : ∀ s'', Rsd F outer B s2 s'' e t tk → Q () s'') :
    wpAny M A (leaving env (.ref e)) Q E s' :=
  wpAny_leaves_onW hfr hf R.fly fun h' fly up => hQ _ ⟨fly, R.tup.of_slots up, R.inB, R.upto.trans up, R.os, R.gens, R.newt⟩

structure PreR (W : List Addr) (s s2 : Shared) : Prop where
  dead : ∀ b ∈ W, s.heap.get? b = none
  live : ∀ b ∈ W, Alive s2.heap b
  keep : ∀ b o, ¬ tb b → s.heap.get? b = some o → s2.heap.get? b = some o
  tlive : ∀ b, tb b → Alive s.heap b → Alive s2.heap b
  tabs : ∀ Z, (∀ a, Z a → Alive s.heap a) → TabsOk Z s.heap → TabsOk (XW Z W) s2.heap
  os : s2.os = s.os
  bare : AllBare s.gens → AllBare s2.gens
theorem PreR.alive {W s s2} (p : PreR W s s2) {a} (x : Alive s.heap a) : Alive s2.heap a := by
  by_cases n : tb a
  · exact p.tlive a n x
  · obtain ⟨o, e⟩ := x; exact ⟨o, p.keep a o n e⟩
theorem tabs_eqv {X X' : Addr → Prop} {h : Heap} (e : ∀ a, X' a → X a) (t : TabsOk X h) : TabsOk X' h := t.mono (fun _ _ _ e => e) (fz_mono e h)
theorem PreR.frame {wr : List Addr} {s s1 s2 : Shared} (ef : ExtF s s1) (hf : ∀ b ∈ wr, s.heap.get? b = none) (lw : ∀ b ∈ wr, Alive s1.heap b) (x : Ext s1 s2) : PreR wr s s2 where
  dead := hf
  live := fun b hb => x.keep.alive (lw b hb)
  keep := fun b o n e => x.keep.get b o n (ef.keep b o e)
  tlive := fun b _ l => x.keep.alive (let ⟨o, e⟩ := l; ⟨o, ef.keep b o e⟩)
  tabs := fun Z l t => x.keep.tabs _ (fun a y => y.elim (fun y => let ⟨o, q⟩ := l a y; ⟨o, ef.keep a o q⟩) (lw a)) (t.mono (fun b o _ => ef.keep b o) (fle_grow (fun b o _ => ef.keep b o) hf))
  os := x.os.trans ef.os
  bare := fun b => x.bare (ef.bare b)
theorem PreR.trans {W1 W2 : List Addr} {s s1 s2 : Shared} (p : PreR W1 s s1) (q : PreR W2 s1 s2) : PreR (W2 ++ W1) s s2 where
  dead := fun b hb => by
    rcases List.mem_append.mp hb with h | h
    · cases e : s.heap.get? b with
      | none => rfl
      | some o =>
        obtain ⟨o', e'⟩ := p.alive ⟨o, e⟩
        rw [q.dead b h] at e'; cases e'
    · exact p.dead b h
  live := fun b hb => by
    rcases List.mem_append.mp hb with h | h
    · exact q.live b h
    · exact q.alive (p.live b h)
  keep := fun b o n e => q.keep b o n (p.keep b o n e)
  tlive := fun b t l => q.tlive b t (p.tlive b t l)
  tabs := fun Z l t => tabs_eqv (fun a y => by
      rcases y with y | y
      · exact .inl (.inl y)
      · rcases List.mem_append.mp y with h | h
        · exact .inr h
        · exact .inl (.inr h)) (q.tabs _ (fun a y => y.elim (fun y => p.alive (l a y)) (p.live a)) (p.tabs Z l t))
  os := q.os.trans p.os
  bare := fun b => q.bare (p.bare b)
theorem framesOk_pre {W : List Addr} {s s2 : Shared} {l : List Env} (p : PreR W s s2) (ok : FramesOk s.heap l) : FramesOk s2.heap l := fun env he => by
  obtain ⟨k, L, o, hf, ho, hd, nt⟩ := ok env he
  exact ⟨k, L, o, hf, p.keep L o nt ho, hd, nt⟩

section
variable {c : Cx} {P : Params} {ds : List D}
noncomputable def CallR (c : Cx) (df : D) (l : List D) (kw : List (Str × D)) : Prop :=
  ∀ s v vs ks outer, Base c.H c.X s.heap → c.A.frames = some outer → FramesOk s.heap outer → df.rep (fz c.X s.heap) v → repAll (fz c.X s.heap) l vs → repAll (fz c.X s.heap) (kw.map Prod.snd) ks →
    wpAny c.M c.A (call v vs ((kw.map Prod.fst).zip ks)) (fun _ _ => False) (fun e s' => ∃ W B s2 ea t tk, e = .ref ea ∧ PreR W s s2 ∧ (∀ b ∈ W, ¬ tb b) ∧ Rsd (W ++ fadr outer) outer B s2 s' ea t tk) s
theorem raise_if (L : Law c P) (hk : c.env.kindOf "ValueError" = some .globalImplicit) (hvr : nsIn (KP P) mainGlobals "ValueError" = some none) (R : Room c.A 1) {s1 : Shared} {lo : Int} {le : Expr} {np cpos pos ipos p1 p2 p3 : Pos} {k1 k2} {rest : List Stmt} {Q : Flow → Shared → Prop} {E : Value → Shared → Prop} (hlo : Ev c ds le (.int lo)) (hneg : lo < 0) (S : St c ds s1)
    (hE : ∀ s2 h' e tk, Ext s1 s2 → Heap.MadeExc s2.heap h' e "ValueError" [.str msgE tk] → E (.ref e) { s2 with heap := h' }) (hm : behindInMarks .Lt (.Constant (.int 0) k1 p1) = false := by rfl) :
    wpAny c.M c.A (execs (.If (.Compare le [.Lt] [.Constant (.int 0) k1 p1] p2) [.Raise (some (.Call (.Name "ValueError" np) [.Constant (.str msgE) k2 p3] [] cpos)) none pos] [] ipos :: rest) c.env) Q E s1 := by
  refine wpAny_execs_cons (wpAny_If (wpAny_mono ((evt_cmp hlo ev_int op_lt hm).run s1 _ S) (fun v s2 zz => ?_) fun _ _ x => x))
  obtain ⟨x, r⟩ := zz
  subst r
  have hd : decide (lo < 0) = true := by simpa using hneg
  rw [hd]
  refine wpAny_execs_cons (wpAny_Raise_call PySem.F.excCall_ValueError PySem.F.excRaise_ValueError R.handled (by rfl) ?_)
  have ev : Ev c ds (.Name "ValueError" np) (.val (.type "ValueError")) := ev_gb L (.type "ValueError") hvr (by kernel_rfl) hk
  refine wpAny_mono (ev.run s2 _ (S.ext x)) (fun f s3 ⟨x3, r3⟩ => ⟨of_val r3, ?_⟩) fun _ _ x => x
  refine evalArgs_kw rfl ?_
  refine wpAny_items_cons (wpAny_mono ((ev_str (x := msgE) (k := k2) (pos := p3) : Ev c ds _ _).run s3 _ ((S.ext x).ext x3)) (fun u s4 zz => ?_) fun _ _ x => x) (by rfl)
  obtain ⟨x4, tk, r4⟩ := zz
  refine wpAny_items_nil (wpAny_pure ⟨rfl, by rw [sizeLine_eq]; exact Nat.le_of_ble_eq_true rfl, fun h' e hx => ?_⟩)
  subst r4
  exact hE s4 h' e tk ((x.trans x3).trans x4) hx
end
end Mine
end
/-! ## part D2 -/
section
open PySem PySem.W PyProof.Rows
set_option maxRecDepth 100000
namespace Mine
theorem Rsd.mono {F F' : List Addr} {l : List Env} {B : Heap} {s2 s' : Shared} {ea t : Addr} {tk : Tok} (R : Rsd F l B s2 s' ea t tk) (h : ∀ a ∈ F, a ∈ F') : Rsd F' l B s2 s' ea t tk :=
  ⟨R.fly, R.tup, fun b o e n => R.inB b o e fun x => n (h b x), R.upto, R.os, R.gens, R.newt⟩
section
variable {c : Cx} {P : Params} {ds : List D}
theorem framesOk_push {env : Env} {X : Addr → Prop} {ns : List Str} {ds : List D} {s1 s2 : Shared} {outer : List Env} (F : FrS env X ns ds s1.heap) (x : Ext s1 s2) (hf : env.frame = some env.locals) (ok : FramesOk s2.heap outer) : FramesOk s2.heap (env :: outer) := fun e he => by
  rcases List.mem_cons.mp he with rfl | he
  · obtain ⟨o, es, ep, ho, hd, _⟩ := F.st.choose_spec.1.choose_spec.1
    exact ⟨by rw [F.ok.kind]; decide, e.locals, o, hf, x.keep.get _ o F.ok.loct ho, fun vs q => (by rw [hd] at q; cases q), F.ok.loct⟩
  · exact ok e he
theorem cR_bis (a : Addr) {l0 : List D} {kw : List (Str × D)} {da dx dh dk : D} {lo : Int} {np cpos pos ipos p0 p1 p2 p3 : Pos} {k1 k2} {rest : List Stmt} (L : Law c P) (R : Room c.A 3) (hneg : lo < 0)
    (hbind : KwB l0 kw c P a [("a", da), ("x", dx), ("lo", .int lo), ("hi", dh), ("key", dk)])
    (hbody : (fnAt (KP P) a).body = .stmts (.If (.Compare (.Name "lo" p0) [.Lt] [.Constant (.int 0) k1 p1] p2) [.Raise (some (.Call (.Name "ValueError" np) [.Constant (.str msgE) k2 p3] [] cpos)) none pos] [] ipos :: rest))
    (ok : fnOkB (KP P) a = true := by kernel_rfl)
    (hns : nsOkB (fnAt (KP P) a).scope.names ["a", "x", "lo", "hi", "key", "mid"] = true := by kernel_rfl) (hbn : ((["a", "x", "lo", "hi", "key"] : List Str).all (keptB (fnAt (KP P) a).scope.names) && decide (["a", "x", "lo", "hi", "key"] : List Str).Nodup) = true := by kernel_rfl)
    (hkv : (fnAt (KP P) a).scope.names.lookup ("ValueError" : Str) = some .globalImplicit := by kernel_rfl) (hvr : nsIn (KP P) mainGlobals "ValueError" = some none := by kernel_rfl) :
    CallR c (.val (.ref a)) l0 kw := by
  unfold fnOkB at ok
  simp only [Bool.and_eq_true, Bool.not_eq_true', beq_iff_eq, List.isEmpty_iff] at ok
  obtain ⟨⟨⟨⟨⟨⟨⟨e1, e2⟩, e3⟩, e4⟩, e5⟩, e6⟩, e7⟩, e8⟩ := ok
  obtain ⟨o, ho, hd⟩ := fn_at (a := a) L.X e1
  intro s v vs ks outer B hA okF hv r1 r2
  rw [of_val hv]
  obtain ⟨binds, b1, b2, b3⟩ := hbind s vs ks B r1 r2
  refine wpAny_call (call_coreX (Q := fun _ _ => False) [("a", da), ("x", dx), ("lo", .int lo), ("hi", dh), ("key", dk)] ["a", "x", "lo", "hi", "key", "mid"] (R.of_le (by decide)) ho hd L.lim (code_in L.X e2) hbody e3 e4 e5 e6 e7 e8 hns hbn B (kp_binds (Frag.In.keeps L.X B.h) b1) b2 b3 fun L0 s1 ef hf lw S => ?_)
  refine raise_if (c := c.fn P a L0 ["a", "x", "lo", "hi", "key", "mid"]) L.fn hkv hvr ((R.of_le (by decide : 2 ≤ 3)).deeper _) (ev_name 2 rfl rfl rfl) hneg S fun s2 h' e tk x hx => ?_
  have nt : ∀ b ∈ wrOf L0 (cellsFrom (L0 + 1) (fnAt (KP P) a).scope.names []), ¬ tb b := fun b hb y => by
    obtain ⟨o, q⟩ := B.tabs.alive y
    rw [hf b hb] at q; cases q
  have pr := PreR.frame ef hf lw x
  refine leave_made (Around.frames_deeper hA) (framesOk_push S.fr x rfl (framesOk_pre pr okF)) hx fun s'' B' t R' => ?_
  refine ⟨_, B', s2, e, t, tk, rfl, pr, nt, R'.mono fun b hb => ?_⟩
  rcases List.mem_cons.mp (show b ∈ L0 :: fadr outer from hb) with h | h
  · exact List.mem_append_left _ (mem_wrOf.mpr (.inl h))
  · exact List.mem_append_right _ h
end
end Mine
end
/-! ## part D3 -/
section
open PySem PySem.W PyProof.Rows
set_option maxRecDepth 100000
namespace Mine
section
variable {c : Cx} {P : Params} {ds : List D}
theorem cR_ins (a b : Addr) {l0 : List D} {kw : List (Str × D)} {l : List D} {x : D} {dk dh : D} {lo : Int} {kf : Nat → Int} {n i : Nat} {q0 q1 q2 q3 q4 q5 q6 q7 q8 q9 q10 q11 q12 q13 q14 q15 : Pos} {k1} {bn : Str} {A1 : List Stmt} {rest : List Stmt} (L : Law c P) (R : Room c.A (n + 6)) (hneg : lo < 0) (K : KeyD c dk l kf n) (hx : l[i]? = some x) (hxk : x.known = true) (hhk : dh.known = true)
    (hbind : KwB l0 kw c P a [("a", .list l), ("x", x), ("lo", .int lo), ("hi", dh), ("key", dk)])
    (hR : ∀ c1 : Cx, Law c1 P → Room c1.A 3 → CallR c1 (.val (.ref b)) [.list l, .int (kf i), .int lo, dh] [("key", dk)])
    (hbody : (fnAt (KP P) a).body = .stmts (.If (.Compare (.Name "key" q0) [.Is] [.Constant .none k1 q1] q2) A1 [.Assign [.Name "lo" q3] (.Call (.Name bn q4) [.Name "a" q5, .Call (.Name "key" q6) [.Name "x" q7] [] q8, .Name "lo" q9, .Name "hi" q10] [⟨some "key", .Name "key" q11, q12⟩] q13) q14] q15 :: rest))
    (hbn' : nsIn (KP P) mainGlobals bn = some (some (.ref b))) (hbk : (fnAt (KP P) a).scope.names.lookup bn = some .globalImplicit) (hbd : (bn == ("__debug__" : Str)) = false) (hbfn : (match (KP P).lookup b with | some ⟨_, _, .func _, _⟩ => true | _ => false) = true)
    (hq : ∀ env, eval (.Call (.Name bn q4) [.Name "a" q5, .Call (.Name "key" q6) [.Name "x" q7] [] q8, .Name "lo" q9, .Name "hi" q10] [⟨some "key", .Name "key" q11, q12⟩] q13) env = (do callWith q13 (← eval (.Name bn q4) env) [] (backTo q13 (starEach [.Name "a" q5, .Call (.Name "key" q6) [.Name "x" q7] [] q8, .Name "lo" q9, .Name "hi" q10] env)) (backToKw q13 (keywordEach [⟨some "key", .Name "key" q11, q12⟩] env))))
    (ok : fnOkB (KP P) a = true := by kernel_rfl)
    (hns : nsOkB (fnAt (KP P) a).scope.names ["a", "x", "lo", "hi", "key"] = true := by kernel_rfl) (hbn : ((["a", "x", "lo", "hi", "key"] : List Str).all (keptB (fnAt (KP P) a).scope.names) && decide (["a", "x", "lo", "hi", "key"] : List Str).Nodup) = true := by kernel_rfl) :
    CallR c (.val (.ref a)) l0 kw := by
  unfold fnOkB at ok
  simp only [Bool.and_eq_true, Bool.not_eq_true', beq_iff_eq, List.isEmpty_iff] at ok
  obtain ⟨⟨⟨⟨⟨⟨⟨e1, e2⟩, e3⟩, e4⟩, e5⟩, e6⟩, e7⟩, e8⟩ := ok
  obtain ⟨o, ho, hd⟩ := fn_at (a := a) L.X e1
  intro s v vs ks outer B hA okF hv r1 r2
  rw [of_val hv]
  obtain ⟨binds, b1, b2, b3⟩ := hbind s vs ks B r1 r2
  refine wpAny_call (call_coreX (Q := fun _ _ => False) [("a", .list l), ("x", x), ("lo", .int lo), ("hi", dh), ("key", dk)] ["a", "x", "lo", "hi", "key"] (R.of_le (by omega)) ho hd L.lim (code_in L.X e2) hbody e3 e4 e5 e6 e7 e8 hns hbn B (kp_binds (Frag.In.keeps L.X B.h) b1) b2 b3 fun L0 s1 ef hf lw S => ?_)
  have R1 : Room (c.fn P a L0 ["a", "x", "lo", "hi", "key"]).A (n + 5) := R.deeper _
  obtain ⟨pk, ek, hk⟩ := K.is
  have hkk : dk.known = true := by rw [ek]; rfl
  have L1 : Law (c.fn P a L0 ["a", "x", "lo", "hi", "key"]) P := L.fn
  have ev : EvT (c.fn P a L0 ["a", "x", "lo", "hi", "key"]) [.list l, x, .int lo, dh, dk] (.Compare (.Name "key" q0) [.Is] [.Constant .none k1 q1] q2) false := evt_cmp (ev_name 4 rfl rfl hkk) ev_none (by rw [ek]; exact op_is_none_any hk)
  refine wpAny_execs_cons (wpAny_If (wpAny_mono (ev.run s1 _ S) (fun r s2 zz => ?_) fun _ _ x => x))
  obtain ⟨x2, e2⟩ := zz
  subst e2
  rw [if_neg (by decide)]
  refine wpAny_execs_cons (wpAny_Assign_Name ?_ (by rfl))
  rw [hq]
  have evf : Ev (c.fn P a L0 ["a", "x", "lo", "hi", "key"]) [.list l, x, .int lo, dh, dk] (.Name bn q4) (.val (.ref b)) := ev_gf L1 b hbn' hbk hbd
  refine wpAny_bind (wpAny_mono (evf.run s2 _ (S.ext x2)) (fun f s3 zz => ?_) fun _ _ x => x)
  obtain ⟨x3, r3⟩ := zz
  rw [of_val r3]
  have S3 := (S.ext x2).ext x3
  have hK : CallD (c.fn P a L0 ["a", "x", "lo", "hi", "key"]) dk [x] [] (.int (kf i)) := K.call (c.fn P a L0 ["a", "x", "lo", "hi", "key"]) rfl rfl rfl (R1.of_le (by omega)) i x hx
  refine callWith_rule (l := [.list l, .int (kf i), .int lo, dh]) (kw := [("key", dk)]) S3 rfl (evl_cons (ev_name 0 rfl rfl rfl) (evl_cons (ev_call1 (ev_name 4 rfl rfl hkk) (ev_name 1 rfl rfl hxk) (K.kpr (c.fn P a L0 ["a", "x", "lo", "hi", "key"]) rfl rfl rfl) hK) (evl_cons (ev_name 2 rfl rfl rfl) (evl_cons (ev_name 3 rfl rfl hhk) evl_nil)))) (evk_one (ev_name 4 rfl rfl hkk)) (fun s' x => kpr_fn L1 b hbfn _ _ (S3.ext x).base rep_val) fun s' vs ks x4 rv rk => ?_
  have x14 := (x2.trans x3).trans x4
  have pr := PreR.frame ef hf lw x14
  have nt : ∀ b ∈ wrOf L0 (cellsFrom (L0 + 1) (fnAt (KP P) a).scope.names []), ¬ tb b := fun b hb y => by
    obtain ⟨o, q⟩ := B.tabs.alive y
    rw [hf b hb] at q; cases q
  have hfr := Around.frames_deeper (env := fnEnv (fnAt (KP P) a) a L0 (cellsFrom (L0 + 1) (fnAt (KP P) a).scope.names [])) hA
  refine wpAny_mono (hR _ L1 (R1.of_le (by omega)) s' _ vs ks _ (S3.ext x4).base hfr (framesOk_push S.fr x14 rfl (framesOk_pre pr okF)) rep_val rv rk) (fun _ _ h => h.elim) fun e s4 zz => ?_
  obtain ⟨W, B', s2', ea, t, tk, ee, p2, ntW, R'⟩ := zz
  subst ee
  refine leave_on hfr rfl R' fun s'' R2 => ?_
  refine ⟨_, B', s2', ea, t, tk, rfl, pr.trans p2, fun b hb => (List.mem_append.mp hb).elim (ntW b) (nt b), R2.mono fun b hb => ?_⟩
  rcases List.mem_append.mp hb with h | h
  · exact List.mem_append_left _ (List.mem_append_left _ h)
  · rcases List.mem_cons.mp (show b ∈ L0 :: fadr outer from h) with h | h
    · exact List.mem_append_left _ (List.mem_append_right _ (mem_wrOf.mpr (.inl h)))
    · exact List.mem_append_right _ h
end
end Mine
end
/-! ## part D4 -/
section
open PySem PySem.W PyProof.Rows
set_option maxRecDepth 100000
namespace Mine
structure Lnd (L : Addr) (s s5 : Shared) : Prop where
  keep : ∀ b o, ¬ tb b → b ≠ L → s.heap.get? b = some o → s5.heap.get? b = some o
  self : Alive s.heap L → Alive s5.heap L
  ns : ∀ m, s.heap.Ns L m → s5.heap.Ns L m
  tlive : ∀ b, tb b → Alive s.heap b → Alive s5.heap b
  tabs : ∀ Z, Z L → (∀ a, Z a → Alive s.heap a) → TabsOk Z s.heap → TabsOk Z s5.heap
  os : s5.os = s.os
  bare : AllBare s.gens → AllBare s5.gens
theorem lnd_of {env : Env} {W : List Addr} {B : Heap} {s s1 s2 s5 : Shared} {ea t : Addr} {tk : Tok} {m0 : Str → Option Value} (x : Ext s s1) (p : PreR W s1 s2) (ntW : ∀ b ∈ W, ¬ tb b) (hf : env.frame = some env.locals) (ntL : ¬ tb env.locals) (hn : s.heap.Ns env.locals m0) (R : Rsd (W ++ fadr [env]) [env] B s2 s5 ea t tk) : Lnd env.locals s s5 := by
  have hF : ∀ b, b ∉ W → b ≠ env.locals → b ∉ W ++ fadr [env] := fun b h1 h2 h => by
    rcases List.mem_append.mp h with h | h
    · exact h1 h
    · have : fadr [env] = [env.locals] := by simp [fadr, hf]
      rw [this] at h; exact h2 (List.mem_singleton.mp h)
  have nW : ∀ b, Alive s.heap b → b ∉ W := fun b l h => by
    obtain ⟨o, e⟩ := x.keep.alive l
    rw [p.dead b h] at e; cases e
  have up : ∀ b o, b ∉ W → b ≠ env.locals → s2.heap.get? b = some o → s5.heap.get? b = some o := fun b o h1 h2 e => R.fly.1 b o (R.inB b o e (hF b h1 h2))
  refine ⟨fun b o n1 n2 e => up b o (nW b ⟨o, e⟩) n2 (p.keep b o n1 (x.keep.get b o n1 e)), fun _ => ?_, fun m hm => ?_, fun b hb l => ?_, fun Z zL l t' => ?_, R.os.trans (p.os.trans x.os), fun b => by rw [R.gens]; exact p.bare (x.bare b)⟩
  · obtain ⟨_, ⟨L, o, hL, _, ho, _⟩, _⟩ := R.fly.2.2.1
    rw [hf] at hL; cases hL; exact ⟨o, ho⟩
  · exact R.upto.ns ((hm.at' fun o e => x.keep.get _ o ntL e).at' fun o e => p.keep _ o ntL e)
  · obtain ⟨o, e⟩ := p.alive (x.keep.alive l)
    exact ⟨o, up b o (fun h => ntW b h hb) (fun h => ntL (h ▸ hb)) e⟩
  · have t2 := p.tabs Z (fun a z => x.keep.alive (l a z)) (x.keep.tabs Z l t')
    exact t2.mono (fun b o hb e => up b o (fun h => ntW b h hb) (fun h => ntL (h ▸ hb)) e) fun a o q => ⟨fun y => q.1 (y.imp .inl id), up a o (fun h => q.1 (.inl (.inr h))) (fun h => q.1 (.inl (.inl (h ▸ zL)))) q.2⟩
section
variable {c : Cx} {P : Params} {ds : List D}
theorem Lnd.alive {L : Addr} {s s5 : Shared} (k : Lnd L s s5) {a : Addr} (l : Alive s.heap a) : Alive s5.heap a := by
  by_cases h : tb a
  · exact k.tlive a h l
  · by_cases h2 : a = L
    · subst h2; exact k.self l
    · obtain ⟨o, e⟩ := l; exact ⟨o, k.keep a o h h2 e⟩
theorem Lnd.fz {L : Addr} {s s5 : Shared} {X : Addr → Prop} (k : Lnd L s s5) (hL : X L) : Fle (fz X s.heap) (fz X s5.heap) := fun a o q => ⟨q.1, k.keep a o (fun t => q.1 (.inr t)) (fun h => q.1 (.inl (h ▸ hL))) q.2⟩
theorem St.landed {s s5 : Shared} (S : St c ds s) (k : Lnd c.env.locals s s5) : St c ds s5 := by
  obtain ⟨ok, look, ⟨m, hn, hm⟩, hc, hs⟩ := S.fr
  have hX := ok.own
  refine ⟨⟨S.base.sys, fun a o e => ⟨(S.base.old a o e).1, k.keep a o (fun t => (S.base.old a o e).1 (.inr t)) (fun h => (S.base.old a o e).1 (.inl (h ▸ hX))) (S.base.old a o e).2⟩, fun a x => k.alive (S.base.live a x), k.tabs c.X hX S.base.live S.base.tabs⟩,
    ⟨ok, look, ⟨m, k.ns m hn, hm⟩, fun x a e n => ?_, hs.mono (k.fz hX)⟩, S.sub, S.mem.mono (fun a h => (S.mem.ap a h).2.2.1) (fun a h o e => k.keep a o (S.mem.ap a h).2.2.2.1 (S.mem.ap a h).1 e) (k.fz hX), S.subR, S.memR⟩
  obtain ⟨o, q, d⟩ := hc x a e n
  exact ⟨o, k.keep a o (ok.celt x a e) (cell_ne_ns hn ⟨o, q, d⟩) q, d⟩
theorem Lnd.extB {s s5 : Shared} {Y : Addr → Prop} {L : Addr} (k : Lnd L s s5) (hY : Y L) : ExtB Y s s5 :=
  ⟨⟨fun b o n e => k.keep b o (fun t => n (.inr t)) (fun h => n (.inl (h ▸ hY))) e, fun b _ l => k.alive l, fun Z z l t => k.tabs Z (z L hY) l t⟩, k.os, k.bare⟩

noncomputable def excP (g : Fz) (v : Value) : Prop := ∃ ea t oe ot vs n tk, v = .ref ea ∧ g ea oe ∧ oe.cls = .type "ValueError" ∧ oe.data = .fields vs ∧ vs[0]? = some (.ref t) ∧ g t ot ∧ ot.cls = .type "tuple" ∧ ot.data = .seq #[.str msgE tk] n
noncomputable abbrev D.exc : D := .any excP
noncomputable abbrev Cx.mark (c : Cx) (e : Addr) : Cx := { c with A := c.A.mark (some (.ref e)) }
theorem St.mark {s : Shared} {e : Addr} (S : St c ds s) : St (c.mark e) ds s := ⟨S.base, S.fr, S.sub, S.mem, S.subR, S.memR⟩
theorem St.unmark {s : Shared} {e : Addr} (S : St (c.mark e) ds s) : St c ds s := ⟨S.base, S.fr, S.sub, S.mem, S.subR, S.memR⟩
theorem name_goes {s : Shared} {x : Str} {i : Nat} {pos : Pos} {E : Value → Shared → Prop} {Q : Unit → Shared → Prop} (S : St c ds s) (hx : c.ns[i]? = some x) (hl : c.env.kindOf x = some .local) (hY : c.Y c.env.locals)
    (k : ∀ s', StB c (ds.set i .unk) s s' → Q () s') : wpAny c.M c.A (do bindName c.env x .none; unbindBehindTheSuite c.env x pos) Q E s := by
  obtain ⟨ok, look, ⟨m, hn, hm⟩, hc, hsl⟩ := S.fr
  refine wpAny_nameGoes_keeps hl hn (by rw [ok.kind]; rfl) fun h' v hn' hs => k _ ?_
  have kb₀ : KeepB c.Y s.heap h' := .of_same hs hY ok.loct ⟨_, hn'.choose_spec.choose_spec.choose_spec.1⟩
  have kb : KeepB c.X s.heap h' := kb₀.mono S.sub
  have le := kb.fz
  have slots : ∀ {ns : List Str} {l : List D} {i : Nat}, ns.Nodup → slotsOk (fz c.X s.heap) look ns l → ns[i]? = some x → slotsOk (fz c.X h') (fun y => if y = x then v else look y) ns (l.set i .unk) := by
    intro ns
    induction ns with
    | nil => intro l i _ _ e; simp at e
    | cons y ns ih =>
      intro l i nd h e
      cases l with
      | nil => exact h.elim
      | cons d l =>
        have nd' := List.nodup_cons.mp nd
        cases i with
        | zero =>
          cases e
          refine ⟨trivial, (slotsOk.congr (fun z hz => ?_) h.2).mono le⟩
          rw [if_neg]; rintro rfl; exact nd'.1 hz
        | succ i =>
          refine ⟨?_, ih nd'.2 h.2 e⟩
          have hne : y ≠ x := by rintro rfl; exact nd'.1 (List.mem_of_getElem? (show ns[i]? = some y from e))
          simp only [if_neg hne]; exact D.repO_mono le _ _ h.1
  refine ⟨⟨S.base.keep kb, ⟨ok, fun y => if y = x then v else look y, ⟨_, hn', fun y hy => ?_⟩, fun y b hb ny => ?_, ?_⟩, S.sub, ?_, S.subR, S.memR⟩, ⟨kb₀, rfl, id⟩⟩
  · dsimp only; split
    · rfl
    · exact hm y hy
  · have hyx : y ≠ x := by rintro rfl; exact ny hl
    have := hc y b hb ny
    simp only [if_neg hyx]
    exact this.sameBut hs (cell_ne_ns hn this)
  · rw [List.take_set]; exact slots ok.nodup hsl hx
  · have M := S.mem.mono (fun a h => (S.mem.ap a h).2.2.1) (fun a ha o e => (hs.2 a (S.mem.ap a ha).1).trans e) le
    exact ⟨M.ap, M.nodup, fun j a d' e e' => M.ok j a d' e (by rwa [List.getElem?_set_ne (by have := (List.getElem?_eq_some_iff.mp hx).1; (first | lia | omega))] at e')⟩
end
end Mine
end
/-! ## part D5 -/
section
open PySem PySem.W PyProof.Rows
set_option maxRecDepth 100000
namespace Mine
section
variable {c : Cx} {P : Params} {ds : List D}
theorem rep_exc {X : Addr → Prop} {H : Heap} {W : List Addr} {B : Heap} {s s1 s2 s5 : Shared} {ea t : Addr} {tk : Tok} {m0 : Str → Option Value} {env : Env} (hf : env.frame = some env.locals) (x : Ext s s1) (p : PreR W s1 s2) (B0 : Base H X s.heap) (hn : s.heap.Ns env.locals m0) (R : Rsd (W ++ fadr [env]) [env] B s2 s5 ea t tk) :
    D.exc.rep (fz X s5.heap) (.ref ea) := by
  obtain ⟨f1, f2, f3, oe, vs, T, oT, ts, a1, ⟨a2, a3⟩, a4, a5, a6⟩ := R.fly
  obtain ⟨ot, n, b1, b2, b3⟩ := R.tup
  have hE : env.locals ≠ ea := by
    obtain ⟨_, ⟨L, o, hL, _, ho, hd⟩, _⟩ := f3
    rw [hf] at hL; cases hL
    rintro rfl
    rw [a1] at ho; cases ho; exact hd vs a4
  have key : ∀ b, B.get? b = none → (∃ o, s5.heap.get? b = some o ∧ env.locals ≠ b) → ¬ (X b ∨ tb b) := fun b hb zz y => by
    obtain ⟨o, ho, hne⟩ := zz
    have al : Alive s.heap b := y.elim (B0.live b) B0.tabs.alive
    obtain ⟨o1, e1⟩ := x.keep.alive al
    obtain ⟨o2, e2⟩ := p.alive ⟨o1, e1⟩
    have := R.inB b o2 e2 (fun h => by
      rcases List.mem_append.mp h with h | h
      · rw [p.dead b h] at e1; cases e1
      · have q : fadr [env] = [env.locals] := by simp [fadr, hf]
        rw [q] at h; exact hne (List.mem_singleton.mp h).symm)
    rw [hb] at this; cases this
  refine ⟨_, Fle.refl _, ea, t, oe, ot, vs, n, tk, rfl, ⟨key ea f2 ⟨oe, a1, hE⟩, a1⟩, a2, a4, a3, ⟨key t R.newt ⟨ot, b1, ?_⟩, b1⟩, b2, b3⟩
  rintro rfl
  have hn5 : s2.heap.Ns env.locals m0 ∨ True := .inr trivial
  obtain ⟨o, es, ep, ho, hd, _⟩ := hn
  by_cases ht : tb env.locals
  · obtain ⟨o1, e1⟩ := x.keep.tlive _ ht ⟨o, ho⟩
    obtain ⟨o2, e2⟩ := p.alive ⟨o1, e1⟩
    obtain ⟨ps, q, _⟩ | ⟨ps, q, _⟩ : TabOk X s.heap env.locals _ ∨ TabOk X s.heap env.locals _ := by
      rcases ht with h | h
      · exact .inl (h ▸ B0.tabs.t1)
      · exact .inr (h ▸ B0.tabs.t2)
    all_goals (rw [ho] at q; cases q; cases hd)
  · have e2 := p.keep _ o ht (x.keep.get _ o ht ho)
    obtain ⟨sl, e5⟩ := R.upto _ o e2 (fun vs q => by rw [hd] at q; cases q)
    rw [b1] at e5; cases e5
    rw [hd] at b3; cases b3
theorem call_str_exc (hu : c.A.units + 2 < cLine) : CallD c (.val (.type "str")) [D.exc] [] (.str msgE) := by
  intro s E v vs ks B hv hvs hks
  rw [of_val hv]
  obtain ⟨u, rfl, g, le, ea, t, oe, ot, ws, n, tk, e, g1, a1, a2, a3, g2, b1, b2⟩ := repAll1 hvs
  subst e
  show wpAny _ _ (call (.type "str") [.ref ea]) _ _ _
  exact PySem.P.str_of_exc_one PySem.F.excStr_ValueError hu ⟨oe, ws, (le _ _ g1).2, a1, a2, a3⟩ ⟨ot, n, (le _ _ g2).2, b1, b2⟩ ⟨.refl s, tk, rfl⟩
theorem op_ned' {d1 d2 : D} (hu : c.A.units + 100 < cLine) (p1 : d1.plain = true) (p2 : d2.plain = true) (s1 : SeqAt.shaped d1.py = true) (s2 : SeqAt.shaped d2.py = true) : Op2 c (compareOp .NotEq) d1 d2 (.bool (!PyData.eqv d1.py d2.py)) := by
  intro s E v1 v2 B r1 r2
  obtain ⟨as, z1⟩ := reads_of d1 v1 p1 r1
  obtain ⟨bs, z2⟩ := reads_of d2 v2 p2 r2
  exact SeqAt.compareNe_shaped z1 z2 s1 s2 (by (first | lia | omega)) ⟨.refl s, rfl⟩
theorem op_ne_ints' {ns ms : List Int} (hu : c.A.units + 100 < cLine) : Op2 c (compareOp .NotEq) (.ints ns) (.ints ms) (.bool (!decide (ns = ms))) := by
  have h := op_ned' (c := c) (d1 := .ints ns) (d2 := .ints ms) hu (by simp [D.plain, plain_ints]) (by simp [D.plain, plain_ints]) (by simp only [D.py, py_ints]; exact PySem.W.ke_shaped_ints ns) (by simp only [D.py, py_ints]; exact PySem.W.ke_shaped_ints ms)
  simp only [D.py, py_ints, PyData.eqv, PySem.W.ked_eqvAll] at h
  exact h
theorem ex_try (i : Nat) {st : Stmt} {more : List Stmt} {np hpos pos : Pos} {x : Str} {b₀ : Stmt} {suite : List Stmt} {Q : Fl → List D → Prop} (L : Law c P) (hA : c.A.frames = some [c.env]) (hf : c.env.frame = some c.env.locals) (hY : c.Y c.env.locals)
    (hx : c.ns[i]? = some x) (hl : c.env.kindOf x = some .local) (hkv : c.env.kindOf "ValueError" = some .globalImplicit) (hvr : nsIn (KP P) mainGlobals "ValueError" = some none)
    (hraise : ∀ s, St c ds s → wpAny c.M c.A (exec st c.env) (fun _ _ => False) (fun e s' => ∃ s1 W B s2 ea t tk, e = .ref ea ∧ Ext s s1 ∧ PreR W s1 s2 ∧ (∀ b ∈ W, ¬ tb b) ∧ Rsd (W ++ fadr [c.env]) [c.env] B s2 s' ea t tk) s)
    (hsuite : ∀ e, Ex (c.mark e) (ds.set i .exc) (execs (b₀ :: suite) c.env) (fun fl ds' => fl = .next ∧ Q .next (ds'.set i .unk))) :
    Ex c ds (exec (.Try (st :: more) [.ExceptHandler (some (.Name "ValueError" np)) (some x) (b₀ :: suite) hpos] [] [] pos) c.env) Q := .mk fun s E S => by
  refine wpAny_Try_except (wpAny_execs_cons (wpAny_mono (hraise s S) (fun _ _ h => h.elim) fun e s3 zz => ?_))
  obtain ⟨s1, W, B, s2, ea, t, tk, ee, x1, p, ntW, R⟩ := zz
  subst ee
  obtain ⟨ok, look, ⟨m, hn, hm⟩, hcl, hs⟩ := id S.fr
  refine wpAny_looks_onW hA hf R.fly fun h4 held up4 => ?_
  refine wpAny_landsW held fun h5 fly5 up5 => ?_
  have R5 : Rsd (W ++ fadr [c.env]) [c.env] B s2 { s3 with heap := h5 } ea t tk := ⟨fly5, (R.tup.of_slots up4).of_slots up5, R.inB, (R.upto.trans up4).trans up5, R.os, R.gens, R.newt⟩
  have S5 := S.landed (lnd_of x1 p ntW hf ok.loct hn R5)
  obtain ⟨mg, mb, g1, g2, hb⟩ := L.g
  have hmiss : mg "ValueError" = none := mg_none_of L.X g1 hvr
  have hv : mb "ValueError" = some (.type "ValueError") := (hb _ (by decide)).trans (by kernel_rfl)
  obtain ⟨ob, hob, hobc⟩ := fly5.there
  refine wpAny_handleBy_builtin_as (X := "ValueError") (T := "ValueError") (b := true) PySem.F.isExc_ValueError PySem.F.notTuple_ValueError (by rw [isSubtype_type]; kernel_rfl) (wpAny_Name ?_ (by rfl))
  rw [loadName_read ok.kind hkv]
  refine Calls.loadGlobal_builtin (by rw [ok.glob]; exact g1.keeps S5.base.h) hmiss (by rw [ok.blt]; exact g2.keeps S5.base.h) hv ⟨rfl, ⟨ob, hob, hobc⟩, ?_⟩
  refine lands_againW fly5 fun h6 fly6 up6 => ?_
  have R6 : Rsd (W ++ fadr [c.env]) [c.env] B s2 { s3 with heap := h6 } ea t tk := ⟨fly6, R5.tup.of_slots up6, R.inB, R5.upto.trans up6, R.os, R.gens, R.newt⟩
  have k6 := lnd_of x1 p ntW hf ok.loct hn R6
  have S6 := S.landed k6
  have r6 : D.exc.rep (fz c.X h6) (.ref ea) := rep_exc hf x1 p S.base hn R6
  refine store (c := c.mark ea) S6.mark hx (.inl ⟨hl, hY⟩) r6 fun s7 b7 => ?_
  refine wpAny_mono ((hsuite ea).run s7 _ b7.st) (fun f s8 zz => ?_) fun _ _ x => x
  obtain ⟨fl, ds', r, b8, e1, q⟩ := zz
  subst e1
  have b78 := b7.trans b8
  refine name_goes b78.st.unmark hx hl hY fun s9 b9 => ?_
  refine ⟨.next, _, r, ⟨b9.st, (k6.extB hY).trans (b78.ext.trans b9.ext)⟩, q⟩
end
end Mine
end
/-! ## part E0 -/
section
open PySem PySem.W PyProof.Rows
set_option maxRecDepth 100000
set_option maxHeartbeats 4000000
namespace Mine
noncomputable def LawOk : Prop := ∀ (c : Cx) (P : Params), Law c P → TopOk c.H → Room c.A 60 → c.A.frames = some [] → (∀ a, ¬ c.X a) → ∀ xs : List Int, xs.length ≤ 63 → CallD c (.val (.ref 157)) [.ints xs] [] (.bool true)
set_option tactic.hygienic true in
theorem join (hlaw : LawOk) : PySem.Challenge.rw_xh0017_01.Holds := by
  refine hd ?_
  k_fill
  intro w s0 s1 mg mb G Y fa o pm cd doc dV kV ho hd' hcd hD hmg hg args vals as hpre hlay hrd hwl hlo
  have KX := km_in_of Y
  km_tabs Y
  refine Ground.open G ?_
  intro T B D' TE TW
  km_lay T hmg ho hd' cd
  have hmg' : mg "law" = some (.ref fa) := hmg
  have e157 : fa = 157 := by
    have := mg_of KX T.g (n := "law") (v := .ref 157) (by kernel_rfl)
    rw [hmg'] at this; cases this; rfl
  subst e157
  clear hmg hd' hcd hD
  have T51 : CodeHd s1.heap 55 51 ∧ s1.heap.get? 51 = some (tabObj #[]) := tab_of (x := "add_callers") T KX rfl (by kernel_rfl)
  wrow_args hpre hlay hrd hwl hlo
  rename_i xs _ _ _ _ _ _ _ l vs _ hL _ W0 _ hI _ hc _
  have hlen : xs.length ≤ 63 := by omega
  clear hc
  have hobj : s1.heap.get? l = some { cls := .type "list", data := .seq vs.toArray } := by
    obtain ⟨o', e1, c1, n, d1⟩ := hL
    cases W0 with
    | list e _ =>
      rw [e] at e1; cases e1
      cases d1
      simpa using e
  have hT : TabsAt [(55, 51), (156, 154)] s1.heap := List.forall_mem_cons.mpr ⟨T51, hT9⟩
  have hid : ∀ b, tb b → (ghostOf s1.heap [(55, 51), (156, 154)]).get? b = none := fun b t => hideAll_none _ (by rcases t with rfl | rfl <;> simp)
  have old : ∀ b o, (ghostOf s1.heap [(55, 51), (156, 154)]).get? b = some o → ¬ tb b ∧ s1.heap.get? b = some o := fun b o e => by
    refine ⟨fun t => ?_, of_hideAll _ e⟩
    rw [hid b t] at e; cases e
  have T' := ghost_top hT T
  have hlim : (ghostOf s1.heap [(55, 51), (156, 154)]).NoLimit := T'.nolimit
  have hcode := ghost_code hT
  have tab0 : ∀ P q, s1.heap.get? P = some (tabObj #[]) → TabOk (fun _ => False) s1.heap P q := fun P q e => ⟨#[], e, trivial, fun pos cv x => by simp [codeAmong] at x⟩
  have hsys : ∃ o, (ghostOf s1.heap [(55, 51), (156, 154)]).get? sysModules = some o := by
    obtain ⟨mm, hn, _⟩ := (T.seer (by kernel_rfl)).mods
    obtain ⟨o, _, _, e, _⟩ := ghost_ns hT hn
    exact ⟨o, e⟩
  have Bs : Base (ghostOf s1.heap [(55, 51), (156, 154)]) (fun _ => False) s1.heap :=
    ⟨hsys, fun a o e => ⟨fun x => (old a o e).1 (x.elim False.elim id), (old a o e).2⟩, fun a x => x.elim, ⟨tab0 _ _ T51.2, tab0 _ _ (hT9 _ (.head _)).2⟩⟩
  obtain ⟨bm, ob, b1, b2, b3, b4, b5, b6⟩ := T'.bmain
  have b7 : bm ≠ mainGlobals := by
    rintro rfl
    obtain ⟨o, _, _, e, q, _⟩ := T'.g
    rw [b3] at e; cases e
    rw [b6] at q; cases q
  have hlawc := hlaw ⟨PySem.Challenge.rw_xh0017_01.row.prog, w, ghostOf s1.heap [(55, 51), (156, 154)], callerA, fun _ => False, fun _ => False, default, [], [], fun _ => False⟩ w.params
    ⟨ghost_K hT KX (by kernel_rfl), hlim, mg, mb, T'.g, T'.b, T'.builtins⟩
    ⟨hcode.2.1, hcode.1, mg, bm, ob, T'.g, b1, b2, b7, b3, b4, b5, b6⟩ ⟨rfl, by show callerA.depth + 60 < _; decide, by show callerA.units + 10 * 60 < _; decide⟩ rfl (fun _ h => h) xs hlen
  have ntl : ¬ tb l := fun t => by
    have : s1.heap.get? l = some (tabObj #[]) := by rcases t with rfl | rfl; (· exact T51.2); (· exact (hT9 _ (.head _)).2)
    rw [hobj] at this; cases this
  refine wpAny_mono (hlawc s1 _ (.ref 157) [.ref l] [] Bs rep_val ⟨⟨l, vs.toArray, 0, rfl, ⟨fun x => x.elim id ntl, hobj⟩, ?_⟩, trivial⟩ trivial) (fun v s' ⟨x, r⟩ => ?_) fun _ _ x => x
  · simpa using intsAre_rep hI
  · cases (show v = .bool true from r)
    have tb' : ∀ b, tb b → isCodeTable s1.heap b ∧ s1.heap.get? b = some (tabObj #[]) ∧ ∃ ps, s'.heap.get? b = some (tabObj ps) := fun b t => by
      have t' := x.keep.tabs (fun _ => False) (fun a h => h.elim) Bs.tabs
      rcases t with rfl | rfl
      · exact ⟨(T51.1.tab T51.2).isCodeTable, T51.2, let ⟨ps, e, _⟩ := t'.t1; ⟨ps, e⟩⟩
      · exact ⟨((hT9 _ (.head _)).1.tab (hT9 _ (.head _)).2).isCodeTable, (hT9 _ (.head _)).2, let ⟨ps, e, _⟩ := t'.t2; ⟨ps, e⟩⟩
    refine ⟨.inl ⟨.bool true, .bool true, [], rfl, fun _ => rfl, ?_, ?_, fun _ => ⟨.nil, fun a ha => by cases ha⟩⟩, ⟨fun b o e => ?_, fun b o e => ?_⟩, x.os, x.bare ?_⟩
    · exact .bool true
    · show (WShape.has ([] : WRecords) (.bool true) .bool && WTm.holds ([] : WRecords) (.eq .res (.lit (.bool true))) _) = true
      rw [Bool.and_eq_true]
      refine ⟨by kernel_rfl, ?_⟩
      kernel_rfl
    · by_cases hb : tb b
      · obtain ⟨h1, h2, ps, hP⟩ := tb' b hb
        rw [e] at h2; cases h2
        exact .inr (.inl ⟨h1, rfl, #[], ps, rfl, by rw [Array.empty_append]; exact hP⟩)
      · exact .inl (x.keep.get b o hb e)
    · by_cases hb : tb b
      · obtain ⟨_, _, ps, hP⟩ := tb' b hb; exact ⟨_, hP⟩
      · exact ⟨o, x.keep.get b o hb e⟩
    · rw [hg]; intro y hy; simp at hy
end Mine
end
/-! ## part E1 -/
section
open PySem PySem.W PyProof.Rows
set_option maxRecDepth 100000
namespace Mine
noncomputable def lawBody (P : Params) : List Stmt := match (fnAt (KP P) 157).body with
  | .stmts b => b
  | _ => []
noncomputable abbrev lawNs : List Str := ("script" : Str) :: ("drawn" : Str) :: ("weights" : Str) :: ("sides" : Str) :: ("mask" : Str) :: ("due" : Str) :: ("row" : Str) :: ("other" : Str) :: ("told" : Str) :: ("fires" : Str) :: ("ordered" : Str) :: ("cuts" : Str) :: ("ends" : Str) :: ("counts" : Str) :: ("way" : Str) :: ("by_sums" : Str) :: ("by_weights" : Str) :: ("truths" : Str) :: ("truth" : Str) :: ("entries" : Str) :: ("both" : Str) :: ("often" : Str) :: ("table" : Str) :: ("entry" : Str) :: ("true" : Str) :: ("bent" : Str) :: ("found" : Str) :: ("learned" : Str) :: ("errors" : Str) :: ("ons" : Str) :: ("i" : Str) :: ("j" : Str) :: ("leads" : Str) :: ("heavy" : Str) :: ("weighs" : Str) :: ("search" : Str) :: ("refused" : Str) :: ("sums" : Str) :: []
theorem lawBody_eq (P : Params) : (fnAt (KP P) 157).body = .stmts (lawBody P) := by kernel_rfl
section
variable {c : Cx} {P : Params} {ds : List D}
theorem ex_seg {body : List Stmt} {st : Stmt} {rest : List Stmt} {Q} (e : body = st :: rest) (h : Ex c ds (exec st c.env) (fun fl ds' => match fl with | .next => Ex c ds' (execs rest c.env) Q | fl => Q fl ds')) : Ex c ds (execs body c.env) Q := e ▸ ex_cons h

noncomputable abbrev Cx.hold (c : Cx) (ca : Addr) : Cx := { c with X := fun b => c.X b ∧ b ≠ ca, Y := fun b => c.Y b ∧ b ≠ ca }
theorem Law.hold {ca : Addr} (L : Law c P) : Law (c.hold ca) P := ⟨L.X, L.lim, L.g⟩
theorem St.hold {s : Shared} {ca : Addr} {y : Str} (S : St c ds s) (hca : c.env.cells.lookup y = some ca) (hn : c.env.kindOf y ≠ some .local) (hR : ¬ c.R ca) : St (c.hold ca) ds s := by
  obtain ⟨ok, look, ⟨m, hm0, hm⟩, hc, hs⟩ := S.fr
  have le : Fle (fz c.X s.heap) (fz (c.hold ca).X s.heap) := fz_mono (fun _ x => x.1) _
  have hne : c.env.locals ≠ ca := Ne.symm (cell_ne_ns hm0 (hc y ca hca hn))
  exact ⟨⟨S.base.sys, fun a o x => ⟨fun z => (S.base.old a o x).1 (z.imp (·.1) id), (S.base.old a o x).2⟩, fun a x => S.base.live a x.1, S.base.tabs.mono (fun _ _ _ e => e) le⟩,
    ⟨⟨ok.kind, ok.glob, ok.blt, ⟨ok.own, hne⟩, ok.loct, ok.celt, ok.apart, ok.names, ok.nodup⟩, look, ⟨m, hm0, hm⟩, hc, hs.mono le⟩, fun a x => ⟨S.sub a x.1, x.2⟩,
    S.mem.mono (fun a h => ⟨(S.mem.ap a h).2.2.1, Ne.symm ((S.mem.ap a h).2.1 y ca hca)⟩) (fun _ _ _ e => e) le, fun a x => ⟨S.subR a x, fun h => hR (h ▸ x)⟩, S.memR⟩
theorem ex_hold {t : Sem Flow} {q : Fl → Prop} {ca : Addr} {y : Str} (hca : c.env.cells.lookup y = some ca) (hn : c.env.kindOf y ≠ some .local) (hR : ¬ c.R ca) (h : Ex (c.hold ca) ds t (fun fl _ => q fl)) : Ex c ds t (fun fl _ => q fl) := .mk fun s E S =>
  wpAny_mono (h.run s E (S.hold hca hn hR)) (fun f s' zz => by
    obtain ⟨fl, ds₂, r, b, q⟩ := zz
    obtain ⟨_, look, hn, hcl, _⟩ := b.st.fr
    refine ⟨fl, unks c.ns, r, ⟨⟨S.base.keep ((b.ext.keep.mono (Y := c.Y) fun a x => x.1).mono S.sub), ⟨S.fr.ok, look, hn, hcl, ?_⟩, S.sub, ⟨S.mem.ap, S.mem.nodup, fun j a d e1 e2 => ?_⟩, S.subR, S.memR⟩, b.ext.mono fun a x => x.1⟩, q⟩
    · rw [List.take_of_length_le (by simp [unks])]; exact slotsOk_unks
    · have := (List.getElem?_eq_some_iff.mp e2).1; simp [unks] at this; (first | lia | omega)) fun _ _ x => x

theorem ex_own2 (i j : Nat) {px py p1 p2 p3 p4 p5 : Pos} {k1 k2} {x y : Str} {loop : Stmt} {rest : List Stmt} {Q : Fl → List D → Prop} (K : List D → List D → List D → Prop) (R : Room c.A 1) (hij : i ≠ j) (hx : c.ns[i]? = some x) (hy : c.ns[j]? = some y) (ox : Owns c.env c.Y x) (oy : Owns c.env c.Y y)
    (hl : ds.length = c.ns.length) (hm : c.mem = [])
    (hloop : ∀ a b, a ≠ b → (∀ z d, c.env.cells.lookup z = some d → d ≠ a ∧ d ≠ b) → a ≠ c.env.locals → b ≠ c.env.locals → Ex ((c.own a).own b) (((ds ++ [D.list []] ++ [D.list []]).set j (.val (.ref b))).set i (.val (.ref a))) (exec loop c.env)
      (fun fl ds' => fl = .next ∧ ∃ dsr l1 l2, ds' = dsr ++ [D.list l1] ++ [D.list l2] ∧ dsr.length = ds.length ∧ dsr[i]? = some (.val (.ref a)) ∧ dsr[j]? = some (.val (.ref b)) ∧ K dsr l1 l2))
    (hnc : ∀ z d, c.env.cells.lookup z = some d → c.env.kindOf z ≠ some .local)
    (hrest : ∀ dsr l1 l2, K dsr l1 l2 → Ex c ((dsr.set i (.list l1)).set j (.list l2)) (execs rest c.env) Q)
    (hw : swappedStores [.Tuple [.Name x px, .Name y py] k1 p1] (.Tuple [.List [] p2, .List [] p3] k2 p4) c.env = pure (some [x, y]) := by rfl) (hs : swapsWithSole [.Tuple [.Name x px, .Name y py] k1 p1] (.Tuple [.List [] p2, .List [] p3] k2 p4) p5.line c.env = pure false := by rfl) :
    Ex c ds (execs (.Assign [.Tuple [.Name x px, .Name y py] k1 p1] (.Tuple [.List [] p2, .List [] p3] k2 p4) p5 :: loop :: rest) c.env) Q := .mk fun s E S => by
  refine wpAny_execs_cons (Assign_Tuple_swapped ?_ hs hw)
  refine wpAny_Tuple (wpAny_items_cons (wpAny_List (wpAny_items_nil ⟨Nat.zero_le _, ?_⟩)) (by rfl))
  refine wpAny_items_cons (wpAny_List (wpAny_items_nil ⟨Nat.zero_le _, wpAny_items_nil ⟨by rw [sizeLine_eq]; exact Nat.le_of_ble_eq_true rfl, ?_⟩⟩)) (by rfl)
  have dA : s.heap.get? s.heap.objs.size = none := get?_size_none _ _ (Nat.le_refl _)
  have eA : ExtF s { s with heap := s.heap.push { cls := .type "list", data := .seq #[] } } := ExtF.push s _
  have gA : (s.heap.push { cls := .type "list", data := .seq #[] }).get? s.heap.objs.size = some { cls := .type "list", data := .seq #[] } := Heap.get?_push_size _ rfl
  have S1 := S.own eA dA gA (d := .list []) ⟨#[], 0, rfl, trivial⟩ (by rw [hl, hm]; rfl) (fun z b e => (fresh_cell S dA).2 z b e (hnc z b e))
  generalize hsA : ({ s with heap := s.heap.push { cls := .type "list", data := .seq #[] } } : Shared) = sA at *
  generalize ha : s.heap.objs.size = a at *
  have gA : sA.heap.get? a = some { cls := .type "list", data := .seq #[] } := by rw [← hsA]; exact gA
  have dB : sA.heap.get? sA.heap.objs.size = none := get?_size_none _ _ (Nat.le_refl _)
  have eB : ExtF sA { sA with heap := sA.heap.push { cls := .type "list", data := .seq #[] } } := ExtF.push sA _
  have gB : (sA.heap.push { cls := .type "list", data := .seq #[] }).get? sA.heap.objs.size = some { cls := .type "list", data := .seq #[] } := Heap.get?_push_size _ rfl
  have hlA : (ds ++ [D.list []]).length = (c.own a).ns.length + (c.own a).mem.length := by simp [hl, hm]
  have hcB : ∀ z b, c.env.cells.lookup z = some b → b ≠ sA.heap.objs.size := fun z b e => (fresh_cell (c := c.own a) S1 dB).2 z b e (hnc z b e)
  have S2 := St.own (c := c.own a) S1 eB dB gB (d := .list []) ⟨#[], 0, rfl, trivial⟩ hlA hcB
  generalize hsB : ({ sA with heap := sA.heap.push { cls := .type "list", data := .seq #[] } } : Shared) = sB at *
  generalize hb : sA.heap.objs.size = b at *
  have gB : sB.heap.get? b = some { cls := .type "list", data := .seq #[] } := by rw [← hsB]; exact gB
  have hab : a ≠ b := by rintro rfl; rw [gA] at dB; cases dB
  have tt : ({ sB with heap := sB.heap.push { cls := .type "tuple", data := .seq [.ref a, .ref b].toArray } } : Shared).heap.IsTuple sB.heap.objs.size #[.ref a, .ref b] := ⟨_, Heap.get?_push_size _ rfl, rfl, 0, rfl⟩
  have e3 : ([x, y] : List Str).length = (#[Value.ref a, Value.ref b] : Array Value).size := rfl
  rw [e3]
  refine wpAny_unpackItems_tuple R.handled tt fun h' he => ?_
  have x4 : Ext sB { sB with heap := h' } := (Ext.push sB { cls := .type "tuple", data := .seq [.ref a, .ref b].toArray }).trans ⟨ext_of_extBut he, rfl, id⟩
  have S4 := S2.ext x4
  show wpAny _ _ (do holding [.ref a] (bindName c.env y (.ref b)); assignInOrder [bindName c.env x] [.ref a]) _ E _
  have own' : ∀ {z : Str}, Owns c.env c.Y z → Owns c.env ((c.own a).own b).Y z := fun o => o.imp (fun z => ⟨z.1, .inl (.inl z.2)⟩) (fun z => ⟨z.1, let ⟨b, p, q⟩ := z.2; ⟨b, p, .inl (.inl q)⟩⟩)
  refine wpAny_bind (wpAny_holding (wpAny_bindName (store (c := (c.own a).own b) S4 hy (own' oy) (rep_val (v := .ref b)) fun s5 b5 => ?_)))
  show wpAny _ _ (do holding [] (bindName c.env x (.ref a)); assignInOrder [] []) _ E _
  refine wpAny_bind (wpAny_holding (wpAny_bindName (store (c := (c.own a).own b) b5.st hx (own' ox) (rep_val (v := .ref a)) fun s6 b6 => ?_)))
  refine wpAny_pure (wpAny_execs_cons ?_)
  have hL := hloop a b hab (fun z d e => ⟨(fresh_cell S dA).2 z d e (hnc z d e), hcB z d e⟩) (fresh_cell S dA).1 (fresh_cell (c := c.own a) S1 dB).1
  refine wpAny_mono (hL.run s6 E b6.st) (fun f s7 zz => ?_) fun _ _ x => x
  obtain ⟨fl, ds', r, b7, e1, dsr, l1, l2, e2, hlr, hri, hrj, hK⟩ := zz
  subst e1
  cases (show f = .next from r)
  have bb : StB ((c.own a).own b) ds' sB s7 := .of_ext x4 (b5.trans (b6.trans b7))
  have bA := StB.disown (c := c.own a) S1 (.refl _) eB dB ⟨_, gB⟩ hlA bb
  have bS := StB.disown S (.refl _) eA dA ⟨_, gA⟩ (by rw [hl, hm]; rfl) bA
  have et : (ds'.take (ds ++ [D.list []]).length).take ds.length = dsr := by
    rw [e2, List.take_take, Nat.min_eq_left (by simp), ← hlr, List.append_assoc, List.take_left]
  rw [et] at bS
  have M := bb.st.mem
  have m1 : ∃ o, s7.heap.get? a = some o ∧ cont (fz ((c.own a).own b).X s7.heap) (.list l1) o := M.ok 0 a (.list l1) (by show ((c.mem ++ [a]) ++ [b])[0]? = _; rw [hm]; rfl) (by
    show ds'[c.ns.length + 0]? = _
    rw [e2, Nat.add_zero, ← hl, ← hlr]; simp)
  have m2 : ∃ o, s7.heap.get? b = some o ∧ cont (fz ((c.own a).own b).X s7.heap) (.list l2) o := M.ok 1 b (.list l2) (by show ((c.mem ++ [a]) ++ [b])[1]? = _; rw [hm]; rfl) (by
    show ds'[c.ns.length + 1]? = _
    rw [e2, ← hl, ← hlr]; simp)
  obtain ⟨oa, ga, ca⟩ := m1
  obtain ⟨ob, gb, cb⟩ := m2
  have nfA := S.base.fresh dA
  have nfB : ¬ (c.X b ∨ tb b) := fun z => (S1.base.fresh dB) (z.imp .inl id)
  have le : Fle (fz ((c.own a).own b).X s7.heap) (fz c.X s7.heap) := fz_mono (fun _ z => .inl (.inl z)) _
  have rA : (D.list l1).rep (fz c.X s7.heap) (.ref a) := rep_of_cont (g := fz c.X s7.heap) ga nfA (cont_mono le ca) rfl (S.base.not_sys dA)
  have rB : (D.list l2).rep (fz c.X s7.heap) (.ref b) := rep_of_cont (g := fz c.X s7.heap) gb nfB (cont_mono le cb) rfl (S1.base.not_sys dB)
  have hi' := (List.getElem?_eq_some_iff.mp hx).1
  have hj' := (List.getElem?_eq_some_iff.mp hy).1
  have S7 := (bS.st.melt hi' hri rA).melt hj' (by rw [List.getElem?_set_ne hij]; exact hrj) rB
  refine wpAny_mono ((hrest dsr l1 l2 hK).run s7 E S7) (fun f s8 ⟨fl, ds8, r8, b8, q8⟩ => ⟨fl, ds8, r8, ⟨b8.st, bS.ext.trans b8.ext⟩, q8⟩) fun _ _ x => x
end
end Mine
end
/-! ## part E2 -/
section
open PySem PySem.W PyProof.Rows
set_option maxRecDepth 100000
namespace Mine

theorem cloFrom_one {cells : List (Str × Addr)} {y : Str} {ca : Addr} (hca : cells.lookup y = some ca) : ∀ {names : List (Str × NameKind)}, names.filter (fun p => p.2 == .free) = [(y, .free)] → cloFrom cells names [] = [(y, ca)] := by
  have key : ∀ (names : List (Str × NameKind)) (acc : List (Str × Addr)), cloFrom cells names acc = cloFrom cells (names.filter fun p => p.2 == .free) acc := by
    intro names
    induction names with
    | nil => intro acc; rfl
    | cons p r ih =>
      intro acc
      obtain ⟨n, k⟩ := p
      rw [List.filter_cons]
      by_cases hk : (k == NameKind.free) = true
      · rw [if_pos (by simpa using hk)]
        unfold cloFrom
        rw [if_pos hk, if_pos hk]
        cases cells.lookup n with
        | none => exact ih acc
        | some a => exact ih _
      · rw [if_neg (by simpa using hk)]
        rw [cloFrom, if_neg hk]
        exact ih acc
  intro names h
  rw [key, h]
  unfold cloFrom
  rw [if_pos (by decide), hca]
  rfl
theorem law_of_H {c c' : Cx} {P : Params} (L : Law c P) (h : c'.H = c.H) : Law c' P := ⟨h ▸ L.X, h ▸ L.lim, h ▸ L.g⟩
section
variable {c : Cx} {P : Params} {ds : List D}
theorem lam_key {params : Arguments} {body : Expr} {scope : Scope} {x : Str} {su : List Int} {l : List D} {kf : Nat → Int} {n : Nat} (L : Law c P)
    (hbind : ∀ pm cv ctv ca v, bindArgs (PySem.W.kla_fn "<lambda>" "law.<locals>.<lambda>" params body scope [(("sums" : Str), ca)] pm cv ctv) ⟨[v], []⟩ = pure [(x, v)]) (ok : lamOkB scope x "sums" = true)
    (hcall : ∀ c' : Cx, Law c' P → Room c'.A (n + 1) → ∀ i d, l[i]? = some d → ∀ a ca cv L', Ev (c'.lam scope x "sums" a ca cv L') [d, .ints su] body (.int (kf i))) :
    KeyD c (.any (lamP params body scope "sums" (.ints su))) l kf (n + 1) :=
  ⟨⟨_, rfl, fun g v h => by obtain ⟨a, _, _, _, _, _, _, e, _⟩ := h; exact ⟨a, e⟩⟩, fun c' _ _ _ => kpr_lam, fun c' _ _ e3 R i d hd => call_lam (R.of_le (by (first | lia | omega))) (by rw [e3]; exact L.lim) rfl hbind ok fun a ca cv L' => hcall c' (law_of_H L e3) R i d hd a ca cv L'⟩
theorem Law.lam {scope x y a ca cv L'} (L : Law c P) : Law (c.lam scope x y a ca cv L') P := ⟨L.X, L.lim, L.g⟩
noncomputable def MaskL (l : List D) (ms : List Nat) : Prop := l = ms.map (fun m => D.int ((m : Nat) : Int)) ∧ ∀ m ∈ ms, m < 8
theorem MaskL.get {l : List D} {ms : List Nat} (h : MaskL l ms) {i : Nat} {d : D} (hd : l[i]? = some d) : d = .int ((ms.getD i 0 : Nat) : Int) ∧ ms.getD i 0 < 8 := by
  obtain ⟨rfl, hb⟩ := h
  rw [List.getElem?_map] at hd
  cases e : ms[i]? with
  | none => rw [e] at hd; cases hd
  | some m =>
    rw [e] at hd; cases hd
    have : ms.getD i 0 = m := by rw [List.getD_eq_getElem?_getD, e]; rfl
    rw [this]; exact ⟨rfl, hb m (List.mem_of_getElem? e)⟩
end
end Mine
end
/-! ## part E3 -/
section
open PySem PySem.W PyProof.Rows
set_option maxRecDepth 100000
namespace Mine
noncomputable def lawW (d : List Int) : List Int := (List.range 3).map (fun k => d.getD k 0 % 41 - 20) ++ [d.getD 3 0 % 61 - 30]
noncomputable def side2 (off step : Int) : Int := if step % 2 != 0 then off % 100 + 1 + step / 2 % 50 else off % 100 - 1 - step / 2 % 50
noncomputable def lawSD (d : List Int) : List (Int × Int) := (List.range 3).map fun k => (d.getD (5 + k) 0 % 100, side2 (d.getD (5 + k) 0) (d.getD (8 + k) 0))
noncomputable def lawSU (w : List Int) : List Int := (List.range 8).map fun m => lawSum w m
section
variable {c : Cx} {P : Params} {L0 : Addr} {xs d w su : List Int} {sd : List (Int × Int)} {Q : Fl → List D → Prop}
noncomputable abbrev Cl (c : Cx) (P : Params) (L0 : Addr) : Cx := c.fn P 157 L0 lawNs
theorem seg0 (L : Law c P) (R : Room c.A 60) (hx : xs.length ≤ 63) (k : Ex (Cl c P L0) ((.ints xs :: .ints (lawDrawn xs) :: .unk :: .unk :: .unk :: .unk :: .unk :: .unk :: .unk :: .unk :: .unk :: .unk :: .unk :: .unk :: .unk :: .unk :: .unk :: .unk :: .unk :: .unk :: .unk :: .unk :: .unk :: .unk :: .unk :: .unk :: .unk :: .unk :: .unk :: .unk :: .unk :: .unk :: .unk :: .unk :: .unk :: .unk :: .unk :: .unk :: ([] : List D))) (execs ((lawBody P).drop 1) (Cl c P L0).env) Q) : Ex (Cl c P L0) ((.ints xs :: .unk :: .unk :: .unk :: .unk :: .unk :: .unk :: .unk :: .unk :: .unk :: .unk :: .unk :: .unk :: .unk :: .unk :: .unk :: .unk :: .unk :: .unk :: .unk :: .unk :: .unk :: .unk :: .unk :: .unk :: .unk :: .unk :: .unk :: .unk :: .unk :: .unk :: .unk :: .unk :: .unk :: .unk :: .unk :: .unk :: .unk :: ([] : List D))) (execs (lawBody P) (Cl c P L0).env) Q := by
  have R1 : Room (Cl c P L0).A 59 := R.deeper _
  refine ex_seg (rest := (lawBody P).drop 1) (by exact rfl) (ex_assign 1 (ev_call1 (ev_gf L.fn 127) (nm 0) (kpr_fn L.fn 127) (c_drawn L.fn (R1.of_le (by decide)) xs hx)) rfl (owc_fn (by kernel_rfl) (by kernel_rfl)) k)
theorem seg1 (L : Law c P) (R : Room c.A 60) (hd : d.length = 11) (k : Ex (Cl c P L0) ((.ints xs :: .ints d :: .ints (lawW d) :: .unk :: .unk :: .unk :: .unk :: .unk :: .unk :: .unk :: .unk :: .unk :: .unk :: .unk :: .unk :: .unk :: .unk :: .unk :: .unk :: .unk :: .unk :: .unk :: .unk :: .unk :: .unk :: .unk :: .unk :: .unk :: .unk :: .unk :: .unk :: .unk :: .unk :: .unk :: .unk :: .unk :: .unk :: .unk :: ([] : List D))) (execs ((lawBody P).drop 2) (Cl c P L0).env) Q) : Ex (Cl c P L0) ((.ints xs :: .ints d :: .unk :: .unk :: .unk :: .unk :: .unk :: .unk :: .unk :: .unk :: .unk :: .unk :: .unk :: .unk :: .unk :: .unk :: .unk :: .unk :: .unk :: .unk :: .unk :: .unk :: .unk :: .unk :: .unk :: .unk :: .unk :: .unk :: .unk :: .unk :: .unk :: .unk :: .unk :: .unk :: .unk :: .unk :: .unk :: .unk :: ([] : List D))) (execs ((lawBody P).drop 1) (Cl c P L0).env) Q := by
  have R1 : Room (Cl c P L0).A 59 := R.deeper _
  have e : D.list (outs (fun _ => true) (fun k => .int (d.getD k 0 % 41 - 20)) ((d.map D.int).take (3 : Int).toNat).length ++ [.int (d.getD 3 0 % 61 - 30)]) = .ints (lawW d) := by
    rw [outs_all]
    have : ((d.map D.int).take (3 : Int).toNat).length = 3 := by simp; (first | lia | omega)
    rw [this, lawW, D.ints, List.map_append, List.map_map]; rfl
  refine ex_seg (rest := (lawBody P).drop 2) (by exact rfl) (ex_assign 2 (ev_cast e (ev_bin (ev_listcomp ["number"] [] (fun _ => true) (fun k => .int (d.getD k 0 % 41 - 20)) (evi (ev_slice_upto (nm 1) ev_int (by decide) (by simp; (first | lia | omega))) (itd_list (tt := false) (R1.of_le (by decide)))) ?_ (hlen := by simp; (first | lia | omega)))
    (ev_list (evl_cons (ev_bin (ev_bin (ev_item (k := 3) (nm 1) ev_int (by (first | lia | omega)) (by decide)) ev_int (op_mod (by decide))) ev_int op_sub) evl_nil) (by simp)) (op_cat_list (by rw [outs_all]; simp; (first | lia | omega))))) rfl (owc_fn (by kernel_rfl) (by kernel_rfl)) k)
  intro wr C i e hd'
  rw [List.getElem?_take] at hd'
  split at hd'
  · rename_i hlt
    obtain ⟨hi, rfl⟩ := itd_vals_get hd'
    exact ⟨_, as_name 0 rfl (owl yl_comp rfl), ⟨.inl rfl, trivial⟩, test_nil, fun _ => ev_bin (ev_bin (nm 0) ev_int (op_mod (by decide))) ev_int op_sub⟩
  · cases hd'
end
end Mine
end
/-! ## part E4 -/
section
open PySem PySem.W PyProof.Rows
set_option maxRecDepth 100000
namespace Mine
theorem slice_getD {d : List Int} {a b i : Nat} (h : a + i < b) (hb : b ≤ d.length) : (((d.map D.int).take b).drop a).getD i .unk = .int (d.getD (a + i) 0) := by
  have h2 : a + i < d.length := by (first | lia | omega)
  rw [List.getD_eq_getElem?_getD, List.getElem?_drop, List.getElem?_take, if_pos h, List.getElem?_map, List.getElem?_eq_getElem h2]
  simp [List.getD_eq_getElem?_getD, h2]
section
variable {c : Cx} {P : Params} {L0 : Addr} {xs d w su : List Int} {sd : List (Int × Int)} {Q : Fl → List D → Prop}
theorem seg2 (L : Law c P) (R : Room c.A 60) (hd : d.length = 11) (k : Ex (Cl c P L0) ((.ints xs :: .ints d :: .ints w :: sidesD (lawSD d) :: .unk :: .unk :: .unk :: .unk :: .unk :: .unk :: .unk :: .unk :: .unk :: .unk :: .unk :: .unk :: .unk :: .unk :: .unk :: .unk :: .unk :: .unk :: .unk :: .unk :: .unk :: .unk :: .unk :: .unk :: .unk :: .unk :: .unk :: .unk :: .unk :: .unk :: .unk :: .unk :: .unk :: .unk :: ([] : List D))) (execs ((lawBody P).drop 3) (Cl c P L0).env) Q) : Ex (Cl c P L0) ((.ints xs :: .ints d :: .ints w :: .unk :: .unk :: .unk :: .unk :: .unk :: .unk :: .unk :: .unk :: .unk :: .unk :: .unk :: .unk :: .unk :: .unk :: .unk :: .unk :: .unk :: .unk :: .unk :: .unk :: .unk :: .unk :: .unk :: .unk :: .unk :: .unk :: .unk :: .unk :: .unk :: .unk :: .unk :: .unk :: .unk :: .unk :: .unk :: ([] : List D))) (execs ((lawBody P).drop 2) (Cl c P L0).env) Q := by
  have R1 : Room (Cl c P L0).A 59 := R.deeper _
  have hl : min (((d.map D.int).take (8 : Int).toNat).drop (5 : Int).toNat).length (((d.map D.int).take (11 : Int).toNat).drop (8 : Int).toNat).length = 3 := by
    simp only [List.length_drop, List.length_take, List.length_map, hd]; decide
  have hl2 : (zipped (((d.map D.int).take (8 : Int).toNat).drop (5 : Int).toNat) (((d.map D.int).take (11 : Int).toNat).drop (8 : Int).toNat)).length = 3 := by
    rw [List.length_map, List.length_range, hl]
  have e : D.list (outs (fun _ => true) (fun k => .tup [.int (d.getD (5 + k) 0 % 100), .int (side2 (d.getD (5 + k) 0) (d.getD (8 + k) 0))]) (zipped (((d.map D.int).take (8 : Int).toNat).drop (5 : Int).toNat) (((d.map D.int).take (11 : Int).toNat).drop (8 : Int).toNat)).length) = sidesD (lawSD d) := by
    rw [outs_all, hl2, lawSD, sidesD, List.map_map]; rfl
  refine ex_seg (rest := (lawBody P).drop 3) (by exact rfl) (ex_assign 3 (ev_cast e (ev_listcomp ["off", "step"] [] (fun _ => true) (fun k => .tup [.int (d.getD (5 + k) 0 % 100), .int (side2 (d.getD (5 + k) 0) (d.getD (8 + k) 0))])
    (evi_zip (R1.of_le (by decide)) (ev_gb L.fn (.type "zip")) (ev_slice (nm 1) ev_int ev_int (by decide) (by decide) (by simp; (first | lia | omega))) (ev_slice (nm 1) ev_int ev_int (by decide) (by decide) (by simp; (first | lia | omega)))) ?_ (hlen := by rw [hl2]; decide))) rfl (owc_fn (by kernel_rfl) (by kernel_rfl)) k)
  intro wr C i e hd'
  have hi : i < 3 := by
    have := (List.getElem?_eq_some_iff.mp hd').1
    rwa [hl2] at this
  rw [List.getElem?_map, hl, List.getElem?_range hi] at hd'
  cases hd'
  dsimp only
  rw [show (8 : Int).toNat = 8 from rfl, show (5 : Int).toNat = 5 from rfl, show (11 : Int).toNat = 11 from rfl, slice_getD (by (first | lia | omega)) (by (first | lia | omega)), slice_getD (by (first | lia | omega)) (by (first | lia | omega))]
  refine ⟨_, as_tup (by exact R1.of_le (by decide)) ⟨_, as_name 0 rfl (owl yl_comp rfl), _, as_name 1 rfl (owl yl_comp rfl), rfl⟩, ⟨.inl rfl, .inl rfl, trivial⟩, test_nil, fun _ => ?_⟩
  refine ev_tup (evl_cons (ev_bin (nm 0) ev_int (op_mod (by decide))) (evl_cons (ev_ifexp (evt_bin (ev_bin (nm 1) ev_int (op_mod (by decide))) true_int) (fun h => ?_) (fun h => ?_)) evl_nil)) (Nat.le_of_ble_eq_true rfl)
  · exact ev_cast (by rw [side2, if_pos h]) (ev_bin (ev_bin (ev_bin (nm 0) ev_int (op_mod (by decide))) ev_int op_add) (ev_bin (ev_bin (nm 1) ev_int (op_div (by decide) (by decide))) ev_int (op_mod (by decide))) op_add)
  · exact ev_cast (by rw [side2, if_neg (by rw [h]; simp)]) (ev_bin (ev_bin (ev_bin (nm 0) ev_int (op_mod (by decide))) ev_int op_sub) (ev_bin (ev_bin (nm 1) ev_int (op_div (by decide) (by decide))) ev_int (op_mod (by decide))) op_sub)
theorem seg3 (L : Law c P) (R : Room c.A 60) (hw : w.length = 4) (k : Ex (Cl c P L0) ((.ints xs :: .ints d :: .ints w :: sidesD sd :: .unk :: .unk :: .unk :: .unk :: .unk :: .unk :: .unk :: .unk :: .unk :: .unk :: .unk :: .unk :: .unk :: .unk :: .unk :: .unk :: .unk :: .unk :: .unk :: .unk :: .unk :: .unk :: .unk :: .unk :: .unk :: .unk :: .unk :: .unk :: .unk :: .unk :: .unk :: .unk :: .unk :: .ints (lawSU w) :: ([] : List D))) (execs ((lawBody P).drop 4) (Cl c P L0).env) Q) : Ex (Cl c P L0) ((.ints xs :: .ints d :: .ints w :: sidesD sd :: .unk :: .unk :: .unk :: .unk :: .unk :: .unk :: .unk :: .unk :: .unk :: .unk :: .unk :: .unk :: .unk :: .unk :: .unk :: .unk :: .unk :: .unk :: .unk :: .unk :: .unk :: .unk :: .unk :: .unk :: .unk :: .unk :: .unk :: .unk :: .unk :: .unk :: .unk :: .unk :: .unk :: .unk :: ([] : List D))) (execs ((lawBody P).drop 3) (Cl c P L0).env) Q := by
  have R1 : Room (Cl c P L0).A 59 := R.deeper _
  refine ex_seg (rest := (lawBody P).drop 4) (by exact rfl) (ex_assign 37 (ev_cast (by rw [upTo_length, ints_map]; rfl) (ev_listcomp ["mask"] [("weights", 2)] (fun _ => true) (fun m => .int (lawSum w m)) (evi_range (n := 8) (R1.of_le (by decide)) (ev_gb L.fn (.type "range")) ev_int (by decide)) ?_)) rfl (owc_fn (by kernel_rfl) (by kernel_rfl)) k)
  intro wr C i e hd'
  obtain ⟨hi, rfl⟩ := upTo_get hd'
  exact ⟨_, as_name 0 rfl (owl yl_comp rfl), ⟨.inl rfl, .inr rfl, trivial⟩, test_nil, fun _ => ev_call2 (ev_gf L.fn.comp 132) (nm 1) (nm 0) (kpr_fn L.fn.comp 132) (c_sum L.fn.comp (by exact R1.of_le (by decide)) w hw i)⟩
end
end Mine
end
/-! ## part E5 -/
section
open PySem PySem.W PyProof.Rows
set_option maxRecDepth 100000
namespace Mine
section
variable {c : Cx} {P : Params} {L0 : Addr} {xs d w su due : List Int} {sd : List (Int × Int)} {Q : Fl → List D → Prop}
noncomputable abbrev Ch (c : Cx) (P : Params) (L0 : Addr) : Cx := (Cl c P L0).hold (L0 + 10)
theorem hca : (Cl c P L0).env.cells.lookup ("sums" : Str) = some (L0 + 10) := by kernel_rfl
theorem hyh : (Ch c P L0).Y (Ch c P L0).env.locals := ⟨yl_fn, by show L0 ≠ L0 + 10; exact Nat.ne_of_lt (Nat.lt_add_of_pos_right (by decide))⟩
theorem owh {x : Str} (k : (Cl c P L0).env.kindOf x = some .cell) (j : Nat) (e : (Cl c P L0).env.cells.lookup x = some (L0 + j)) (hj : j ≠ 10) : Owns (Ch c P L0).env (Ch c P L0).Y x :=
  .inr ⟨k, L0 + j, e, mem_wrOf.mpr (.inr ⟨x, e⟩), fun q => hj (Nat.add_left_cancel q)⟩
theorem lam_ev {c' : Cx} {ds : List D} {params : Arguments} {body : Expr} {scope : Scope} {pos : Pos} (T : TopOk c'.H) (he : c'.env = (Cl c P L0).env) (hn : c'.ns = lawNs) (hX : ¬ c'.X (L0 + 10)) (hd : ds[37]? = some (.ints su)) (hdef : defaultsOf params (Cl c P L0).env = ([], []))
    (hf : scope.names.filter (fun p => p.2 == .free) = [(("sums" : Str), .free)]) : Ev c' ds (.Lambda params body scope pos) (.any (lamP params body scope "sums" (.ints su))) := by
  have hk : (Cl c P L0).env.kindOf ("sums" : Str) = some .cell := by kernel_rfl
  refine ev_lambda (i := 37) T (by rw [he]; kernel_rfl) (by rw [he]; kernel_rfl) (by rw [he]; exact hdef) ?_ (by rw [hn]; rfl) hd rfl (by rw [he]; exact hca) (by rw [he, hk]; simp) hX
  rw [he]
  refine (closureFor_eq (fun p hp hfr => ?_)).trans (congrArg pure (cloFrom_one hca hf))
  have : p ∈ scope.names.filter (fun p => p.2 == .free) := List.mem_filter.mpr ⟨hp, by simp [hfr]⟩
  rw [hf] at this
  rw [List.mem_singleton.mp this, hca]; rfl
theorem key_sums {c' : Cx} {params : Arguments} {scope : Scope} {x : Str} {l : List D} {ms : List Nat} {p1 p2 p3 : Pos} (L : Law c' P) (hs : su.length = 8) (hl : MaskL l ms)
    (hbind : ∀ pm cv ctv ca v, bindArgs (PySem.W.kla_fn "<lambda>" "law.<locals>.<lambda>" params (.Subscript (.Name "sums" p1) (.Name x p2) p3) scope [(("sums" : Str), ca)] pm cv ctv) ⟨[v], []⟩ = pure [(x, v)]) (ok : lamOkB scope x "sums" = true) :
    KeyD c' (.any (lamP params (.Subscript (.Name "sums" p1) (.Name x p2) p3) scope "sums" (.ints su))) l (fun i => su.getD (ms.getD i 0) 0) 1 :=
  lam_key (n := 0) L hbind ok fun c2 L2 R2 i d hd a ca cv L' => by
    obtain ⟨rfl, hb⟩ := hl.get hd
    exact ev_item (ev_name 1 rfl rfl rfl) (ev_name 0 rfl rfl rfl) (by (first | lia | omega)) (by (first | lia | omega))
theorem maskL_upTo : MaskL (upTo 8) (List.range 8) := ⟨rfl, fun m hm => List.mem_range.mp hm⟩
theorem seg4 (L : Law c P) (T : TopOk c.H) (R : Room c.A 60) (hs : su.length = 8) (k : Ex (Ch c P L0) ((.ints xs :: .ints d :: .ints w :: sidesD sd :: .unk :: .ints ((sortK (fun m => su.getD ((List.range 8).getD m 0) 0) 8).map fun (i : Nat) => (i : Int)) :: .unk :: .unk :: .unk :: .unk :: .unk :: .unk :: .unk :: .unk :: .unk :: .unk :: .unk :: .unk :: .unk :: .unk :: .unk :: .unk :: .unk :: .unk :: .unk :: .unk :: .unk :: .unk :: .unk :: .unk :: .unk :: .unk :: .unk :: .unk :: .unk :: .unk :: .unk :: .ints su :: ([] : List D))) (execs ((lawBody P).drop 5) (Ch c P L0).env) Q) : Ex (Ch c P L0) ((.ints xs :: .ints d :: .ints w :: sidesD sd :: .unk :: .unk :: .unk :: .unk :: .unk :: .unk :: .unk :: .unk :: .unk :: .unk :: .unk :: .unk :: .unk :: .unk :: .unk :: .unk :: .unk :: .unk :: .unk :: .unk :: .unk :: .unk :: .unk :: .unk :: .unk :: .unk :: .unk :: .unk :: .unk :: .unk :: .unk :: .unk :: .unk :: .ints su :: ([] : List D))) (execs ((lawBody P).drop 4) (Ch c P L0).env) Q := by
  have R1 : Room (Ch c P L0).A 59 := R.deeper _
  have L1 : Law (Ch c P L0) P := L.fn.hold
  refine ex_seg (rest := (lawBody P).drop 5) (by exact rfl) (ex_assign 5 (ev_call (ev_gb L1 (.builtin "sorted")) (evl_cons (ev_range (n := 8) (ev_gb L1 (.type "range")) ev_int) evl_nil) (evk_one (lam_ev (c := c) (su := su) T rfl rfl (fun h => h.2 rfl) rfl rfl rfl)) kpr_builtin
    (call_sorted_range (n := 8) (key_sums L1 hs maskL_upTo (fun _ _ _ _ _ => rfl) rfl) (R1.of_le (by decide)) (by decide) (by decide))) rfl (owl hyh (by kernel_rfl)) k)
end
end Mine
end
/-! ## part E6 -/
section
open PySem PySem.W PyProof.Rows
set_option maxRecDepth 100000
namespace Mine
noncomputable def masks (ms : List Nat) : List D := ms.map fun m => D.int ((m : Nat) : Int)
noncomputable def insN (l : List Nat) (k x : Nat) : List Nat := l.take k ++ x :: l.drop k
theorem insAt_masks (l : List Nat) (k x : Nat) : insAt (masks l) k (.int (x : Int)) = masks (insN l k x) := by
  unfold insAt insN masks
  rw [List.map_append, List.map_cons, List.map_take, List.map_drop]
noncomputable def kAt (su : List Int) (ms : List Nat) (i : Nat) : Int := su.getD (ms.getD i 0) 0
noncomputable def stepR (su : List Int) (ms : List Nat) (x : Nat) : List Nat := insN ms (bsearch (fun i => !decide (kAt su (ms ++ [x]) ms.length < kAt su (ms ++ [x]) i)) 0 ms.length) x
noncomputable def stepL (su : List Int) (ms : List Nat) (x : Nat) : List Nat := insN ms (bsearch (fun i => decide (kAt su (ms ++ [x]) i < kAt su (ms ++ [x]) ms.length)) 0 ms.length) x
noncomputable def rowS (su : List Int) : Nat → List Nat
  | 0 => []
  | m + 1 => stepR su (rowS su m) m
noncomputable def othS (su : List Int) : Nat → List Nat
  | 0 => []
  | m + 1 => stepL su (othS su m) (7 - m)
theorem insN_mem {l : List Nat} {k x y : Nat} (h : y ∈ insN l k x) : y ∈ l ∨ y = x := by
  unfold insN at h
  rcases List.mem_append.mp h with h | h
  · exact .inl (List.mem_of_mem_take h)
  · rcases List.mem_cons.mp h with h | h
    · exact .inr h
    · exact .inl (List.mem_of_mem_drop h)
theorem insN_len (l : List Nat) (k x : Nat) : (insN l k x).length = l.length + 1 := by
  unfold insN; simp [List.length_take, List.length_drop]; (first | lia | omega)
theorem rowS_ok (su : List Int) : ∀ m, m ≤ 8 → (∀ y ∈ rowS su m, y < 8) ∧ (rowS su m).length = m
  | 0, _ => ⟨fun y h => by simp [rowS] at h, rfl⟩
  | m + 1, h => by
    obtain ⟨h1, h2⟩ := rowS_ok su m (by (first | lia | omega))
    refine ⟨fun y hy => ?_, by rw [rowS, stepR, insN_len, h2]⟩
    rcases insN_mem hy with hy | rfl
    · exact h1 y hy
    · (first | lia | omega)
theorem othS_ok (su : List Int) : ∀ m, m ≤ 8 → (∀ y ∈ othS su m, y < 8) ∧ (othS su m).length = m
  | 0, _ => ⟨fun y h => by simp [othS] at h, rfl⟩
  | m + 1, h => by
    obtain ⟨h1, h2⟩ := othS_ok su m (by (first | lia | omega))
    refine ⟨fun y hy => ?_, by rw [othS, stepL, insN_len, h2]⟩
    rcases insN_mem hy with hy | rfl
    · exact h1 y hy
    · (first | lia | omega)
section
variable {c : Cx} {P : Params} {L0 : Addr} {xs d w su due : List Int} {sd : List (Int × Int)} {Q : Fl → List D → Prop}
theorem ex_body {c : Cx} {ds : List D} {b b' : List Stmt} (e : b = b') (h : Ex c ds (execs b' c.env) Q) : Ex c ds (execs b c.env) Q := e ▸ h
theorem c_irS {c' : Cx} {params : Arguments} {scope : Scope} {z : Str} {p1 p2 p3 : Pos} (b : Addr) {ms : List Nat} {x : Nat} (L : Law c' P) (R : Room c'.A 6) (hs : su.length = 8) (h1 : ∀ y ∈ ms, y < 8) (hx : x < 8) (hl : ms.length ≤ 800)
    (hbind : ∀ pm cv ctv ca v, bindArgs (PySem.W.kla_fn "<lambda>" "law.<locals>.<lambda>" params (.Subscript (.Name "sums" p1) (.Name z p2) p3) scope [(("sums" : Str), ca)] pm cv ctv) ⟨[v], []⟩ = pure [(z, v)]) (ok : lamOkB scope z "sums" = true) :
    CallM c' (.val (.ref 72)) b (.list (masks ms)) (.list (masks (stepR su ms x))) [.val (.ref b), .int (x : Int)] [("key", .any (lamP params (.Subscript (.Name "sums" p1) (.Name z p2) p3) scope "sums" (.ints su)))] := by
  have K := key_sums (c' := c') (su := su) (l := masks ms ++ [.int (x : Int)]) (ms := ms ++ [x]) L hs ⟨by simp [masks], fun y hy => by
    rcases List.mem_append.mp hy with hy | hy
    · exact h1 y hy
    · rw [List.mem_singleton.mp hy]; exact hx⟩ hbind ok
  have C := c_ir (c := c') b (x := (x : Int)) L R K (by simp [masks]; (first | lia | omega))
  rw [insAt_masks, show (masks ms).length = ms.length by simp [masks]] at C
  exact C
theorem c_ilS {c' : Cx} {params : Arguments} {scope : Scope} {z : Str} {p1 p2 p3 : Pos} (b : Addr) {ms : List Nat} {x : Nat} (L : Law c' P) (R : Room c'.A 6) (hs : su.length = 8) (h1 : ∀ y ∈ ms, y < 8) (hx : x < 8) (hl : ms.length ≤ 800)
    (hbind : ∀ pm cv ctv ca v, bindArgs (PySem.W.kla_fn "<lambda>" "law.<locals>.<lambda>" params (.Subscript (.Name "sums" p1) (.Name z p2) p3) scope [(("sums" : Str), ca)] pm cv ctv) ⟨[v], []⟩ = pure [(z, v)]) (ok : lamOkB scope z "sums" = true) :
    CallM c' (.val (.ref 90)) b (.list (masks ms)) (.list (masks (stepL su ms x))) [.val (.ref b), .int (x : Int)] [("key", .any (lamP params (.Subscript (.Name "sums" p1) (.Name z p2) p3) scope "sums" (.ints su)))] := by
  have K := key_sums (c' := c') (su := su) (l := masks ms ++ [.int (x : Int)]) (ms := ms ++ [x]) L hs ⟨by simp [masks], fun y hy => by
    rcases List.mem_append.mp hy with hy | hy
    · exact h1 y hy
    · rw [List.mem_singleton.mp hy]; exact hx⟩ hbind ok
  have C := c_il (c := c') b (x := (x : Int)) L R K (by simp [masks]; (first | lia | omega))
  rw [insAt_masks, show (masks ms).length = ms.length by simp [masks]] at C
  exact C
theorem cell_kind {names : List (Str × NameKind)} {n : Nat} (nd : (names.map (·.1)).Nodup) {z : Str} {d : Addr} (h : (cellsFrom n names []).lookup z = some d) : names.lookup z = some .cell := by
  rcases cellsFrom_mem (mem_of_lookup h) with h | h
  · simp at h
  · exact lookup_of_mem nd h
theorem seg5 (L : Law c P) (T : TopOk c.H) (R : Room c.A 60) (hs : su.length = 8) (k : ∀ dm, Ex (Ch c P L0) ((.ints xs :: .ints d :: .ints w :: sidesD sd :: dm :: .ints due :: .list (masks (rowS su 8)) :: .list (masks (othS su 8)) :: .unk :: .unk :: .unk :: .unk :: .unk :: .unk :: .unk :: .unk :: .unk :: .unk :: .unk :: .unk :: .unk :: .unk :: .unk :: .unk :: .unk :: .unk :: .unk :: .unk :: .unk :: .unk :: .unk :: .unk :: .unk :: .unk :: .unk :: .unk :: .unk :: .ints su :: ([] : List D))) (execs ((lawBody P).drop 7) (Ch c P L0).env) Q) : Ex (Ch c P L0) ((.ints xs :: .ints d :: .ints w :: sidesD sd :: .unk :: .ints due :: .unk :: .unk :: .unk :: .unk :: .unk :: .unk :: .unk :: .unk :: .unk :: .unk :: .unk :: .unk :: .unk :: .unk :: .unk :: .unk :: .unk :: .unk :: .unk :: .unk :: .unk :: .unk :: .unk :: .unk :: .unk :: .unk :: .unk :: .unk :: .unk :: .unk :: .unk :: .ints su :: ([] : List D))) (execs ((lawBody P).drop 5) (Ch c P L0).env) Q := by
  have R1 : Room (Ch c P L0).A 59 := R.deeper _
  have L1 : Law (Ch c P L0) P := L.fn.hold
  refine ex_body (b' := _ :: _ :: (lawBody P).drop 7) (by exact rfl) ?_
  refine ex_own2 6 7 (fun dsr l1 l2 => (∃ da db dm, dsr = ((.ints xs :: .ints d :: .ints w :: sidesD sd :: dm :: .ints due :: da :: db :: .unk :: .unk :: .unk :: .unk :: .unk :: .unk :: .unk :: .unk :: .unk :: .unk :: .unk :: .unk :: .unk :: .unk :: .unk :: .unk :: .unk :: .unk :: .unk :: .unk :: .unk :: .unk :: .unk :: .unk :: .unk :: .unk :: .unk :: .unk :: .unk :: .ints su :: ([] : List D)))) ∧ l1 = masks (rowS su 8) ∧ l2 = masks (othS su 8)) (R1.of_le (by decide)) (by decide) rfl rfl (owl hyh (by kernel_rfl)) (owl hyh (by kernel_rfl)) rfl rfl ?_ ?_ ?_
  · intro a b hab hcel hal hbl
    obtain ⟨hca1, hca2⟩ := hcel _ _ (hca (c := c) (P := P))
    refine ex_forA (Inv := fun m ds => ∃ dm, ds = ((.ints xs :: .ints d :: .ints w :: sidesD sd :: dm :: .ints due :: .val (.ref a) :: .val (.ref b) :: .unk :: .unk :: .unk :: .unk :: .unk :: .unk :: .unk :: .unk :: .unk :: .unk :: .unk :: .unk :: .unk :: .unk :: .unk :: .unk :: .unk :: .unk :: .unk :: .unk :: .unk :: .unk :: .unk :: .unk :: .unk :: .unk :: .unk :: .unk :: .unk :: .ints su :: ([] : List D))) ++ [D.list (masks (rowS su m))] ++ [D.list (masks (othS su m))])
      (evi_range (n := 8) (by exact R1.of_le (by decide)) (ev_gb L1.own.own (.type "range")) ev_int (by decide)) rfl ⟨_, rfl⟩ ?_ ?_ (by exact R1.of_le (by decide))
    · rintro wr ap m e _ hd ⟨dm, rfl⟩
      obtain ⟨hm, rfl⟩ := upTo_get hd
      have hX : ¬ (XW (((Ch c P L0).own a).own b).X wr) (L0 + 10) := by
        rintro (((h | h) | h) | h)
        · exact h.2 rfl
        · exact hca1 (List.mem_singleton.mp h)
        · exact hca2 (List.mem_singleton.mp h)
        · exact ap.cel _ _ (hca (c := c) (P := P)) (by have hk : (Cl c P L0).env.kindOf ("sums" : Str) = some .cell := by kernel_rfl
                                                       show (Cl c P L0).env.kindOf ("sums" : Str) ≠ _
                                                       rw [hk]; simp) h
      obtain ⟨r1, r2⟩ := rowS_ok su m (by (first | lia | omega))
      obtain ⟨o1, o2⟩ := othS_ok su m (by (first | lia | omega))
      refine ⟨_, as_name 4 rfl (owl (.inl (.inl hyh)) (by kernel_rfl)), ?_⟩
      refine ex_cons (ex_callM (a := a) (d1 := .list (masks (rowS su (m + 1)))) 0 rfl rfl (.inl (.inr (by simp))) (ev_gf L1.own.own.at 72) (evl_cons (nm 6) (evl_cons (nm 4) evl_nil)) (evk_one (lam_ev (c := c) (su := su) T rfl rfl hX rfl rfl rfl)) (kpr_fn L1.own.own.at 72) ?_ ?_)
      · exact c_irS a L1.own.own.at (by exact R1.of_le (by decide)) hs r1 hm (by (first | lia | omega)) (fun _ _ _ _ _ => rfl) rfl
      refine ex_cons (ex_callM (a := b) (d1 := .list (masks (othS su (m + 1)))) 1 rfl rfl (.inr (by simp)) (ev_gf L1.own.own.at 90) (evl_cons (nm 7) (evl_cons (ev_cast (d' := .int (7 - (m : Int))) (d := .int ((7 - m : Nat) : Int)) (by congr 1; (first | lia | omega)) (ev_bin ev_int (nm 4) op_sub)) evl_nil)) (evk_one (lam_ev (c := c) (su := su) T rfl rfl hX rfl rfl rfl)) (kpr_fn L1.own.own.at 90) ?_ (ex_nil ⟨.int (m : Int), rfl⟩))
      · exact c_ilS b L1.own.own.at (by exact R1.of_le (by decide)) hs o1 (by (first | lia | omega)) (by (first | lia | omega)) (fun _ _ _ _ _ => rfl) rfl
    · rintro _ ⟨dm, rfl⟩
      rw [upTo_length]
      exact ⟨rfl, ((.ints xs :: .ints d :: .ints w :: sidesD sd :: dm :: .ints due :: .val (.ref a) :: .val (.ref b) :: .unk :: .unk :: .unk :: .unk :: .unk :: .unk :: .unk :: .unk :: .unk :: .unk :: .unk :: .unk :: .unk :: .unk :: .unk :: .unk :: .unk :: .unk :: .unk :: .unk :: .unk :: .unk :: .unk :: .unk :: .unk :: .unk :: .unk :: .unk :: .unk :: .ints su :: ([] : List D))), _, _, rfl, rfl, rfl, rfl, ⟨_, _, _, rfl⟩, rfl, rfl⟩
  · intro z d h
    have nd : (((fnAt (KP P) 157).scope.names).map (·.1)).Nodup := by
      have : decide (((fnAt (KP P) 157).scope.names).map (·.1)).Nodup = true := by kernel_rfl
      exact of_decide_eq_true this
    have hk : (Cl c P L0).env.kindOf z = some .cell := cell_kind nd h
    show (Cl c P L0).env.kindOf z ≠ _
    rw [hk]; simp
  · rintro _ _ _ ⟨⟨da, db, dm, rfl⟩, rfl, rfl⟩
    exact k dm
end
end Mine
end
/-! ## part E7 -/
section
open PySem PySem.W PyProof.Rows
set_option maxRecDepth 100000
namespace Mine
noncomputable def mI (ms : List Nat) : List Int := ms.map fun (m : Nat) => (m : Int)
theorem masks_ints (ms : List Nat) : D.list (masks ms) = .ints (mI ms) := by simp [masks, mI, D.ints]
theorem maskL_I {ms : List Nat} (h : ∀ m ∈ ms, m < 8) : MaskL ((mI ms).map D.int) ms := ⟨by simp [mI], h⟩
noncomputable def firesN (su : List Int) : Nat := ((List.range su.length).filter fun k => decide (su.getD k 0 < 256)).length
theorem range_getD {α : Type} (f : Int → α) (l : List Int) : (List.range l.length).map (fun k => f (l.getD k 0)) = l.map f := by
  apply List.ext_getElem?
  intro i
  rw [List.getElem?_map, List.getElem?_map]
  by_cases h : i < l.length
  · rw [List.getElem?_range h, List.getElem?_eq_getElem h]; simp [h]
  · rw [List.getElem?_eq_none (by simp; (first | lia | omega)), List.getElem?_eq_none (by (first | lia | omega))]; rfl
theorem outs_false (e : Nat → D) : ∀ n, outs (fun _ => false) e n = []
  | 0 => rfl
  | n + 1 => by rw [outs, outs_false e n]; rfl
section
variable {c : Cx} {P : Params} {L0 : Addr} {xs d w su : List Int} {ms : List Nat} {sd : List (Int × Int)} {dm : D} {Q : Fl → List D → Prop}
theorem evt_cast {c : Cx} {ds : List D} {e : Expr} {r r' : Bool} (q : r' = r) (h : EvT c ds e r') : EvT c ds e r := q ▸ h
theorem seg7 (L : Law c P) (R : Room c.A 60) (k : Ex (Ch c P L0) ((.ints xs :: .ints d :: .ints w :: sidesD sd :: dm :: .ints (mI ms) :: .ints (mI ms) :: .ints (mI ms) :: .unk :: .unk :: .unk :: .unk :: .unk :: .unk :: .unk :: .unk :: .unk :: .unk :: .unk :: .unk :: .unk :: .unk :: .unk :: .unk :: .unk :: .unk :: .unk :: .unk :: .unk :: .unk :: .unk :: .unk :: .unk :: .unk :: .unk :: .unk :: .unk :: .ints su :: ([] : List D))) (execs ((lawBody P).drop 8) (Ch c P L0).env) Q) : Ex (Ch c P L0) ((.ints xs :: .ints d :: .ints w :: sidesD sd :: dm :: .ints (mI ms) :: .ints (mI ms) :: .ints (mI ms) :: .unk :: .unk :: .unk :: .unk :: .unk :: .unk :: .unk :: .unk :: .unk :: .unk :: .unk :: .unk :: .unk :: .unk :: .unk :: .unk :: .unk :: .unk :: .unk :: .unk :: .unk :: .unk :: .unk :: .unk :: .unk :: .unk :: .unk :: .unk :: .unk :: .ints su :: ([] : List D))) (execs ((lawBody P).drop 7) (Ch c P L0).env) Q := by
  have R1 : Room (Ch c P L0).A 59 := R.deeper _
  refine ex_seg (rest := (lawBody P).drop 8) (by exact rfl) (ex_if_false (evt_cast ?_ (evt_boolop (allT_or_cons (evt_cmp (nm 6) (nm 5) (op_ne_ints (R1.of_le (by decide)))) fun _ => allT_or_cons (evt_cmp (nm 7) (nm 5) (op_ne_ints (R1.of_le (by decide)))) fun _ => allT_or_nil))) (ex_nil k))
  simp
theorem seg8 (L : Law c P) (R : Room c.A 60) (hs : su.length = 8) (k : Ex (Ch c P L0) ((.ints xs :: .ints d :: .ints w :: sidesD sd :: dm :: .ints (mI ms) :: .ints (mI ms) :: .ints (mI ms) :: .unk :: .unk :: .unk :: .unk :: .unk :: .unk :: .unk :: .unk :: .unk :: .unk :: .unk :: .unk :: .unk :: .unk :: .unk :: .unk :: .unk :: .unk :: .unk :: .unk :: .unk :: .unk :: .unk :: .unk :: .unk :: .unk :: .unk :: .unk :: .unk :: .ints su :: ([] : List D))) (execs ((lawBody P).drop 9) (Ch c P L0).env) Q) : Ex (Ch c P L0) ((.ints xs :: .ints d :: .ints w :: sidesD sd :: dm :: .ints (mI ms) :: .ints (mI ms) :: .ints (mI ms) :: .unk :: .unk :: .unk :: .unk :: .unk :: .unk :: .unk :: .unk :: .unk :: .unk :: .unk :: .unk :: .unk :: .unk :: .unk :: .unk :: .unk :: .unk :: .unk :: .unk :: .unk :: .unk :: .unk :: .unk :: .unk :: .unk :: .unk :: .unk :: .unk :: .ints su :: ([] : List D))) (execs ((lawBody P).drop 8) (Ch c P L0).env) Q := by
  have R1 : Room (Ch c P L0).A 59 := R.deeper _
  have L1 : Law (Ch c P L0) P := L.fn.hold
  have e1 : D.list (outs (fun _ => true) (fun k => .int (su.getD k 0 - 256)) (su.map D.int).length) = .ints (su.map fun x => x - 256) := by
    rw [outs_all, List.length_map, range_getD (fun x => D.int (x - 256)), D.ints, List.map_map]; rfl
  have e2 : D.list (su.map D.int ++ (su.map fun x => x - 256).map D.int ++ [D.int 255]) = .ints (su ++ (su.map fun x => x - 256) ++ [255]) := by simp [D.ints]
  refine ex_seg (rest := (lawBody P).drop 9) (by exact rfl) (ex_if_false (evt_cast ?_ (evt_listcomp (ev_listcomp ["told"] [] (fun _ => false) (fun _ => .none) (evi (ev_cast e2 (ev_bin (ev_bin (nm 37) (ev_cast e1 (ev_listcomp ["told"] [] (fun _ => true) (fun k => .int (su.getD k 0 - 256)) (evi (nm 37) (itd_list (tt := false) (R1.of_le (by decide)))) ?_ (hlen := by simp [hs]))) (op_cat_list (by simp [hs]))) (ev_list (evl_cons ev_int evl_nil) (by simp)) (op_cat_list (by simp [hs])))) (itd_list (tt := false) (R1.of_le (by decide)))) ?_ (hlen := by simp [hs])) (true_list (by rw [outs_false]; exact Nat.zero_le _)))) (ex_nil k))
  · rw [outs_false]; rfl
  · intro wr C i e hd
    obtain ⟨hi, rfl⟩ := itd_vals_get hd
    exact ⟨_, as_name 0 rfl (owl yl_comp rfl), ⟨.inl rfl, trivial⟩, test_nil, fun _ => ev_bin (nm 0) (ev_gi L1.comp 256) op_sub⟩
  · intro wr C i e hd
    obtain ⟨hi, rfl⟩ := itd_vals_get hd
    refine ⟨_, as_name 0 rfl (owl yl_comp rfl), ⟨.inl rfl, trivial⟩, test_one (evt_cast ?_ (evt_boolop (allT_or_cons (evt_cmp (ev_call1 (ev_gf L1.comp 106) (nm 0) (kpr_fn L1.comp 106) (c_isterm L1.comp (by exact R1.of_le (by decide)) _)) (ev_cmp (nm 0) ev_int op_lt) op_isnot_bool) fun _ =>
      allT_or_cons (evt_cmp (ev_call1 (ev_gf L1.comp 113) (nm 0) (kpr_fn L1.comp 113) (c_isnonterm L1.comp (by exact R1.of_le (by decide)) _)) (ev_cmp (nm 0) ev_int op_gt) op_isnot_bool) fun _ =>
      allT_or_cons (evt_cmp (ev_call1 (ev_gf L1.comp 120) (nm 0) (kpr_fn L1.comp 120) (c_iseof L1.comp (by exact R1.of_le (by decide)) _)) (ev_cmp (nm 0) ev_int op_eq) op_isnot_bool) fun _ => allT_or_nil))), fun h => by cases h⟩
    generalize (su ++ (su.map fun x => x - 256) ++ [255]).getD i 0 = t
    have h2 : decide (256 ≤ t) = decide (255 < t) := by congr 1
    simp [h2]
theorem seg9 (L : Law c P) (R : Room c.A 60) (hs : su.length = 8) (k : Ex (Ch c P L0) ((.ints xs :: .ints d :: .ints w :: sidesD sd :: dm :: .ints (mI ms) :: .ints (mI ms) :: .ints (mI ms) :: .unk :: .int (firesN su : Nat) :: .ints (sortI su) :: .unk :: .unk :: .unk :: .unk :: .unk :: .unk :: .unk :: .unk :: .unk :: .unk :: .unk :: .unk :: .unk :: .unk :: .unk :: .unk :: .unk :: .unk :: .unk :: .unk :: .unk :: .unk :: .unk :: .unk :: .unk :: .unk :: .ints su :: ([] : List D))) (execs ((lawBody P).drop 10) (Ch c P L0).env) Q) : Ex (Ch c P L0) ((.ints xs :: .ints d :: .ints w :: sidesD sd :: dm :: .ints (mI ms) :: .ints (mI ms) :: .ints (mI ms) :: .unk :: .unk :: .unk :: .unk :: .unk :: .unk :: .unk :: .unk :: .unk :: .unk :: .unk :: .unk :: .unk :: .unk :: .unk :: .unk :: .unk :: .unk :: .unk :: .unk :: .unk :: .unk :: .unk :: .unk :: .unk :: .unk :: .unk :: .unk :: .unk :: .ints su :: ([] : List D))) (execs ((lawBody P).drop 9) (Ch c P L0).env) Q := by
  have R1 : Room (Ch c P L0).A 59 := R.deeper _
  have L1 : Law (Ch c P L0) P := L.fn.hold
  refine ex_seg (rest := (lawBody P).drop 10) (by exact rfl) (ex_assign_swap2 (d := .int (firesN su : Nat)) (e := .ints (sortI su)) 9 10 (R1.of_le (by decide)) (ev_tup (evl_cons (ev_cast ?_ (ev_call1 (ev_gb L1 (.builtin "len")) (ev_listcomp ["told"] [] (fun k => decide (su.getD k 0 < 256)) (fun k => .int (su.getD k 0)) (evi (nm 37) (itd_list (tt := false) (R1.of_le (by decide)))) ?_ (hlen := by simp [hs])) kpr_builtin (call_len_l ?_)))
    (evl_cons (ev_call1 (ev_gb L1 (.builtin "sorted")) (nm 37) kpr_builtin (call_sorted_ints (by (first | lia | omega)))) evl_nil)) (Nat.le_of_ble_eq_true rfl)) rfl rfl (owl hyh (by kernel_rfl)) (owl hyh (by kernel_rfl)) k (by rfl))
  · rw [outs_int, List.length_map, List.length_map, List.length_map]; rfl
  · intro wr C i e hd
    obtain ⟨hi, rfl⟩ := itd_vals_get hd
    exact ⟨_, as_name 0 rfl (owl yl_comp rfl), ⟨.inl rfl, trivial⟩, test_one (evt_cmp (nm 0) ev_int op_lt), fun _ => nm 0⟩
  · have := outs_length (fun k => decide (su.getD k 0 < 256)) (fun k => D.int (su.getD k 0)) (su.map D.int).length
    simp [hs] at this ⊢; (first | lia | omega)
end
end Mine
end
/-! ## part E8 -/
section
open PySem PySem.W PyProof.Rows
set_option maxRecDepth 100000
namespace Mine
section
variable {c : Cx} {P : Params} {d1 d2 d3 d4 dk : D}
theorem kb99_2k : KwB [d1, d2] [("key", dk)] c P 99 [("a", d1), ("x", d2), ("lo", .int (0 : Nat)), ("hi", .none), ("key", dk)] := fun s vs ks B r1 r2 => by
  obtain ⟨v1, v2, rfl, q1, q2⟩ := repAll2 r1
  obtain ⟨k1, rfl, qk⟩ := repAll1 r2
  exact ⟨[("a", v1), ("x", v2), ("lo", .int 0 311), ("hi", .none), ("key", k1)], fun _ => by kernel_rfl, rfl, q1, q2, ⟨311, rfl⟩, rfl, qk, trivial⟩
theorem kb81_2k : KwB [d1, d2] [("key", dk)] c P 81 [("a", d1), ("x", d2), ("lo", .int (0 : Nat)), ("hi", .none), ("key", dk)] := fun s vs ks B r1 r2 => by
  obtain ⟨v1, v2, rfl, q1, q2⟩ := repAll2 r1
  obtain ⟨k1, rfl, qk⟩ := repAll1 r2
  exact ⟨[("a", v1), ("x", v2), ("lo", .int 0 284), ("hi", .none), ("key", k1)], fun _ => by kernel_rfl, rfl, q1, q2, ⟨284, rfl⟩, rfl, qk, trivial⟩
theorem kb81_2 : KwB [d1, d2] [] c P 81 [("a", d1), ("x", d2), ("lo", .int (0 : Nat)), ("hi", .none), ("key", .none)] := fun s vs ks B r1 r2 => by
  obtain ⟨v1, v2, rfl, q1, q2⟩ := repAll2 r1
  cases repAll0 r2
  exact ⟨[("a", v1), ("x", v2), ("lo", .int 0 284), ("hi", .none), ("key", .none)], fun _ => by kernel_rfl, rfl, q1, q2, ⟨284, rfl⟩, rfl, rfl, trivial⟩
theorem kb99_3k : KwB [d1, d2, d3] [("key", dk)] c P 99 [("a", d1), ("x", d2), ("lo", d3), ("hi", .none), ("key", dk)] := fun s vs ks B r1 r2 => by
  obtain ⟨v1, v2, v3, rfl, q1, q2, q3⟩ := repAll3 r1
  obtain ⟨k1, rfl, qk⟩ := repAll1 r2
  exact ⟨[("a", v1), ("x", v2), ("lo", v3), ("hi", .none), ("key", k1)], fun _ => by kernel_rfl, rfl, q1, q2, q3, rfl, qk, trivial⟩
theorem kb81_3k : KwB [d1, d2, d3] [("key", dk)] c P 81 [("a", d1), ("x", d2), ("lo", d3), ("hi", .none), ("key", dk)] := fun s vs ks B r1 r2 => by
  obtain ⟨v1, v2, v3, rfl, q1, q2, q3⟩ := repAll3 r1
  obtain ⟨k1, rfl, qk⟩ := repAll1 r2
  exact ⟨[("a", v1), ("x", v2), ("lo", v3), ("hi", .none), ("key", k1)], fun _ => by kernel_rfl, rfl, q1, q2, q3, rfl, qk, trivial⟩
theorem kb72_3k : KwB [d1, d2, d3] [("key", dk)] c P 72 [("a", d1), ("x", d2), ("lo", d3), ("hi", .none), ("key", dk)] := fun s vs ks B r1 r2 => by
  obtain ⟨v1, v2, v3, rfl, q1, q2, q3⟩ := repAll3 r1
  obtain ⟨k1, rfl, qk⟩ := repAll1 r2
  exact ⟨[("a", v1), ("x", v2), ("lo", v3), ("hi", .none), ("key", k1)], fun _ => by kernel_rfl, rfl, q1, q2, q3, rfl, qk, trivial⟩
theorem kb90_3k : KwB [d1, d2, d3] [("key", dk)] c P 90 [("a", d1), ("x", d2), ("lo", d3), ("hi", .none), ("key", dk)] := fun s vs ks B r1 r2 => by
  obtain ⟨v1, v2, v3, rfl, q1, q2, q3⟩ := repAll3 r1
  obtain ⟨k1, rfl, qk⟩ := repAll1 r2
  exact ⟨[("a", v1), ("x", v2), ("lo", v3), ("hi", .none), ("key", k1)], fun _ => by kernel_rfl, rfl, q1, q2, q3, rfl, qk, trivial⟩
theorem kb99_4k : KwB [d1, d2, d3, d4] [("key", dk)] c P 99 [("a", d1), ("x", d2), ("lo", d3), ("hi", d4), ("key", dk)] := fun s vs ks B r1 r2 => by
  obtain ⟨v1, v2, v3, v4, rfl, q1, q2, q3, q4⟩ := repAll4 r1
  obtain ⟨k1, rfl, qk⟩ := repAll1 r2
  exact ⟨[("a", v1), ("x", v2), ("lo", v3), ("hi", v4), ("key", k1)], fun _ => by kernel_rfl, rfl, q1, q2, q3, q4, qk, trivial⟩
theorem kb81_4k : KwB [d1, d2, d3, d4] [("key", dk)] c P 81 [("a", d1), ("x", d2), ("lo", d3), ("hi", d4), ("key", dk)] := fun s vs ks B r1 r2 => by
  obtain ⟨v1, v2, v3, v4, rfl, q1, q2, q3, q4⟩ := repAll4 r1
  obtain ⟨k1, rfl, qk⟩ := repAll1 r2
  exact ⟨[("a", v1), ("x", v2), ("lo", v3), ("hi", v4), ("key", k1)], fun _ => by kernel_rfl, rfl, q1, q2, q3, q4, qk, trivial⟩
theorem kb99_4 : KwB [d1, d2, d3, d4] [] c P 99 [("a", d1), ("x", d2), ("lo", d3), ("hi", d4), ("key", .none)] := fun s vs ks B r1 r2 => by
  obtain ⟨v1, v2, v3, v4, rfl, q1, q2, q3, q4⟩ := repAll4 r1
  cases repAll0 r2
  exact ⟨[("a", v1), ("x", v2), ("lo", v3), ("hi", v4), ("key", .none)], fun _ => by kernel_rfl, rfl, q1, q2, q3, q4, rfl, trivial⟩
theorem kb81_4 : KwB [d1, d2, d3, d4] [] c P 81 [("a", d1), ("x", d2), ("lo", d3), ("hi", d4), ("key", .none)] := fun s vs ks B r1 r2 => by
  obtain ⟨v1, v2, v3, v4, rfl, q1, q2, q3, q4⟩ := repAll4 r1
  cases repAll0 r2
  exact ⟨[("a", v1), ("x", v2), ("lo", v3), ("hi", v4), ("key", .none)], fun _ => by kernel_rfl, rfl, q1, q2, q3, q4, rfl, trivial⟩
end
section
variable {c : Cx} {P : Params} {L0 : Addr} {xs d w su : List Int} {ms : List Nat} {sd : List (Int × Int)} {dm dc1 dc2 : D} {Q : Fl → List D → Prop}
noncomputable def kNon (su : List Int) (ms : List Nat) (i : Nat) : Int := if decide (256 ≤ kAt su ms i) = true then 1 else 0
theorem key_int {c' : Cx} {params : Arguments} {scope : Scope} {x : Str} {l : List D} {p1 p2 p3 p4 p5 p6 p7 : Pos} (L : Law c' P) (hs : su.length = 8) (hl : MaskL l ms)
    (hbind : ∀ pm cv ctv ca v, bindArgs (PySem.W.kla_fn "<lambda>" "law.<locals>.<lambda>" params (.Call (.Name "int" p4) [.Call (.Name "ISNONTERMINAL" p5) [.Subscript (.Name "sums" p1) (.Name x p2) p3] [] p6] [] p7) scope [(("sums" : Str), ca)] pm cv ctv) ⟨[v], []⟩ = pure [(x, v)]) (ok : lamOkB scope x "sums" = true)
    (h1 : scope.names.lookup ("int" : Str) = some .globalImplicit) (h2 : scope.names.lookup ("ISNONTERMINAL" : Str) = some .globalImplicit)
    (hq1 : ∀ env, eval (.Call (.Name "int" p4) [.Call (.Name "ISNONTERMINAL" p5) [.Subscript (.Name "sums" p1) (.Name x p2) p3] [] p6] [] p7) env = (do callWith p7 (← eval (.Name "int" p4) env) [] (backTo p7 (starEach [.Call (.Name "ISNONTERMINAL" p5) [.Subscript (.Name "sums" p1) (.Name x p2) p3] [] p6] env)) (backToKw p7 (keywordEach [] env))))
    (hq2 : ∀ env, eval (.Call (.Name "ISNONTERMINAL" p5) [.Subscript (.Name "sums" p1) (.Name x p2) p3] [] p6) env = (do callWith p6 (← eval (.Name "ISNONTERMINAL" p5) env) [] (backTo p6 (starEach [.Subscript (.Name "sums" p1) (.Name x p2) p3] env)) (backToKw p6 (keywordEach [] env)))) :
    KeyD c' (.any (lamP params (.Call (.Name "int" p4) [.Call (.Name "ISNONTERMINAL" p5) [.Subscript (.Name "sums" p1) (.Name x p2) p3] [] p6] [] p7) scope "sums" (.ints su))) l (kNon su ms) 3 :=
  lam_key (n := 2) L hbind ok fun c2 L2 R2 i d hd a ca cv L' => by
    obtain ⟨rfl, hb⟩ := hl.get hd
    have R3 : Room (c2.lam scope x "sums" a ca cv L').A 2 := R2.deeper _
    exact ev_call1 (ev_gb L2.lam (.type "int") (by kernel_rfl) (by kernel_rfl) h1 (by rfl)) (ev_call1 (ev_gf L2.lam 113 (by kernel_rfl) h2 (by rfl)) (ev_item (ev_name 1 rfl rfl rfl) (ev_name 0 rfl rfl rfl) (by (first | lia | omega)) (by (first | lia | omega))) (kpr_fn L2.lam 113) (c_isnonterm L2.lam (R3.of_le (by decide)) _) rfl rfl (hq2 _)) kpr_type call_int_b rfl rfl (hq1 _)
end
end Mine
end
/-! ## part E9 -/
section
open PySem PySem.W PyProof.Rows
set_option maxRecDepth 100000
namespace Mine
section
variable {c : Cx} {P : Params} {L0 : Addr} {xs d w su : List Int} {ms : List Nat} {sd : List (Int × Int)} {dm dc1 dc2 : D} {Q : Fl → List D → Prop}
noncomputable def cut1 (su : List Int) (ms : List Nat) : Nat := bsearch (fun i => decide (kAt su ms i < 256)) 0 8
noncomputable def cut2 (su : List Int) (ms : List Nat) : Nat := bsearch (fun i => decide (kNon su ms i < 1)) 0 8
noncomputable def cut3 (su : List Int) (ms : List Nat) : Nat := bsearch (fun i => !decide (0 < kNon su ms i)) 0 8
noncomputable def cut4 (so : List Int) : Nat := bsearch (fun i => !decide (255 < so.getD i 0)) 0 8
noncomputable def end1 (su : List Int) (ms : List Nat) : Nat := bsearch (fun i => decide (kAt su ms i < 256)) 5 8
noncomputable def end2 (su : List Int) (ms : List Nat) : Nat := bsearch (fun i => !decide (255 < kAt su ms i)) 5 8
noncomputable def end3 (so : List Int) : Nat := bsearch (fun i => decide (so.getD i 0 < 256)) 0 3
noncomputable def end4 (so : List Int) : Nat := bsearch (fun i => !decide (255 < so.getD i 0)) 0 3
theorem seg10 (L : Law c P) (T : TopOk c.H) (R : Room c.A 60) (hs : su.length = 8) (hm : ms.length = 8) (hb : ∀ m ∈ ms, m < 8) (k : Ex (Ch c P L0) ((.ints xs :: .ints d :: .ints w :: sidesD sd :: dm :: .ints (mI ms) :: .ints (mI ms) :: .ints (mI ms) :: .unk :: .int (firesN su : Nat) :: .ints (sortI su) :: .ints [(cut1 su ms : Int), (cut2 su ms : Int)] :: .unk :: .unk :: .unk :: .unk :: .unk :: .unk :: .unk :: .unk :: .unk :: .unk :: .unk :: .unk :: .unk :: .unk :: .unk :: .unk :: .unk :: .unk :: .unk :: .unk :: .unk :: .unk :: .unk :: .unk :: .unk :: .ints su :: ([] : List D))) (execs ((lawBody P).drop 11) (Ch c P L0).env) Q) : Ex (Ch c P L0) ((.ints xs :: .ints d :: .ints w :: sidesD sd :: dm :: .ints (mI ms) :: .ints (mI ms) :: .ints (mI ms) :: .unk :: .int (firesN su : Nat) :: .ints (sortI su) :: .unk :: .unk :: .unk :: .unk :: .unk :: .unk :: .unk :: .unk :: .unk :: .unk :: .unk :: .unk :: .unk :: .unk :: .unk :: .unk :: .unk :: .unk :: .unk :: .unk :: .unk :: .unk :: .unk :: .unk :: .unk :: .unk :: .ints su :: ([] : List D))) (execs ((lawBody P).drop 10) (Ch c P L0).env) Q := by
  have R1 : Room (Ch c P L0).A 59 := R.deeper _
  have L1 : Law (Ch c P L0) P := L.fn.hold
  have hl : ((mI ms).map D.int).length = 8 := by simp [mI, hm]
  refine ex_seg (rest := (lawBody P).drop 11) (by exact rfl) (ex_assign 11 (ev_list (l := [.int (cut1 su ms : Int), .int (cut2 su ms : Int)])
    (evl_cons (ev_call (l := [.ints (mI ms), .int 256]) (ev_gf L1 99) (evl_cons (nm 6) (evl_cons (ev_gi L1 256) evl_nil)) (evk_one (lam_ev (c := c) (su := su) T rfl rfl (fun h => h.2 rfl) rfl rfl rfl)) (kpr_fn L1 99)
      (c_bl_key (x := 256) (lo := 0) (hi := 8) (dh := .none) L1 (by exact R1.of_le (by decide)) (key_sums L1 hs (maskL_I hb) (fun _ _ _ _ _ => rfl) rfl) (.inl ⟨rfl, hl.symm⟩) (by rw [hl]; decide) (by decide) kb99_2k))
    (evl_cons (ev_call (l := [.ints (mI ms), .int 1, .int (0 : Nat), .int (8 : Nat)]) (ev_gf L1 99) (evl_cons (nm 6) (evl_cons ev_int (evl_cons ev_int (evl_cons ev_int evl_nil)))) (evk_one (lam_ev (c := c) (su := su) T rfl rfl (fun h => h.2 rfl) rfl rfl rfl)) (kpr_fn L1 99)
      (c_bl_key (x := 1) (lo := 0) (hi := 8) (dh := .int (8 : Nat)) L1 (by exact R1.of_le (by decide)) (key_int L1 hs (maskL_I hb) (fun _ _ _ _ _ => rfl) rfl rfl rfl (fun _ => rfl) (fun _ => rfl)) (.inr ⟨rfl, by rw [hl]; decide⟩) (by rw [hl]; decide) (by decide) kb99_4k)) evl_nil)) (Nat.le_of_ble_eq_true rfl)) rfl (owl hyh (by kernel_rfl)) k)
theorem sortI_len (l : List Int) : (sortI l).length = l.length := (sortI_perm l).length_eq
theorem seg11 (L : Law c P) (T : TopOk c.H) (R : Room c.A 60) (hs : su.length = 8) (hm : ms.length = 8) (hb : ∀ m ∈ ms, m < 8) (k : Ex (Ch c P L0) ((.ints xs :: .ints d :: .ints w :: sidesD sd :: dm :: .ints (mI ms) :: .ints (mI ms) :: .ints (mI ms) :: .unk :: .int (firesN su : Nat) :: .ints (sortI su) :: .ints ([(cut1 su ms : Int), (cut2 su ms : Int)] ++ [(cut3 su ms : Int), (cut4 (sortI su) : Int)]) :: .unk :: .unk :: .unk :: .unk :: .unk :: .unk :: .unk :: .unk :: .unk :: .unk :: .unk :: .unk :: .unk :: .unk :: .unk :: .unk :: .unk :: .unk :: .unk :: .unk :: .unk :: .unk :: .unk :: .unk :: .unk :: .ints su :: ([] : List D))) (execs ((lawBody P).drop 12) (Ch c P L0).env) Q) : Ex (Ch c P L0) ((.ints xs :: .ints d :: .ints w :: sidesD sd :: dm :: .ints (mI ms) :: .ints (mI ms) :: .ints (mI ms) :: .unk :: .int (firesN su : Nat) :: .ints (sortI su) :: .ints [(cut1 su ms : Int), (cut2 su ms : Int)] :: .unk :: .unk :: .unk :: .unk :: .unk :: .unk :: .unk :: .unk :: .unk :: .unk :: .unk :: .unk :: .unk :: .unk :: .unk :: .unk :: .unk :: .unk :: .unk :: .unk :: .unk :: .unk :: .unk :: .unk :: .unk :: .ints su :: ([] : List D))) (execs ((lawBody P).drop 11) (Ch c P L0).env) Q := by
  have R1 : Room (Ch c P L0).A 59 := R.deeper _
  have L1 : Law (Ch c P L0) P := L.fn.hold
  have hl : ((mI ms).map D.int).length = 8 := by simp [mI, hm]
  have hso : (sortI su).length = 8 := (sortI_len su).trans hs
  refine ex_seg (rest := (lawBody P).drop 12) (by exact rfl) (ex_assign 11 (ev_bin (nm 11) (ev_list (l := [.int (cut3 su ms : Int), .int (cut4 (sortI su) : Int)])
    (evl_cons (ev_call (l := [.ints (mI ms), .int 0]) (ev_gf L1 81) (evl_cons (nm 6) (evl_cons ev_int evl_nil)) (evk_one (lam_ev (c := c) (su := su) T rfl rfl (fun h => h.2 rfl) rfl rfl rfl)) (kpr_fn L1 81)
      (c_br_key (x := 0) (lo := 0) (hi := 8) (dh := .none) L1 (by exact R1.of_le (by decide)) (key_int L1 hs (maskL_I hb) (fun _ _ _ _ _ => rfl) rfl rfl rfl (fun _ => rfl) (fun _ => rfl)) (.inl ⟨rfl, hl.symm⟩) (by rw [hl]; decide) (by decide) kb81_2k))
    (evl_cons (ev_call2 (ev_gf L1 81) (nm 10) ev_int (kpr_fn L1 81)
      (c_br_plain (ns := sortI su) (x := 255) (lo := 0) (hi := 8) (dh := .none) L1 (by exact R1.of_le (by decide)) (.inl ⟨rfl, by simp [hso]⟩) (by rw [hso]; decide) (by decide) kb81_2)) evl_nil)) (Nat.le_of_ble_eq_true rfl)) (op_cat_list (l := [.int (cut1 su ms : Int), .int (cut2 su ms : Int)]) (Nat.le_of_ble_eq_true rfl))) rfl (owl hyh (by kernel_rfl)) k)
theorem seg12 (L : Law c P) (T : TopOk c.H) (R : Room c.A 60) (hs : su.length = 8) (hm : ms.length = 8) (hb : ∀ m ∈ ms, m < 8) (k : Ex (Ch c P L0) ((.ints xs :: .ints d :: .ints w :: sidesD sd :: dm :: .ints (mI ms) :: .ints (mI ms) :: .ints (mI ms) :: .unk :: .int (firesN su : Nat) :: .ints (sortI su) :: dc1 :: .ints [(end1 su ms : Int), (end2 su ms : Int)] :: .unk :: .unk :: .unk :: .unk :: .unk :: .unk :: .unk :: .unk :: .unk :: .unk :: .unk :: .unk :: .unk :: .unk :: .unk :: .unk :: .unk :: .unk :: .unk :: .unk :: .unk :: .unk :: .unk :: .unk :: .ints su :: ([] : List D))) (execs ((lawBody P).drop 13) (Ch c P L0).env) Q) : Ex (Ch c P L0) ((.ints xs :: .ints d :: .ints w :: sidesD sd :: dm :: .ints (mI ms) :: .ints (mI ms) :: .ints (mI ms) :: .unk :: .int (firesN su : Nat) :: .ints (sortI su) :: dc1 :: .unk :: .unk :: .unk :: .unk :: .unk :: .unk :: .unk :: .unk :: .unk :: .unk :: .unk :: .unk :: .unk :: .unk :: .unk :: .unk :: .unk :: .unk :: .unk :: .unk :: .unk :: .unk :: .unk :: .unk :: .unk :: .ints su :: ([] : List D))) (execs ((lawBody P).drop 12) (Ch c P L0).env) Q := by
  have R1 : Room (Ch c P L0).A 59 := R.deeper _
  have L1 : Law (Ch c P L0) P := L.fn.hold
  have hl : ((mI ms).map D.int).length = 8 := by simp [mI, hm]
  refine ex_seg (rest := (lawBody P).drop 13) (by exact rfl) (ex_assign 12 (ev_list (l := [.int (end1 su ms : Int), .int (end2 su ms : Int)])
    (evl_cons (ev_call (l := [.ints (mI ms), .int 256, .int (5 : Nat)]) (ev_gf L1 99) (evl_cons (nm 6) (evl_cons (ev_gi L1 256) (evl_cons ev_int evl_nil))) (evk_one (lam_ev (c := c) (su := su) T rfl rfl (fun h => h.2 rfl) rfl rfl rfl)) (kpr_fn L1 99)
      (c_bl_key (x := 256) (lo := 5) (hi := 8) (dh := .none) L1 (by exact R1.of_le (by decide)) (key_sums L1 hs (maskL_I hb) (fun _ _ _ _ _ => rfl) rfl) (.inl ⟨rfl, hl.symm⟩) (by rw [hl]; decide) (by decide) kb99_3k))
    (evl_cons (ev_call (l := [.ints (mI ms), .int 255, .int (5 : Nat)]) (ev_gf L1 81) (evl_cons (nm 6) (evl_cons ev_int (evl_cons ev_int evl_nil))) (evk_one (lam_ev (c := c) (su := su) T rfl rfl (fun h => h.2 rfl) rfl rfl rfl)) (kpr_fn L1 81)
      (c_br_key (x := 255) (lo := 5) (hi := 8) (dh := .none) L1 (by exact R1.of_le (by decide)) (key_sums L1 hs (maskL_I hb) (fun _ _ _ _ _ => rfl) rfl) (.inl ⟨rfl, hl.symm⟩) (by rw [hl]; decide) (by decide) kb81_3k)) evl_nil)) (Nat.le_of_ble_eq_true rfl)) rfl (owl hyh (by kernel_rfl)) k)
theorem seg13 (L : Law c P) (R : Room c.A 60) (hs : su.length = 8) (k : Ex (Ch c P L0) ((.ints xs :: .ints d :: .ints w :: sidesD sd :: dm :: .ints (mI ms) :: .ints (mI ms) :: .ints (mI ms) :: .unk :: .int (firesN su : Nat) :: .ints (sortI su) :: dc1 :: .ints ([(end1 su ms : Int), (end2 su ms : Int)] ++ [(end3 (sortI su) : Int), (end4 (sortI su) : Int)]) :: .unk :: .unk :: .unk :: .unk :: .unk :: .unk :: .unk :: .unk :: .unk :: .unk :: .unk :: .unk :: .unk :: .unk :: .unk :: .unk :: .unk :: .unk :: .unk :: .unk :: .unk :: .unk :: .unk :: .unk :: .ints su :: ([] : List D))) (execs ((lawBody P).drop 14) (Ch c P L0).env) Q) : Ex (Ch c P L0) ((.ints xs :: .ints d :: .ints w :: sidesD sd :: dm :: .ints (mI ms) :: .ints (mI ms) :: .ints (mI ms) :: .unk :: .int (firesN su : Nat) :: .ints (sortI su) :: dc1 :: .ints [(end1 su ms : Int), (end2 su ms : Int)] :: .unk :: .unk :: .unk :: .unk :: .unk :: .unk :: .unk :: .unk :: .unk :: .unk :: .unk :: .unk :: .unk :: .unk :: .unk :: .unk :: .unk :: .unk :: .unk :: .unk :: .unk :: .unk :: .unk :: .unk :: .ints su :: ([] : List D))) (execs ((lawBody P).drop 13) (Ch c P L0).env) Q := by
  have R1 : Room (Ch c P L0).A 59 := R.deeper _
  have L1 : Law (Ch c P L0) P := L.fn.hold
  have hso : (sortI su).length = 8 := (sortI_len su).trans hs
  have hh : HiOk ((sortI su).map D.int) (.int (3 : Nat)) 3 := .inr ⟨rfl, by simp [hso]⟩
  refine ex_seg (rest := (lawBody P).drop 14) (by exact rfl) (ex_assign 12 (ev_bin (nm 12) (ev_list (l := [.int (end3 (sortI su) : Int), .int (end4 (sortI su) : Int)])
    (evl_cons (ev_call (l := [.ints (sortI su), .int 256, .int (0 : Nat), .int (3 : Nat)]) (ev_gf L1 99) (evl_cons (nm 10) (evl_cons (ev_gi L1 256) (evl_cons ev_int (evl_cons ev_int evl_nil)))) evk_nil (kpr_fn L1 99)
      (c_bl_plain (ns := sortI su) (x := 256) (lo := 0) (hi := 3) (dh := .int (3 : Nat)) L1 (by exact R1.of_le (by decide)) hh (by rw [hso]; decide) (by decide) kb99_4))
    (evl_cons (ev_call (l := [.ints (sortI su), .int 255, .int (0 : Nat), .int (3 : Nat)]) (ev_gf L1 81) (evl_cons (nm 10) (evl_cons ev_int (evl_cons ev_int (evl_cons ev_int evl_nil)))) evk_nil (kpr_fn L1 81)
      (c_br_plain (ns := sortI su) (x := 255) (lo := 0) (hi := 3) (dh := .int (3 : Nat)) L1 (by exact R1.of_le (by decide)) hh (by rw [hso]; decide) (by decide) kb81_4)) evl_nil)) (Nat.le_of_ble_eq_true rfl)) (op_cat_list (l := [.int (end1 su ms : Int), .int (end2 su ms : Int)]) (Nat.le_of_ble_eq_true rfl))) rfl (owl hyh (by kernel_rfl)) k)
theorem seg14 (L : Law c P) (R : Room c.A 60) {f : Nat} (hf : firesN su = f) (h1 : ([(cut1 su ms : Int), (cut2 su ms : Int)] ++ [(cut3 su ms : Int), (cut4 (sortI su) : Int)]) = [(f : Int), f, f, f])
    (h2 : ([(end1 su ms : Int), (end2 su ms : Int)] ++ [(end3 (sortI su) : Int), (end4 (sortI su) : Int)]) = [max (f : Int) 5, max (f : Int) 5, min (f : Int) 3, min (f : Int) 3])
    (k : Ex (Ch c P L0) ((.ints xs :: .ints d :: .ints w :: sidesD sd :: dm :: .ints (mI ms) :: .ints (mI ms) :: .ints (mI ms) :: .unk :: .int (firesN su : Nat) :: .ints (sortI su) :: .ints ([(cut1 su ms : Int), (cut2 su ms : Int)] ++ [(cut3 su ms : Int), (cut4 (sortI su) : Int)]) :: .ints ([(end1 su ms : Int), (end2 su ms : Int)] ++ [(end3 (sortI su) : Int), (end4 (sortI su) : Int)]) :: .unk :: .unk :: .unk :: .unk :: .unk :: .unk :: .unk :: .unk :: .unk :: .unk :: .unk :: .unk :: .unk :: .unk :: .unk :: .unk :: .unk :: .unk :: .unk :: .unk :: .unk :: .unk :: .unk :: .unk :: .ints su :: ([] : List D))) (execs ((lawBody P).drop 15) (Ch c P L0).env) Q) :
    Ex (Ch c P L0) ((.ints xs :: .ints d :: .ints w :: sidesD sd :: dm :: .ints (mI ms) :: .ints (mI ms) :: .ints (mI ms) :: .unk :: .int (firesN su : Nat) :: .ints (sortI su) :: .ints ([(cut1 su ms : Int), (cut2 su ms : Int)] ++ [(cut3 su ms : Int), (cut4 (sortI su) : Int)]) :: .ints ([(end1 su ms : Int), (end2 su ms : Int)] ++ [(end3 (sortI su) : Int), (end4 (sortI su) : Int)]) :: .unk :: .unk :: .unk :: .unk :: .unk :: .unk :: .unk :: .unk :: .unk :: .unk :: .unk :: .unk :: .unk :: .unk :: .unk :: .unk :: .unk :: .unk :: .unk :: .unk :: .unk :: .unk :: .unk :: .unk :: .ints su :: ([] : List D))) (execs ((lawBody P).drop 14) (Ch c P L0).env) Q := by
  have R1 : Room (Ch c P L0).A 59 := R.deeper _
  have L1 : Law (Ch c P L0) P := L.fn.hold
  subst hf
  refine ex_seg (rest := (lawBody P).drop 15) (by exact rfl) (ex_if_false (evt_cast ?_ (evt_boolop (allT_or_cons (evt_cmp (nm 11) (ev_cast (d := .ints [(firesN su : Int), (firesN su : Int), (firesN su : Int), (firesN su : Int)]) rfl (ev_bin (ev_list (evl_cons (nm 9) evl_nil) (Nat.le_of_ble_eq_true rfl)) ev_int (op_rep_list (k := 4) (by decide) (by decide) (by simp) (Nat.le_of_ble_eq_true rfl)))) (op_ne_ints (R1.of_le (by decide)))) fun _ =>
    allT_or_cons (evt_cmp (nm 12) (ev_cast (d := .ints [max (firesN su : Int) 5, max (firesN su : Int) 5, min (firesN su : Int) 3, min (firesN su : Int) 3]) rfl (ev_list (evl_cons (ev_call2 (ev_gb L1 (.builtin "max")) (nm 9) ev_int kpr_builtin (call_max2 (R1.of_le (by decide)))) (evl_cons (ev_call2 (ev_gb L1 (.builtin "max")) (nm 9) ev_int kpr_builtin (call_max2 (R1.of_le (by decide))))
      (evl_cons (ev_call2 (ev_gb L1 (.builtin "min")) (nm 9) ev_int kpr_builtin (call_min2 (R1.of_le (by decide)))) (evl_cons (ev_call2 (ev_gb L1 (.builtin "min")) (nm 9) ev_int kpr_builtin (call_min2 (R1.of_le (by decide)))) evl_nil)))) (Nat.le_of_ble_eq_true rfl))) (op_ne_ints (R1.of_le (by decide)))) fun _ => allT_or_nil))) (ex_nil k))
  rw [h1, h2]
  simp
end
end Mine
end
/-! ## part E10 -/
section
open PySem PySem.W PyProof.Rows
set_option maxRecDepth 100000
namespace Mine
theorem kouts_map {α β : Type} (g : α → β) (z : Int × α) (t : List (Int × α)) (nd : (t.map Prod.fst).Nodup) :
    kouts (fun _ => true) (fun j => (t.getD j z).1) (fun j => g (t.getD j z).2) t.length = t.map fun kv => (kv.1, g kv.2) := by
  have gd : ∀ {i : Nat}, i < t.length → t[i]? = some (t.getD i z) := fun h => by rw [List.getD_eq_getElem?_getD, List.getElem?_eq_getElem h]; rfl
  rw [kouts_eq]
  · apply List.ext_getElem?
    intro i
    rw [List.getElem?_map, List.getElem?_map, List.filter_eq_self.mpr (fun _ _ => rfl)]
    by_cases hi : i < t.length
    · rw [List.getElem?_range hi, gd hi]; rfl
    · rw [List.getElem?_eq_none (by simp; (first | lia | omega)), List.getElem?_eq_none (by (first | lia | omega))]; rfl
  · intro i j hi hj e
    have h1 : (t.map Prod.fst)[i]'(by simpa using hi) = (t.map Prod.fst)[j]'(by simpa using hj) := by
      simpa [List.getD_eq_getElem?_getD, hi, hj] using e
    exact (List.getElem_inj nd).mp h1
noncomputable def sel (k : Nat) (p : P2) : Int := if k = 0 then p.1 else p.2
noncomputable def wayV (d : List Int) : Int := ([1, -1, 2, -3] : List Int).getD (d.getD 4 0 / 256 % 4).toNat 0
section
variable {c : Cx} {P : Params} {ds : List D}
theorem owc_comp {scope : Scope} {own : List Str} {caps : List (Str × Nat)} {wr : List Addr} {C : Addr} {x : Str} (a : Addr) (k : (c.comp scope own caps wr C).env.kindOf x = some .cell) (e : (c.comp scope own caps wr C).env.cells.lookup x = some a) (m : (cellsFrom (C + 1) scope.names []).lookup x = some a) :
    Owns (c.comp scope own caps wr C).env (c.comp scope own caps wr C).Y x := .inr ⟨k, a, e, mem_wrOf.mpr (.inr ⟨x, m⟩)⟩
theorem kpr_tc (L : Law c P) : Kpr c (.val (.ref 38)) := fun h v B r => by
  rw [of_val r]
  refine ⟨.machine, .inr (.inl rfl), ?_⟩
  have X := Frag.In.keeps L.X B.h
  have Y := makes_of (M := c.M) X (C := 38) (by kernel_rfl)
  obtain ⟨oc, od, cd, sl, hC, _⟩ := Y.obj
  intro A Q E s k q
  refine wpAny_bind (wpAny_load (k _ _ hC) ?_)
  refine wpAny_bind (Y.call A _ E s k ?_)
  exact wpAny_pure q
end
section
variable {c : Cx} {P : Params} {L0 : Addr} {xs d w su : List Int} {ms : List Nat} {sd : List (Int × Int)} {ct : List (Int × P2)} {wv : Int} {dm e1 e2 e3 e4 : D} {Q : Fl → List D → Prop}
theorem seg15 (L : Law c P) (T : TopOk c.H) (R : Room c.A 60) (hs : sd.length = 3) (ok : CntOk sd) (k : Ex (Ch c P L0) ((.ints xs :: .ints d :: .ints w :: sidesD sd :: dm :: .ints (mI ms) :: .ints (mI ms) :: .ints (mI ms) :: .unk :: e1 :: e2 :: e3 :: e4 :: kd fP (cnt sd 8) :: .unk :: .unk :: .unk :: .unk :: .unk :: .unk :: .unk :: .unk :: .unk :: .unk :: .unk :: .unk :: .unk :: .unk :: .unk :: .unk :: .unk :: .unk :: .unk :: .unk :: .unk :: .unk :: .unk :: .ints su :: ([] : List D))) (execs ((lawBody P).drop 16) (Ch c P L0).env) Q) : Ex (Ch c P L0) ((.ints xs :: .ints d :: .ints w :: sidesD sd :: dm :: .ints (mI ms) :: .ints (mI ms) :: .ints (mI ms) :: .unk :: e1 :: e2 :: e3 :: e4 :: .unk :: .unk :: .unk :: .unk :: .unk :: .unk :: .unk :: .unk :: .unk :: .unk :: .unk :: .unk :: .unk :: .unk :: .unk :: .unk :: .unk :: .unk :: .unk :: .unk :: .unk :: .unk :: .unk :: .unk :: .ints su :: ([] : List D))) (execs ((lawBody P).drop 15) (Ch c P L0).env) Q := by
  have R1 : Room (Ch c P L0).A 59 := R.deeper _
  have L1 : Law (Ch c P L0) P := L.fn.hold
  exact ex_seg (rest := (lawBody P).drop 16) (by exact rfl) (ex_assign 13 (ev_call1 (ev_gf L1 142) (nm 3) (kpr_fn L1 142) (c_counts L1 T (R1.of_le (by decide)) sd hs ok)) rfl (owh (by kernel_rfl) 4 (by kernel_rfl) (by decide)) k)
theorem seg17 (L : Law c P) (R : Room c.A 60) (hd : d.length = 11) (k : Ex (Ch c P L0) ((.ints xs :: .ints d :: .ints w :: sidesD sd :: dm :: .ints (mI ms) :: .ints (mI ms) :: .ints (mI ms) :: .unk :: e1 :: e2 :: e3 :: e4 :: kd fP ct :: .int (wayV d) :: .unk :: .unk :: .unk :: .unk :: .unk :: .unk :: .unk :: .unk :: .unk :: .unk :: .unk :: .unk :: .unk :: .unk :: .unk :: .unk :: .unk :: .unk :: .unk :: .unk :: .unk :: .unk :: .ints su :: ([] : List D))) (execs ((lawBody P).drop 18) (Ch c P L0).env) Q) : Ex (Ch c P L0) ((.ints xs :: .ints d :: .ints w :: sidesD sd :: dm :: .ints (mI ms) :: .ints (mI ms) :: .ints (mI ms) :: .unk :: e1 :: e2 :: e3 :: e4 :: kd fP ct :: .unk :: .unk :: .unk :: .unk :: .unk :: .unk :: .unk :: .unk :: .unk :: .unk :: .unk :: .unk :: .unk :: .unk :: .unk :: .unk :: .unk :: .unk :: .unk :: .unk :: .unk :: .unk :: .unk :: .ints su :: ([] : List D))) (execs ((lawBody P).drop 17) (Ch c P L0).env) Q := by
  refine ex_seg (rest := (lawBody P).drop 18) (by exact rfl) (ex_assign 14 (ev_sub (ev_tup (l := [.int 1, .int (-1), .int 2, .int (-3)]) (evl_cons ev_int (evl_cons (ev_un ev_int op_neg) (evl_cons ev_int (evl_cons (ev_un ev_int op_neg) evl_nil)))) (Nat.le_of_ble_eq_true rfl)) (ev_bin (ev_bin (ev_item (k := 4) (nm 1) ev_int (by (first | lia | omega)) (by decide)) ev_int (op_div (by decide) (by decide))) ev_int (op_mod (by decide))) (op_item_tup (by (first | lia | omega)) (by (first | lia | omega)) ?_)) rfl (owl hyh (by kernel_rfl)) k)
  unfold wayV
  generalize hg : (d.getD 4 0 / 256 % 4).toNat = n
  have : n < 4 := by (first | lia | omega)
  match n, this with
  | 0, _ => rfl
  | 1, _ => rfl
  | 2, _ => rfl
  | 3, _ => rfl
theorem seg18 (L : Law c P) (R : Room c.A 60) (k : Ex (Ch c P L0) ((.ints xs :: .ints d :: .ints w :: sidesD sd :: dm :: .ints (mI ms) :: .ints (mI ms) :: .ints (mI ms) :: .unk :: e1 :: e2 :: e3 :: e4 :: kd fP ct :: .int wv :: .inst [.tup [.int 1, .int wv]] :: .inst [.tup [.int 1, .int (-wv)]] :: .unk :: .unk :: .unk :: .unk :: .unk :: .unk :: .unk :: .unk :: .unk :: .unk :: .unk :: .unk :: .unk :: .unk :: .unk :: .unk :: .unk :: .unk :: .unk :: .unk :: .ints su :: ([] : List D))) (execs ((lawBody P).drop 19) (Ch c P L0).env) Q) : Ex (Ch c P L0) ((.ints xs :: .ints d :: .ints w :: sidesD sd :: dm :: .ints (mI ms) :: .ints (mI ms) :: .ints (mI ms) :: .unk :: e1 :: e2 :: e3 :: e4 :: kd fP ct :: .int wv :: .unk :: .unk :: .unk :: .unk :: .unk :: .unk :: .unk :: .unk :: .unk :: .unk :: .unk :: .unk :: .unk :: .unk :: .unk :: .unk :: .unk :: .unk :: .unk :: .unk :: .unk :: .unk :: .ints su :: ([] : List D))) (execs ((lawBody P).drop 18) (Ch c P L0).env) Q := by
  have R1 : Room (Ch c P L0).A 59 := R.deeper _
  have L1 : Law (Ch c P L0) P := L.fn.hold
  exact ex_seg (rest := (lawBody P).drop 19) (by exact rfl) (ex_assign_swap2 15 16 (R1.of_le (by decide)) (ev_tup (evl_cons (ev_call1 (ev_gf L1 38) (ev_list (evl_cons (ev_tup (evl_cons ev_int (evl_cons (nm 14) evl_nil)) (Nat.le_of_ble_eq_true rfl)) evl_nil) (Nat.le_of_ble_eq_true rfl)) (kpr_tc L1) (call_tc L1 (R1.of_le (by decide)) _))
    (evl_cons (ev_call1 (ev_gf L1 38) (ev_list (evl_cons (ev_tup (evl_cons ev_int (evl_cons (ev_un (nm 14) op_neg) evl_nil)) (Nat.le_of_ble_eq_true rfl)) evl_nil) (Nat.le_of_ble_eq_true rfl)) (kpr_tc L1) (call_tc L1 (R1.of_le (by decide)) _)) evl_nil)) (Nat.le_of_ble_eq_true rfl)) rfl rfl (owl hyh (by kernel_rfl)) (owl hyh (by kernel_rfl)) k (by rfl))
end
end Mine
end
/-! ## part E11 -/
section
open PySem PySem.W PyProof.Rows
set_option maxRecDepth 100000
namespace Mine
section
variable {c : Cx} {P : Params} {L0 : Addr} {xs d w su : List Int} {ms : List Nat} {sd : List (Int × Int)} {ct : List (Int × P2)} {wv : Int} {dm e1 e2 e3 e4 : D} {Q : Fl → List D → Prop}
theorem ct_get {ct : List (Int × P2)} {i : Nat} {e : D} (hd : ((ct.map Prod.fst).map D.int)[i]? = some e) : i < ct.length ∧ e = .int (ct.getD i (0, (0, 0))).1 := by
  rw [List.getElem?_map, List.getElem?_map] at hd
  cases he : ct[i]? with
  | none => rw [he] at hd; cases hd
  | some kv =>
    rw [he] at hd; cases hd
    exact ⟨(List.getElem?_eq_some_iff.mp he).1, by rw [List.getD_eq_getElem?_getD, he]; rfl⟩
theorem ct_dget {ct : List (Int × P2)} (nd : (ct.map Prod.fst).Nodup) {i : Nat} (h : i < ct.length) : dget (ct.map Prod.fst) (ct.map fun p => fP p.2) (ct.getD i (0, (0, 0))).1 = some (fP (ct.getD i (0, (0, 0))).2) := by
  rw [dget_kget, kget_get nd (i := i)]
  · rfl
  · rw [List.getD_eq_getElem?_getD, List.getElem?_eq_getElem h]; rfl
theorem op_item_fP {c : Cx} {value slice : Expr} {p : P2} {k : Nat} (hk : k < 2) (hs : notSlice slice = true := by rfl) : Op2 c (subscriptTail value slice) (fP p) (.int (k : Int)) (.int (sel k p)) := by
  refine op_item_tup (by (first | lia | omega)) (by (first | lia | omega)) ?_ hs
  match k, hk with
  | 0, _ => rfl
  | 1, _ => rfl
theorem seg16 (L : Law c P) (R : Room c.A 60) (nd : (ct.map Prod.fst).Nodup) (hl : ct.length ≤ 1000) (h1 : (ct.map fun kv => kv.2.1).sum = 256) (h2 : (ct.map fun kv => kv.2.2).sum = 32640) (h3 : ((List.range ct.length).filter fun j => (ct.getD j (0, (0, 0))).2.1 == 1).length = 104)
    (k : Ex (Ch c P L0) ((.ints xs :: .ints d :: .ints w :: sidesD sd :: dm :: .ints (mI ms) :: .ints (mI ms) :: .ints (mI ms) :: .unk :: e1 :: e2 :: e3 :: e4 :: kd fP ct :: .unk :: .unk :: .unk :: .unk :: .unk :: .unk :: .unk :: .unk :: .unk :: .unk :: .unk :: .unk :: .unk :: .unk :: .unk :: .unk :: .unk :: .unk :: .unk :: .unk :: .unk :: .unk :: .unk :: .ints su :: ([] : List D))) (execs ((lawBody P).drop 17) (Ch c P L0).env) Q) : Ex (Ch c P L0) ((.ints xs :: .ints d :: .ints w :: sidesD sd :: dm :: .ints (mI ms) :: .ints (mI ms) :: .ints (mI ms) :: .unk :: e1 :: e2 :: e3 :: e4 :: kd fP ct :: .unk :: .unk :: .unk :: .unk :: .unk :: .unk :: .unk :: .unk :: .unk :: .unk :: .unk :: .unk :: .unk :: .unk :: .unk :: .unk :: .unk :: .unk :: .unk :: .unk :: .unk :: .unk :: .unk :: .ints su :: ([] : List D))) (execs ((lawBody P).drop 16) (Ch c P L0).env) Q := by
  have R1 : Room (Ch c P L0).A 59 := R.deeper _
  have L1 : Law (Ch c P L0) P := L.fn.hold
  have hl2 : ((ct.map Prod.fst).map D.int).length = ct.length := by simp
  refine ex_seg (rest := (lawBody P).drop 17) (by exact rfl) (ex_if_false (evt_cast ?_ (evt_boolop (allT_or_cons (evt_cmp (ev_cast (d := .ints [256, 32640]) ?_ (ev_listcomp ["k"] [("counts", 13)] (fun _ => true) (fun k => .int (ct.map fun kv => sel k kv.2).sum) (evi_range (n := 2) (R1.of_le (by decide)) (ev_gb L1 (.type "range")) ev_int (by decide)) ?_))
      (ev_list (evl_cons ev_int (evl_cons ev_int evl_nil)) (Nat.le_of_ble_eq_true rfl)) (op_ne_ints (ns := [256, 32640]) (ms := [256, 32640]) (R1.of_le (by decide)))) fun _ =>
    allT_or_cons (evt_cmp (ev_cast (d := .int 104) ?_ (ev_call1 (ev_gb L1 (.builtin "len")) (ev_listcomp ["key"] [("counts", 13)] (fun j => (ct.getD j (0, (0, 0))).2.1 == 1) (fun j => .int (ct.getD j (0, (0, 0))).1) (evi (nm 13) (itd_dict (tt := false) (R1.of_le (by decide)))) ?_ (hlen := by rw [hl2]; (first | lia | omega))) kpr_builtin (call_len_l ?_))) ev_int op_ne) fun _ => allT_or_nil))) (ex_nil k))
  · simp
  · rw [upTo_length, outs_all, ← h1, ← h2]; rfl
  · intro wr C i e hd
    obtain ⟨hi, rfl⟩ := upTo_get hd
    refine ⟨_, as_name 0 rfl (owc_comp (C + 1) (by kernel_rfl) (by kernel_rfl) (by kernel_rfl)), ⟨.inl rfl, .inr rfl, trivial⟩, test_nil, fun _ => ?_⟩
    refine ev_call1 (ev_gf L1.comp 63) (ev_cast (d := .dict (ct.map Prod.fst) ((ct.map fun kv => sel i kv.2).map D.int)) ?_ (ev_dictcomp ["key"] [("counts", 1), ("k", 0)] (fun _ => true) (fun j => (ct.getD j (0, (0, 0))).1) (fun j => .int (sel i (ct.getD j (0, (0, 0))).2)) (evi (nm 1) (itd_dict (tt := false) (by exact R1.of_le (by decide)))) ?_ (hlen := by rw [hl2]; (first | lia | omega)))) (kpr_fn L1.comp 63) (c_count L1.comp (by exact R1.of_le (by decide)) _ _ (by simpa using hl))
    · rw [hl2, douts_kd, kouts_map (sel i) (0, (0, 0)) ct nd, kd]
      simp [List.map_map, Function.comp]
    · intro wr' C' j e hd
      obtain ⟨hj, rfl⟩ := ct_get hd
      refine ⟨_, as_name 0 rfl (owl yl_comp rfl), ⟨.inl rfl, .inr rfl, .inr rfl, trivial⟩, test_nil, fun _ => ⟨nm 0, ?_⟩⟩
      exact ev_sub (ev_sub (nm 1) (nm 0) (op_item_dict (ct_dget nd hj))) (nm 2) (op_item_fP hi)
  · rw [hl2, outs_int, List.length_map, List.length_map, h3]; rfl
  · intro wr C j e hd
    obtain ⟨hj, rfl⟩ := ct_get hd
    exact ⟨_, as_name 0 rfl (owl yl_comp rfl), ⟨.inl rfl, .inr rfl, trivial⟩, test_one (evt_cmp (ev_sub (ev_sub (nm 1) (nm 0) (op_item_dict (ct_dget nd hj))) ev_int (op_item_fP (k := 0) (by decide))) ev_int op_eq), fun _ => nm 0⟩
  · have := outs_length (fun j => (ct.getD j (0, (0, 0))).2.1 == 1) (fun j => D.int (ct.getD j (0, (0, 0))).1) ((ct.map Prod.fst).map D.int).length
    rw [hl2] at this ⊢; (first | lia | omega)
end
end Mine
end
/-! ## part E12 -/
section
open PySem PySem.W PyProof.Rows
set_option maxRecDepth 100000
namespace Mine
noncomputable def tru0 (su : List Int) : List Int := su.map fun t => if decide (t < 256) = true then 1 else 0
noncomputable def tru1 (dn : Nat) : List Int := (List.range 8).map fun m => ((bit dn m : Nat) : Int)
noncomputable def oftN (t0 t1 : List Int) : List Int := (List.range 8).map fun i => t0.getD i 0 + t1.getD i 0
section
variable {c : Cx} {P : Params} {L0 : Addr} {xs d w su t0 t1 of : List Int} {ms : List Nat} {sd : List (Int × Int)} {ct : List (Int × P2)} {wv : Int} {en0 en1 en : En} {dm e1 e2 e3 e4 : D} {Q : Fl → List D → Prop}
theorem seg19 (L : Law c P) (R : Room c.A 60) (hs : su.length = 8) (hd : d.length = 11) {dn : Nat} (hdn : d.getD 4 0 = (dn : Int)) (k : Ex (Ch c P L0) ((.ints xs :: .ints d :: .ints w :: sidesD sd :: dm :: .ints (mI ms) :: .ints (mI ms) :: .ints (mI ms) :: .unk :: e1 :: e2 :: e3 :: e4 :: kd fP ct :: .int wv :: .inst [.tup [.int 1, .int wv]] :: .inst [.tup [.int 1, .int (-wv)]] :: .list [.ints (tru0 su), .ints (tru1 dn)] :: .unk :: .unk :: .unk :: .unk :: .unk :: .unk :: .unk :: .unk :: .unk :: .unk :: .unk :: .unk :: .unk :: .unk :: .unk :: .unk :: .unk :: .unk :: .unk :: .ints su :: ([] : List D))) (execs ((lawBody P).drop 20) (Ch c P L0).env) Q) : Ex (Ch c P L0) ((.ints xs :: .ints d :: .ints w :: sidesD sd :: dm :: .ints (mI ms) :: .ints (mI ms) :: .ints (mI ms) :: .unk :: e1 :: e2 :: e3 :: e4 :: kd fP ct :: .int wv :: .inst [.tup [.int 1, .int wv]] :: .inst [.tup [.int 1, .int (-wv)]] :: .unk :: .unk :: .unk :: .unk :: .unk :: .unk :: .unk :: .unk :: .unk :: .unk :: .unk :: .unk :: .unk :: .unk :: .unk :: .unk :: .unk :: .unk :: .unk :: .unk :: .ints su :: ([] : List D))) (execs ((lawBody P).drop 19) (Ch c P L0).env) Q := by
  have R1 : Room (Ch c P L0).A 59 := R.deeper _
  have L1 : Law (Ch c P L0) P := L.fn.hold
  refine ex_seg (rest := (lawBody P).drop 20) (by exact rfl) (ex_assign 17 (ev_list (evl_cons (ev_cast ?_ (ev_listcomp ["told"] [] (fun _ => true) (fun k => .int (if decide (su.getD k 0 < 256) = true then 1 else 0)) (evi (nm 37) (itd_list (tt := false) (R1.of_le (by decide)))) ?_ (hlen := by simp [hs])))
    (evl_cons (ev_cast ?_ (ev_listcomp ["mask"] [("drawn", 1)] (fun _ => true) (fun m => .int ((bit dn m : Nat) : Int)) (evi_range (n := 8) (R1.of_le (by decide)) (ev_gb L1 (.type "range")) ev_int (by decide)) ?_)) evl_nil)) (Nat.le_of_ble_eq_true rfl)) rfl (owl hyh (by kernel_rfl)) k)
  · rw [outs_all, List.length_map, range_getD (fun t => D.int (if decide (t < 256) = true then 1 else 0)), D.ints, tru0, List.map_map]; rfl
  · intro wr C i e hd
    obtain ⟨hi, rfl⟩ := itd_vals_get hd
    exact ⟨_, as_name 0 rfl (owl yl_comp rfl), ⟨.inl rfl, trivial⟩, test_nil, fun _ => ev_call1 (ev_gb L1.comp (.type "int")) (ev_cmp (nm 0) ev_int op_lt) kpr_type call_int_b⟩
  · rw [upTo_length, ints_map]; rfl
  · intro wr C i e hd'
    obtain ⟨hi, rfl⟩ := upTo_get hd'
    exact ⟨_, as_name 0 rfl (owl yl_comp rfl), ⟨.inl rfl, .inr rfl, trivial⟩, test_nil, fun _ => ev_bit (ev_cast (by rw [hdn]) (ev_item (k := 4) (nm 1) ev_int (by (first | lia | omega)) (by decide))) (nm 0)⟩
theorem seg20 (L : Law c P) (T : TopOk c.H) (R : Room c.A 60) (h0 : t0.length = 8) (h1 : t1.length = 8) (hs : sd.length = 3) (k : Ex (Ch c P L0) ((.ints xs :: .ints d :: .ints w :: sidesD sd :: dm :: .ints (mI ms) :: .ints (mI ms) :: .ints (mI ms) :: .unk :: e1 :: e2 :: e3 :: e4 :: kd fP ct :: .int wv :: .inst [.tup [.int 1, .int wv]] :: .inst [.tup [.int 1, .int (-wv)]] :: .list [.ints t0, .ints t1] :: .unk :: .list [(entS t0 sd 8).d, (entS t1 sd 8).d] :: .unk :: .unk :: .unk :: .unk :: .unk :: .unk :: .unk :: .unk :: .unk :: .unk :: .unk :: .unk :: .unk :: .unk :: .unk :: .unk :: .unk :: .ints su :: ([] : List D))) (execs ((lawBody P).drop 21) (Ch c P L0).env) Q) : Ex (Ch c P L0) ((.ints xs :: .ints d :: .ints w :: sidesD sd :: dm :: .ints (mI ms) :: .ints (mI ms) :: .ints (mI ms) :: .unk :: e1 :: e2 :: e3 :: e4 :: kd fP ct :: .int wv :: .inst [.tup [.int 1, .int wv]] :: .inst [.tup [.int 1, .int (-wv)]] :: .list [.ints t0, .ints t1] :: .unk :: .unk :: .unk :: .unk :: .unk :: .unk :: .unk :: .unk :: .unk :: .unk :: .unk :: .unk :: .unk :: .unk :: .unk :: .unk :: .unk :: .unk :: .unk :: .ints su :: ([] : List D))) (execs ((lawBody P).drop 20) (Ch c P L0).env) Q := by
  have R1 : Room (Ch c P L0).A 59 := R.deeper _
  have L1 : Law (Ch c P L0) P := L.fn.hold
  refine ex_seg (rest := (lawBody P).drop 21) (by exact rfl) (ex_assign_listcomp (items := [.ints t0, .ints t1]) 19 ["truth"] [("sides", 3)] (fun _ => true) (fun i => (entS ([t0, t1].getD i []) sd 8).d) (evi (nm 17) (itd_list (tt := false) (R1.of_le (by decide)))) ?_ rfl (owl hyh (by kernel_rfl)) k (hlen := Nat.le_of_ble_eq_true rfl))
  · intro wr C i e hd
    match i, hd with
    | 0, hd =>
      cases hd
      exact ⟨_, as_name 0 rfl (owl yl_comp rfl), ⟨.inl rfl, .inr rfl, trivial⟩, test_nil, fun _ => ev_call2 (ev_gf L1.comp 137) (nm 0) (nm 1) (kpr_fn L1.comp 137) (c_entry L1.comp T (by exact R1.of_le (by decide)) t0 h0 sd hs)⟩
    | 1, hd =>
      cases hd
      exact ⟨_, as_name 0 rfl (owl yl_comp rfl), ⟨.inl rfl, .inr rfl, trivial⟩, test_nil, fun _ => ev_call2 (ev_gf L1.comp 137) (nm 0) (nm 1) (kpr_fn L1.comp 137) (c_entry L1.comp T (by exact R1.of_le (by decide)) t1 h1 sd hs)⟩
theorem zipI_get {t0 t1 : List Int} (h0 : t0.length = 8) (h1 : t1.length = 8) {i : Nat} {e : D} (hd : (zipped (t0.map D.int) (t1.map D.int))[i]? = some e) : i < 8 ∧ e = .tup [.int (t0.getD i 0), .int (t1.getD i 0)] := by
  have hl : min (t0.map D.int).length (t1.map D.int).length = 8 := by simp [h0, h1]
  have hi : i < 8 := by
    have := (List.getElem?_eq_some_iff.mp hd).1
    simpa [h0, h1] using this
  refine ⟨hi, ?_⟩
  rw [List.getElem?_map, hl, List.getElem?_range hi] at hd
  cases hd
  dsimp only
  rw [ints_getD (by (first | lia | omega)), ints_getD (by (first | lia | omega))]
theorem seg21 (L : Law c P) (T : TopOk c.H) (R : Room c.A 60) (h0 : t0.length = 8) (h1 : t1.length = 8) (hm0 : en0.m.length ≤ 1000) (hm1 : en1.m.length ≤ 1000) (k : Ex (Ch c P L0) ((.ints xs :: .ints d :: .ints w :: sidesD sd :: dm :: .ints (mI ms) :: .ints (mI ms) :: .ints (mI ms) :: .unk :: e1 :: e2 :: e3 :: e4 :: kd fP ct :: .int wv :: .inst [.tup [.int 1, .int wv]] :: .inst [.tup [.int 1, .int (-wv)]] :: .list [.ints t0, .ints t1] :: .unk :: .list [en0.d, en1.d] :: (enAdd en0 en1).d :: .ints (oftN t0 t1) :: .unk :: .unk :: .unk :: .unk :: .unk :: .unk :: .unk :: .unk :: .unk :: .unk :: .unk :: .unk :: .unk :: .unk :: .unk :: .ints su :: ([] : List D))) (execs ((lawBody P).drop 22) (Ch c P L0).env) Q) : Ex (Ch c P L0) ((.ints xs :: .ints d :: .ints w :: sidesD sd :: dm :: .ints (mI ms) :: .ints (mI ms) :: .ints (mI ms) :: .unk :: e1 :: e2 :: e3 :: e4 :: kd fP ct :: .int wv :: .inst [.tup [.int 1, .int wv]] :: .inst [.tup [.int 1, .int (-wv)]] :: .list [.ints t0, .ints t1] :: .unk :: .list [en0.d, en1.d] :: .unk :: .unk :: .unk :: .unk :: .unk :: .unk :: .unk :: .unk :: .unk :: .unk :: .unk :: .unk :: .unk :: .unk :: .unk :: .unk :: .unk :: .ints su :: ([] : List D))) (execs ((lawBody P).drop 21) (Ch c P L0).env) Q := by
  have R1 : Room (Ch c P L0).A 59 := R.deeper _
  have L1 : Law (Ch c P L0) P := L.fn.hold
  have hl : (zipped (t0.map D.int) (t1.map D.int)).length = 8 := by simp [h0, h1]
  refine ex_seg (rest := (lawBody P).drop 22) (by exact rfl) ?_
  refine (ex_assign_tup (d := .tup [(enAdd en0 en1).d, .ints (oftN t0 t1)]) (ev_tup (evl_cons (ev_call2 (ev_gf L1 49) (ev_sub (nm 19) ev_int (op_item_list (d := en0.d) (by decide) (by decide) rfl)) (ev_sub (nm 19) ev_int (op_item_list (d := en1.d) (by decide) (by decide) rfl)) (kpr_fn L1 49) (c_stats L1 T (R1.of_le (by decide)) en0 en1 hm0 hm1))
    (evl_cons (ev_cast ?_ (ev_listcomp ["one", "other"] [] (fun _ => true) (fun i => .int (t0.getD i 0 + t1.getD i 0)) (evi_zip (R1.of_le (by decide)) (ev_gb L1 (.type "zip")) (ev_sub (nm 17) ev_int (op_item_list (d := .ints t0) (by decide) (by decide) rfl)) (ev_sub (nm 17) ev_int (op_item_list (d := .ints t1) (by decide) (by decide) rfl))) ?_ (hlen := by rw [hl]; decide))) evl_nil)) (Nat.le_of_ble_eq_true rfl)) (as_tup (R1.of_le (by decide)) ⟨_, as_name 20 rfl (owl hyh (by kernel_rfl)), _, as_name 21 rfl (owh (by kernel_rfl) 6 (by kernel_rfl) (by decide)), rfl⟩) k)
  · rw [hl, ints_map]; rfl
  · intro wr C i e hd
    obtain ⟨hi, rfl⟩ := zipI_get h0 h1 hd
    exact ⟨_, as_tup (by exact R1.of_le (by decide)) ⟨_, as_name 0 rfl (owl yl_comp rfl), _, as_name 1 rfl (owl yl_comp rfl), rfl⟩, ⟨.inl rfl, .inl rfl, trivial⟩, test_nil, fun _ => ev_bin (nm 0) (nm 1) op_add⟩
end
end Mine
end
/-! ## part E13 -/
section
open PySem PySem.W PyProof.Rows
set_option maxRecDepth 100000
namespace Mine
theorem kd_ints (m : List (Int × Int)) : kd D.int m = .dict (m.map Prod.fst) ((m.map Prod.snd).map D.int) := by simp [kd, List.map_map, Function.comp]
noncomputable def oftD (of : List Int) : List (Int × Int) := kouts (fun m => of.getD m 0 != 0) (fun m => (m : Int)) (fun m => of.getD m 0) 8
noncomputable def oftS (of : List Int) (sd : List (Int × Int)) (k : Nat) : Int := ((List.range 8).map fun m => of.getD m 0 * sideV sd k m).sum
structure EnEq (e e' : En) : Prop where
  n : e.n = e'.n
  a : e.a = e'.a
  b : e.b = e'.b
  c : e.c = e'.c
  l : e.m.length = e'.m.length
  m : ∀ k v, kget e.m k = some v → kget e'.m k = some v
section
variable {c : Cx} {P : Params} {L0 : Addr} {xs d w su t0 t1 of : List Int} {ms : List Nat} {sd : List (Int × Int)} {ct : List (Int × P2)} {wv : Int} {en0 en1 en : En} {dm e1 e2 e3 e4 : D} {Q : Fl → List D → Prop}
theorem same_kd {m m' : List (Int × Int)} (hl : m.length = m'.length) (h : ∀ k v, kget m k = some v → kget m' k = some v) : Same c (kd D.int m) (kd D.int m') := by
  rw [kd_ints, kd_ints]
  refine same_dict (by simp [hl]) (fun k n e => ?_) (by simp)
  have e1 : (m.map Prod.snd).map D.int = m.map fun p => D.int p.2 := by simp [List.map_map, Function.comp]
  have e2 : (m'.map Prod.snd).map D.int = m'.map fun p => D.int p.2 := by simp [List.map_map, Function.comp]
  rw [e1, dget_kget] at e
  rw [e2, dget_kget]
  cases hk : kget m k with
  | none => rw [hk] at e; cases e
  | some v =>
    rw [hk] at e
    cases e
    rw [h k _ hk]; rfl
theorem same_en {e e' : En} (h : EnEq e e') : SameAll c [.int e.n, .int e.a, .int e.b, .int e.c, kd D.int e.m] [.int e'.n, .int e'.a, .int e'.b, .int e'.c, kd D.int e'.m] :=
  ⟨h.n ▸ same_int _, h.a ▸ same_int _, h.b ▸ same_int _, h.c ▸ same_int _, same_kd h.l h.m, trivial⟩
theorem mul_ok {x y : Int} (h : x.natAbs ≤ 1000000) : IntMulOk x y := IntMulOk.of_left (PySem.intBits_le_64 (by (first | lia | omega)) (by (first | lia | omega)))
theorem seg22 (L : Law c P) (R : Room c.A 60) (hs : sd.length = 3) (hof : of.length = 8) (hob : ∀ m, m < 8 → (of.getD m 0).natAbs ≤ 1000000) (he : EnEq en ⟨of.sum, oftS of sd 0, oftS of sd 1, oftS of sd 2, oftD of⟩)
    (k : Ex (Ch c P L0) ((.ints xs :: .ints d :: .ints w :: sidesD sd :: dm :: .ints (mI ms) :: .ints (mI ms) :: .ints (mI ms) :: .unk :: e1 :: e2 :: e3 :: e4 :: kd fP ct :: .int wv :: .inst [.tup [.int 1, .int wv]] :: .inst [.tup [.int 1, .int (-wv)]] :: .list [.ints t0, .ints t1] :: .unk :: .list [en0.d, en1.d] :: en.d :: .ints of :: .unk :: .unk :: .unk :: .unk :: .unk :: .unk :: .unk :: .unk :: .unk :: .unk :: .unk :: .unk :: .unk :: .unk :: .unk :: .ints su :: ([] : List D))) (execs ((lawBody P).drop 23) (Ch c P L0).env) Q) : Ex (Ch c P L0) ((.ints xs :: .ints d :: .ints w :: sidesD sd :: dm :: .ints (mI ms) :: .ints (mI ms) :: .ints (mI ms) :: .unk :: e1 :: e2 :: e3 :: e4 :: kd fP ct :: .int wv :: .inst [.tup [.int 1, .int wv]] :: .inst [.tup [.int 1, .int (-wv)]] :: .list [.ints t0, .ints t1] :: .unk :: .list [en0.d, en1.d] :: en.d :: .ints of :: .unk :: .unk :: .unk :: .unk :: .unk :: .unk :: .unk :: .unk :: .unk :: .unk :: .unk :: .unk :: .unk :: .unk :: .unk :: .ints su :: ([] : List D))) (execs ((lawBody P).drop 22) (Ch c P L0).env) Q := by
  have R1 : Room (Ch c P L0).A 59 := R.deeper _
  have L1 : Law (Ch c P L0) P := L.fn.hold
  refine ex_seg (rest := (lawBody P).drop 23) (by exact rfl) ?_
  refine (ex_if_false (evt_cmp (nm 20) (ev_cast (d := (En.mk of.sum (oftS of sd 0) (oftS of sd 1) (oftS of sd 2) (oftD of)).d) ?_ (ev_bin (ev_bin (ev_tup (evl_cons (ev_call1 (ev_gb L1 (.builtin "sum")) (nm 21) kpr_builtin (call_sum_l (R1.of_le (by decide)))) evl_nil) (Nat.le_of_ble_eq_true rfl))
      (ev_call1 (ev_gb L1 (.type "tuple")) (ev_cast (d := .list [.int (oftS of sd 0), .int (oftS of sd 1), .int (oftS of sd 2)]) ?_ (ev_listcomp ["k"] [("often", 21), ("sides", 3)] (fun _ => true) (fun k => .int (oftS of sd k)) (evi_range (n := 3) (R1.of_le (by decide)) (ev_gb L1 (.type "range")) ev_int (by decide)) ?_)) kpr_type (call_tuple_l (Nat.le_of_ble_eq_true rfl))) (op_cat_tup (Nat.le_of_ble_eq_true rfl) (by simp) (by simp)))
      (ev_tup (evl_cons (ev_cast (d := kd D.int (oftD of)) ?_ (ev_dictcomp ["mask"] [("often", 21)] (fun m => of.getD m 0 != 0) (fun m => (m : Int)) (fun m => .int (of.getD m 0)) (evi_range (n := 8) (R1.of_le (by decide)) (ev_gb L1 (.type "range")) ev_int (by decide)) ?_)) evl_nil) (Nat.le_of_ble_eq_true rfl)) (op_cat_tup (Nat.le_of_ble_eq_true rfl) (by simp) (by simp)))) (op_ne_tup_same (R1.of_le (by decide)) (same_en he))) (ex_nil k))
  · rfl
  · rw [upTo_length, outs_all]; rfl
  · intro wr C i e hd
    obtain ⟨hi, rfl⟩ := upTo_get hd
    refine ⟨_, as_name 0 rfl (owc_comp (C + 1) (by kernel_rfl) (by kernel_rfl) (by kernel_rfl)), ⟨.inl rfl, .inr rfl, .inr rfl, trivial⟩, test_nil, fun _ => ?_⟩
    refine ev_call1 (ev_gb L1.comp (.builtin "sum")) (ev_cast (by rw [upTo_length, ints_map]) (ev_listcomp ["mask"] [("k", 0), ("often", 1), ("sides", 2)] (fun _ => true) (fun m => .int (of.getD m 0 * sideV sd i m)) (evi_range (n := 8) (by exact R1.of_le (by decide)) (ev_gb L1.comp (.type "range")) ev_int (by decide)) ?_)) kpr_builtin (call_sum_l (by exact R1.of_le (by decide)))
    intro wr' C' m e hd
    obtain ⟨hm, rfl⟩ := upTo_get hd
    exact ⟨_, as_name 0 rfl (owl yl_comp rfl), ⟨.inl rfl, .inr rfl, .inr rfl, .inr rfl, trivial⟩, test_nil, fun _ => ev_bin (ev_item (nm 2) (nm 0) (by (first | lia | omega)) (by (first | lia | omega))) (ev_side (nm 3) (nm 1) (ev_bit (nm 0) (nm 1)) (by (first | lia | omega)) hs) (op_mul (mul_ok (hob m hm)))⟩
  · rw [upTo_length, douts_kd]; rfl
  · intro wr C m e hd
    obtain ⟨hm, rfl⟩ := upTo_get hd
    exact ⟨_, as_name 0 rfl (owl yl_comp rfl), ⟨.inl rfl, .inr rfl, trivial⟩, test_one (evt_sub (ev_item (nm 1) (nm 0) (by (first | lia | omega)) (by (first | lia | omega))) true_int), fun _ => ⟨nm 0, ev_item (nm 1) (nm 0) (by (first | lia | omega)) (by (first | lia | omega))⟩⟩
end
end Mine
end
/-! ## part E14 -/
section
open PySem PySem.W PyProof.Rows
set_option maxRecDepth 100000
namespace Mine
noncomputable def forBody (P : Params) : List Stmt := match (lawBody P).drop 23 with
  | .For _ _ b _ _ :: _ => b
  | _ => []
noncomputable def trN (t : List Int) : List Nat := (List.range 8).filter fun m => t.getD m 0 != 0
noncomputable def trD (tr : List Nat) : List (Int × Int) := kouts (fun _ => true) (fun i => ((tr.getD i 0 : Nat) : Int)) (fun _ => 1) tr.length
noncomputable def trS (tr : List Nat) (sd : List (Int × Int)) (k : Nat) : Int := ((List.range tr.length).map fun i => sideV sd k (tr.getD i 0)).sum
noncomputable def bentB (t : List Int) (k : Nat) : Bool := decide (-1 ∈ lawLeads t (2 ^ k) 0) && decide (1 ∈ lawLeads t (2 ^ k) 0)
noncomputable def bentL (t : List Int) : List Int := ((List.range 3).filter (bentB t)).map fun (k : Nat) => (k : Int)
noncomputable def enKey (e : En) : Int := ((e.n * 4096 + e.a) * 4096 + e.b) * 4096 + e.c
noncomputable def trP (tr : List Nat) : Int := ((List.range tr.length).map fun i => ((2 ^ tr.getD i 0 : Nat) : Int)).sum
theorem mI_len (ms : List Nat) : (mI ms).length = ms.length := by simp [mI]
theorem mI_getD (ms : List Nat) (i : Nat) : (mI ms).getD i 0 = ((ms.getD i 0 : Nat) : Int) := by
  rw [mI, List.getD_eq_getElem?_getD, List.getElem?_map, List.getD_eq_getElem?_getD]
  cases ms[i]? <;> rfl
theorem mI_get {tr : List Nat} {i : Nat} {e : D} (hd : ((mI tr).map D.int)[i]? = some e) : i < tr.length ∧ e = .int ((tr.getD i 0 : Nat) : Int) := by
  obtain ⟨hi, rfl⟩ := itd_vals_get hd
  rw [mI_len] at hi
  exact ⟨hi, by rw [mI_getD]⟩
theorem getD_lt {tr : List Nat} (h : ∀ m ∈ tr, m < 8) (i : Nat) : tr.getD i 0 < 8 := by
  rw [List.getD_eq_getElem?_getD]
  cases e : tr[i]? with
  | none => decide
  | some m => exact h m (List.mem_of_getElem? e)
section
variable {c : Cx} {P : Params} {L0 : Addr} {X' : Addr → Prop} {xs d w su t0 t1 of t bl : List Int} {ms tr : List Nat} {sd : List (Int × Int)} {ct : List (Int × P2)} {fv : P2} {wv : Int} {tb : Nat} {en0 en1 en ent : En} {dm e1 e2 e3 e4 f1 f2 f3 f4 f5 f6 f7 f8 f9 g1 g2 g3 g4 : D} {Q : Fl → List D → Prop}
noncomputable abbrev Cg (c : Cx) (P : Params) (L0 : Addr) (X' : Addr → Prop) : Cx := (Ch c P L0).at X'
theorem hyg : (Cg c P L0 X').Y (Cg c P L0 X').env.locals := hyh
theorem owg {x : Str} (k : (Cl c P L0).env.kindOf x = some .cell) (j : Nat) (e : (Cl c P L0).env.cells.lookup x = some (L0 + j)) (hj : j ≠ 10) : Owns (Cg c P L0 X').env (Cg c P L0 X').Y x := owh k j e hj
theorem op_pow {k : Nat} (hk : k < 8) : Op2 c (binaryOp .LShift) (.int 1) (.int (k : Int)) (.int ((2 ^ k : Nat) : Int)) := by
  have h := op_shl (c := c) (x := 1) (n := (k : Int)) (by (first | lia | omega)) (by (first | lia | omega)) (by decide)
  rw [Int.toNat_natCast, Int.one_mul] at h
  have e : (2 : Int) ^ k = ((2 ^ k : Nat) : Int) := by simp
  rw [e] at h; exact h
theorem tb0 (L : Law c P) (R : Room c.A 60) (ht : t.length = 8) (ent : En) (hent : ([D.tup [.int en0.n, .int en0.a, .int en0.b, .int en0.c, kd D.int en0.m], en1.d] : List D)[tb]? = some ent.d) (htb : tb < 2) (k : Ex (Cg c P L0 X') ((.ints xs :: .ints d :: .ints w :: sidesD sd :: dm :: .ints (mI ms) :: .ints (mI ms) :: .ints (mI ms) :: g1 :: e1 :: e2 :: e3 :: e4 :: kd fP ct :: .int wv :: .inst [.tup [.int 1, .int wv]] :: .inst [.tup [.int 1, .int (-wv)]] :: .list [.ints t0, .ints t1] :: .ints t :: .list [en0.d, en1.d] :: en.d :: .ints of :: .int (tb : Nat) :: ent.d :: .ints (mI (trN t)) :: f3 :: f4 :: f5 :: f6 :: f7 :: f8 :: f9 :: g2 :: g3 :: g4 :: .unk :: .unk :: .ints su :: ([] : List D))) (execs ((forBody P).drop 1) (Ch c P L0).env) Q) : Ex (Cg c P L0 X') ((.ints xs :: .ints d :: .ints w :: sidesD sd :: dm :: .ints (mI ms) :: .ints (mI ms) :: .ints (mI ms) :: g1 :: e1 :: e2 :: e3 :: e4 :: kd fP ct :: .int wv :: .inst [.tup [.int 1, .int wv]] :: .inst [.tup [.int 1, .int (-wv)]] :: .list [.ints t0, .ints t1] :: .ints t :: .list [en0.d, en1.d] :: en.d :: .ints of :: .int (tb : Nat) :: f1 :: f2 :: f3 :: f4 :: f5 :: f6 :: f7 :: f8 :: f9 :: g2 :: g3 :: g4 :: .unk :: .unk :: .ints su :: ([] : List D))) (execs (forBody P) (Ch c P L0).env) Q := by
  have R1 : Room (Cg c P L0 X').A 59 := R.deeper _
  have L1 : Law (Cg c P L0 X') P := L.fn.hold.at
  refine ex_seg (c := Cg c P L0 X') (rest := (forBody P).drop 1) (by exact rfl) ?_
  refine ex_assign_tup (d := .tup [ent.d, .ints (mI (trN t))]) (ev_tup (evl_cons (ev_sub (nm 19) (nm 22) (op_item_list (d := ent.d) (by (first | lia | omega)) (by (first | lia | omega)) (by rw [Int.toNat_natCast]; exact hent))) (evl_cons (ev_cast ?_ (ev_listcomp ["mask"] [("truth", 18)] (fun m => t.getD m 0 != 0) (fun m => .int (m : Int)) (evi_range (n := 8) (R1.of_le (by decide)) (ev_gb L1 (.type "range")) ev_int (by decide)) ?_)) evl_nil)) (Nat.le_of_ble_eq_true rfl))
    (as_tup (R1.of_le (by decide)) ⟨_, as_name 23 rfl (owg (by kernel_rfl) 7 (by kernel_rfl) (by decide)), _, as_name 24 rfl (owg (by kernel_rfl) 8 (by kernel_rfl) (by decide)), rfl⟩) k
  · rw [upTo_length, outs_int]; rfl
  · intro wr C i e hd
    obtain ⟨hi, rfl⟩ := upTo_get hd
    exact ⟨_, as_name 0 rfl (owl yl_comp rfl), ⟨.inl rfl, .inr rfl, trivial⟩, test_one (evt_sub (ev_item (nm 1) (nm 0) (by (first | lia | omega)) (by (first | lia | omega))) true_int), fun _ => nm 0⟩
theorem tb1 (L : Law c P) (R : Room c.A 60) (hs : sd.length = 3) (htr : ∀ m ∈ tr, m < 8) (htl : tr.length ≤ 8) (he : EnEq ent ⟨(tr.length : Nat), trS tr sd 0, trS tr sd 1, trS tr sd 2, trD tr⟩)
    (k : Ex (Cg c P L0 X') ((.ints xs :: .ints d :: .ints w :: sidesD sd :: dm :: .ints (mI ms) :: .ints (mI ms) :: .ints (mI ms) :: g1 :: e1 :: e2 :: e3 :: e4 :: kd fP ct :: .int wv :: .inst [.tup [.int 1, .int wv]] :: .inst [.tup [.int 1, .int (-wv)]] :: .list [.ints t0, .ints t1] :: .ints t :: .list [en0.d, en1.d] :: en.d :: .ints of :: .int (tb : Nat) :: ent.d :: .ints (mI tr) :: f3 :: f4 :: f5 :: f6 :: f7 :: f8 :: f9 :: g2 :: g3 :: g4 :: .unk :: .unk :: .ints su :: ([] : List D))) (execs ((forBody P).drop 2) (Ch c P L0).env) Q) : Ex (Cg c P L0 X') ((.ints xs :: .ints d :: .ints w :: sidesD sd :: dm :: .ints (mI ms) :: .ints (mI ms) :: .ints (mI ms) :: g1 :: e1 :: e2 :: e3 :: e4 :: kd fP ct :: .int wv :: .inst [.tup [.int 1, .int wv]] :: .inst [.tup [.int 1, .int (-wv)]] :: .list [.ints t0, .ints t1] :: .ints t :: .list [en0.d, en1.d] :: en.d :: .ints of :: .int (tb : Nat) :: ent.d :: .ints (mI tr) :: f3 :: f4 :: f5 :: f6 :: f7 :: f8 :: f9 :: g2 :: g3 :: g4 :: .unk :: .unk :: .ints su :: ([] : List D))) (execs ((forBody P).drop 1) (Ch c P L0).env) Q := by
  have R1 : Room (Cg c P L0 X').A 59 := R.deeper _
  have L1 : Law (Cg c P L0 X') P := L.fn.hold.at
  have hl : ((mI tr).map D.int).length = tr.length := by rw [List.length_map, mI_len]
  refine ex_seg (c := Cg c P L0 X') (rest := (forBody P).drop 2) (by exact rfl) ?_
  refine (ex_if_false (evt_cmp (nm 23) (ev_cast (d := (En.mk (tr.length : Nat) (trS tr sd 0) (trS tr sd 1) (trS tr sd 2) (trD tr)).d) ?_ (ev_bin (ev_bin (ev_tup (evl_cons (ev_cast (d := .int (tr.length : Nat)) (by rw [hl]) (ev_call1 (ev_gb L1 (.builtin "len")) (nm 24) kpr_builtin (call_len_l (by rw [hl]; (first | lia | omega))))) evl_nil) (Nat.le_of_ble_eq_true rfl))
      (ev_call1 (ev_gb L1 (.type "tuple")) (ev_cast (d := .list [.int (trS tr sd 0), .int (trS tr sd 1), .int (trS tr sd 2)]) ?_ (ev_listcomp ["k"] [("sides", 3), ("true", 24)] (fun _ => true) (fun k => .int (trS tr sd k)) (evi_range (n := 3) (R1.of_le (by decide)) (ev_gb L1 (.type "range")) ev_int (by decide)) ?_)) kpr_type (call_tuple_l (Nat.le_of_ble_eq_true rfl))) (op_cat_tup (Nat.le_of_ble_eq_true rfl) (by simp) (by simp)))
      (ev_tup (evl_cons (ev_cast (d := kd D.int (trD tr)) ?_ (ev_dictcomp ["mask"] [] (fun _ => true) (fun i => ((tr.getD i 0 : Nat) : Int)) (fun _ => .int 1) (evi (nm 24) (itd_list (tt := false) (R1.of_le (by decide)))) ?_ (hlen := by rw [hl]; (first | lia | omega)))) evl_nil) (Nat.le_of_ble_eq_true rfl)) (op_cat_tup (Nat.le_of_ble_eq_true rfl) (by simp) (by simp)))) (op_ne_tup_same (R1.of_le (by decide)) (same_en he))) (ex_nil k))
  · rfl
  · rw [upTo_length, outs_all]; rfl
  · intro wr C i e hd
    obtain ⟨hi, rfl⟩ := upTo_get hd
    refine ⟨_, as_name 0 rfl (owc_comp (C + 1) (by kernel_rfl) (by kernel_rfl) (by kernel_rfl)), ⟨.inl rfl, .inr rfl, .inr rfl, trivial⟩, test_nil, fun _ => ?_⟩
    refine ev_call1 (ev_gb L1.comp (.builtin "sum")) (ev_cast (by rw [hl, ints_map]) (ev_listcomp ["mask"] [("k", 0), ("sides", 1)] (fun _ => true) (fun j => .int (sideV sd i (tr.getD j 0))) (evi (nm 2) (itd_list (tt := false) (by exact R1.of_le (by decide)))) ?_ (hlen := by rw [hl]; (first | lia | omega)))) kpr_builtin (call_sum_l (by exact R1.of_le (by decide)))
    intro wr' C' m e hd
    obtain ⟨hm, rfl⟩ := mI_get hd
    exact ⟨_, as_name 0 rfl (owl yl_comp rfl), ⟨.inl rfl, .inr rfl, .inr rfl, trivial⟩, test_nil, fun _ => ev_side (nm 2) (nm 1) (ev_bit (nm 0) (nm 1)) (by (first | lia | omega)) hs⟩
  · rw [hl, douts_kd D.int (fun _ => true) _ (fun _ => 1)]; rfl
  · intro wr C m e hd
    obtain ⟨hm, rfl⟩ := mI_get hd
    exact ⟨_, as_name 0 rfl (owl yl_comp rfl), ⟨.inl rfl, trivial⟩, test_nil, fun _ => ⟨nm 0, ev_int⟩⟩
end
end Mine
end
/-! ## part E15 -/
section
open PySem PySem.W PyProof.Rows
set_option maxRecDepth 100000
namespace Mine
section
variable {c : Cx} {P : Params} {L0 : Addr} {X' : Addr → Prop} {xs d w su t0 t1 of t bl : List Int} {ms tr : List Nat} {sd : List (Int × Int)} {ct : List (Int × P2)} {fv : P2} {wv : Int} {tb : Nat} {en0 en1 en ent : En} {dm e1 e2 e3 e4 f1 f2 f3 f4 f5 f6 f7 f8 f9 g1 g2 g3 g4 : D} {Q : Fl → List D → Prop}
theorem tb2 (L : Law c P) (R : Room c.A 60) (ht : t.length = 8) (h01 : ∀ x ∈ t, x = 0 ∨ x = 1) (k : Ex (Cg c P L0 X') ((.ints xs :: .ints d :: .ints w :: sidesD sd :: dm :: .ints (mI ms) :: .ints (mI ms) :: .ints (mI ms) :: g1 :: e1 :: e2 :: e3 :: e4 :: kd fP ct :: .int wv :: .inst [.tup [.int 1, .int wv]] :: .inst [.tup [.int 1, .int (-wv)]] :: .list [.ints t0, .ints t1] :: .ints t :: .list [en0.d, en1.d] :: en.d :: .ints of :: .int (tb : Nat) :: ent.d :: .ints (mI tr) :: .ints (bentL t) :: f4 :: f5 :: f6 :: f7 :: f8 :: f9 :: g2 :: g3 :: g4 :: .unk :: .unk :: .ints su :: ([] : List D))) (execs ((forBody P).drop 3) (Ch c P L0).env) Q) : Ex (Cg c P L0 X') ((.ints xs :: .ints d :: .ints w :: sidesD sd :: dm :: .ints (mI ms) :: .ints (mI ms) :: .ints (mI ms) :: g1 :: e1 :: e2 :: e3 :: e4 :: kd fP ct :: .int wv :: .inst [.tup [.int 1, .int wv]] :: .inst [.tup [.int 1, .int (-wv)]] :: .list [.ints t0, .ints t1] :: .ints t :: .list [en0.d, en1.d] :: en.d :: .ints of :: .int (tb : Nat) :: ent.d :: .ints (mI tr) :: f3 :: f4 :: f5 :: f6 :: f7 :: f8 :: f9 :: g2 :: g3 :: g4 :: .unk :: .unk :: .ints su :: ([] : List D))) (execs ((forBody P).drop 2) (Ch c P L0).env) Q := by
  have R1 : Room (Cg c P L0 X').A 59 := R.deeper _
  have L1 : Law (Cg c P L0 X') P := L.fn.hold.at
  refine ex_seg (c := Cg c P L0 X') (rest := (forBody P).drop 3) (by exact rfl) ?_
  have e : D.list (outs (bentB t) (fun k => .int (k : Int)) (upTo 3).length) = .ints (bentL t) := by rw [upTo_length, outs_int]; rfl
  refine ex_assign_listcomp (items := upTo 3) 25 ["k"] [("truth", 18)] (bentB t) (fun k => .int (k : Int)) (evi_range (n := 3) (R1.of_le (by decide)) (ev_gb L1 (.type "range")) ev_int (by decide)) ?_ rfl (owl hyg (by kernel_rfl)) (by rw [e]; exact k)
  intro wr C i e hd
  obtain ⟨hi, rfl⟩ := upTo_get hd
  have hp : 2 ^ i < 8 := Nat.pow_lt_pow_right (by decide) hi
  refine ⟨_, as_name 0 rfl (owl yl_comp rfl), ⟨.inl rfl, .inr rfl, trivial⟩, test_one (evt_cast (by unfold bentB; rw [Bool.and_true]) (evt_boolop (allT_and_cons (evt_cmp (ev_un ev_int op_neg) (ev_call3 (ev_gf L1.comp 147) (nm 1) (ev_bin ev_int (nm 0) (op_pow (by (first | lia | omega)))) (ev_int (i := ((0 : Nat) : Int))) (kpr_fn L1.comp 147) (c_leads L1.comp (by exact R1.of_le (by decide)) t ht h01 (2 ^ i) 0 hp (by decide))) op_in_ints) fun _ =>
    allT_and_cons (evt_cmp ev_int (ev_call3 (ev_gf L1.comp 147) (nm 1) (ev_bin ev_int (nm 0) (op_pow (by (first | lia | omega)))) (ev_int (i := ((0 : Nat) : Int))) (kpr_fn L1.comp 147) (c_leads L1.comp (by exact R1.of_le (by decide)) t ht h01 (2 ^ i) 0 hp (by decide))) op_in_ints) fun _ => allT_and_nil))), fun _ => nm 0⟩
theorem tb3 (L : Law c P) (R : Room c.A 60) (hf : kget ct (enKey ent) = some fv) (k : Ex (Cg c P L0 X') ((.ints xs :: .ints d :: .ints w :: sidesD sd :: dm :: .ints (mI ms) :: .ints (mI ms) :: .ints (mI ms) :: g1 :: e1 :: e2 :: e3 :: e4 :: kd fP ct :: .int wv :: .inst [.tup [.int 1, .int wv]] :: .inst [.tup [.int 1, .int (-wv)]] :: .list [.ints t0, .ints t1] :: .ints t :: .list [en0.d, en1.d] :: en.d :: .ints of :: .int (tb : Nat) :: ent.d :: .ints (mI tr) :: .ints bl :: fP fv :: f5 :: f6 :: f7 :: f8 :: f9 :: g2 :: g3 :: g4 :: .unk :: .unk :: .ints su :: ([] : List D))) (execs ((forBody P).drop 4) (Ch c P L0).env) Q) : Ex (Cg c P L0 X') ((.ints xs :: .ints d :: .ints w :: sidesD sd :: dm :: .ints (mI ms) :: .ints (mI ms) :: .ints (mI ms) :: g1 :: e1 :: e2 :: e3 :: e4 :: kd fP ct :: .int wv :: .inst [.tup [.int 1, .int wv]] :: .inst [.tup [.int 1, .int (-wv)]] :: .list [.ints t0, .ints t1] :: .ints t :: .list [en0.d, en1.d] :: en.d :: .ints of :: .int (tb : Nat) :: ent.d :: .ints (mI tr) :: .ints bl :: f4 :: f5 :: f6 :: f7 :: f8 :: f9 :: g2 :: g3 :: g4 :: .unk :: .unk :: .ints su :: ([] : List D))) (execs ((forBody P).drop 3) (Ch c P L0).env) Q := by
  have R1 : Room (Cg c P L0 X').A 59 := R.deeper _
  have L1 : Law (Cg c P L0 X') P := L.fn.hold.at
  refine ex_seg (c := Cg c P L0 X') (rest := (forBody P).drop 4) (by exact rfl) ?_
  refine ex_assign 26 (ev_sub (nm 13) (ev_bin (ev_bin (ev_bin (ev_bin (ev_bin (ev_bin (ev_sub (nm 23) ev_int (op_item_tup (d := .int ent.n) (by decide) (by decide) rfl)) ev_int (op_mul (mul_4096 _))) (ev_sub (nm 23) ev_int (op_item_tup (d := .int ent.a) (by decide) (by decide) rfl)) op_add) ev_int (op_mul (mul_4096 _))) (ev_sub (nm 23) ev_int (op_item_tup (d := .int ent.b) (by decide) (by decide) rfl)) op_add) ev_int (op_mul (mul_4096 _))) (ev_sub (nm 23) ev_int (op_item_tup (d := .int ent.c) (by decide) (by decide) rfl)) op_add)
    (op_item_dict (d := fP fv) (by
      show dget (ct.map Prod.fst) (ct.map fun p => fP p.2) (enKey ent) = _
      rw [dget_kget, hf]; rfl))) rfl (owl hyg (by kernel_rfl)) k
theorem fP_eqv (p q : P2) : PyData.eqv (fP p).py (fP q).py = decide (p = q) := by
  obtain ⟨a, b⟩ := p
  obtain ⟨x, y⟩ := q
  have h := PySem.W.ked_eqvAll [a, b] [x, y]
  simp only [List.map_cons, List.map_nil] at h
  show PyData.eqvAll [PyData.int a, PyData.int b] [PyData.int x, PyData.int y] = _
  rw [h]
  simp
theorem tb4 (L : Law c P) (R : Room c.A 60) (htr : ∀ m ∈ tr, m < 8) (htl : tr.length ≤ 8) (hb : decide (fv = (1, trP tr)) = decide (bl = [])) (k : Ex (Cg c P L0 X') ((.ints xs :: .ints d :: .ints w :: sidesD sd :: dm :: .ints (mI ms) :: .ints (mI ms) :: .ints (mI ms) :: g1 :: e1 :: e2 :: e3 :: e4 :: kd fP ct :: .int wv :: .inst [.tup [.int 1, .int wv]] :: .inst [.tup [.int 1, .int (-wv)]] :: .list [.ints t0, .ints t1] :: .ints t :: .list [en0.d, en1.d] :: en.d :: .ints of :: .int (tb : Nat) :: ent.d :: .ints (mI tr) :: .ints bl :: fP fv :: f5 :: f6 :: f7 :: f8 :: f9 :: g2 :: g3 :: g4 :: .unk :: .unk :: .ints su :: ([] : List D))) (execs ((forBody P).drop 5) (Ch c P L0).env) Q) : Ex (Cg c P L0 X') ((.ints xs :: .ints d :: .ints w :: sidesD sd :: dm :: .ints (mI ms) :: .ints (mI ms) :: .ints (mI ms) :: g1 :: e1 :: e2 :: e3 :: e4 :: kd fP ct :: .int wv :: .inst [.tup [.int 1, .int wv]] :: .inst [.tup [.int 1, .int (-wv)]] :: .list [.ints t0, .ints t1] :: .ints t :: .list [en0.d, en1.d] :: en.d :: .ints of :: .int (tb : Nat) :: ent.d :: .ints (mI tr) :: .ints bl :: fP fv :: f5 :: f6 :: f7 :: f8 :: f9 :: g2 :: g3 :: g4 :: .unk :: .unk :: .ints su :: ([] : List D))) (execs ((forBody P).drop 4) (Ch c P L0).env) Q := by
  have R1 : Room (Cg c P L0 X').A 59 := R.deeper _
  have L1 : Law (Cg c P L0 X') P := L.fn.hold.at
  have hl : ((mI tr).map D.int).length = tr.length := by rw [List.length_map, mI_len]
  refine ex_seg (c := Cg c P L0 X') (rest := (forBody P).drop 5) (by exact rfl) ?_
  refine (ex_if_false (evt_cast ?_ (evt_cmp (ev_cmp (nm 26) (ev_cast (d := fP (1, trP tr)) ?_ (ev_tup (evl_cons ev_int (evl_cons (ev_call1 (ev_gb L1 (.builtin "sum")) (ev_cast (d := .ints ((List.range tr.length).map fun i => ((2 ^ tr.getD i 0 : Nat) : Int))) (by rw [hl, ints_map]) (ev_listcomp ["mask"] [] (fun _ => true) (fun i => .int ((2 ^ tr.getD i 0 : Nat) : Int)) (evi (nm 24) (itd_list (tt := false) (R1.of_le (by decide)))) ?_ (hlen := by rw [hl]; (first | lia | omega)))) kpr_builtin (call_sum_l (R1.of_le (by decide)))) evl_nil)) (Nat.le_of_ble_eq_true rfl))) (op_eqd (R1.of_le (by decide)) rfl rfl rfl rfl))
    (ev_cmp (nm 25) (ev_cast (d := .ints []) rfl (ev_list evl_nil (Nat.zero_le _))) (op_eq_ints (R1.of_le (by decide)))) op_isnot_bool)) (ex_nil k))
  · rw [fP_eqv, hb]; simp
  · rfl
  · intro wr C i e hd
    obtain ⟨hm, rfl⟩ := mI_get hd
    exact ⟨_, as_name 0 rfl (owl yl_comp rfl), ⟨.inl rfl, trivial⟩, test_nil, fun _ => ev_bin ev_int (nm 0) (op_pow (getD_lt htr i))⟩
theorem tb5 (L : Law c P) (R : Room c.A 60) (hbl : bl.length ≤ 3) (k0 : bl ≠ [] → Q .cont ((.ints xs :: .ints d :: .ints w :: sidesD sd :: dm :: .ints (mI ms) :: .ints (mI ms) :: .ints (mI ms) :: g1 :: e1 :: e2 :: e3 :: e4 :: kd fP ct :: .int wv :: .inst [.tup [.int 1, .int wv]] :: .inst [.tup [.int 1, .int (-wv)]] :: .list [.ints t0, .ints t1] :: .ints t :: .list [en0.d, en1.d] :: en.d :: .ints of :: .int (tb : Nat) :: ent.d :: .ints (mI tr) :: .ints bl :: fP fv :: f5 :: f6 :: f7 :: f8 :: f9 :: g2 :: g3 :: g4 :: .unk :: .unk :: .ints su :: ([] : List D)))) (k : bl = [] → Ex (Cg c P L0 X') ((.ints xs :: .ints d :: .ints w :: sidesD sd :: dm :: .ints (mI ms) :: .ints (mI ms) :: .ints (mI ms) :: g1 :: e1 :: e2 :: e3 :: e4 :: kd fP ct :: .int wv :: .inst [.tup [.int 1, .int wv]] :: .inst [.tup [.int 1, .int (-wv)]] :: .list [.ints t0, .ints t1] :: .ints t :: .list [en0.d, en1.d] :: en.d :: .ints of :: .int (tb : Nat) :: ent.d :: .ints (mI tr) :: .ints bl :: fP fv :: f5 :: f6 :: f7 :: f8 :: f9 :: g2 :: g3 :: g4 :: .unk :: .unk :: .ints su :: ([] : List D))) (execs ((forBody P).drop 6) (Ch c P L0).env) Q) : Ex (Cg c P L0 X') ((.ints xs :: .ints d :: .ints w :: sidesD sd :: dm :: .ints (mI ms) :: .ints (mI ms) :: .ints (mI ms) :: g1 :: e1 :: e2 :: e3 :: e4 :: kd fP ct :: .int wv :: .inst [.tup [.int 1, .int wv]] :: .inst [.tup [.int 1, .int (-wv)]] :: .list [.ints t0, .ints t1] :: .ints t :: .list [en0.d, en1.d] :: en.d :: .ints of :: .int (tb : Nat) :: ent.d :: .ints (mI tr) :: .ints bl :: fP fv :: f5 :: f6 :: f7 :: f8 :: f9 :: g2 :: g3 :: g4 :: .unk :: .unk :: .ints su :: ([] : List D))) (execs ((forBody P).drop 5) (Ch c P L0).env) Q := by
  refine ex_seg (c := Cg c P L0 X') (rest := (forBody P).drop 6) (by exact rfl) ?_
  refine ex_if (evt_name (nm 25) (true_list (l := bl.map D.int) (by simp; (first | lia | omega)))) (fun h => ?_) (fun h => ?_)
  · refine ex_cons (ex_continue (k0 ?_))
    rintro rfl; simp at h
  · refine ex_nil (k ?_)
    cases bl with
    | nil => rfl
    | cons _ _ => simp at h
end
end Mine
end
/-! ## part E16 -/
section
open PySem PySem.W PyProof.Rows
set_option maxRecDepth 100000
namespace Mine
noncomputable def pairBody (P : Params) : List Stmt := match (forBody P).drop 9 with
  | .For _ _ b _ _ :: _ => b
  | _ => []
noncomputable def heavyBody (P : Params) : List Stmt := match (pairBody P).drop 3 with
  | .For _ _ b _ _ :: _ => b
  | _ => []
noncomputable def enG (e : En) (k : Nat) : Int := ([e.a, e.b, e.c] : List Int).getD k 0
noncomputable def onV (e : En) (sd : List (Int × Int)) (k : Nat) : Int := (enG e k - e.n * (sd.getD k (0, 0)).1).fdiv ((sd.getD k (0, 0)).2 - (sd.getD k (0, 0)).1)
noncomputable def onsV (e : En) (sd : List (Int × Int)) : List Int := (List.range 3).map (onV e sd)
noncomputable def ldL (t : List Int) (i j : Nat) : List Int := if i ≠ j then (lawLeads t (2 ^ i) (2 ^ j)).filter (fun x => x != 0) else []
noncomputable def tellV (w : List Int) : List Int := (List.range 8).map fun m => if decide (lawSum w m < 256) = true then 1 else 0
theorem range_filter_getD (q : Int → Bool) (l : List Int) : ((List.range l.length).filter (fun k => q (l.getD k 0))).map (fun k => l.getD k 0) = l.filter q := by
  induction l with
  | nil => rfl
  | cons x l ih =>
    rw [List.length_cons, List.range_succ_eq_map, List.filter_cons]
    have e : (List.filter (fun k => q ((x :: l).getD k 0)) (List.map Nat.succ (List.range l.length))).map (fun k => (x :: l).getD k 0) = l.filter q := by
      rw [List.filter_map, List.map_map, ← ih]; rfl
    rw [List.filter_cons]
    by_cases h : q x = true
    · rw [if_pos (by simpa using h), if_pos h, List.map_cons, e]; rfl
    · rw [if_neg (by simpa using h), if_neg h, e]
theorem lawLeads_len (t : List Int) (a b : Nat) : (lawLeads t a b).length ≤ 3 := by
  unfold lawLeads slist
  split <;> split <;> split <;> simp
theorem cmpV_small {w x y : Int} (h : w.natAbs ≤ 3) : (cmpV w x y).natAbs ≤ 3 := by
  unfold cmpV; split
  · omega
  · split <;> omega
section
variable {c : Cx} {P : Params} {L0 : Addr} {X' : Addr → Prop} {xs d w su t0 t1 of t bl lw on ld hv : List Int} {le tv : Int} {pi pj : Nat} {ms tr : List Nat} {sd : List (Int × Int)} {ct : List (Int × P2)} {fv : P2} {wv : Int} {tb : Nat} {en0 en1 en ent : En} {dm e1 e2 e3 e4 f1 f2 f3 f4 f5 f6 f7 f8 f9 g1 g2 g3 g4 : D} {Q : Fl → List D → Prop}
theorem tb6 (L : Law c P) (R : Room c.A 60) (ht : t.length = 8) (k : Ex (Cg c P L0 X') ((.ints xs :: .ints d :: .ints w :: sidesD sd :: dm :: .ints (mI ms) :: .ints (mI ms) :: .ints (mI ms) :: g1 :: e1 :: e2 :: e3 :: e4 :: kd fP ct :: .int wv :: .inst [.tup [.int 1, .int wv]] :: .inst [.tup [.int 1, .int (-wv)]] :: .list [.ints t0, .ints t1] :: .ints t :: .list [en0.d, en1.d] :: en.d :: .ints of :: .int (tb : Nat) :: ent.d :: .ints (mI tr) :: .ints [] :: fP fv :: .ints (lawLearned t).1 :: .int (lawLearned t).2 :: f7 :: f8 :: f9 :: g2 :: g3 :: g4 :: .unk :: .unk :: .ints su :: ([] : List D))) (execs ((forBody P).drop 7) (Ch c P L0).env) Q) : Ex (Cg c P L0 X') ((.ints xs :: .ints d :: .ints w :: sidesD sd :: dm :: .ints (mI ms) :: .ints (mI ms) :: .ints (mI ms) :: g1 :: e1 :: e2 :: e3 :: e4 :: kd fP ct :: .int wv :: .inst [.tup [.int 1, .int wv]] :: .inst [.tup [.int 1, .int (-wv)]] :: .list [.ints t0, .ints t1] :: .ints t :: .list [en0.d, en1.d] :: en.d :: .ints of :: .int (tb : Nat) :: ent.d :: .ints (mI tr) :: .ints [] :: fP fv :: f5 :: f6 :: f7 :: f8 :: f9 :: g2 :: g3 :: g4 :: .unk :: .unk :: .ints su :: ([] : List D))) (execs ((forBody P).drop 6) (Ch c P L0).env) Q := by
  have R1 : Room (Cg c P L0 X').A 59 := R.deeper _
  have L1 : Law (Cg c P L0 X') P := L.fn.hold.at
  refine ex_seg (c := Cg c P L0 X') (rest := (forBody P).drop 7) (by exact rfl) ?_
  exact ex_assign_tup (d := .tup [.ints (lawLearned t).1, .int (lawLearned t).2]) (ev_call1 (ev_gf L1 152) (nm 18) (kpr_fn L1 152) (c_learned L1 (R1.of_le (by decide)) t ht)) (as_tup (R1.of_le (by decide)) ⟨_, as_name 27 rfl (owg (by kernel_rfl) 9 (by kernel_rfl) (by decide)), _, as_name 28 rfl (owl hyg (by kernel_rfl)), rfl⟩) k
theorem tb7 (L : Law c P) (R : Room c.A 60) (hlw : lw.length = 4) (h1 : le ≤ 196) (h2 : tellV lw = t) (k : Ex (Cg c P L0 X') ((.ints xs :: .ints d :: .ints w :: sidesD sd :: dm :: .ints (mI ms) :: .ints (mI ms) :: .ints (mI ms) :: g1 :: e1 :: e2 :: e3 :: e4 :: kd fP ct :: .int wv :: .inst [.tup [.int 1, .int wv]] :: .inst [.tup [.int 1, .int (-wv)]] :: .list [.ints t0, .ints t1] :: .ints t :: .list [en0.d, en1.d] :: en.d :: .ints of :: .int (tb : Nat) :: ent.d :: .ints (mI tr) :: .ints [] :: fP fv :: .ints lw :: .int le :: f7 :: f8 :: f9 :: g2 :: g3 :: g4 :: .unk :: .unk :: .ints su :: ([] : List D))) (execs ((forBody P).drop 8) (Ch c P L0).env) Q) : Ex (Cg c P L0 X') ((.ints xs :: .ints d :: .ints w :: sidesD sd :: dm :: .ints (mI ms) :: .ints (mI ms) :: .ints (mI ms) :: g1 :: e1 :: e2 :: e3 :: e4 :: kd fP ct :: .int wv :: .inst [.tup [.int 1, .int wv]] :: .inst [.tup [.int 1, .int (-wv)]] :: .list [.ints t0, .ints t1] :: .ints t :: .list [en0.d, en1.d] :: en.d :: .ints of :: .int (tb : Nat) :: ent.d :: .ints (mI tr) :: .ints [] :: fP fv :: .ints lw :: .int le :: f7 :: f8 :: f9 :: g2 :: g3 :: g4 :: .unk :: .unk :: .ints su :: ([] : List D))) (execs ((forBody P).drop 7) (Ch c P L0).env) Q := by
  have R1 : Room (Cg c P L0 X').A 59 := R.deeper _
  have L1 : Law (Cg c P L0 X') P := L.fn.hold.at
  refine ex_seg (c := Cg c P L0 X') (rest := (forBody P).drop 8) (by exact rfl) ?_
  refine ex_if_false (evt_cast ?_ (evt_boolop (allT_or_cons (evt_cmp (nm 28) ev_int op_gt) fun _ => allT_or_cons (evt_cmp (ev_cast (d := .ints (tellV lw)) ?_ (ev_listcomp ["mask"] [("learned", 27)] (fun _ => true) (fun m => .int (if decide (lawSum lw m < 256) = true then 1 else 0)) (evi_range (n := 8) (R1.of_le (by decide)) (ev_gb L1 (.type "range")) ev_int (by decide)) ?_)) (nm 18) (op_ne_ints (R1.of_le (by decide)))) fun _ => allT_or_nil))) (ex_nil k)
  · rw [h2]
    have : decide (196 < le) = false := by simp; omega
    simp [this]
  · rw [upTo_length, ints_map]; rfl
  · intro wr C i e hd
    obtain ⟨hi, rfl⟩ := upTo_get hd
    exact ⟨_, as_name 0 rfl (owl yl_comp rfl), ⟨.inl rfl, .inr rfl, trivial⟩, test_nil, fun _ => ev_call1 (ev_gb L1.comp (.type "int")) (ev_call1 (ev_gf L1.comp 106) (ev_call2 (ev_gf L1.comp 132) (nm 1) (nm 0) (kpr_fn L1.comp 132) (c_sum L1.comp (by exact R1.of_le (by decide)) lw hlw i)) (kpr_fn L1.comp 106) (c_isterm L1.comp (by exact R1.of_le (by decide)) _)) kpr_type call_int_b⟩
theorem tb8 (L : Law c P) (R : Room c.A 60) (hs : sd.length = 3) (hn : ent.n.natAbs ≤ 1000000) (hsd : ∀ k, k < 3 → (sd.getD k (0, 0)).2 - (sd.getD k (0, 0)).1 ≠ 0 ∧ ((sd.getD k (0, 0)).2 - (sd.getD k (0, 0)).1).natAbs ≤ 1000000) (k : Ex (Cg c P L0 X') ((.ints xs :: .ints d :: .ints w :: sidesD sd :: dm :: .ints (mI ms) :: .ints (mI ms) :: .ints (mI ms) :: g1 :: e1 :: e2 :: e3 :: e4 :: kd fP ct :: .int wv :: .inst [.tup [.int 1, .int wv]] :: .inst [.tup [.int 1, .int (-wv)]] :: .list [.ints t0, .ints t1] :: .ints t :: .list [en0.d, en1.d] :: en.d :: .ints of :: .int (tb : Nat) :: ent.d :: .ints (mI tr) :: .ints [] :: fP fv :: .ints lw :: .int le :: .ints (onsV ent sd) :: f8 :: f9 :: g2 :: g3 :: g4 :: .unk :: .unk :: .ints su :: ([] : List D))) (execs ((forBody P).drop 9) (Ch c P L0).env) Q) : Ex (Cg c P L0 X') ((.ints xs :: .ints d :: .ints w :: sidesD sd :: dm :: .ints (mI ms) :: .ints (mI ms) :: .ints (mI ms) :: g1 :: e1 :: e2 :: e3 :: e4 :: kd fP ct :: .int wv :: .inst [.tup [.int 1, .int wv]] :: .inst [.tup [.int 1, .int (-wv)]] :: .list [.ints t0, .ints t1] :: .ints t :: .list [en0.d, en1.d] :: en.d :: .ints of :: .int (tb : Nat) :: ent.d :: .ints (mI tr) :: .ints [] :: fP fv :: .ints lw :: .int le :: f7 :: f8 :: f9 :: g2 :: g3 :: g4 :: .unk :: .unk :: .ints su :: ([] : List D))) (execs ((forBody P).drop 8) (Ch c P L0).env) Q := by
  have R1 : Room (Cg c P L0 X').A 59 := R.deeper _
  have L1 : Law (Cg c P L0 X') P := L.fn.hold.at
  refine ex_seg (c := Cg c P L0 X') (rest := (forBody P).drop 9) (by exact rfl) ?_
  have e : D.list (outs (fun _ => true) (fun k => .int (onV ent sd k)) (upTo 3).length) = .ints (onsV ent sd) := by rw [upTo_length, ints_map]; rfl
  refine ex_assign_listcomp (items := upTo 3) 29 ["k"] [("entry", 23), ("sides", 3)] (fun _ => true) (fun k => .int (onV ent sd k)) (evi_range (n := 3) (R1.of_le (by decide)) (ev_gb L1 (.type "range")) ev_int (by decide)) ?_ rfl (owl hyg (by kernel_rfl)) (by rw [e]; exact k)
  intro wr C i e hd
  obtain ⟨hi, rfl⟩ := upTo_get hd
  obtain ⟨h1, h2⟩ := hsd i hi
  refine ⟨_, as_name 0 rfl (owl yl_comp rfl), ⟨.inl rfl, .inr rfl, .inr rfl, trivial⟩, test_nil, fun _ => ?_⟩
  have gs : (sd.map fun p : Int × Int => D.tup [.int p.1, .int p.2])[((i : Nat) : Int).toNat]? = some (.tup [.int (sd.getD i (0, 0)).1, .int (sd.getD i (0, 0)).2]) := by
    rw [Int.toNat_natCast, List.getElem?_map, List.getElem?_eq_getElem (by omega)]
    simp [show i < sd.length by omega]
  refine ev_bin (ev_bin (ev_sub (nm 1) (ev_bin ev_int (nm 0) op_add) (op_item_tup (d := .int (enG ent i)) (by omega) (by omega) ?_)) (ev_bin (ev_sub (nm 1) ev_int (op_item_tup (d := .int ent.n) (by decide) (by decide) rfl)) (ev_sub (ev_sub (nm 2) (nm 0) (op_item_list (by omega) (by omega) gs)) ev_int (op_item_tup (d := .int (sd.getD i (0, 0)).1) (by decide) (by decide) rfl)) (op_mul (mul_ok hn))) op_sub)
    (ev_bin (ev_sub (ev_sub (nm 2) (nm 0) (op_item_list (by omega) (by omega) gs)) ev_int (op_item_tup (d := .int (sd.getD i (0, 0)).2) (by decide) (by decide) rfl)) (ev_sub (ev_sub (nm 2) (nm 0) (op_item_list (by omega) (by omega) gs)) ev_int (op_item_tup (d := .int (sd.getD i (0, 0)).1) (by decide) (by decide) rfl)) op_sub) (op_fdiv h1 (by omega))
  match i, hi with
  | 0, _ => rfl
  | 1, _ => rfl
  | 2, _ => rfl
end
end Mine
end
/-! ## part E17 -/
section
open PySem PySem.W PyProof.Rows
set_option maxRecDepth 100000
namespace Mine
noncomputable def HeavyOk (wv tv : Int) (pi pj : Nat) (hv : List Int) : Prop := ¬ (tv * cmpV (-wv) (hv.getD pi 0) (hv.getD pj 0) < 0) ∧ ¬ (cmpV (-wv) (hv.getD pi 0) (hv.getD pj 0) = 0 ∧ tv ≠ 0)
section
variable {c : Cx} {P : Params} {L0 : Addr} {X' : Addr → Prop} {xs d w su t0 t1 of t bl lw on ld hv : List Int} {le tv : Int} {pi pj : Nat} {ms tr : List Nat} {sd : List (Int × Int)} {ct : List (Int × P2)} {fv : P2} {wv : Int} {tb : Nat} {en0 en1 en ent : En} {dm e1 e2 e3 e4 f1 f2 f3 f4 f5 f6 f7 f8 f9 g1 g2 g3 g4 : D} {Q : Fl → List D → Prop}
theorem pb0 (L : Law c P) (R : Room c.A 60) (hi : pi < 3) (hj : pj < 3) (ho : on.length = 3) (k : Ex (Cg c P L0 X') ((.ints xs :: .ints d :: .ints w :: sidesD sd :: dm :: .ints (mI ms) :: .ints (mI ms) :: .ints (mI ms) :: .int (cmpV wv (on.getD pi 0) (on.getD pj 0)) :: e1 :: e2 :: e3 :: e4 :: kd fP ct :: .int wv :: .inst [.tup [.int 1, .int wv]] :: .inst [.tup [.int 1, .int (-wv)]] :: .list [.ints t0, .ints t1] :: .ints t :: .list [en0.d, en1.d] :: en.d :: .ints of :: .int (tb : Nat) :: ent.d :: .ints (mI tr) :: .ints [] :: fP fv :: .ints lw :: .int le :: .ints on :: .int (pi : Nat) :: .int (pj : Nat) :: g2 :: g3 :: g4 :: .unk :: .unk :: .ints su :: ([] : List D))) (execs ((pairBody P).drop 1) (Ch c P L0).env) Q) : Ex (Cg c P L0 X') ((.ints xs :: .ints d :: .ints w :: sidesD sd :: dm :: .ints (mI ms) :: .ints (mI ms) :: .ints (mI ms) :: g1 :: e1 :: e2 :: e3 :: e4 :: kd fP ct :: .int wv :: .inst [.tup [.int 1, .int wv]] :: .inst [.tup [.int 1, .int (-wv)]] :: .list [.ints t0, .ints t1] :: .ints t :: .list [en0.d, en1.d] :: en.d :: .ints of :: .int (tb : Nat) :: ent.d :: .ints (mI tr) :: .ints [] :: fP fv :: .ints lw :: .int le :: .ints on :: .int (pi : Nat) :: .int (pj : Nat) :: g2 :: g3 :: g4 :: .unk :: .unk :: .ints su :: ([] : List D))) (execs (pairBody P) (Ch c P L0).env) Q := by
  have R1 : Room (Cg c P L0 X').A 59 := R.deeper _
  have L1 : Law (Cg c P L0 X') P := L.fn.hold.at
  refine ex_seg (c := Cg c P L0 X') (rest := (pairBody P).drop 1) (by exact rfl) ?_
  exact ex_assign 8 (ev_meth (f := .ref 35) (nm 15) (evl_cons (ev_tup (evl_cons (nm 30) (evl_cons (ev_item (nm 29) (nm 30) (by (first | lia | omega)) (by (first | lia | omega))) evl_nil)) (Nat.le_of_ble_eq_true rfl)) (evl_cons (ev_tup (evl_cons (nm 31) (evl_cons (ev_item (nm 29) (nm 31) (by (first | lia | omega)) (by (first | lia | omega))) evl_nil)) (Nat.le_of_ble_eq_true rfl)) evl_nil)) evk_nil (meth_compare L1) (kpr_fn L1 35) (c_compare L1 (R1.of_le (by decide)) wv _ _ _ _)) rfl (owl hyg (by kernel_rfl)) k
theorem pb1 (L : Law c P) (R : Room c.A 60) (hi : pi < 3) (hj : pj < 3) (ht : t.length = 8) (h01 : ∀ x ∈ t, x = 0 ∨ x = 1) (k : Ex (Cg c P L0 X') ((.ints xs :: .ints d :: .ints w :: sidesD sd :: dm :: .ints (mI ms) :: .ints (mI ms) :: .ints (mI ms) :: .int tv :: e1 :: e2 :: e3 :: e4 :: kd fP ct :: .int wv :: .inst [.tup [.int 1, .int wv]] :: .inst [.tup [.int 1, .int (-wv)]] :: .list [.ints t0, .ints t1] :: .ints t :: .list [en0.d, en1.d] :: en.d :: .ints of :: .int (tb : Nat) :: ent.d :: .ints (mI tr) :: .ints [] :: fP fv :: .ints lw :: .int le :: .ints on :: .int (pi : Nat) :: .int (pj : Nat) :: .ints (ldL t pi pj) :: g3 :: g4 :: .unk :: .unk :: .ints su :: ([] : List D))) (execs ((pairBody P).drop 2) (Ch c P L0).env) Q) : Ex (Cg c P L0 X') ((.ints xs :: .ints d :: .ints w :: sidesD sd :: dm :: .ints (mI ms) :: .ints (mI ms) :: .ints (mI ms) :: .int tv :: e1 :: e2 :: e3 :: e4 :: kd fP ct :: .int wv :: .inst [.tup [.int 1, .int wv]] :: .inst [.tup [.int 1, .int (-wv)]] :: .list [.ints t0, .ints t1] :: .ints t :: .list [en0.d, en1.d] :: en.d :: .ints of :: .int (tb : Nat) :: ent.d :: .ints (mI tr) :: .ints [] :: fP fv :: .ints lw :: .int le :: .ints on :: .int (pi : Nat) :: .int (pj : Nat) :: g2 :: g3 :: g4 :: .unk :: .unk :: .ints su :: ([] : List D))) (execs ((pairBody P).drop 1) (Ch c P L0).env) Q := by
  have R1 : Room (Cg c P L0 X').A 59 := R.deeper _
  have L1 : Law (Cg c P L0 X') P := L.fn.hold.at
  have hp : 2 ^ pi < 8 := Nat.pow_lt_pow_right (by decide) hi
  have hp2 : 2 ^ pj < 8 := Nat.pow_lt_pow_right (by decide) hj
  have hlen := lawLeads_len t (2 ^ pi) (2 ^ pj)
  refine ex_seg (c := Cg c P L0 X') (rest := (pairBody P).drop 2) (by exact rfl) ?_
  refine ex_assign 32 (ev_ifexp (evt_cmp (nm 30) (nm 31) op_ne) (fun h => ?_) (fun h => ?_)) rfl (owl hyg (by kernel_rfl)) k
  · have hne : pi ≠ pj := by rintro rfl; simp at h
    refine ev_cast ?_ (ev_listcomp ["lead"] [] (fun k => (lawLeads t (2 ^ pi) (2 ^ pj)).getD k 0 != 0) (fun k => .int ((lawLeads t (2 ^ pi) (2 ^ pj)).getD k 0)) (evi (ev_call3 (ev_gf L1 147) (nm 18) (ev_bin ev_int (nm 30) (op_pow (by (first | lia | omega)))) (ev_bin ev_int (nm 31) (op_pow (by (first | lia | omega)))) (kpr_fn L1 147) (c_leads L1 (R1.of_le (by decide)) t ht h01 _ _ hp hp2)) (itd_list (tt := false) (R1.of_le (by decide)))) ?_ (hlen := by rw [List.length_map]; (first | lia | omega)))
    · rw [List.length_map, outs_int, range_filter_getD (fun x => x != 0), ldL, if_pos hne]
    · intro wr C i e hd
      obtain ⟨hi, rfl⟩ := itd_vals_get hd
      exact ⟨_, as_name 0 rfl (owl yl_comp rfl), ⟨.inl rfl, trivial⟩, test_one (evt_name (nm 0) true_int), fun _ => nm 0⟩
  · have he : pi = pj := by have h2 : (pi : Int) = pj := by simpa using h
                            (first | lia | omega)
    refine ev_cast ?_ (ev_list evl_nil (Nat.zero_le _))
    rw [ldL, if_neg (by simp [he])]; rfl
theorem pb2 (L : Law c P) (R : Room c.A 60) (hw : wv ≠ 0) (hws : wv.natAbs ≤ 3) (hld : ld = if tv = 0 then [] else [tv.fdiv wv]) (k : Ex (Cg c P L0 X') ((.ints xs :: .ints d :: .ints w :: sidesD sd :: dm :: .ints (mI ms) :: .ints (mI ms) :: .ints (mI ms) :: .int tv :: e1 :: e2 :: e3 :: e4 :: kd fP ct :: .int wv :: .inst [.tup [.int 1, .int wv]] :: .inst [.tup [.int 1, .int (-wv)]] :: .list [.ints t0, .ints t1] :: .ints t :: .list [en0.d, en1.d] :: en.d :: .ints of :: .int (tb : Nat) :: ent.d :: .ints (mI tr) :: .ints [] :: fP fv :: .ints lw :: .int le :: .ints on :: .int (pi : Nat) :: .int (pj : Nat) :: .ints ld :: g3 :: g4 :: .unk :: .unk :: .ints su :: ([] : List D))) (execs ((pairBody P).drop 3) (Ch c P L0).env) Q) : Ex (Cg c P L0 X') ((.ints xs :: .ints d :: .ints w :: sidesD sd :: dm :: .ints (mI ms) :: .ints (mI ms) :: .ints (mI ms) :: .int tv :: e1 :: e2 :: e3 :: e4 :: kd fP ct :: .int wv :: .inst [.tup [.int 1, .int wv]] :: .inst [.tup [.int 1, .int (-wv)]] :: .list [.ints t0, .ints t1] :: .ints t :: .list [en0.d, en1.d] :: en.d :: .ints of :: .int (tb : Nat) :: ent.d :: .ints (mI tr) :: .ints [] :: fP fv :: .ints lw :: .int le :: .ints on :: .int (pi : Nat) :: .int (pj : Nat) :: .ints ld :: g3 :: g4 :: .unk :: .unk :: .ints su :: ([] : List D))) (execs ((pairBody P).drop 2) (Ch c P L0).env) Q := by
  have R1 : Room (Cg c P L0 X').A 59 := R.deeper _
  have L1 : Law (Cg c P L0 X') P := L.fn.hold.at
  refine ex_seg (c := Cg c P L0 X') (rest := (pairBody P).drop 3) (by exact rfl) ?_
  refine ex_if_false (evt_cast ?_ (evt_cmp (nm 32) (ev_ifexp (d := .ints (if tv = 0 then [] else [tv.fdiv wv])) (evt_cmp (nm 8) ev_int op_eq) (fun h => ?_) (fun h => ?_)) (op_ne_ints (R1.of_le (by decide))))) (ex_nil k)
  · rw [← hld]; simp
  · have h : tv = 0 := by simpa using h
    exact ev_cast (by rw [if_pos h]; rfl) (ev_list evl_nil (Nat.zero_le _))
  · have h : ¬ tv = 0 := by simpa using h
    exact ev_cast (d' := .list [.int (tv.fdiv wv)]) (by rw [if_neg h]; rfl) (ev_list (evl_cons (ev_bin (nm 8) (nm 14) (op_fdiv hw (by (first | lia | omega)))) evl_nil) (Nat.le_of_ble_eq_true rfl))
theorem hb (L : Law c P) (R : Room c.A 60) (hi : pi < 3) (hj : pj < 3) (hl : hv.length = 4) (htv : tv.natAbs ≤ 3) (h : HeavyOk wv tv pi pj hv) (k : ∀ g4, Q .next ((.ints xs :: .ints d :: .ints w :: sidesD sd :: dm :: .ints (mI ms) :: .ints (mI ms) :: .ints (mI ms) :: .int tv :: e1 :: e2 :: e3 :: e4 :: kd fP ct :: .int wv :: .inst [.tup [.int 1, .int wv]] :: .inst [.tup [.int 1, .int (-wv)]] :: .list [.ints t0, .ints t1] :: .ints t :: .list [en0.d, en1.d] :: en.d :: .ints of :: .int (tb : Nat) :: ent.d :: .ints (mI tr) :: .ints [] :: fP fv :: .ints lw :: .int le :: .ints on :: .int (pi : Nat) :: .int (pj : Nat) :: .ints ld :: .ints hv :: g4 :: .unk :: .unk :: .ints su :: ([] : List D)))) : Ex (Cg c P L0 X') ((.ints xs :: .ints d :: .ints w :: sidesD sd :: dm :: .ints (mI ms) :: .ints (mI ms) :: .ints (mI ms) :: .int tv :: e1 :: e2 :: e3 :: e4 :: kd fP ct :: .int wv :: .inst [.tup [.int 1, .int wv]] :: .inst [.tup [.int 1, .int (-wv)]] :: .list [.ints t0, .ints t1] :: .ints t :: .list [en0.d, en1.d] :: en.d :: .ints of :: .int (tb : Nat) :: ent.d :: .ints (mI tr) :: .ints [] :: fP fv :: .ints lw :: .int le :: .ints on :: .int (pi : Nat) :: .int (pj : Nat) :: .ints ld :: .ints hv :: g4 :: .unk :: .unk :: .ints su :: ([] : List D))) (execs (heavyBody P) (Ch c P L0).env) Q := by
  have R1 : Room (Cg c P L0 X').A 59 := R.deeper _
  have L1 : Law (Cg c P L0 X') P := L.fn.hold.at
  refine ex_seg (c := Cg c P L0 X') (rest := (heavyBody P).drop 1) (by exact rfl) ?_
  refine ex_assign 34 (ev_meth (f := .ref 35) (nm 16) (evl_cons (ev_tup (evl_cons (nm 30) (evl_cons (ev_item (nm 33) (nm 30) (by (first | lia | omega)) (by (first | lia | omega))) evl_nil)) (Nat.le_of_ble_eq_true rfl)) (evl_cons (ev_tup (evl_cons (nm 31) (evl_cons (ev_item (nm 33) (nm 31) (by (first | lia | omega)) (by (first | lia | omega))) evl_nil)) (Nat.le_of_ble_eq_true rfl)) evl_nil)) evk_nil (meth_compare L1) (kpr_fn L1 35) (c_compare L1 (R1.of_le (by decide)) (-wv) _ _ _ _)) rfl (owl hyg (by kernel_rfl)) ?_
  obtain ⟨h1, h2⟩ := h
  generalize cmpV (-wv) (hv.getD pi 0) (hv.getD pj 0) = x at *
  refine ex_seg (c := Cg c P L0 X') (rest := (heavyBody P).drop 2) (by exact rfl) ?_
  refine ex_if_false (evt_cast ?_ (evt_boolop (allT_or_cons (evt_cmp (ev_bin (nm 8) (nm 34) (op_mul (mul_ok (by (first | lia | omega))))) ev_int op_lt) fun _ => allT_or_cons (evt_boolop (allT_and_cons (evt_cmp (nm 34) ev_int op_eq) fun _ => allT_and_cons (evt_cmp (nm 8) ev_int op_ne) fun _ => allT_and_nil)) fun _ => allT_or_nil))) (ex_nil ?_)
  · have h3 : decide (tv * x < 0) = false := by simpa using h1
    rw [h3]
    by_cases hx : x = 0
    · have : tv = 0 := Classical.byContradiction fun hn => h2 ⟨hx, hn⟩
      subst this; subst hx; rfl
    · simp [hx]
  · refine ex_body (c := Cg c P L0 X') (b' := []) (by exact rfl) (ex_nil ?_)
    exact k (.int x)
end
end Mine
end
/-! ## part E18 -/
section
open PySem PySem.W PyProof.Rows
set_option maxRecDepth 100000
namespace Mine
noncomputable def prs : List (Nat × Nat) := [(0, 1), (1, 0), (0, 2), (2, 0), (1, 2), (2, 1), (1, 1)]
structure PairOk (t lw w on : List Int) (wv : Int) (tb pi pj : Nat) : Prop where
  ld : ldL t pi pj = if cmpV wv (on.getD pi 0) (on.getD pj 0) = 0 then [] else [(cmpV wv (on.getD pi 0) (on.getD pj 0)).fdiv wv]
  heavy : ∀ h ∈ ([lw, w] : List (List Int)).take (2 - tb), HeavyOk wv (cmpV wv (on.getD pi 0) (on.getD pj 0)) pi pj h
noncomputable def fill : List (Option D) → (Nat → D) → Nat → List D
  | [], _, _ => []
  | some d :: p, u, i => d :: fill p u i
  | none :: p, u, i => u i :: fill p u (i + 1)
noncomputable def unfill : List (Option D) → List D → List D
  | some _ :: p, _ :: ds => unfill p ds
  | none :: p, d :: ds => d :: unfill p ds
  | _, _ => []
noncomputable abbrev Fits (p : List (Option D)) (ds : List D) : Prop := ∃ u, ds = fill p u 0
theorem fits {p : List (Option D)} {ds : List D} (h : ds = fill p (fun i => (unfill p ds).getD i .unk) 0) : Fits p ds := ⟨_, h⟩
section
variable {c : Cx} {P : Params} {L0 : Addr} {X' : Addr → Prop} {xs d w su t0 t1 of t bl lw on ld hv : List Int} {le tv : Int} {pi pj : Nat} {ms tr : List Nat} {sd : List (Int × Int)} {ct : List (Int × P2)} {fv : P2} {wv : Int} {tb : Nat} {en0 en1 en ent : En} {dm e1 e2 e3 e4 f1 f2 f3 f4 f5 f6 f7 f8 f9 g1 g2 g3 g4 : D} {Q : Fl → List D → Prop}
theorem pb3 (L : Law c P) (R : Room c.A 60) (hi : pi < 3) (hj : pj < 3) (hlw : lw.length = 4) (hw4 : w.length = 4) (htv : tv.natAbs ≤ 3) (htb : tb < 2) (h : ∀ h ∈ ([lw, w] : List (List Int)).take (2 - tb), HeavyOk wv tv pi pj h) (k : ∀ g3 g4, Q .next ((.ints xs :: .ints d :: .ints w :: sidesD sd :: dm :: .ints (mI ms) :: .ints (mI ms) :: .ints (mI ms) :: .int tv :: e1 :: e2 :: e3 :: e4 :: kd fP ct :: .int wv :: .inst [.tup [.int 1, .int wv]] :: .inst [.tup [.int 1, .int (-wv)]] :: .list [.ints t0, .ints t1] :: .ints t :: .list [en0.d, en1.d] :: en.d :: .ints of :: .int (tb : Nat) :: ent.d :: .ints (mI tr) :: .ints [] :: fP fv :: .ints lw :: .int le :: .ints on :: .int (pi : Nat) :: .int (pj : Nat) :: .ints ld :: g3 :: g4 :: .unk :: .unk :: .ints su :: ([] : List D)))) :
    Ex (Cg c P L0 X') ((.ints xs :: .ints d :: .ints w :: sidesD sd :: dm :: .ints (mI ms) :: .ints (mI ms) :: .ints (mI ms) :: .int tv :: e1 :: e2 :: e3 :: e4 :: kd fP ct :: .int wv :: .inst [.tup [.int 1, .int wv]] :: .inst [.tup [.int 1, .int (-wv)]] :: .list [.ints t0, .ints t1] :: .ints t :: .list [en0.d, en1.d] :: en.d :: .ints of :: .int (tb : Nat) :: ent.d :: .ints (mI tr) :: .ints [] :: fP fv :: .ints lw :: .int le :: .ints on :: .int (pi : Nat) :: .int (pj : Nat) :: .ints ld :: g3 :: g4 :: .unk :: .unk :: .ints su :: ([] : List D))) (execs ((pairBody P).drop 3) (Ch c P L0).env) Q := by
  have R1 : Room (Cg c P L0 X').A 59 := R.deeper _
  have L1 : Law (Cg c P L0 X') P := L.fn.hold.at
  refine ex_seg (c := Cg c P L0 X') (rest := (pairBody P).drop 4) (by exact rfl) ?_
  refine ex_for (Inv := fun n ds => Fits (some (.ints xs) :: some (.ints d) :: some (.ints w) :: some (sidesD sd) :: some (dm) :: some (.ints (mI ms)) :: some (.ints (mI ms)) :: some (.ints (mI ms)) :: some (.int tv) :: some (e1) :: some (e2) :: some (e3) :: some (e4) :: some (kd fP ct) :: some (.int wv) :: some (.inst [.tup [.int 1, .int wv]]) :: some (.inst [.tup [.int 1, .int (-wv)]]) :: some (.list [.ints t0, .ints t1]) :: some (.ints t) :: some (.list [en0.d, en1.d]) :: some (en.d) :: some (.ints of) :: some (.int (tb : Nat)) :: some (ent.d) :: some (.ints (mI tr)) :: some (.ints []) :: some (fP fv) :: some (.ints lw) :: some (.int le) :: some (.ints on) :: some (.int (pi : Nat)) :: some (.int (pj : Nat)) :: some (.ints ld) :: none :: none :: some (.unk) :: some (.unk) :: some (.ints su) :: ([] : List (Option D))) ds) (evi (ev_slice_upto (l := [.ints lw, .ints w]) (b := 2 - (tb : Int)) (ev_list (evl_cons (nm 27) (evl_cons (nm 2) evl_nil)) (Nat.le_of_ble_eq_true rfl)) (ev_bin ev_int (nm 22) op_sub) (by (first | lia | omega)) (Nat.le_of_ble_eq_true rfl)) (itd_list (tt := false) (R1.of_le (by decide)))) rfl (fits rfl) ?_ ?_ (R1.of_le (by decide))
  · rintro wr n e _ hd ⟨u, rfl⟩
    have e1 : ([D.ints lw, D.ints w] : List D).take (2 - (tb : Int)).toNat = (([lw, w] : List (List Int)).take (2 - tb)).map D.ints := by
      rw [List.map_take]
      congr 1
      (first | lia | omega)
    rw [e1, List.getElem?_map] at hd
    cases hq : (([lw, w] : List (List Int)).take (2 - tb))[n]? with
    | none => rw [hq] at hd; cases hd
    | some hv =>
      rw [hq] at hd; cases hd
      have hm := List.mem_of_getElem? hq
      have hl : hv.length = 4 := by
        have := List.mem_of_mem_take hm
        simp only [List.mem_cons, List.not_mem_nil, or_false] at this
        rcases this with rfl | rfl <;> assumption
      exact ⟨_, as_name 33 rfl (owl hyg (by kernel_rfl)), Mine.hb (X' := XW X' wr) L R hi hj hl htv (h hv hm) fun g4 => (fits rfl)⟩
  · rintro _ ⟨u, rfl⟩
    refine ex_body (c := Cg c P L0 X') (b' := []) (by exact rfl) (ex_nil ?_)
    exact k _ _
theorem tb9 (L : Law c P) (R : Room c.A 60) (ht : t.length = 8) (h01 : ∀ x ∈ t, x = 0 ∨ x = 1) (hon : on.length = 3) (hlw : lw.length = 4) (hw4 : w.length = 4) (hw : wv ≠ 0) (hws : wv.natAbs ≤ 3) (htb : tb < 2) (h : ∀ p ∈ prs, PairOk t lw w on wv tb p.1 p.2) (k : ∀ f8 f9 g1 g2 g3 g4, Q .next ((.ints xs :: .ints d :: .ints w :: sidesD sd :: dm :: .ints (mI ms) :: .ints (mI ms) :: .ints (mI ms) :: g1 :: e1 :: e2 :: e3 :: e4 :: kd fP ct :: .int wv :: .inst [.tup [.int 1, .int wv]] :: .inst [.tup [.int 1, .int (-wv)]] :: .list [.ints t0, .ints t1] :: .ints t :: .list [en0.d, en1.d] :: en.d :: .ints of :: .int (tb : Nat) :: ent.d :: .ints (mI tr) :: .ints [] :: fP fv :: .ints lw :: .int le :: .ints on :: f8 :: f9 :: g2 :: g3 :: g4 :: .unk :: .unk :: .ints su :: ([] : List D)))) :
    Ex (Cg c P L0 X') ((.ints xs :: .ints d :: .ints w :: sidesD sd :: dm :: .ints (mI ms) :: .ints (mI ms) :: .ints (mI ms) :: g1 :: e1 :: e2 :: e3 :: e4 :: kd fP ct :: .int wv :: .inst [.tup [.int 1, .int wv]] :: .inst [.tup [.int 1, .int (-wv)]] :: .list [.ints t0, .ints t1] :: .ints t :: .list [en0.d, en1.d] :: en.d :: .ints of :: .int (tb : Nat) :: ent.d :: .ints (mI tr) :: .ints [] :: fP fv :: .ints lw :: .int le :: .ints on :: f8 :: f9 :: g2 :: g3 :: g4 :: .unk :: .unk :: .ints su :: ([] : List D))) (execs ((forBody P).drop 9) (Ch c P L0).env) Q := by
  have R1 : Room (Cg c P L0 X').A 59 := R.deeper _
  have L1 : Law (Cg c P L0 X') P := L.fn.hold.at
  refine ex_seg (c := Cg c P L0 X') (rest := (forBody P).drop 10) (by exact rfl) ?_
  refine ex_for (items := prs.map fun p => D.tup [.int (p.1 : Nat), .int (p.2 : Nat)]) (tt := true) (Inv := fun n ds => Fits (some (.ints xs) :: some (.ints d) :: some (.ints w) :: some (sidesD sd) :: some (dm) :: some (.ints (mI ms)) :: some (.ints (mI ms)) :: some (.ints (mI ms)) :: none :: some (e1) :: some (e2) :: some (e3) :: some (e4) :: some (kd fP ct) :: some (.int wv) :: some (.inst [.tup [.int 1, .int wv]]) :: some (.inst [.tup [.int 1, .int (-wv)]]) :: some (.list [.ints t0, .ints t1]) :: some (.ints t) :: some (.list [en0.d, en1.d]) :: some (en.d) :: some (.ints of) :: some (.int (tb : Nat)) :: some (ent.d) :: some (.ints (mI tr)) :: some (.ints []) :: some (fP fv) :: some (.ints lw) :: some (.int le) :: some (.ints on) :: none :: none :: none :: none :: none :: some (.unk) :: some (.unk) :: some (.ints su) :: ([] : List (Option D))) ds)
    (evi (ev_tup (evl_cons (ev_tup (evl_cons ev_int (evl_cons ev_int evl_nil)) (Nat.le_of_ble_eq_true rfl)) (evl_cons (ev_tup (evl_cons ev_int (evl_cons ev_int evl_nil)) (Nat.le_of_ble_eq_true rfl)) (evl_cons (ev_tup (evl_cons ev_int (evl_cons ev_int evl_nil)) (Nat.le_of_ble_eq_true rfl)) (evl_cons (ev_tup (evl_cons ev_int (evl_cons ev_int evl_nil)) (Nat.le_of_ble_eq_true rfl)) (evl_cons (ev_tup (evl_cons ev_int (evl_cons ev_int evl_nil)) (Nat.le_of_ble_eq_true rfl)) (evl_cons (ev_tup (evl_cons ev_int (evl_cons ev_int evl_nil)) (Nat.le_of_ble_eq_true rfl)) (evl_cons (ev_tup (evl_cons ev_int (evl_cons ev_int evl_nil)) (Nat.le_of_ble_eq_true rfl)) evl_nil))))))) (Nat.le_of_ble_eq_true rfl)) (itd_tup (R1.of_le (by decide)))) rfl (fits rfl) ?_ ?_ (R1.of_le (by decide))
  · rintro wr n e _ hd ⟨u, rfl⟩
    rw [List.getElem?_map] at hd
    cases hq : prs[n]? with
    | none => rw [hq] at hd; cases hd
    | some p =>
      rw [hq] at hd; cases hd
      have hm := List.mem_of_getElem? hq
      have hp : p.1 < 3 ∧ p.2 < 3 := by
        have : ∀ p ∈ prs, p.1 < 3 ∧ p.2 < 3 := by decide
        exact this p hm
      obtain ⟨o1, o2⟩ := h p hm
      have hs := cmpV_small (x := on.getD p.1 0) (y := on.getD p.2 0) hws
      exact ⟨_, as_tup (by exact R1.of_le (by decide)) ⟨_, as_name 30 rfl (owl hyg (by kernel_rfl)), _, as_name 31 rfl (owl hyg (by kernel_rfl)), rfl⟩,
        pb0 (X' := XW X' wr) L R hp.1 hp.2 hon (pb1 L R hp.1 hp.2 ht h01 (pb2 L R hw hws o1 (pb3 L R hp.1 hp.2 hlw hw4 hs htb o2 fun g3 g4 => (fits rfl))))⟩
  · rintro _ ⟨u, rfl⟩
    refine ex_body (c := Cg c P L0 X') (b' := []) (by exact rfl) (ex_nil ?_)
    exact k _ _ _ _ _ _
end
end Mine
end
/-! ## part E19 -/
section
open PySem PySem.W PyProof.Rows
set_option maxRecDepth 100000
namespace Mine
structure TblF (ct : List (Int × P2)) (sd : List (Int × Int)) (w t : List Int) (wv : Int) (tb : Nat) (ent : En) : Prop where
  len : t.length = 8
  h01 : ∀ x ∈ t, x = 0 ∨ x = 1
  eq : EnEq ent ⟨((trN t).length : Nat), trS (trN t) sd 0, trS (trN t) sd 1, trS (trN t) sd 2, trD (trN t)⟩
  fv : ∃ fv, kget ct (enKey ent) = some fv ∧ decide (fv = (1, trP (trN t))) = decide (bentL t = [])
  small : ent.n.natAbs ≤ 1000000
  le : bentL t = [] → (lawLearned t).2 ≤ 196
  tell : bentL t = [] → tellV (lawLearned t).1 = t
  pairs : bentL t = [] → ∀ p ∈ prs, PairOk t (lawLearned t).1 w (onsV ent sd) wv tb p.1 p.2
theorem lrn_len {truth : List Int} : ∀ n {s : WE}, s.1.length = 4 → (lrn truth s n).1.length = 4
  | 0, _, h => h
  | n + 1, s, h => by
    unfold lrn; split
    · exact lp_len h 8
    · exact lrn_len n (lp_len h 8)
theorem trN_lt {t : List Int} : ∀ m ∈ trN t, m < 8 := fun m h => by
  have := (List.mem_filter.mp h).1
  simpa using this
theorem trN_len {t : List Int} : (trN t).length ≤ 8 := by
  have := List.length_filter_le (fun m => t.getD m 0 != 0) (List.range 8)
  simpa [trN] using this
theorem bentL_len {t : List Int} : (bentL t).length ≤ 3 := by
  have := List.length_filter_le (bentB t) (List.range 3)
  simpa [bentL] using this
section
variable {c : Cx} {P : Params} {L0 : Addr} {X' : Addr → Prop} {xs d w su t0 t1 of t bl lw on ld hv : List Int} {le tv : Int} {pi pj : Nat} {ms tr : List Nat} {sd : List (Int × Int)} {ct : List (Int × P2)} {fv : P2} {wv : Int} {tb : Nat} {en0 en1 en ent : En} {dm e1 e2 e3 e4 f1 f2 f3 f4 f5 f6 f7 f8 f9 g1 g2 g3 g4 : D} {Q : Fl → List D → Prop}
theorem seg23 (L : Law c P) (R : Room c.A 60) (hs : sd.length = 3) (hw4 : w.length = 4) (hw : wv ≠ 0) (hws : wv.natAbs ≤ 3)
    (hsd : ∀ k, k < 3 → (sd.getD k (0, 0)).2 - (sd.getD k (0, 0)).1 ≠ 0 ∧ ((sd.getD k (0, 0)).2 - (sd.getD k (0, 0)).1).natAbs ≤ 1000000)
    (T0 : TblF ct sd w t0 wv 0 en0) (T1 : TblF ct sd w t1 wv 1 en1)
    (k : ∀ u1 u2 f1 f2 f3 f4 f5 f6 f7 f8 f9 g1 g2 g3 g4, Ex (Ch c P L0) ((.ints xs :: .ints d :: .ints w :: sidesD sd :: dm :: .ints (mI ms) :: .ints (mI ms) :: .ints (mI ms) :: g1 :: e1 :: e2 :: e3 :: e4 :: kd fP ct :: .int wv :: .inst [.tup [.int 1, .int wv]] :: .inst [.tup [.int 1, .int (-wv)]] :: .list [.ints t0, .ints t1] :: u2 :: .list [en0.d, en1.d] :: en.d :: .ints of :: u1 :: f1 :: f2 :: f3 :: f4 :: f5 :: f6 :: f7 :: f8 :: f9 :: g2 :: g3 :: g4 :: .unk :: .unk :: .ints su :: ([] : List D))) (execs ((lawBody P).drop 24) (Ch c P L0).env) Q) :
    Ex (Ch c P L0) ((.ints xs :: .ints d :: .ints w :: sidesD sd :: dm :: .ints (mI ms) :: .ints (mI ms) :: .ints (mI ms) :: g1 :: e1 :: e2 :: e3 :: e4 :: kd fP ct :: .int wv :: .inst [.tup [.int 1, .int wv]] :: .inst [.tup [.int 1, .int (-wv)]] :: .list [.ints t0, .ints t1] :: .unk :: .list [en0.d, en1.d] :: en.d :: .ints of :: .unk :: .unk :: .unk :: .unk :: .unk :: .unk :: .unk :: .unk :: .unk :: .unk :: .unk :: .unk :: .unk :: .unk :: .unk :: .ints su :: ([] : List D))) (execs ((lawBody P).drop 23) (Ch c P L0).env) Q := by
  have R1 : Room (Ch c P L0).A 59 := R.deeper _
  have L1 : Law (Ch c P L0) P := L.fn.hold
  refine ex_seg (rest := (lawBody P).drop 24) (by exact rfl) ?_
  refine ex_for (Inv := fun n ds => Fits (some (.ints xs) :: some (.ints d) :: some (.ints w) :: some (sidesD sd) :: some (dm) :: some (.ints (mI ms)) :: some (.ints (mI ms)) :: some (.ints (mI ms)) :: none :: some (e1) :: some (e2) :: some (e3) :: some (e4) :: some (kd fP ct) :: some (.int wv) :: some (.inst [.tup [.int 1, .int wv]]) :: some (.inst [.tup [.int 1, .int (-wv)]]) :: some (.list [.ints t0, .ints t1]) :: none :: some (.list [en0.d, en1.d]) :: some (en.d) :: some (.ints of) :: none :: none :: none :: none :: none :: none :: none :: none :: none :: none :: none :: none :: none :: some (.unk) :: some (.unk) :: some (.ints su) :: ([] : List (Option D))) ds) (evi_enumerate (l := [.ints t0, .ints t1]) (R1.of_le (by decide)) (ev_gb L1 (.type "enumerate")) (nm 17)) rfl (fits rfl) ?_ ?_ (R1.of_le (by decide))
  · rintro wr n e _ hd ⟨u, rfl⟩
    obtain ⟨hn, rfl⟩ := numbered_get hd
    have H : ∃ t ent, ([.ints t0, .ints t1] : List D).getD n .unk = .ints t ∧ ([D.tup [.int en0.n, .int en0.a, .int en0.b, .int en0.c, kd D.int en0.m], en1.d] : List D)[n]? = some ent.d ∧ TblF ct sd w t wv n ent := by
      match n, hn with
      | 0, _ => exact ⟨t0, en0, rfl, rfl, T0⟩
      | 1, _ => exact ⟨t1, en1, rfl, rfl, T1⟩
    have hn : n < 2 := hn
    obtain ⟨t, ent, ht, hen, F⟩ := H
    obtain ⟨fv, hf, hfv⟩ := F.fv
    rw [ht]
    refine ⟨_, as_tup (by exact R1.of_le (by decide)) ⟨_, as_name 22 rfl (owl hyg (by kernel_rfl)), _, as_name 18 rfl (owg (by kernel_rfl) 5 (by kernel_rfl) (by decide)), rfl⟩, ?_⟩
    refine tb0 (X' := XW (Ch c P L0).X wr) L R F.len ent hen hn (tb1 L R hs trN_lt trN_len F.eq (tb2 L R F.len F.h01 (tb3 L R hf (tb4 L R trN_lt trN_len hfv (tb5 L R bentL_len (fun _ => (fits rfl)) fun hb => ?_)))))
    rw [hb]
    exact tb6 L R F.len (tb7 L R (lrn_len 197 rfl) (F.le hb) (F.tell hb) (tb8 L R hs F.small hsd (tb9 L R F.len F.h01 rfl (lrn_len 197 rfl) hw4 hw hws hn (F.pairs hb) fun f8 f9 g1 g2 g3 g4 => (fits rfl))))
  · rintro _ ⟨u, rfl⟩
    exact k _ _ _ _ _ _ _ _ _ _ _ _ _ _ _
end
end Mine
end
/-! ## part E20 -/
section
open PySem PySem.W PyProof.Rows
set_option maxRecDepth 100000
namespace Mine
section
variable {c : Cx} {P : Params} {ds : List D}
theorem raise_call {func : Expr} {args : List Expr} {kws : List Keyword} {pos p : Pos} {df : D} {l : List D} {kw : List (Str × D)} (hA : c.A.frames = some [c.env]) (hf0 : c.env.frame = some c.env.locals) (hf : Ev c ds func df) (ha : EvL c ds pos args l) (hk : EvK c ds pos kws kw) (kp : Kpr c df) (C : CallR c df l kw)
    (hn : noStar args = true := by rfl) (hq : eval (.Call func args kws pos) c.env = (do callWith pos (← eval func c.env) [] (backTo pos (starEach args c.env)) (backToKw pos (keywordEach kws c.env))) := by rfl)
    (hx : exec (.Expr (.Call func args kws pos) p) c.env = (do standAt p; dropValue (.Call func args kws pos) p (← eval (.Call func args kws pos) c.env)) := by rfl) (s : Shared) (S : St c ds s) :
    wpAny c.M c.A (exec (.Expr (.Call func args kws pos) p) c.env) (fun _ _ => False) (fun e s' => ∃ s1 W B s2 ea t tk, e = .ref ea ∧ Ext s s1 ∧ PreR W s1 s2 ∧ (∀ b ∈ W, ¬ tb b) ∧ Rsd (W ++ fadr [c.env]) [c.env] B s2 s' ea t tk) s := by
  rw [hx]
  refine wpAny_bind (wpAny_standAt (wpAny_bind ?_))
  rw [hq]
  refine wpAny_bind (wpAny_mono (hf.run s _ S) (fun v s1 zz => ?_) fun _ _ x => x)
  obtain ⟨e1, r1⟩ := zz
  refine callWith_rule (S.ext e1) hn ha hk (fun s' x => kp _ _ ((S.ext e1).ext x).base (D.rep_mono x.keep.fz _ _ r1)) fun s' vs ks x rv rk => ?_
  have S' := (S.ext e1).ext x
  refine wpAny_mono (C s' v vs ks _ S'.base hA (framesOk_push S'.fr (.refl _) hf0 (fun e h => by cases h)) (D.rep_mono x.keep.fz _ _ r1) rv rk) (fun _ _ h => h.elim) fun e s4 zz => ?_
  obtain ⟨W, B, s2, ea, t, tk, ee, p, nt, R⟩ := zz
  exact ⟨s', W, B, s2, ea, t, tk, ee, e1.trans x, p, nt, R⟩
theorem op_ne_str {x y : Str} : Op2 c (compareOp .NotEq) (.str x) (.str y) (.bool (x != y)) := by
  rintro s E v1 v2 B ⟨t, rfl⟩ ⟨u, rfl⟩; exact PyProof.Rows.ne_str ⟨.refl s, rfl⟩
theorem Law.mark {e : Addr} (L : Law c P) : Law (c.mark e) P := ⟨L.X, L.lim, L.g⟩
end
section
variable {c : Cx} {P : Params} {L0 : Addr} {X' : Addr → Prop} {xs d w su t0 t1 of t bl lw on ld hv : List Int} {le tv : Int} {pi pj : Nat} {ms tr : List Nat} {sd : List (Int × Int)} {ct : List (Int × P2)} {fv : P2} {wv : Int} {tb : Nat} {en0 en1 en ent : En} {dm e1 e2 e3 e4 f1 f2 f3 f4 f5 f6 f7 f8 f9 g1 g2 g3 g4 u1 u2 : D} {Q : Fl → List D → Prop}
noncomputable abbrev srch : List D := [.val (.ref 99), .val (.ref 81), .val (.ref 90), .val (.ref 72)]
theorem search_ok {c' : Cx} {params : Arguments} {scope : Scope} {x : Str} {lo : Int} {p1 p2 p3 : Pos} (L : Law c' P) (R : Room c'.A 20) (hs : su.length = 8) (hm : ∀ m ∈ ms, m < 8) (hl : ms ≠ []) (hlo : lo < 0)
    (hbind : ∀ pm cv ctv ca v, bindArgs (PySem.W.kla_fn "<lambda>" "law.<locals>.<lambda>" params (.Subscript (.Name "sums" p1) (.Name x p2) p3) scope [(("sums" : Str), ca)] pm cv ctv) ⟨[v], []⟩ = pure [(x, v)]) (ok : lamOkB scope x "sums" = true) :
    ∀ e ∈ srch, CallR c' e [.ints (mI ms), .int ((mI ms).getD 0 0), .int lo] [("key", .any (lamP params (.Subscript (.Name "sums" p1) (.Name x p2) p3) scope "sums" (.ints su)))] := by
  have K := key_sums (c' := c') (su := su) (l := (mI ms).map D.int) (ms := ms) L hs ⟨by rw [mI, List.map_map]; rfl, hm⟩ hbind ok
  have hx : ((mI ms).map D.int)[0]? = some (.int ((mI ms).getD 0 0)) := by
    cases ms with
    | nil => exact absurd rfl hl
    | cons a b => rfl
  intro e he
  simp only [srch, List.mem_cons, List.not_mem_nil, or_false] at he
  rcases he with rfl | rfl | rfl | rfl
  · exact cR_bis 99 L (R.of_le (by decide)) hlo kb99_3k (by rfl)
  · exact cR_bis 81 L (R.of_le (by decide)) hlo kb81_3k (by rfl)
  · exact cR_ins 90 99 (bn := "bisect_left") (i := 0) L (R.of_le (by decide)) hlo K hx rfl rfl kb90_3k (fun c1 L1 R1 => cR_bis 99 L1 R1 hlo kb99_4k (by rfl)) (by rfl) (by kernel_rfl) (by kernel_rfl) (by rfl) (by kernel_rfl) (fun _ => by rfl)
  · exact cR_ins 72 81 (bn := "bisect_right") (i := 0) L (R.of_le (by decide)) hlo K hx rfl rfl kb72_3k (fun c1 L1 R1 => cR_bis 81 L1 R1 hlo kb81_4k (by rfl)) (by rfl) (by kernel_rfl) (by kernel_rfl) (by rfl) (by kernel_rfl) (fun _ => by rfl)
theorem search_kpr {c' : Cx} (L : Law c' P) : ∀ e ∈ srch, Kpr c' e := by
  intro e he
  simp only [srch, List.mem_cons, List.not_mem_nil, or_false] at he
  rcases he with rfl | rfl | rfl | rfl
  · exact kpr_fn L 99
  · exact kpr_fn L 81
  · exact kpr_fn L 90
  · exact kpr_fn L 72
theorem seg24 (L : Law c P) (T : TopOk c.H) (R : Room c.A 60) (hA : c.A.frames = some []) (hs : su.length = 8) (hm : ∀ m ∈ ms, m < 8) (hl : ms.length = 8) (hd : d.length = 11)
    (k : ∀ sr, Ex (Ch c P L0) ((.ints xs :: .ints d :: .ints w :: sidesD sd :: dm :: .ints (mI ms) :: .ints (mI ms) :: .ints (mI ms) :: g1 :: e1 :: e2 :: e3 :: e4 :: kd fP ct :: .int wv :: .inst [.tup [.int 1, .int wv]] :: .inst [.tup [.int 1, .int (-wv)]] :: .list [.ints t0, .ints t1] :: u2 :: .list [en0.d, en1.d] :: en.d :: .ints of :: u1 :: f1 :: f2 :: f3 :: f4 :: f5 :: f6 :: f7 :: f8 :: f9 :: g2 :: g3 :: g4 :: sr :: .unk :: .ints su :: ([] : List D))) (execs ((lawBody P).drop 25) (Ch c P L0).env) Q) :
    Ex (Ch c P L0) ((.ints xs :: .ints d :: .ints w :: sidesD sd :: dm :: .ints (mI ms) :: .ints (mI ms) :: .ints (mI ms) :: g1 :: e1 :: e2 :: e3 :: e4 :: kd fP ct :: .int wv :: .inst [.tup [.int 1, .int wv]] :: .inst [.tup [.int 1, .int (-wv)]] :: .list [.ints t0, .ints t1] :: u2 :: .list [en0.d, en1.d] :: en.d :: .ints of :: u1 :: f1 :: f2 :: f3 :: f4 :: f5 :: f6 :: f7 :: f8 :: f9 :: g2 :: g3 :: g4 :: .unk :: .unk :: .ints su :: ([] : List D))) (execs ((lawBody P).drop 24) (Ch c P L0).env) Q := by
  have R1 : Room (Ch c P L0).A 59 := R.deeper _
  have L1 : Law (Ch c P L0) P := L.fn.hold
  refine ex_seg (rest := (lawBody P).drop 25) (by exact rfl) ?_
  refine ex_forA (items := srch) (tt := false) (Inv := fun n ds => ∃ sr, ds = ((.ints xs :: .ints d :: .ints w :: sidesD sd :: dm :: .ints (mI ms) :: .ints (mI ms) :: .ints (mI ms) :: g1 :: e1 :: e2 :: e3 :: e4 :: kd fP ct :: .int wv :: .inst [.tup [.int 1, .int wv]] :: .inst [.tup [.int 1, .int (-wv)]] :: .list [.ints t0, .ints t1] :: u2 :: .list [en0.d, en1.d] :: en.d :: .ints of :: u1 :: f1 :: f2 :: f3 :: f4 :: f5 :: f6 :: f7 :: f8 :: f9 :: g2 :: g3 :: g4 :: sr :: .unk :: .ints su :: ([] : List D)))) (evi (ev_tup (evl_cons (ev_gf L1 99) (evl_cons (ev_gf L1 81) (evl_cons (ev_gf L1 90) (evl_cons (ev_gf L1 72) evl_nil)))) (Nat.le_of_ble_eq_true rfl)) (itd_tup (R1.of_le (by decide)))) rfl ⟨_, rfl⟩ ?_ ?_ (R1.of_le (by decide))
  · rintro wr ap n sr _ he ⟨_, rfl⟩
    have hX : ¬ (XW (Ch c P L0).X wr) (L0 + 10) := by
      rintro (h | h)
      · exact h.2 rfl
      · exact ap.cel _ _ (hca (c := c) (P := P)) (by have hk : (Cl c P L0).env.kindOf ("sums" : Str) = some .cell := by kernel_rfl
                                                     show (Cl c P L0).env.kindOf ("sums" : Str) ≠ _
                                                     rw [hk]; simp) h
    have hsr : sr ∈ srch := List.mem_of_getElem? he
    have hkn : sr.known = true := by
      simp only [srch, List.mem_cons, List.not_mem_nil, or_false] at hsr
      rcases hsr with rfl | rfl | rfl | rfl <;> rfl
    have L2 : Law (Cg c P L0 (XW (Ch c P L0).X wr)) P := L.fn.hold.at
    have hm0 : ms ≠ [] := by rintro rfl; simp at hl
    have hlo : -1 - d.getD 0 0 % 3 < 0 := by (first | lia | omega)
    refine ⟨_, as_name 35 rfl (owl hyh (by kernel_rfl)), ?_⟩
    refine ex_cons (c := Cg c P L0 (XW (Ch c P L0).X wr)) (ex_try 36 L2 (Around.frames_deeper hA) rfl hyg rfl (by kernel_rfl) (by kernel_rfl) (by kernel_rfl) ?_ ?_)
    · refine raise_call (Around.frames_deeper hA) rfl (ev_name 35 rfl rfl hkn) (evl_cons (nm 6) (evl_cons (ev_item (k := 0) (nm 6) ev_int (by rw [mI_len]; (first | lia | omega)) (by decide)) (evl_cons (ev_bin (ev_un ev_int op_neg) (ev_bin (ev_item (k := 0) (nm 1) ev_int (by (first | lia | omega)) (by decide)) ev_int (op_mod (by decide))) op_sub) evl_nil))) (evk_one (lam_ev (c := c) (su := su) T rfl rfl hX rfl rfl rfl)) (search_kpr L2 sr hsr) ?_
      exact search_ok L2 (by exact R1.of_le (by decide)) hs hm hm0 hlo (fun _ _ _ _ _ => rfl) rfl sr hsr
    · intro ea
      have L3 : Law ((Cg c P L0 (XW (Ch c P L0).X wr)).mark ea) P := L2.mark
      have hu := R1.units
      refine ex_cons (ex_if_false (evt_cast ?_ (evt_boolop (allT_or_cons (evt_cmp (ev_call1 (ev_gb L3 (.type "str")) (nm 36) kpr_type (call_str_exc (by show (Ch c P L0).A.units + 2 < _; (first | lia | omega)))) ev_str op_ne_str) fun _ => allT_or_cons (evt_cmp (nm 6) (nm 5) (op_ne_ints' (by show (Ch c P L0).A.units + 100 < _; (first | lia | omega)))) fun _ => allT_or_nil))) (ex_nil (ex_nil ?_)))
      · simp [msgE]
      · exact ⟨rfl, ex_nil ⟨_, rfl⟩⟩
  · rintro _ ⟨sr, rfl⟩
    exact k _
end
end Mine
end
/-! ## part E21 -/
section
open PySem PySem.W PyProof.Rows
set_option maxRecDepth 100000
namespace Mine
structure LawF (d w su : List Int) (sd : List (Int × Int)) (ms : List Nat) (f dn : Nat) : Prop where
  hd : d.length = 11
  hw : w.length = 4
  hs : sd.length = 3
  hsu : su.length = 8
  row : rowS su 8 = ms
  oth : othS su 8 = ms
  due : sortK (fun m => su.getD ((List.range 8).getD m 0) 0) 8 = ms
  fi : firesN su = f
  cuts : ([(cut1 su ms : Int), (cut2 su ms : Int)] ++ [(cut3 su ms : Int), (cut4 (sortI su) : Int)]) = [(f : Int), f, f, f]
  ends : ([(end1 su ms : Int), (end2 su ms : Int)] ++ [(end3 (sortI su) : Int), (end4 (sortI su) : Int)]) = [max (f : Int) 5, max (f : Int) 5, min (f : Int) 3, min (f : Int) 3]
  ok : CntOk sd
  s1 : ((cnt sd 8).map fun kv => kv.2.1).sum = 256
  s2 : ((cnt sd 8).map fun kv => kv.2.2).sum = 32640
  s3 : ((List.range (cnt sd 8).length).filter fun j => ((cnt sd 8).getD j (0, (0, 0))).2.1 == 1).length = 104
  d4 : d.getD 4 0 = (dn : Int)
  wv0 : wayV d ≠ 0
  wv3 : (wayV d).natAbs ≤ 3
  step : ∀ k, k < 3 → (sd.getD k (0, 0)).2 - (sd.getD k (0, 0)).1 ≠ 0 ∧ ((sd.getD k (0, 0)).2 - (sd.getD k (0, 0)).1).natAbs ≤ 1000000
  hob : ∀ m, m < 8 → ((oftN (tru0 su) (tru1 dn)).getD m 0).natAbs ≤ 1000000
  both : EnEq (enAdd (entS (tru0 su) sd 8) (entS (tru1 dn) sd 8)) ⟨(oftN (tru0 su) (tru1 dn)).sum, oftS (oftN (tru0 su) (tru1 dn)) sd 0, oftS (oftN (tru0 su) (tru1 dn)) sd 1, oftS (oftN (tru0 su) (tru1 dn)) sd 2, oftD (oftN (tru0 su) (tru1 dn))⟩
  T0 : TblF (cnt sd 8) sd w (tru0 su) (wayV d) 0 (entS (tru0 su) sd 8)
  T1 : TblF (cnt sd 8) sd w (tru1 dn) (wayV d) 1 (entS (tru1 dn) sd 8)
theorem entS_le (t : List Int) (sd : List (Int × Int)) : (entS t sd 8).m.length ≤ 1000 := Nat.le_trans (entS_len t sd 8) (by decide)
theorem law_ok (H : ∀ xs, ∃ ms f dn, LawF (lawDrawn xs) (lawW (lawDrawn xs)) (lawSU (lawW (lawDrawn xs))) (lawSD (lawDrawn xs)) ms f dn) : LawOk := by
  intro c P L T R hA hX xs hx
  obtain ⟨ms, f, dn, F⟩ := H xs
  generalize hed : lawDrawn xs = d at F
  generalize hew : lawW d = w at F
  generalize hesu : lawSU w = su at F
  generalize hesd : lawSD d = sd at F
  have rl := (rowS_ok su 8 (Nat.le_refl _)).2
  have rm := (rowS_ok su 8 (Nat.le_refl _)).1
  have e1 : D.list (masks (rowS su 8)) = .ints (mI ms) := by rw [F.row]; exact masks_ints ms
  have e2 : D.list (masks (othS su 8)) = .ints (mI ms) := by rw [F.oth]; exact masks_ints ms
  have e3 : ((sortK (fun m => su.getD ((List.range 8).getD m 0) 0) 8).map fun (i : Nat) => (i : Int)) = mI ms := by rw [F.due]; rfl
  rw [F.row] at rl rm
  refine call_fn 157 lawNs [("script", .ints xs)] (.ints xs :: .unk :: .unk :: .unk :: .unk :: .unk :: .unk :: .unk :: .unk :: .unk :: .unk :: .unk :: .unk :: .unk :: .unk :: .unk :: .unk :: .unk :: .unk :: .unk :: .unk :: .unk :: .unk :: .unk :: .unk :: .unk :: .unk :: .unk :: .unk :: .unk :: .unk :: .unk :: .unk :: .unk :: .unk :: .unk :: .unk :: .unk :: ([] : List D)) L (R.of_le (by decide)) ?_ (lawBody_eq P) ?_
  · intro s vs ks B r1 r2
    cases repAll0 r2
    obtain ⟨v, rfl, r⟩ := repAll1 r1
    exact ⟨[("script", v)], fun _ => by kernel_rfl, rfl, r, trivial⟩
  intro L0
  refine seg0 L R hx ?_
  rw [hed]
  refine seg1 L R F.hd ?_
  rw [hew]
  refine seg2 L R F.hd ?_
  rw [hesd]
  refine seg3 L R F.hw ?_
  rw [hesu]
  refine ex_hold (c := Cl c P L0) (hca (c := c) (P := P)) (by have hk : (Cl c P L0).env.kindOf ("sums" : Str) = some .cell := by kernel_rfl
                                                              rw [hk]; simp) (fun h => hX _ h) ?_
  refine seg4 L T R F.hsu ?_
  rw [e3]
  refine seg5 L T R F.hsu fun dm => ?_
  rw [e1, e2]
  refine seg7 L R (seg8 L R F.hsu (seg9 L R F.hsu (seg10 L T R F.hsu rl rm (seg11 L T R F.hsu rl rm (seg12 L T R F.hsu rl rm (seg13 L R F.hsu (seg14 L R F.fi F.cuts F.ends ?_)))))))
  refine seg15 L T R F.hs F.ok (seg16 L R (F.ok 8 (Nat.le_refl _)).2.1 (F.ok 8 (Nat.le_refl _)).1 F.s1 F.s2 F.s3 (seg17 L R F.hd (seg18 L R (seg19 L R F.hsu F.hd F.d4 ?_))))
  refine seg20 L T R F.T0.len F.T1.len F.hs (seg21 L T R F.T0.len F.T1.len (entS_le _ _) (entS_le _ _) (seg22 L R F.hs rfl F.hob F.both ?_))
  refine seg23 L R F.hs F.hw F.wv0 F.wv3 F.step F.T0 F.T1 fun u1 u2 f1 f2 f3 f4 f5 f6 f7 f8 f9 g1 g2 g3 g4 => ?_
  refine seg24 L T R hA F.hsu rm rl F.hd fun sr => ?_
  refine ex_seg (c := Ch c P L0) (rest := []) (by exact rfl) (ex_ret ev_bool rfl)
end Mine
end
/-! ## part F1 -/
section
open PySem PySem.W PyProof.Rows
set_option maxRecDepth 100000
namespace Mine
theorem bsearch_thr (p : Nat → Bool) (f : Nat) : ∀ n lo hi, hi - lo ≤ n → (∀ i, lo ≤ i → i < hi → p i = decide (i < f)) → lo ≤ hi → bsearch p lo hi = min (max f lo) hi := by
  intro n
  induction n with
  | zero =>
    intro lo hi hn _ hl
    have e : lo = hi := Nat.le_antisymm hl (Nat.sub_eq_zero_iff_le.mp (Nat.le_zero.mp hn))
    subst e
    rw [bsearch_end p (Nat.lt_irrefl _), Nat.min_eq_right (Nat.le_max_right f lo)]
  | succ n ih =>
    intro lo hi hn hp hl
    by_cases h : lo < hi
    · have g1 := mid_ge h
      have g2 := mid_lt h
      rw [bsearch_step p h, hp _ g1 g2]
      generalize (lo + hi) / 2 = m at g1 g2
      by_cases g : m < f
      · rw [decide_eq_true g, if_pos rfl, ih _ _ (Nat.sub_le_of_le_add (Nat.le_trans (Nat.sub_le_iff_le_add.mp hn) (by rw [Nat.add_assoc, Nat.add_comm 1, ]; exact Nat.add_le_add_left (Nat.add_le_add_right g1 1) n))) (fun i h1 h2 => hp i (Nat.le_trans g1 (Nat.le_of_succ_le h1)) h2) g2, Nat.max_eq_left g, Nat.max_eq_left (Nat.le_trans g1 (Nat.le_of_lt g))]
      · have fm := Nat.not_lt.mp g
        have mm : max f lo ≤ m := Nat.max_le.mpr ⟨fm, g1⟩
        rw [decide_eq_false g, if_neg Bool.false_ne_true, ih _ _ (Nat.le_of_lt_succ (Nat.lt_of_lt_of_le (Nat.sub_lt_sub_right g1 g2) hn)) (fun i h1 h2 => hp i h1 (Nat.lt_trans h2 g2)) g1, Nat.min_eq_left mm, Nat.min_eq_left (Nat.le_trans mm (Nat.le_of_lt g2))]
    · have e : lo = hi := Nat.le_antisymm hl (Nat.not_lt.mp h)
      subst e
      rw [bsearch_end p h, Nat.min_eq_right (Nat.le_max_right f lo)]
theorem count_thr (c : Int) : ∀ (l : List Int), l.Pairwise (· ≤ ·) → ∀ i, i < l.length → decide (l.getD i 0 < c) = decide (i < l.countP fun x => decide (x < c))
  | [], _, i, h => absurd h (Nat.not_lt_zero i)
  | a :: l, hp, i, h => by
    obtain ⟨h1, h2⟩ := List.pairwise_cons.mp hp
    have ih := count_thr c l h2
    by_cases g : a < c
    · rw [List.countP_cons_of_pos (by simpa using g)]
      cases i with
      | zero => simp [g]
      | succ i => rw [List.getD_cons_succ, ih i (by simpa using h)]; simp
    · have z : l.countP (fun x => decide (x < c)) = 0 := List.countP_eq_zero.mpr fun x hx => by
        have := h1 x hx
        simp; (first | lia | omega)
      rw [List.countP_cons_of_neg (by simpa using g), z]
      cases i with
      | zero => simp; (first | lia | omega)
      | succ i => rw [List.getD_cons_succ, ih i (by simpa using h), z]; simp
theorem mem_take_get {l : List Nat} {p a : Nat} (h : a ∈ l.take p) : ∃ i, i < p ∧ i < l.length ∧ l.getD i 0 = a := by
  obtain ⟨i, hi, e⟩ := List.mem_iff_getElem.mp h
  rw [List.length_take] at hi
  refine ⟨i, by (first | lia | omega), by (first | lia | omega), ?_⟩
  rw [List.getElem_take] at e
  rw [List.getD_eq_getElem?_getD, List.getElem?_eq_getElem (by (first | lia | omega)), e]; rfl
theorem mem_drop_get {l : List Nat} {p a : Nat} (h : a ∈ l.drop p) : ∃ i, p ≤ i ∧ i < l.length ∧ l.getD i 0 = a := by
  obtain ⟨i, hi, e⟩ := List.mem_iff_getElem.mp h
  rw [List.length_drop] at hi
  refine ⟨p + i, by (first | lia | omega), by (first | lia | omega), ?_⟩
  rw [List.getElem_drop] at e
  rw [List.getD_eq_getElem?_getD, List.getElem?_eq_getElem (by (first | lia | omega)), e]; rfl
theorem map_getD {kf : Nat → Int} {ms : List Nat} {i : Nat} (h : i < ms.length) : (ms.map kf).getD i 0 = kf (ms.getD i 0) := by
  simp [List.getD_eq_getElem?_getD, List.getElem?_eq_getElem h]
theorem ins_ok {kf : Nat → Int} {ms : List Nat} {x : Nat} {c : Int} (hs : ms.Pairwise fun a b => lexLe kf a b = true) (h1 : ∀ y ∈ ms, kf y < c → lexLe kf y x = true) (h2 : ∀ y ∈ ms, ¬ kf y < c → lexLe kf x y = true) :
    (insN ms ((ms.map kf).countP fun z => decide (z < c)) x).Pairwise fun a b => lexLe kf a b = true := by
  have hk : (ms.map kf).Pairwise (· ≤ ·) := List.pairwise_map.mpr (hs.imp fun h => by simp only [lexLe, decide_eq_true_eq] at h; (first | lia | omega))
  have ct := count_thr c (ms.map kf) hk
  generalize (ms.map kf).countP (fun z => decide (z < c)) = p at ct
  have hs' : (ms.take p ++ ms.drop p).Pairwise fun a b => lexLe kf a b = true := by rw [List.take_append_drop]; exact hs
  obtain ⟨s1, s2, s3⟩ := List.pairwise_append.mp hs'
  have t1 : ∀ a ∈ ms.take p, lexLe kf a x = true := fun a ha => by
    obtain ⟨i, hi, hl, e⟩ := mem_take_get ha
    have := ct i (by simpa using hl)
    rw [map_getD hl, e] at this
    exact h1 a (List.mem_of_mem_take ha) (by simpa [hi] using this)
  have t2 : ∀ a ∈ ms.drop p, lexLe kf x a = true := fun a ha => by
    obtain ⟨i, hi, hl, e⟩ := mem_drop_get ha
    have := ct i (by simpa using hl)
    rw [map_getD hl, e] at this
    refine h2 a (List.mem_of_mem_drop ha) ?_
    have q : ¬ i < p := by (first | lia | omega)
    simpa [q] using this
  unfold insN
  refine List.pairwise_append.mpr ⟨s1, List.pairwise_cons.mpr ⟨t2, s2⟩, fun a ha b hb => ?_⟩
  rcases List.mem_cons.mp hb with rfl | hb
  · exact t1 a ha
  · exact s3 a ha b hb
theorem insN_perm (l : List Nat) (p x : Nat) : (insN l p x).Perm (x :: l) := by
  unfold insN
  have := @List.perm_middle _ x (l.take p) (l.drop p)
  rwa [List.take_append_drop] at this
noncomputable abbrev kfS (su : List Int) (m : Nat) : Int := su.getD m 0
theorem kAt_app {su : List Int} {ms : List Nat} {x i : Nat} (h : i < ms.length) : kAt su (ms ++ [x]) i = (ms.map (kfS su)).getD i 0 := by
  unfold kAt
  rw [map_getD h]
  simp [List.getD_eq_getElem?_getD, List.getElem?_append_left h]
theorem kAt_last {su : List Int} {ms : List Nat} {x : Nat} : kAt su (ms ++ [x]) ms.length = kfS su x := by
  unfold kAt
  simp [List.getD_eq_getElem?_getD]
theorem keys_le {kf : Nat → Int} {ms : List Nat} (hs : ms.Pairwise fun a b => lexLe kf a b = true) : (ms.map kf).Pairwise (· ≤ ·) :=
  List.pairwise_map.mpr (hs.imp fun h => by simp only [lexLe, decide_eq_true_eq] at h; (first | lia | omega))
theorem stepR_eq {su : List Int} {ms : List Nat} {x : Nat} (hs : ms.Pairwise fun a b => lexLe (kfS su) a b = true) :
    stepR su ms x = insN ms ((ms.map (kfS su)).countP fun z => decide (z < kfS su x + 1)) x := by
  unfold stepR
  have hc := @List.countP_le_length _ (fun z => decide (z < kfS su x + 1)) (ms.map (kfS su))
  rw [List.length_map] at hc
  rw [bsearch_thr _ ((ms.map (kfS su)).countP fun z => decide (z < kfS su x + 1)) ms.length 0 ms.length (by (first | lia | omega)) (fun i _ hi => ?_) (by (first | lia | omega))]
  · congr 1; (first | lia | omega)
  · rw [← count_thr _ _ (keys_le hs) i (by simpa using hi), kAt_last, kAt_app hi]
    by_cases g : kfS su x < (ms.map (kfS su)).getD i 0
    · rw [decide_eq_true g, decide_eq_false (by (first | lia | omega))]; rfl
    · rw [decide_eq_false g, decide_eq_true (by (first | lia | omega))]; rfl
theorem stepL_eq {su : List Int} {ms : List Nat} {x : Nat} (hs : ms.Pairwise fun a b => lexLe (kfS su) a b = true) :
    stepL su ms x = insN ms ((ms.map (kfS su)).countP fun z => decide (z < kfS su x)) x := by
  unfold stepL
  have hc := @List.countP_le_length _ (fun z => decide (z < kfS su x)) (ms.map (kfS su))
  rw [List.length_map] at hc
  rw [bsearch_thr _ ((ms.map (kfS su)).countP fun z => decide (z < kfS su x)) ms.length 0 ms.length (by (first | lia | omega)) (fun i _ hi => ?_) (by (first | lia | omega))]
  · congr 1; (first | lia | omega)
  · rw [← count_thr _ _ (keys_le hs) i (by simpa using hi), kAt_last, kAt_app hi]
theorem rowS_sorted (su : List Int) : ∀ m, (rowS su m).Perm (List.range m) ∧ (rowS su m).Pairwise fun a b => lexLe (kfS su) a b = true
  | 0 => ⟨.refl _, .nil⟩
  | m + 1 => by
    obtain ⟨h1, h2⟩ := rowS_sorted su m
    rw [rowS, stepR_eq h2]
    refine ⟨(insN_perm _ _ _).trans ((h1.cons m).trans (by rw [List.range_succ]; exact (List.perm_append_singleton _ _).symm)), ins_ok h2 (fun y hy h => ?_) fun y hy h => ?_⟩
    · have := List.mem_range.mp (h1.mem_iff.mp hy)
      simp only [lexLe, decide_eq_true_eq]; (first | lia | omega)
    · simp only [lexLe, decide_eq_true_eq]; (first | lia | omega)
theorem othS_sorted (su : List Int) : ∀ m, m ≤ 8 → (othS su m).Perm ((List.range m).map (7 - ·)) ∧ (othS su m).Pairwise fun a b => lexLe (kfS su) a b = true
  | 0, _ => ⟨.refl _, .nil⟩
  | m + 1, hm => by
    obtain ⟨h1, h2⟩ := othS_sorted su m (by (first | lia | omega))
    rw [othS, stepL_eq h2]
    refine ⟨(insN_perm _ _ _).trans ((h1.cons _).trans (by rw [List.range_succ, List.map_append]; exact (List.perm_append_singleton _ _).symm)), ins_ok h2 (fun y hy h => ?_) fun y hy h => ?_⟩
    · simp only [lexLe, decide_eq_true_eq]; (first | lia | omega)
    · have := h1.mem_iff.mp hy
      obtain ⟨i, hi, rfl⟩ := List.mem_map.mp this
      have := List.mem_range.mp hi
      simp only [lexLe, decide_eq_true_eq]; (first | lia | omega)
noncomputable def kf8 (su : List Int) (m : Nat) : Int := su.getD ((List.range 8).getD m 0) 0
theorem kf8_eq (su : List Int) {m : Nat} (h : m < 8) : kf8 su m = kfS su m := by
  have e : (List.range 8).getD m 0 = m := by rw [List.getD_eq_getElem?_getD, List.getElem?_range h]; rfl
  unfold kf8
  rw [e]
theorem lex8 (su : List Int) {l : List Nat} (hp : l.Perm (List.range 8)) (hs : l.Pairwise fun a b => lexLe (kfS su) a b = true) : l = sortK (kf8 su) 8 := by
  refine sortK_unique _ 8 hp (hs.imp_of_mem fun {a b} ha hb h => ?_)
  have h1 := List.mem_range.mp (hp.mem_iff.mp ha)
  have h2 := List.mem_range.mp (hp.mem_iff.mp hb)
  unfold lexLe at h ⊢
  rwa [kf8_eq su h1, kf8_eq su h2]
theorem row_due (su : List Int) : sortK (fun m => su.getD ((List.range 8).getD m 0) 0) 8 = rowS su 8 := (lex8 su (rowS_sorted su 8).1 (rowS_sorted su 8).2).symm
theorem oth_row (su : List Int) : othS su 8 = rowS su 8 := by
  obtain ⟨h1, h2⟩ := othS_sorted su 8 (Nat.le_refl _)
  rw [lex8 su (h1.trans (by decide)) h2]
  exact row_due su
theorem row_keys {su : List Int} (hs : su.length = 8) : (rowS su 8).map (kfS su) = sortI su := by
  obtain ⟨h1, h2⟩ := rowS_sorted su 8
  refine sortI_unique ((h1.map _).trans ?_) (keys_le h2)
  have : (List.range 8).map (kfS su) = su := by
    have := range_getD (fun x => x) su
    rw [hs, List.map_id'] at this
    exact this
  rw [this]
theorem fires_count {su : List Int} : firesN su = (sortI su).countP fun x => decide (x < 256) := by
  rw [(sortI_perm su).countP_eq, firesN, List.countP_eq_length_filter]
  have := congrArg List.length (range_filter_getD (fun x => decide (x < 256)) su)
  rwa [List.length_map] at this
theorem so_thr {su : List Int} (hs : su.length = 8) {i : Nat} (hi : i < 8) : decide ((sortI su).getD i 0 < 256) = decide (i < firesN su) := by
  rw [fires_count]
  exact count_thr 256 (sortI su) (sortI_pairwise su) i (by rw [(sortI_perm su).length_eq, hs]; exact hi)
theorem row_thr {su : List Int} (hs : su.length = 8) {i : Nat} (hi : i < 8) : kAt su (rowS su 8) i = (sortI su).getD i 0 := by
  rw [← row_keys hs, map_getD (by rw [(rowS_ok su 8 (Nat.le_refl _)).2]; exact hi)]
  rfl
theorem not_255 (x : Int) : (!decide (255 < x)) = decide (x < 256) := by
  by_cases h : x < 256
  · rw [decide_eq_true h, decide_eq_false (by (first | lia | omega))]; rfl
  · rw [decide_eq_false h, decide_eq_true (by (first | lia | omega))]; rfl
theorem kNon_lt (su : List Int) (ms : List Nat) (i : Nat) : decide (kNon su ms i < 1) = decide (kAt su ms i < 256) ∧ (!decide (0 < kNon su ms i)) = decide (kAt su ms i < 256) := by
  unfold kNon
  by_cases h : kAt su ms i < 256
  · have : ¬ 256 ≤ kAt su ms i := by (first | lia | omega)
    simp [this, h]
  · have : 256 ≤ kAt su ms i := by (first | lia | omega)
    simp [this, h]
theorem fires_le {su : List Int} (hs : su.length = 8) : firesN su ≤ 8 := by
  unfold firesN
  refine Nat.le_trans (List.length_filter_le _ _) ?_
  rw [List.length_range, hs]; exact Nat.le_refl _
theorem cuts_ok {su : List Int} (hs : su.length = 8) : cut1 su (rowS su 8) = firesN su ∧ cut2 su (rowS su 8) = firesN su ∧ cut3 su (rowS su 8) = firesN su ∧ cut4 (sortI su) = firesN su := by
  have hf := fires_le hs
  have e : min (max (firesN su) 0) 8 = firesN su := by (first | lia | omega)
  refine ⟨?_, ?_, ?_, ?_⟩
  · unfold cut1; rw [bsearch_thr _ (firesN su) 8 0 8 (by (first | lia | omega)) (fun i _ hi => by rw [row_thr hs hi, so_thr hs hi]) (by (first | lia | omega)), e]
  · unfold cut2; rw [bsearch_thr _ (firesN su) 8 0 8 (by (first | lia | omega)) (fun i _ hi => by rw [(kNon_lt _ _ _).1, row_thr hs hi, so_thr hs hi]) (by (first | lia | omega)), e]
  · unfold cut3; rw [bsearch_thr _ (firesN su) 8 0 8 (by (first | lia | omega)) (fun i _ hi => by rw [(kNon_lt _ _ _).2, row_thr hs hi, so_thr hs hi]) (by (first | lia | omega)), e]
  · unfold cut4; rw [bsearch_thr _ (firesN su) 8 0 8 (by (first | lia | omega)) (fun i _ hi => by rw [not_255, so_thr hs hi]) (by (first | lia | omega)), e]
theorem ends_ok {su : List Int} (hs : su.length = 8) : end1 su (rowS su 8) = max (firesN su) 5 ∧ end2 su (rowS su 8) = max (firesN su) 5 ∧ end3 (sortI su) = min (firesN su) 3 ∧ end4 (sortI su) = min (firesN su) 3 := by
  have hf := fires_le hs
  refine ⟨?_, ?_, ?_, ?_⟩
  · unfold end1; rw [bsearch_thr _ (firesN su) 8 5 8 (by (first | lia | omega)) (fun i _ hi => by rw [row_thr hs hi, so_thr hs hi]) (by (first | lia | omega))]; (first | lia | omega)
  · unfold end2; rw [bsearch_thr _ (firesN su) 8 5 8 (by (first | lia | omega)) (fun i _ hi => by rw [not_255, row_thr hs hi, so_thr hs hi]) (by (first | lia | omega))]; (first | lia | omega)
  · unfold end3; rw [bsearch_thr _ (firesN su) 8 0 3 (by (first | lia | omega)) (fun i _ hi => by rw [so_thr hs (by (first | lia | omega))]) (by (first | lia | omega))]; (first | lia | omega)
  · unfold end4; rw [bsearch_thr _ (firesN su) 8 0 3 (by (first | lia | omega)) (fun i _ hi => by rw [not_255, so_thr hs (by (first | lia | omega))]) (by (first | lia | omega))]; (first | lia | omega)
end Mine
end
/-! ## part F2 -/
section
open PySem PySem.W PyProof.Rows
set_option maxRecDepth 100000
namespace Mine
section
variable {α : Type}
theorem kget_none {m : List (Int × α)} {k : Int} : kget m k = none ↔ k ∉ m.map Prod.fst := by
  have := kget_isSome k m
  cases h : kget m k with
  | none => rw [h] at this; simpa using this
  | some v => rw [h] at this; simp at this; simp [this]
theorem foldl_kset (m : List (Int × α)) : ∀ z : List (Int × α), ((z ++ m).map Prod.fst).Nodup → m.foldl (fun acc p => kset acc p.1 p.2) z = z ++ m := by
  induction m with
  | nil => intro z _; simp
  | cons p m ih =>
    intro z h
    rw [List.foldl_cons, kset_new]
    · rw [ih]
      · simp
      · simpa using h
    · intro hm
      rw [List.map_append, List.map_cons] at h
      exact (List.nodup_append.mp h).2.2 _ hm _ (List.mem_cons_self ..) rfl
theorem copyK_self {m : List (Int × α)} (h : (m.map Prod.fst).Nodup) : copyK m = m := foldl_kset m [] (by simpa using h)
theorem kget_kset (m : List (Int × α)) (k k' : Int) (v : α) : kget (kset m k v) k' = if k = k' then some v else kget m k' := by
  unfold kset
  split
  · rename_i h
    induction m with
    | nil => simp at h
    | cons p m ih =>
      rw [List.map_cons]
      by_cases e : p.1 = k
      · rw [if_pos e, kget, kget]
        by_cases q : k = k'
        · rw [if_pos (e.trans q), if_pos q]
        · rw [if_neg (fun z => q (e.symm.trans z)), if_neg q, if_neg (fun z => q (e.symm.trans z))]
          by_cases hm : k ∈ m.map Prod.fst
          · rw [ih hm, if_neg q]
          · congr 1
            have : m.map (fun p => if p.1 = k then (p.1, v) else p) = m.map id := List.map_congr_left fun p hp => by
              rw [if_neg]; rfl
              rintro rfl; exact hm (List.mem_map.mpr ⟨p, hp, rfl⟩)
            rw [this, List.map_id]
      · rw [if_neg e, kget, kget]
        have hm : k ∈ m.map Prod.fst := by
          rcases List.mem_cons.mp h with h | h
          · exact absurd h.symm e
          · exact h
        by_cases q : p.1 = k'
        · rw [if_pos q, if_pos q, if_neg (fun z => e (q.trans z.symm))]
        · rw [if_neg q, if_neg q, ih hm]
  · rename_i h
    induction m with
    | nil => rfl
    | cons p m ih =>
      rw [List.cons_append, kget, kget]
      by_cases q : p.1 = k'
      · rw [if_pos q, if_pos q, if_neg]
        rintro rfl; exact h (by rw [← q]; simp)
      · rw [if_neg q, if_neg q]
        exact ih fun z => h (List.mem_cons_of_mem _ z)
theorem kset_keys (m : List (Int × α)) (k : Int) (v : α) (h : (m.map Prod.fst).Nodup) : ((kset m k v).map Prod.fst).Nodup := by
  unfold kset
  split
  · have : (m.map fun p => if p.1 = k then (p.1, v) else p).map Prod.fst = m.map Prod.fst := by
      rw [List.map_map]; apply List.map_congr_left; intro p _; dsimp; split <;> rfl
    rw [this]; exact h
  · rename_i hk
    rw [List.map_append]
    refine List.nodup_append.mpr ⟨h, by simp, fun a ha b hb => ?_⟩
    simp only [List.map_cons, List.map_nil, List.mem_singleton] at hb
    rintro rfl; exact hk (hb ▸ ha)
theorem addStep_keys (add : α → α → α) (acc : List (Int × α)) (p : Int × α) (h : (acc.map Prod.fst).Nodup) : ((addStep add acc p).map Prod.fst).Nodup := by
  unfold addStep; split <;> exact kset_keys _ _ _ h
theorem foldl_keys (add : α → α → α) : ∀ (b z : List (Int × α)), (z.map Prod.fst).Nodup → ((b.foldl (addStep add) z).map Prod.fst).Nodup
  | [], z, h => h
  | p :: b, z, h => foldl_keys add b _ (addStep_keys add z p h)
noncomputable def joinV (add : α → α → α) : Option α → Option α → Option α
  | x, none => x
  | some v, some y => some (add y v)
  | none, some y => some y
theorem kget_addStep (add : α → α → α) (acc : List (Int × α)) (p : Int × α) (k : Int) : kget (addStep add acc p) k = if p.1 = k then joinV add (kget acc k) (some p.2) else kget acc k := by
  unfold addStep
  by_cases e : p.1 = k
  · subst e
    cases h : kget acc p.1 with
    | none => simp [kget_kset, joinV]
    | some v => simp [kget_kset, joinV]
  · cases h : kget acc p.1 with
    | none => simp [kget_kset, e]
    | some v => simp [kget_kset, e]
theorem kget_foldl (add : α → α → α) : ∀ (b z : List (Int × α)) (k : Int), (b.map Prod.fst).Nodup → kget (b.foldl (addStep add) z) k = joinV add (kget z k) (kget b k)
  | [], z, k, _ => by simp [kget, joinV]
  | p :: b, z, k, h => by
    obtain ⟨h1, h2⟩ := List.nodup_cons.mp h
    rw [List.foldl_cons, kget_foldl add b _ k h2, kget_addStep, kget]
    by_cases e : p.1 = k
    · rw [if_pos e, if_pos e]
      have : kget b k = none := kget_none.mpr (by rw [← e]; exact h1)
      rw [this]; rfl
    · rw [if_neg e, if_neg e]
theorem kget_addK (add : α → α → α) (a b : List (Int × α)) (k : Int) (ha : (a.map Prod.fst).Nodup) (hb : (b.map Prod.fst).Nodup) : kget (addK add a b) k = joinV add (kget a k) (kget b k) := by
  unfold addK; rw [copyK_self ha, kget_foldl add b a k hb]
theorem addK_keys (add : α → α → α) (a b : List (Int × α)) (ha : (a.map Prod.fst).Nodup) : ((addK add a b).map Prod.fst).Nodup := by
  unfold addK; rw [copyK_self ha]; exact foldl_keys add b a ha
theorem same_len {a b : List (Int × α)} (ha : (a.map Prod.fst).Nodup) (hb : (b.map Prod.fst).Nodup) (h : ∀ k, kget a k = kget b k) : a.length = b.length := by
  have hp : (a.map Prod.fst).Perm (b.map Prod.fst) := (List.perm_ext_iff_of_nodup ha hb).mpr fun k => by
    have h1 := kget_isSome k a
    have h2 := kget_isSome k b
    rw [h k, h2] at h1
    simpa using h1.symm
  simpa using hp.length_eq
noncomputable abbrev kmap (l : List Nat) (v : Nat → α) : List (Int × α) := l.map fun (m : Nat) => ((m : Int), v m)
theorem kmap_keys {l : List Nat} (v : Nat → α) (h : l.Nodup) : ((kmap l v).map Prod.fst).Nodup := by
  rw [List.map_map]
  refine List.pairwise_map.mpr (h.imp fun {a b} hne e => hne ?_)
  have e : ((a : Nat) : Int) = ((b : Nat) : Int) := e
  (first | lia | omega)
theorem kget_kmap (v : Nat → α) (k : Int) : ∀ l : List Nat, kget (kmap l v) k = if k.toNat ∈ l ∧ 0 ≤ k then some (v k.toNat) else none
  | [] => by simp [kget]
  | m :: l => by
    rw [kmap, List.map_cons, kget]
    by_cases e : (m : Int) = k
    · subst e; simp
    · have ih := kget_kmap v k l
      rw [if_neg e, show (l.map fun (m : Nat) => ((m : Int), v m)) = kmap l v from rfl, ih]
      by_cases h0 : 0 ≤ k
      · have : k.toNat ≠ m := fun z => e (by (first | lia | omega))
        simp [h0, this]
      · simp [h0]
end
noncomputable def trm (t : List Int) (n : Nat) : List Nat := (List.range n).filter fun m => t.getD m 0 != 0
theorem trm_succ (t : List Int) (n : Nat) : trm t (n + 1) = if t.getD n 0 != 0 then trm t n ++ [n] else trm t n := by
  unfold trm
  rw [List.range_succ, List.filter_append, List.filter_cons, List.filter_nil]
  split
  · rfl
  · rw [List.append_nil]
theorem trm_nodup (t : List Int) (n : Nat) : (trm t n).Nodup := List.Pairwise.filter _ List.nodup_range
theorem trm_lt {t : List Int} {n m : Nat} (h : m ∈ trm t n) : m < n := by
  have := (List.mem_filter.mp h).1
  simpa using this
noncomputable def sumS (sd : List (Int × Int)) (k : Nat) (l : List Nat) : Int := (l.map (sideV sd k)).sum
theorem entS_eq (t : List Int) (sd : List (Int × Int)) : ∀ n, entS t sd n = ⟨((trm t n).length : Nat), sumS sd 0 (trm t n), sumS sd 1 (trm t n), sumS sd 2 (trm t n), kmap (trm t n) fun _ => (1 : Int)⟩
  | 0 => rfl
  | n + 1 => by
    rw [entS, trm_succ, entS_eq t sd n]
    cases h : (t.getD n 0 != 0) with
    | false => rfl
    | true =>
      rw [if_pos rfl, if_pos rfl]
      have hn : (n : Int) ∉ (kmap (trm t n) fun _ => (1 : Int)).map Prod.fst := by
        rw [List.map_map]
        intro hm
        obtain ⟨m, hm, e⟩ := List.mem_map.mp hm
        have := trm_lt hm
        have e : (m : Int) = (n : Int) := e
        (first | lia | omega)
      have hk : addK iadd (kmap (trm t n) fun _ => (1 : Int)) [((n : Int), 1)] = kmap (trm t n ++ [n]) fun _ => (1 : Int) := by
        unfold addK
        rw [copyK_self (kmap_keys _ (trm_nodup t n)), List.foldl_cons, List.foldl_nil]
        unfold addStep
        rw [kget_none.mpr hn]
        show kset _ _ _ = _
        rw [kset_new _ _ hn]; simp
      unfold enAdd
      rw [hk]
      simp only [sumS, List.map_append, List.map_cons, List.map_nil, List.sum_append, List.sum_cons, List.sum_nil, List.length_append, List.length_cons, List.length_nil]
      congr 1 <;> (first | lia | omega)
theorem range_getDN {β : Type} (f : Nat → β) (l : List Nat) : (List.range l.length).map (fun i => f (l.getD i 0)) = l.map f := by
  apply List.ext_getElem?
  intro i
  rw [List.getElem?_map, List.getElem?_map]
  by_cases h : i < l.length
  · rw [List.getElem?_range h]; simp [List.getD_eq_getElem?_getD, List.getElem?_eq_getElem h]
  · rw [List.getElem?_eq_none (by simpa using h), List.getElem?_eq_none (by simpa using h)]; rfl
theorem trS_eq (tr : List Nat) (sd : List (Int × Int)) (k : Nat) : trS tr sd k = sumS sd k tr := by
  unfold trS sumS; rw [range_getDN (sideV sd k) tr]
theorem trD_eq {tr : List Nat} (nd : tr.Nodup) : trD tr = kmap tr fun _ => (1 : Int) := by
  unfold trD
  rw [kouts_eq]
  · rw [List.filter_eq_self.mpr (fun _ _ => rfl)]
    exact range_getDN (fun (m : Nat) => ((m : Int), (1 : Int))) tr
  · intro i j hi hj e
    rw [List.getD_eq_getElem?_getD, List.getD_eq_getElem?_getD, List.getElem?_eq_getElem hi, List.getElem?_eq_getElem hj] at e
    have e : ((tr[i] : Nat) : Int) = ((tr[j] : Nat) : Int) := e
    exact (List.getElem_inj nd).mp (by omega)
theorem trN_trm (t : List Int) : trN t = trm t 8 := rfl
theorem ent_eq (t : List Int) (sd : List (Int × Int)) : EnEq (entS t sd 8) ⟨((trN t).length : Nat), trS (trN t) sd 0, trS (trN t) sd 1, trS (trN t) sd 2, trD (trN t)⟩ := by
  rw [entS_eq, trN_trm, trS_eq, trS_eq, trS_eq, trD_eq (trm_nodup t 8)]
  exact ⟨rfl, rfl, rfl, rfl, rfl, fun _ _ h => h⟩
theorem sum_01 {t : List Int} (h : ∀ m, t.getD m 0 = 0 ∨ t.getD m 0 = 1) (g : Nat → Int) : ∀ n, ((List.range n).map fun m => t.getD m 0 * g m).sum = ((trm t n).map g).sum
  | 0 => rfl
  | n + 1 => by
    rw [List.range_succ, List.map_append, List.sum_append, sum_01 h g n, trm_succ]
    rcases h n with e | e
    · simp only [List.map_cons, List.map_nil, List.sum_cons, List.sum_nil, e]; simp
    · simp only [List.map_cons, List.map_nil, List.sum_cons, List.sum_nil, e]; simp
theorem sum_add (t0 t1 g : Nat → Int) : ∀ n, ((List.range n).map fun m => (t0 m + t1 m) * g m).sum = ((List.range n).map fun m => t0 m * g m).sum + ((List.range n).map fun m => t1 m * g m).sum
  | 0 => rfl
  | n + 1 => by
    rw [List.range_succ, List.map_append, List.map_append, List.map_append, List.sum_append, List.sum_append, List.sum_append, sum_add t0 t1 g n]
    simp only [List.map_cons, List.map_nil, List.sum_cons, List.sum_nil, Int.add_mul]
    (first | lia | omega)
theorem oft_get {t0 t1 : List Int} {m : Nat} (h : m < 8) : (oftN t0 t1).getD m 0 = t0.getD m 0 + t1.getD m 0 := by
  unfold oftN
  rw [List.getD_eq_getElem?_getD, List.getElem?_map, List.getElem?_range h]; rfl
theorem map_lt8 {β : Type} {f g : Nat → β} (h : ∀ m, m < 8 → f m = g m) : (List.range 8).map f = (List.range 8).map g := List.map_congr_left fun m hm => h m (List.mem_range.mp hm)
theorem oftS_eq {t0 t1 : List Int} (h0 : ∀ m, t0.getD m 0 = 0 ∨ t0.getD m 0 = 1) (h1 : ∀ m, t1.getD m 0 = 0 ∨ t1.getD m 0 = 1) (g : Nat → Int) :
    ((List.range 8).map fun m => (oftN t0 t1).getD m 0 * g m).sum = ((trm t1 8).map g).sum + ((trm t0 8).map g).sum := by
  rw [map_lt8 (g := fun m => (t0.getD m 0 + t1.getD m 0) * g m) fun m hm => by rw [oft_get hm]]
  rw [sum_add (fun m => t0.getD m 0) (fun m => t1.getD m 0) g 8, sum_01 h0 g 8, sum_01 h1 g 8]; (first | lia | omega)
theorem sum_one (l : List Nat) : (l.map fun _ => (1 : Int)).sum = l.length := by
  induction l with
  | nil => rfl
  | cons a l ih => simp only [List.map_cons, List.sum_cons, ih, List.length_cons]; (first | lia | omega)
theorem oft_sum {t0 t1 : List Int} (h0 : ∀ m, t0.getD m 0 = 0 ∨ t0.getD m 0 = 1) (h1 : ∀ m, t1.getD m 0 = 0 ∨ t1.getD m 0 = 1) : (oftN t0 t1).sum = ((trm t1 8).length : Int) + (trm t0 8).length := by
  have h := oftS_eq h0 h1 fun _ => 1
  rw [sum_one, sum_one] at h
  rw [← h, map_lt8 (g := fun m => t0.getD m 0 + t1.getD m 0) fun m hm => by rw [oft_get hm, Int.mul_one]]
  rfl
theorem oftD_eq (of : List Int) : oftD of = kmap ((List.range 8).filter fun m => of.getD m 0 != 0) fun m => of.getD m 0 := by
  unfold oftD
  rw [kouts_eq]
  intro i j _ _ e
  have e : (i : Int) = (j : Int) := e
  (first | lia | omega)
theorem both_eq {t0 t1 : List Int} (sd : List (Int × Int)) (h0 : ∀ m, t0.getD m 0 = 0 ∨ t0.getD m 0 = 1) (h1 : ∀ m, t1.getD m 0 = 0 ∨ t1.getD m 0 = 1) :
    EnEq (enAdd (entS t0 sd 8) (entS t1 sd 8)) ⟨(oftN t0 t1).sum, oftS (oftN t0 t1) sd 0, oftS (oftN t0 t1) sd 1, oftS (oftN t0 t1) sd 2, oftD (oftN t0 t1)⟩ := by
  have hS : ∀ k, oftS (oftN t0 t1) sd k = sumS sd k (trm t1 8) + sumS sd k (trm t0 8) := fun k => oftS_eq h0 h1 (sideV sd k)
  rw [entS_eq, entS_eq, hS, hS, hS, oft_sum h0 h1, oftD_eq]
  have n0 := kmap_keys (fun _ => (1 : Int)) (trm_nodup t0 8)
  have n1 := kmap_keys (fun _ => (1 : Int)) (trm_nodup t1 8)
  have nd : ((List.range 8).filter fun m => (oftN t0 t1).getD m 0 != 0).Nodup := List.Pairwise.filter _ List.nodup_range
  have hm : ∀ {t : List Int} {m : Nat}, m ∈ trm t 8 ↔ m < 8 ∧ t.getD m 0 ≠ 0 := fun {t m} => by simp [trm]
  have key : ∀ k, kget (addK iadd (kmap (trm t0 8) fun _ => (1 : Int)) (kmap (trm t1 8) fun _ => (1 : Int))) k = kget (kmap ((List.range 8).filter fun m => (oftN t0 t1).getD m 0 != 0) fun m => (oftN t0 t1).getD m 0) k := by
    intro k
    rw [kget_addK iadd _ _ k n0 n1, kget_kmap, kget_kmap, kget_kmap]
    by_cases hk : 0 ≤ k
    · generalize k.toNat = m
      simp only [hk, and_true, hm, List.mem_filter, List.mem_range, bne_iff_ne, ne_eq]
      by_cases h8 : m < 8
      · simp only [h8, true_and, oft_get h8]
        rcases h0 m with a | a <;> rcases h1 m with b | b <;> rw [a, b] <;> simp [joinV, iadd]
      · simp [h8, joinV]
    · simp [hk, joinV]
  exact ⟨rfl, rfl, rfl, rfl, same_len (addK_keys iadd _ _ n0) (kmap_keys _ nd) key, fun k v h => by rw [← key k]; exact h⟩
end Mine
end
/-! ## part F3 -/
section
open PySem PySem.W PyProof.Rows
set_option maxRecDepth 100000
namespace Mine
section
variable {α : Type}
noncomputable abbrev rmap (g : Int → Int) (m : List (Int × α)) : List (Int × α) := m.map fun kv => (g kv.1, kv.2)
noncomputable abbrev Inj (S : Int → Prop) (g : Int → Int) : Prop := ∀ a b, S a → S b → g a = g b → a = b
noncomputable abbrev KeysIn (S : Int → Prop) (m : List (Int × α)) : Prop := ∀ p ∈ m, S p.1
variable {S : Int → Prop} {g : Int → Int}
theorem kget_rmap (hi : Inj S g) {k : Int} (hk : S k) : ∀ {m : List (Int × α)}, KeysIn S m → kget (rmap g m) (g k) = kget m k
  | [], _ => rfl
  | p :: m, h => by
    have ih := kget_rmap hi hk (m := m) fun q hq => h q (List.mem_cons_of_mem _ hq)
    rw [rmap, List.map_cons, kget, kget]
    by_cases e : p.1 = k
    · rw [if_pos e, if_pos (congrArg g e)]
    · rw [if_neg e, if_neg fun z => e (hi _ _ (h p (List.mem_cons_self ..)) hk z)]
      exact ih
theorem kset_rmap (hi : Inj S g) {k : Int} (hk : S k) (v : α) {m : List (Int × α)} (hm : KeysIn S m) : kset (rmap g m) (g k) v = rmap g (kset m k v) := by
  unfold kset
  have e : g k ∈ (rmap g m).map Prod.fst ↔ k ∈ m.map Prod.fst := by
    constructor
    · intro h
      obtain ⟨q, hq, e⟩ := List.mem_map.mp h
      obtain ⟨p, hp, rfl⟩ := List.mem_map.mp hq
      exact List.mem_map.mpr ⟨p, hp, hi _ _ (hm p hp) hk e⟩
    · intro h
      obtain ⟨p, hp, rfl⟩ := List.mem_map.mp h
      exact List.mem_map.mpr ⟨(g p.1, p.2), List.mem_map.mpr ⟨p, hp, rfl⟩, rfl⟩
  by_cases h : k ∈ m.map Prod.fst
  · rw [if_pos h, if_pos (e.mpr h), rmap, rmap, List.map_map, List.map_map]
    apply List.map_congr_left
    intro p hp
    by_cases q : p.1 = k
    · simp [q]
    · have : g p.1 ≠ g k := fun z => q (hi _ _ (hm p hp) hk z)
      simp [q, this]
  · rw [if_neg h, if_neg (fun z => h (e.mp z)), rmap, rmap, List.map_append]; rfl
theorem kset_in {k : Int} (hk : S k) (v : α) {m : List (Int × α)} (hm : KeysIn S m) : KeysIn S (kset m k v) := by
  unfold kset
  split
  · intro q hq
    obtain ⟨p, hp, rfl⟩ := List.mem_map.mp hq
    by_cases e : p.1 = k
    · rw [if_pos e]; exact hm p hp
    · rw [if_neg e]; exact hm p hp
  · intro q hq
    rcases List.mem_append.mp hq with h | h
    · exact hm q h
    · rw [List.mem_singleton.mp h]; exact hk
theorem addStep_in (add : α → α → α) {p : Int × α} (hp : S p.1) {m : List (Int × α)} (hm : KeysIn S m) : KeysIn S (addStep add m p) := by
  unfold addStep; split <;> exact kset_in hp _ hm
theorem addStep_rmap (hi : Inj S g) (add : α → α → α) {p : Int × α} (hp : S p.1) {m : List (Int × α)} (hm : KeysIn S m) : addStep add (rmap g m) (g p.1, p.2) = rmap g (addStep add m p) := by
  unfold addStep
  rw [kget_rmap hi hp hm]
  split <;> exact kset_rmap hi hp _ hm
theorem fold_rmap (hi : Inj S g) (add : α → α → α) : ∀ (s z : List (Int × α)), KeysIn S s → KeysIn S z → (rmap g s).foldl (addStep add) (rmap g z) = rmap g (s.foldl (addStep add) z) ∧ KeysIn S (s.foldl (addStep add) z)
  | [], z, _, hz => ⟨rfl, hz⟩
  | p :: s, z, hs, hz => by
    have hp := hs p (List.mem_cons_self ..)
    have e : rmap g (p :: s) = (g p.1, p.2) :: rmap g s := rfl
    rw [e, List.foldl_cons, List.foldl_cons, addStep_rmap hi add hp hz]
    exact fold_rmap hi add s _ (fun q hq => hs q (List.mem_cons_of_mem _ hq)) (addStep_in add hp hz)
theorem rmap_keys (hi : Inj S g) {m : List (Int × α)} (hm : KeysIn S m) (nd : (m.map Prod.fst).Nodup) : ((rmap g m).map Prod.fst).Nodup := by
  rw [rmap, List.map_map]
  refine List.pairwise_map.mpr ((List.pairwise_map.mp nd).imp_of_mem fun {a b} ha hb hne e => hne (hi _ _ (hm a ha) (hm b hb) e))
theorem addK_rmap (hi : Inj S g) (add : α → α → α) {t s : List (Int × α)} (ht : KeysIn S t) (hs : KeysIn S s) (nd : (t.map Prod.fst).Nodup) : addK add (rmap g t) (rmap g s) = rmap g (addK add t s) ∧ KeysIn S (addK add t s) := by
  unfold addK
  rw [copyK_self nd, copyK_self (rmap_keys hi ht nd)]
  exact fold_rmap hi add s t hs ht
end
structure SdOk (sd : List (Int × Int)) : Prop where
  len : sd.length = 3
  lo : ∀ k, k < 3 → 0 ≤ (sd.getD k (0, 0)).1 ∧ (sd.getD k (0, 0)).1 ≤ 99
  df : ∀ k, k < 3 → (sd.getD k (0, 0)).2 - (sd.getD k (0, 0)).1 ≠ 0 ∧ -50 ≤ (sd.getD k (0, 0)).2 - (sd.getD k (0, 0)).1 ∧ (sd.getD k (0, 0)).2 - (sd.getD k (0, 0)).1 ≤ 50
noncomputable def packZ (n a b c : Int) : Int := ((n * 4096 + a) * 4096 + b) * 4096 + c
noncomputable abbrev offZ (sd : List (Int × Int)) (k : Nat) : Int := (sd.getD k (0, 0)).1
noncomputable abbrev difZ (sd : List (Int × Int)) (k : Nat) : Int := (sd.getD k (0, 0)).2 - (sd.getD k (0, 0)).1
noncomputable def digZ (sd : List (Int × Int)) (k : Nat) (n c : Int) : Int := n * offZ sd k + c * difZ sd k
noncomputable def psi (sd : List (Int × Int)) (K : Int) : Int :=
  packZ (K / 68719476736) (digZ sd 0 (K / 68719476736) (K / 16777216 % 4096)) (digZ sd 1 (K / 68719476736) (K / 4096 % 4096)) (digZ sd 2 (K / 68719476736) (K % 4096))
noncomputable def Good (m : Nat) (K : Int) : Prop := ∃ n a b c : Nat, K = packZ n a b c ∧ a ≤ n ∧ b ≤ n ∧ c ≤ n ∧ n ≤ m
theorem dv1 {q : Int} {r : Nat} (h : r < 4096) : (q * 4096 + r) / 4096 = q ∧ (q * 4096 + r) % 4096 = r := by omega
theorem dv2 (x : Int) : x / 16777216 = x / 4096 / 4096 := by omega
theorem dv3 (x : Int) : x / 68719476736 = x / 4096 / 4096 / 4096 := by omega
theorem psi_pack (sd : List (Int × Int)) {n a b c : Nat} (ha : a < 4096) (hb : b < 4096) (hc : c < 4096) : psi sd (packZ n a b c) = packZ n (digZ sd 0 n a) (digZ sd 1 n b) (digZ sd 2 n c) := by
  unfold psi
  have e1 : packZ n a b c / 68719476736 = n := by unfold packZ; rw [dv3, (dv1 hc).1, (dv1 hb).1, (dv1 ha).1]
  have e2 : packZ n a b c / 16777216 % 4096 = a := by unfold packZ; rw [dv2, (dv1 hc).1, (dv1 hb).1, (dv1 ha).2]
  have e3 : packZ n a b c / 4096 % 4096 = b := by unfold packZ; rw [(dv1 hc).1, (dv1 hb).2]
  have e4 : packZ n a b c % 4096 = c := by unfold packZ; rw [(dv1 hc).2]
  rw [e1, e2, e3, e4]
theorem dig_bound {sd : List (Int × Int)} (H : SdOk sd) {k : Nat} (hk : k < 3) {n c : Nat} (hn : n ≤ 8) (hc : c ≤ n) : -400 ≤ digZ sd k n c ∧ digZ sd k n c ≤ 1192 := by
  obtain ⟨l1, l2⟩ := H.lo k hk
  obtain ⟨_, d1, d2⟩ := H.df k hk
  unfold digZ offZ difZ
  generalize (sd.getD k (0, 0)).1 = o at *
  generalize (sd.getD k (0, 0)).2 - o = d at *
  have a1 : 0 ≤ (n : Int) * o := Int.mul_nonneg (by (first | lia | omega)) l1
  have a2 : (n : Int) * o ≤ 8 * 99 := Int.mul_le_mul (by (first | lia | omega)) l2 l1 (by (first | lia | omega))
  have a3 : (c : Int) * d ≤ (c : Int) * 50 := Int.mul_le_mul_of_nonneg_left d2 (by (first | lia | omega))
  have a4 : (c : Int) * (-50) ≤ (c : Int) * d := Int.mul_le_mul_of_nonneg_left d1 (by (first | lia | omega))
  (first | lia | omega)
theorem dig1 {q q' r r' : Int} (hr : -400 ≤ r ∧ r ≤ 1192) (hr' : -400 ≤ r' ∧ r' ≤ 1192) (h : q * 4096 + r = q' * 4096 + r') : q = q' ∧ r = r' := by omega
theorem pack_inj {n n' a a' b b' c c' : Int} (ha : -400 ≤ a ∧ a ≤ 1192) (ha' : -400 ≤ a' ∧ a' ≤ 1192) (hb : -400 ≤ b ∧ b ≤ 1192) (hb' : -400 ≤ b' ∧ b' ≤ 1192) (hc : -400 ≤ c ∧ c ≤ 1192) (hc' : -400 ≤ c' ∧ c' ≤ 1192) (h : packZ n a b c = packZ n' a' b' c') : n = n' ∧ a = a' ∧ b = b' ∧ c = c' := by
  unfold packZ at h
  obtain ⟨h, e3⟩ := dig1 hc hc' h
  obtain ⟨h, e2⟩ := dig1 hb hb' h
  obtain ⟨h, e1⟩ := dig1 ha ha' h
  exact ⟨h, e1, e2, e3⟩
theorem dig_inj {sd : List (Int × Int)} (H : SdOk sd) {k : Nat} (hk : k < 3) {n c c' : Int} (h : digZ sd k n c = digZ sd k n c') : c = c' := by
  unfold digZ at h
  exact Int.eq_of_mul_eq_mul_right (H.df k hk).1 (by unfold difZ at h; (first | lia | omega))
theorem psi_inj {sd : List (Int × Int)} (H : SdOk sd) : Inj (Good 8) (psi sd) := by
  rintro _ _ ⟨n, a, b, c, rfl, h1, h2, h3, h4⟩ ⟨n', a', b', c', rfl, g1, g2, g3, g4⟩ e
  rw [psi_pack sd (by (first | lia | omega)) (by (first | lia | omega)) (by (first | lia | omega)), psi_pack sd (by (first | lia | omega)) (by (first | lia | omega)) (by (first | lia | omega))] at e
  obtain ⟨e0, e1, e2, e3⟩ := pack_inj (dig_bound H (by decide) h4 h1) (dig_bound H (by decide) g4 g1) (dig_bound H (by decide) h4 h2) (dig_bound H (by decide) g4 g2) (dig_bound H (by decide) h4 h3) (dig_bound H (by decide) g4 g3) e
  rw [← e0] at e1 e2 e3
  have q1 := dig_inj H (by decide) e1
  have q2 := dig_inj H (by decide) e2
  have q3 := dig_inj H (by decide) e3
  rw [e0, q1, q2, q3]
noncomputable def sdA : List (Int × Int) := [(0, 1), (0, 1), (0, 1)]
theorem sideV_bit (sd : List (Int × Int)) (k m : Nat) : sideV sd k m = offZ sd k + (bit m k : Int) * difZ sd k := by
  unfold sideV offZ difZ
  rcases bit_01 m k with h | h <;> rw [h]
  · simp
  · rw [if_neg (by decide)]; simp only [Int.natCast_one, Int.one_mul]; (first | lia | omega)
theorem sideA {k : Nat} (hk : k < 3) (m : Nat) : sideV sdA k m = (bit m k : Int) := by
  rw [sideV_bit]
  match k, hk with
  | 0, _ => simp [sdA, offZ, difZ]
  | 1, _ => simp [sdA, offZ, difZ]
  | 2, _ => simp [sdA, offZ, difZ]
theorem step_pack (sd : List (Int × Int)) (m : Nat) : stepV sd m = packZ 1 (sideV sd 0 m) (sideV sd 1 m) (sideV sd 2 m) := by unfold stepV packZ; (first | lia | omega)
theorem pack_add (n n' a a' b b' c c' : Int) : packZ n a b c + packZ n' a' b' c' = packZ (n + n') (a + a') (b + b') (c + c') := by unfold packZ; (first | lia | omega)
theorem stepA (m : Nat) : stepV sdA m = packZ (1 : Nat) (bit m 0 : Nat) (bit m 1 : Nat) (bit m 2 : Nat) := by rw [step_pack, sideA (by decide), sideA (by decide), sideA (by decide)]; rfl
theorem good_step {m : Nat} {K : Int} (h : Good m K) : Good (m + 1) (K + stepV sdA m) := by
  obtain ⟨n, a, b, c, rfl, h1, h2, h3, h4⟩ := h
  refine ⟨n + 1, a + bit m 0, b + bit m 1, c + bit m 2, ?_, ?_, ?_, ?_, by (first | lia | omega)⟩
  · rw [stepA, pack_add]; push_cast; rfl
  · rcases bit_01 m 0 with h | h <;> (first | lia | omega)
  · rcases bit_01 m 1 with h | h <;> (first | lia | omega)
  · rcases bit_01 m 2 with h | h <;> (first | lia | omega)
theorem psi_step (sd : List (Int × Int)) {m j : Nat} {K : Int} (hm : m ≤ 8) (h : Good m K) : psi sd (K + stepV sdA j) = psi sd K + stepV sd j := by
  obtain ⟨n, a, b, c, rfl, h1, h2, h3, h4⟩ := h
  have e : packZ n a b c + stepV sdA j = packZ ((n + 1 : Nat) : Int) ((a + bit j 0 : Nat) : Int) ((b + bit j 1 : Nat) : Int) ((c + bit j 2 : Nat) : Int) := by rw [stepA, pack_add]; push_cast; rfl
  rw [e, psi_pack sd (by have := bit_01 j 0; (first | lia | omega)) (by have := bit_01 j 1; (first | lia | omega)) (by have := bit_01 j 2; (first | lia | omega)), psi_pack sd (by (first | lia | omega)) (by (first | lia | omega)) (by (first | lia | omega)), step_pack, pack_add]
  have d : ∀ k x, digZ sd k ((n + 1 : Nat) : Int) ((x + bit j k : Nat) : Int) = digZ sd k n x + sideV sd k j := fun k x => by
    rw [sideV_bit]; unfold digZ; push_cast; rw [Int.add_mul, Int.add_mul]; (first | lia | omega)
  rw [d, d, d]; push_cast; rfl
theorem cnt_nodup (sd : List (Int × Int)) : ∀ m, ((cnt sd m).map Prod.fst).Nodup
  | 0 => by simp [cnt]
  | m + 1 => addK_keys padd _ _ (cnt_nodup sd m)
theorem cnt_len (sd : List (Int × Int)) : ∀ m, (cnt sd m).length ≤ 2 ^ m
  | 0 => Nat.le_refl _
  | m + 1 => by
    have h := addK_len padd (cnt sd m) (shiftT (stepV sd m) m (cnt sd m))
    have ih := cnt_len sd m
    rw [cnt, Nat.pow_succ]
    have : (shiftT (stepV sd m) m (cnt sd m)).length = (cnt sd m).length := by simp [shiftT]
    (first | lia | omega)
theorem Good.mono {m m' : Nat} {K : Int} (h : Good m K) (hm : m ≤ m') : Good m' K := by
  obtain ⟨n, a, b, c, e, h1, h2, h3, h4⟩ := h
  exact ⟨n, a, b, c, e, h1, h2, h3, Nat.le_trans h4 hm⟩
theorem cnt_good {sd : List (Int × Int)} (H : SdOk sd) : ∀ m, m ≤ 8 → KeysIn (Good m) (cnt sdA m) ∧ cnt sd m = rmap (psi sd) (cnt sdA m)
  | 0, _ => by
    refine ⟨fun p hp => ?_, ?_⟩
    · rw [List.mem_singleton.mp hp]; exact ⟨0, 0, 0, 0, rfl, Nat.le_refl _, Nat.le_refl _, Nat.le_refl _, Nat.le_refl _⟩
    · have : psi sd 0 = 0 := by unfold psi digZ packZ; simp
      show [((0 : Int), ((1 : Int), (0 : Int)))] = [(psi sd 0, (1, 0))]
      rw [this]
  | m + 1, hm => by
    obtain ⟨h1, h2⟩ := cnt_good H m (by (first | lia | omega))
    have g1 : KeysIn (Good (m + 1)) (cnt sdA m) := fun p hp => (h1 p hp).mono (by (first | lia | omega))
    have g2 : KeysIn (Good (m + 1)) (shiftT (stepV sdA m) m (cnt sdA m)) := fun p hp => by
      obtain ⟨q, hq, rfl⟩ := List.mem_map.mp hp
      exact good_step (h1 q hq)
    have hi : Inj (Good (m + 1)) (psi sd) := fun a b ha hb e => psi_inj H a b (ha.mono hm) (hb.mono hm) e
    have hs : shiftT (stepV sd m) m (rmap (psi sd) (cnt sdA m)) = rmap (psi sd) (shiftT (stepV sdA m) m (cnt sdA m)) := by
      unfold shiftT rmap
      rw [List.map_map, List.map_map]
      apply List.map_congr_left
      intro p hp
      simp only [Function.comp]
      rw [psi_step sd (by (first | lia | omega) : m ≤ 8) (h1 p hp)]
    obtain ⟨k1, k2⟩ := addK_rmap hi padd g1 g2 (cnt_nodup sdA m)
    rw [cnt, cnt, h2, hs]
    exact ⟨k2, k1⟩
end Mine
end
/-! ## part F4 -/
section
open PySem PySem.W PyProof.Rows
set_option maxRecDepth 100000
namespace Mine
noncomputable def cA0 : List (Int × P2) := [(0, 1, 0)]
noncomputable def cA1 : List (Int × P2) := [(0, 1, 0), (68719476736, 1, 1)]
noncomputable def cA2 : List (Int × P2) := [(0, 1, 0), (68719476736, 1, 1), (68736253952, 1, 2), (137455730688, 1, 3)]
noncomputable def cA3 : List (Int × P2) := [(0, 1, 0), (68719476736, 1, 1), (68736253952, 1, 2), (137455730688, 1, 3), (68719480832, 1, 4), (137438957568, 1, 5), (137455734784, 1, 6), (206175211520, 1, 7)]
noncomputable def cA4 : List (Int × P2) := [(0, 1, 0), (68719476736, 1, 1), (68736253952, 1, 2), (137455730688, 1, 3), (68719480832, 1, 4), (137438957568, 1, 5), (137455734784, 2, 15), (206175211520, 1, 7), (68736258048, 1, 8), (137472512000, 1, 10), (206191988736, 1, 11), (137455738880, 1, 12), (206175215616, 1, 13), (206191992832, 1, 14), (274911469568, 1, 15)]
noncomputable def cA5 : List (Int × P2) := [(0, 1, 0), (68719476736, 1, 1), (68736253952, 1, 2), (137455730688, 1, 3), (68719480832, 1, 4), (137438957568, 1, 5), (137455734784, 2, 15), (206175211520, 1, 7), (68736258048, 1, 8), (137472512000, 1, 10), (206191988736, 1, 11), (137455738880, 1, 12), (206175215616, 1, 13), (206191992832, 1, 14), (274911469568, 1, 15), (68719476737, 1, 16), (137438953473, 1, 17), (137455730689, 1, 18), (206175207425, 1, 19), (137438957569, 1, 20), (206158434305, 1, 21), (206175211521, 2, 47), (274894688257, 1, 23), (137455734785, 1, 24), (206191988737, 1, 26), (274911465473, 1, 27), (206175215617, 1, 28), (274894692353, 1, 29), (274911469569, 1, 30), (343630946305, 1, 31)]
noncomputable def cA6 : List (Int × P2) := [(0, 1, 0), (68719476736, 1, 1), (68736253952, 1, 2), (137455730688, 1, 3), (68719480832, 1, 4), (137438957568, 1, 5), (137455734784, 2, 15), (206175211520, 1, 7), (68736258048, 1, 8), (137472512000, 1, 10), (206191988736, 1, 11), (137455738880, 1, 12), (206175215616, 1, 13), (206191992832, 1, 14), (274911469568, 1, 15), (68719476737, 1, 16), (137438953473, 1, 17), (137455730689, 2, 51), (206175207425, 1, 19), (137438957569, 1, 20), (206158434305, 1, 21), (206175211521, 3, 84), (274894688257, 1, 23), (137455734785, 2, 60), (206191988737, 3, 105), (274911465473, 2, 66), (206175215617, 1, 28), (274894692353, 1, 29), (274911469569, 2, 75), (343630946305, 1, 31), (68736253953, 1, 32), (137472507905, 1, 34), (206191984641, 1, 35), (137472512001, 1, 40), (206208765953, 1, 42), (274928242689, 1, 43), (206191992833, 1, 44), (274928246785, 1, 46), (343647723521, 1, 47), (137455730690, 1, 48), (206175207426, 1, 49), (206191984642, 1, 50), (274911461378, 1, 51), (206175211522, 1, 52), (274894688258, 1, 53), (274911465474, 2, 111), (343630942210, 1, 55), (206191988738, 1, 56), (274928242690, 1, 58), (343647719426, 1, 59), (274911469570, 1, 60), (343630946306, 1, 61), (343647723522, 1, 62), (412367200258, 1, 63)]
noncomputable def cA7 : List (Int × P2) := [(0, 1, 0), (68719476736, 1, 1), (68736253952, 1, 2), (137455730688, 1, 3), (68719480832, 1, 4), (137438957568, 1, 5), (137455734784, 2, 15), (206175211520, 1, 7), (68736258048, 1, 8), (137472512000, 1, 10), (206191988736, 1, 11), (137455738880, 1, 12), (206175215616, 1, 13), (206191992832, 1, 14), (274911469568, 1, 15), (68719476737, 1, 16), (137438953473, 1, 17), (137455730689, 2, 51), (206175207425, 1, 19), (137438957569, 2, 85), (206158434305, 1, 21), (206175211521, 4, 151), (274894688257, 1, 23), (137455734785, 3, 126), (206191988737, 3, 105), (274911465473, 2, 66), (206175215617, 3, 171), (274894692353, 2, 100), (274911469569, 3, 150), (343630946305, 1, 31), (68736253953, 1, 32), (137472507905, 1, 34), (206191984641, 1, 35), (137472512001, 1, 40), (206208765953, 1, 42), (274928242689, 1, 43), (206191992833, 2, 118), (274928246785, 1, 46), (343647723521, 1, 47), (137455730690, 1, 48), (206175207426, 1, 49), (206191984642, 1, 50), (274911461378, 1, 51), (206175211522, 3, 231), (274894688258, 2, 136), (274911465474, 3, 210), (343630942210, 1, 55), (206191988738, 2, 154), (274928242690, 1, 58), (343647719426, 1, 59), (274911469570, 4, 357), (343630946306, 3, 255), (343647723522, 2, 169), (412367200258, 1, 63), (68719480833, 1, 64), (137438961665, 1, 68), (206158438401, 1, 69), (137455738881, 1, 72), (206175219713, 1, 76), (274894696449, 1, 77), (274911473665, 1, 78), (343630950401, 1, 79), (137438957570, 1, 80), (206158434306, 1, 81), (206158438402, 1, 84), (274877915138, 1, 85), (274894692354, 3, 276), (343614169090, 1, 87), (206175215618, 2, 188), (274894696450, 1, 92), (343614173186, 1, 93), (343630950402, 2, 203), (412350427138, 1, 95), (137455734786, 1, 96), (206191992834, 1, 104), (274928246786, 1, 106), (274911473666, 1, 108), (343647727618, 1, 110), (412367204354, 1, 111), (206175211523, 1, 112), (274894688259, 1, 113), (274911465475, 1, 114), (343630942211, 1, 115), (274894692355, 1, 116), (343614169091, 1, 117), (343630946307, 2, 239), (412350423043, 1, 119), (274911469571, 1, 120), (343647723523, 1, 122), (412367200259, 1, 123), (343630950403, 1, 124), (412350427139, 1, 125), (412367204355, 1, 126), (481086681091, 1, 127)]
noncomputable def cA8 : List (Int × P2) := [(0, 1, 0), (68719476736, 1, 1), (68736253952, 1, 2), (137455730688, 1, 3), (68719480832, 1, 4), (137438957568, 1, 5), (137455734784, 2, 15), (206175211520, 1, 7), (68736258048, 1, 8), (137472512000, 1, 10), (206191988736, 1, 11), (137455738880, 1, 12), (206175215616, 1, 13), (206191992832, 1, 14), (274911469568, 1, 15), (68719476737, 1, 16), (137438953473, 1, 17), (137455730689, 2, 51), (206175207425, 1, 19), (137438957569, 2, 85), (206158434305, 1, 21), (206175211521, 4, 151), (274894688257, 1, 23), (137455734785, 4, 255), (206191988737, 4, 236), (274911465473, 2, 66), (206175215617, 4, 304), (274894692353, 2, 100), (274911469569, 4, 285), (343630946305, 1, 31), (68736253953, 1, 32), (137472507905, 1, 34), (206191984641, 1, 35), (137472512001, 2, 170), (206208765953, 1, 42), (274928242689, 1, 43), (206191992833, 4, 389), (274928246785, 2, 185), (343647723521, 1, 47), (137455730690, 1, 48), (206175207426, 1, 49), (206191984642, 1, 50), (274911461378, 1, 51), (206175211522, 4, 376), (274894688258, 2, 136), (274911465474, 4, 357), (343630942210, 1, 55), (206191988738, 4, 461), (274928242690, 2, 221), (343647719426, 1, 59), (274911469570, 8, 1020), (343630946306, 4, 406), (343647723522, 4, 491), (412367200258, 1, 63), (68719480833, 1, 64), (137438961665, 1, 68), (206158438401, 1, 69), (137455738881, 2, 204), (206175219713, 1, 76), (274894696449, 1, 77), (274911473665, 2, 219), (343630950401, 1, 79), (137438957570, 1, 80), (206158434306, 1, 81), (206158438402, 1, 84), (274877915138, 1, 85), (274894692354, 4, 425), (343614169090, 1, 87), (206175215618, 4, 529), (274894696450, 2, 289), (343614173186, 1, 93), (343630950402, 4, 559), (412350427138, 1, 95), (137455734786, 2, 240), (206191992834, 4, 614), (274928246786, 4, 595), (274911473666, 4, 663), (343647727618, 4, 644), (412367204354, 2, 270), (206175211523, 1, 112), (274894688259, 1, 113), (274911465475, 2, 291), (343630942211, 1, 115), (274894692355, 2, 325), (343614169091, 1, 117), (343630946307, 4, 631), (412350423043, 1, 119), (274911469571, 4, 735), (343647723523, 4, 716), (412367200259, 2, 306), (343630950403, 4, 784), (412350427139, 2, 340), (412367204355, 4, 765), (481086681091, 1, 127), (68736258049, 1, 128), (137472516097, 1, 136), (206208770049, 1, 138), (206191996929, 1, 140), (274928250881, 1, 142), (343647727617, 1, 143), (137472512002, 1, 160), (206208765954, 1, 162), (206208770050, 1, 168), (274945024002, 1, 170), (343664500738, 1, 171), (274928250882, 2, 374), (343664504834, 1, 174), (412383981570, 1, 175), (206191988739, 1, 176), (274928242691, 1, 178), (343647719427, 1, 179), (274928246787, 2, 410), (343664500739, 1, 186), (412383977475, 1, 187), (343647727619, 4, 869), (412383981571, 2, 425), (481103458307, 1, 191), (137455738882, 1, 192), (206175219714, 1, 196), (206191996930, 1, 200), (274911477762, 1, 204), (343630954498, 1, 205), (343647731714, 1, 206), (412367208450, 1, 207), (206175215619, 1, 208), (274894696451, 1, 212), (343614173187, 1, 213), (274911473667, 2, 444), (343630954499, 1, 220), (412350431235, 1, 221), (412367208451, 2, 459), (481086685187, 1, 223), (206191992835, 1, 224), (274928250883, 1, 232), (343664504835, 1, 234), (343647731715, 1, 236), (412383985667, 1, 238), (481103462403, 1, 239), (274911469572, 1, 240), (343630946308, 1, 241), (343647723524, 1, 242), (412367200260, 1, 243), (343630950404, 1, 244), (412350427140, 1, 245), (412367204356, 2, 495), (481086681092, 1, 247), (343647727620, 1, 248), (412383981572, 1, 250), (481103458308, 1, 251), (412367208452, 1, 252), (481086685188, 1, 253), (481103462404, 1, 254), (549822939140, 1, 255)]
theorem cA1_eq : addK padd cA0 (shiftT (stepV sdA 0) 0 cA0) = cA1 := by decide +kernel
theorem cA2_eq : addK padd cA1 (shiftT (stepV sdA 1) 1 cA1) = cA2 := by decide +kernel
theorem cA3_eq : addK padd cA2 (shiftT (stepV sdA 2) 2 cA2) = cA3 := by decide +kernel
theorem cA4_eq : addK padd cA3 (shiftT (stepV sdA 3) 3 cA3) = cA4 := by decide +kernel
theorem cA5_eq : addK padd cA4 (shiftT (stepV sdA 4) 4 cA4) = cA5 := by decide +kernel
theorem cA6_eq : addK padd cA5 (shiftT (stepV sdA 5) 5 cA5) = cA6 := by decide +kernel
theorem cA7_eq : addK padd cA6 (shiftT (stepV sdA 6) 6 cA6) = cA7 := by decide +kernel
theorem cA8_eq : addK padd cA7 (shiftT (stepV sdA 7) 7 cA7) = cA8 := by decide +kernel
theorem cnt8 : cnt sdA 0 = cA0 ∧ cnt sdA 1 = cA1 ∧ cnt sdA 2 = cA2 ∧ cnt sdA 3 = cA3 ∧ cnt sdA 4 = cA4 ∧ cnt sdA 5 = cA5 ∧ cnt sdA 6 = cA6 ∧ cnt sdA 7 = cA7 ∧ cnt sdA 8 = cA8 := by
  have e0 : cnt sdA 0 = cA0 := rfl
  have e1 : cnt sdA 1 = cA1 := by rw [cnt, e0]; exact cA1_eq
  have e2 : cnt sdA 2 = cA2 := by rw [cnt, e1]; exact cA2_eq
  have e3 : cnt sdA 3 = cA3 := by rw [cnt, e2]; exact cA3_eq
  have e4 : cnt sdA 4 = cA4 := by rw [cnt, e3]; exact cA4_eq
  have e5 : cnt sdA 5 = cA5 := by rw [cnt, e4]; exact cA5_eq
  have e6 : cnt sdA 6 = cA6 := by rw [cnt, e5]; exact cA6_eq
  have e7 : cnt sdA 7 = cA7 := by rw [cnt, e6]; exact cA7_eq
  have e8 : cnt sdA 8 = cA8 := by rw [cnt, e7]; exact cA8_eq
  exact ⟨e0, e1, e2, e3, e4, e5, e6, e7, e8⟩
noncomputable def allT : Nat → List (List Int)
  | 0 => [[]]
  | n + 1 => (allT n).flatMap fun l => [0 :: l, 1 :: l]
noncomputable def bcnt (t : List Int) (k : Nat) : Nat := ((trN t).map fun m => bit m k).sum
noncomputable def ldE (x y : Nat) : List Int := if x < y then [-1] else if y < x then [1] else []
noncomputable def hvE (x y : Nat) (a b : Int) : Bool := (!decide (x < y) || decide (b < a)) && (!decide (y < x) || decide (a < b))
noncomputable def chkL (t : List Int) (s : WE) : Bool := decide (s.2 ≤ 196) && decide (tellV s.1 = t) && prs.all fun p => decide (ldL t p.1 p.2 = ldE (bcnt t p.1) (bcnt t p.2)) && hvE (bcnt t p.1) (bcnt t p.2) (s.1.getD p.1 0) (s.1.getD p.2 0)
noncomputable def chkT (t : List Int) : Bool := !decide (bentL t = []) || chkL t (lawLearned t)
noncomputable def chkP (a b : Int) : Bool := (allT 6).all fun l => chkT (a :: b :: l)
theorem chkL00 : chkP 0 0 = true := by decide +kernel
theorem chkL01 : chkP 0 1 = true := by decide +kernel
theorem chkL10 : chkP 1 0 = true := by decide +kernel
theorem chkL11 : chkP 1 1 = true := by decide +kernel
noncomputable def keyA (t : List Int) : Int := packZ ((trN t).length : Nat) (bcnt t 0 : Nat) (bcnt t 1 : Nat) (bcnt t 2 : Nat)
noncomputable def chkF (t : List Int) : Bool := match kget cA8 (keyA t) with
  | some fv => decide (decide (fv = (1, trP (trN t))) = decide (bentL t = []))
  | none => false
noncomputable def chkG (a b : Int) : Bool := (allT 6).all fun l => chkF (a :: b :: l)
theorem chkG00 : chkG 0 0 = true := by decide +kernel
theorem chkG01 : chkG 0 1 = true := by decide +kernel
theorem chkG10 : chkG 1 0 = true := by decide +kernel
theorem chkG11 : chkG 1 1 = true := by decide +kernel
theorem mem_allT : ∀ (n : Nat) (t : List Int), t.length = n → (∀ x ∈ t, x = 0 ∨ x = 1) → t ∈ allT n
  | 0, t, hl, _ => by rw [List.length_eq_zero_iff.mp hl]; simp [allT]
  | n + 1, [], hl, _ => by simp at hl
  | n + 1, a :: t, hl, h => by
    have ih := mem_allT n t (by simpa using hl) fun x hx => h x (List.mem_cons_of_mem _ hx)
    refine List.mem_flatMap.mpr ⟨t, ih, ?_⟩
    rcases h a (List.mem_cons_self ..) with rfl | rfl <;> simp
theorem chk_all {q : List Int → Bool} (h00 : (allT 6).all (fun l => q (0 :: 0 :: l)) = true) (h01 : (allT 6).all (fun l => q (0 :: 1 :: l)) = true) (h10 : (allT 6).all (fun l => q (1 :: 0 :: l)) = true) (h11 : (allT 6).all (fun l => q (1 :: 1 :: l)) = true)
    {t : List Int} (hl : t.length = 8) (h : ∀ x ∈ t, x = 0 ∨ x = 1) : q t = true := by
  match t, hl with
  | a :: b :: l, hl =>
    have hm := mem_allT 6 l (by simpa using hl) fun x hx => h x (List.mem_cons_of_mem _ (List.mem_cons_of_mem _ hx))
    have ha := h a (List.mem_cons_self ..)
    have hb := h b (List.mem_cons_of_mem _ (List.mem_cons_self ..))
    rcases ha with rfl | rfl <;> rcases hb with rfl | rfl
    · exact List.all_eq_true.mp h00 l hm
    · exact List.all_eq_true.mp h01 l hm
    · exact List.all_eq_true.mp h10 l hm
    · exact List.all_eq_true.mp h11 l hm
theorem chkT_all {t : List Int} (hl : t.length = 8) (h : ∀ x ∈ t, x = 0 ∨ x = 1) : chkT t = true := chk_all chkL00 chkL01 chkL10 chkL11 hl h
theorem chkF_all {t : List Int} (hl : t.length = 8) (h : ∀ x ∈ t, x = 0 ∨ x = 1) : chkF t = true := chk_all chkG00 chkG01 chkG10 chkG11 hl h
theorem cA_sums : (cA8.map fun kv => kv.2.1).sum = 256 ∧ (cA8.map fun kv => kv.2.2).sum = 32640 ∧ ((List.range cA8.length).filter fun j => (cA8.getD j (0, (0, 0))).2.1 == 1).length = 104 := by decide +kernel
noncomputable def smallB (l : List (Int × P2)) : Bool := l.all fun kv => decide (kv.2.1.natAbs < 2 ^ 64)
theorem cA_small : smallB cA0 = true ∧ smallB cA1 = true ∧ smallB cA2 = true ∧ smallB cA3 = true ∧ smallB cA4 = true ∧ smallB cA5 = true ∧ smallB cA6 = true ∧ smallB cA7 = true ∧ smallB cA8 = true := by decide +kernel
end Mine
end
/-! ## part F5 -/
section
open PySem PySem.W PyProof.Rows
set_option maxRecDepth 100000
namespace Mine
theorem get_01 {t : List Int} (h : ∀ x ∈ t, x = 0 ∨ x = 1) (m : Nat) : t.getD m 0 = 0 ∨ t.getD m 0 = 1 := getD_01 h m
theorem smallB_all {l : List (Int × P2)} (h : smallB l = true) : ∀ kv ∈ l, kv.2.1.natAbs < 2 ^ 64 := fun kv hk => by
  have := List.all_eq_true.mp h kv hk
  simpa using this
theorem cA_small_at {m : Nat} (h : m ≤ 8) : smallB (cnt sdA m) = true := by
  obtain ⟨e0, e1, e2, e3, e4, e5, e6, e7, e8⟩ := cnt8
  obtain ⟨s0, s1, s2, s3, s4, s5, s6, s7, s8⟩ := cA_small
  match m, h with
  | 0, _ => rw [e0]; exact s0
  | 1, _ => rw [e1]; exact s1
  | 2, _ => rw [e2]; exact s2
  | 3, _ => rw [e3]; exact s3
  | 4, _ => rw [e4]; exact s4
  | 5, _ => rw [e5]; exact s5
  | 6, _ => rw [e6]; exact s6
  | 7, _ => rw [e7]; exact s7
  | 8, _ => rw [e8]; exact s8
  | n + 9, h => (first | lia | omega)
theorem cnt_ok {sd : List (Int × Int)} (H : SdOk sd) : CntOk sd := fun m hm => by
  refine ⟨Nat.le_trans (cnt_len sd m) (Nat.le_trans (Nat.pow_le_pow_right (by decide) hm) (by decide)), cnt_nodup sd m, fun kv hk => ?_⟩
  rw [(cnt_good H m hm).2] at hk
  obtain ⟨p, hp, rfl⟩ := List.mem_map.mp hk
  exact smallB_all (cA_small_at hm) p hp
theorem cnt_eight {sd : List (Int × Int)} (H : SdOk sd) : cnt sd 8 = rmap (psi sd) cA8 := by
  rw [(cnt_good H 8 (Nat.le_refl _)).2, cnt8.2.2.2.2.2.2.2.2]
theorem cA8_good {sd : List (Int × Int)} (H : SdOk sd) : KeysIn (Good 8) cA8 := by
  have := (cnt_good H 8 (Nat.le_refl _)).1
  rwa [cnt8.2.2.2.2.2.2.2.2] at this
theorem cnt_s1 {sd : List (Int × Int)} (H : SdOk sd) : ((cnt sd 8).map fun kv => kv.2.1).sum = 256 := by
  rw [cnt_eight H, rmap, List.map_map]; exact cA_sums.1
theorem cnt_s2 {sd : List (Int × Int)} (H : SdOk sd) : ((cnt sd 8).map fun kv => kv.2.2).sum = 32640 := by
  rw [cnt_eight H, rmap, List.map_map]; exact cA_sums.2.1
theorem cnt_s3 {sd : List (Int × Int)} (H : SdOk sd) : ((List.range (cnt sd 8).length).filter fun j => ((cnt sd 8).getD j (0, (0, 0))).2.1 == 1).length = 104 := by
  rw [cnt_eight H, rmap, List.length_map, ← cA_sums.2.2]
  refine congrArg List.length (List.filter_congr fun j hj => ?_)
  have hj := List.mem_range.mp hj
  simp [List.getD_eq_getElem?_getD, List.getElem?_eq_getElem hj]
theorem sum_nat (l : List Nat) (f : Nat → Nat) : (l.map fun m => ((f m : Nat) : Int)).sum = ((l.map f).sum : Nat) := by
  induction l with
  | nil => rfl
  | cons a l ih => simp only [List.map_cons, List.sum_cons, ih]; (first | lia | omega)
theorem sumS_eq (sd : List (Int × Int)) (k : Nat) (l : List Nat) : sumS sd k l = (l.length : Int) * offZ sd k + (((l.map fun m => bit m k).sum : Nat) : Int) * difZ sd k := by
  induction l with
  | nil => simp [sumS]
  | cons a l ih =>
    have e : sumS sd k (a :: l) = sideV sd k a + sumS sd k l := by simp [sumS]
    rw [e, ih, sideV_bit]
    simp only [List.length_cons, List.map_cons, List.sum_cons]
    push_cast
    rw [Int.add_mul, Int.add_mul]
    (first | lia | omega)
theorem bsum_le (k : Nat) (l : List Nat) : (l.map fun m => bit m k).sum ≤ l.length := by
  induction l with
  | nil => exact Nat.le_refl _
  | cons a l ih =>
    simp only [List.map_cons, List.sum_cons, List.length_cons]
    have := bit_01 a k
    (first | lia | omega)
theorem keyA_good (t : List Int) : Good 8 (keyA t) := ⟨(trN t).length, bcnt t 0, bcnt t 1, bcnt t 2, rfl, bsum_le 0 _, bsum_le 1 _, bsum_le 2 _, trN_len⟩
theorem key_psi (t : List Int) (sd : List (Int × Int)) : enKey (entS t sd 8) = psi sd (keyA t) := by
  have h0 := bsum_le 0 (trN t)
  have h1 := bsum_le 1 (trN t)
  have h2 := bsum_le 2 (trN t)
  have hl : (trN t).length ≤ 8 := trN_len
  unfold keyA
  rw [psi_pack sd (by unfold bcnt; (first | lia | omega)) (by unfold bcnt; (first | lia | omega)) (by unfold bcnt; (first | lia | omega)), entS_eq]
  unfold enKey
  simp only [sumS_eq]
  rfl
theorem found_ok {sd : List (Int × Int)} (H : SdOk sd) {t : List Int} (hl : t.length = 8) (h : ∀ x ∈ t, x = 0 ∨ x = 1) :
    ∃ fv, kget (cnt sd 8) (enKey (entS t sd 8)) = some fv ∧ decide (fv = (1, trP (trN t))) = decide (bentL t = []) := by
  rw [key_psi, cnt_eight H, kget_rmap (psi_inj H) (keyA_good t) (cA8_good H)]
  have c := chkF_all hl h
  unfold chkF at c
  cases e : kget cA8 (keyA t) with
  | none => rw [e] at c; cases c
  | some fv => rw [e] at c; exact ⟨fv, rfl, of_decide_eq_true c⟩
theorem ons_eq {sd : List (Int × Int)} (H : SdOk sd) (t : List Int) : onsV (entS t sd 8) sd = [((bcnt t 0 : Nat) : Int), ((bcnt t 1 : Nat) : Int), ((bcnt t 2 : Nat) : Int)] := by
  have key : ∀ k, k < 3 → onV (entS t sd 8) sd k = ((bcnt t k : Nat) : Int) := fun k hk => by
    have e : enG (entS t sd 8) k = sumS sd k (trN t) := by
      rw [entS_eq]
      match k, hk with
      | 0, _ => rfl
      | 1, _ => rfl
      | 2, _ => rfl
    have n : (entS t sd 8).n = ((trN t).length : Nat) := by rw [entS_eq]; rfl
    unfold onV
    rw [e, n, sumS_eq]
    have q : ((trN t).length : Int) * offZ sd k + (((trN t).map fun m => bit m k).sum : Nat) * difZ sd k - ((trN t).length : Int) * (sd.getD k (0, 0)).1 = ((bcnt t k : Nat) : Int) * difZ sd k := by
      show ((trN t).length : Int) * (sd.getD k (0, 0)).1 + ((bcnt t k : Nat) : Int) * difZ sd k - ((trN t).length : Int) * (sd.getD k (0, 0)).1 = _
      (first | lia | omega)
    rw [q]
    exact Int.mul_fdiv_cancel _ (H.df k hk).1
  show [onV _ _ 0, onV _ _ 1, onV _ _ 2] = _
  rw [key 0 (by decide), key 1 (by decide), key 2 (by decide)]
theorem cmp_lt {wv : Int} {x y : Nat} (h : x < y) : cmpV wv (x : Int) (y : Int) = -wv := by unfold cmpV; rw [if_pos (by (first | lia | omega))]
theorem cmp_gt {wv : Int} {x y : Nat} (h : y < x) : cmpV wv (x : Int) (y : Int) = wv := by unfold cmpV; rw [if_neg (by (first | lia | omega)), if_pos (by (first | lia | omega))]
theorem cmp_eq {wv : Int} {x : Nat} : cmpV wv (x : Int) (x : Int) = 0 := by unfold cmpV; rw [if_neg (by (first | lia | omega)), if_neg (by (first | lia | omega))]
theorem sq_pos {wv : Int} (h : wv ≠ 0) : 0 < wv * wv := by
  rcases Int.lt_or_gt_of_ne h with g | g
  · have := Int.mul_pos_of_neg_of_neg g g; exact this
  · exact Int.mul_pos g g
theorem ld_ok {wv : Int} (hw : wv ≠ 0) (x y : Nat) : ldE x y = if cmpV wv (x : Int) (y : Int) = 0 then [] else [(cmpV wv (x : Int) (y : Int)).fdiv wv] := by
  unfold ldE
  by_cases h1 : x < y
  · rw [if_pos h1, cmp_lt h1, if_neg (by (first | lia | omega))]
    have : (-wv) = (-1) * wv := by (first | lia | omega)
    rw [this, Int.mul_fdiv_cancel _ hw]
  · by_cases h2 : y < x
    · rw [if_neg h1, if_pos h2, cmp_gt h2, if_neg hw]
      have : wv.fdiv wv = (1 * wv).fdiv wv := by rw [Int.one_mul]
      rw [this, Int.mul_fdiv_cancel _ hw]
    · have : x = y := by (first | lia | omega)
      subst this
      rw [if_neg h1, if_neg h2, cmp_eq, if_pos rfl]
theorem hv_ok {wv : Int} (hw : wv ≠ 0) {x y pi pj : Nat} {hv : List Int} (h : hvE x y (hv.getD pi 0) (hv.getD pj 0) = true) : HeavyOk wv (cmpV wv (x : Int) (y : Int)) pi pj hv := by
  unfold HeavyOk
  generalize hv.getD pi 0 = a at h
  generalize hv.getD pj 0 = b at h
  have sp := sq_pos hw
  unfold hvE at h
  simp only [Bool.and_eq_true, Bool.or_eq_true, Bool.not_eq_true', decide_eq_false_iff_not, decide_eq_true_eq] at h
  obtain ⟨h1, h2⟩ := h
  by_cases g1 : x < y
  · have ba : b < a := h1.resolve_left (fun z => z g1)
    have e : cmpV (-wv) a b = -wv := by unfold cmpV; rw [if_neg (by (first | lia | omega)), if_pos ba]
    rw [cmp_lt g1, e]
    refine ⟨?_, fun z => hw (by (first | lia | omega))⟩
    rw [Int.neg_mul_neg]; (first | lia | omega)
  · by_cases g2 : y < x
    · have ab : a < b := h2.resolve_left (fun z => z g2)
      have e : cmpV (-wv) a b = wv := by unfold cmpV; rw [if_pos ab, Int.neg_neg]
      rw [cmp_gt g2, e]
      exact ⟨by (first | lia | omega), fun z => hw z.1⟩
    · have : x = y := by (first | lia | omega)
      subst this
      rw [cmp_eq, Int.zero_mul]
      exact ⟨by (first | lia | omega), fun z => z.2 rfl⟩
theorem prs_lt : ∀ p ∈ prs, p.1 < 3 ∧ p.2 < 3 := by decide
theorem on_getD (t : List Int) {k : Nat} (hk : k < 3) : ([((bcnt t 0 : Nat) : Int), ((bcnt t 1 : Nat) : Int), ((bcnt t 2 : Nat) : Int)] : List Int).getD k 0 = ((bcnt t k : Nat) : Int) := by
  match k, hk with
  | 0, _ => rfl
  | 1, _ => rfl
  | 2, _ => rfl
theorem tblF {sd : List (Int × Int)} (H : SdOk sd) {t w : List Int} {wv : Int} {tb : Nat} (hw : wv ≠ 0) (hl : t.length = 8) (h : ∀ x ∈ t, x = 0 ∨ x = 1)
    (hwt : tb = 0 → ∀ p ∈ prs, hvE (bcnt t p.1) (bcnt t p.2) (w.getD p.1 0) (w.getD p.2 0) = true) (htb : tb < 2) : TblF (cnt sd 8) sd w t wv tb (entS t sd 8) := by
  have c := chkT_all hl h
  have cc : bentL t = [] → chkL t (lawLearned t) = true := fun hb => by
    unfold chkT at c
    simpa [hb] using c
  refine ⟨hl, h, ent_eq t sd, found_ok H hl h, ?_, fun hb => ?_, fun hb => ?_, fun hb p hp => ?_⟩
  · rw [entS_eq]
    have : (trm t 8).length ≤ 8 := trN_len (t := t)
    show ((trm t 8).length : Int).natAbs ≤ _
    (first | lia | omega)
  · have := cc hb
    unfold chkL at this
    simp only [Bool.and_eq_true, decide_eq_true_eq] at this
    exact this.1.1
  · have := cc hb
    unfold chkL at this
    simp only [Bool.and_eq_true, decide_eq_true_eq] at this
    exact this.1.2
  · have := cc hb
    unfold chkL at this
    simp only [Bool.and_eq_true, decide_eq_true_eq, List.all_eq_true] at this
    obtain ⟨q1, q2⟩ := this.2 p hp
    obtain ⟨p1, p2⟩ := prs_lt p hp
    rw [ons_eq H]
    refine ⟨?_, fun hv hm => ?_⟩
    · rw [on_getD t p1, on_getD t p2, q1]; exact ld_ok hw _ _
    · rw [on_getD t p1, on_getD t p2]
      match tb, htb with
      | 0, _ =>
        have hm : hv ∈ [(lawLearned t).1, w] := hm
        simp only [List.mem_cons, List.not_mem_nil, or_false] at hm
        rcases hm with rfl | rfl
        · exact hv_ok hw q2
        · exact hv_ok hw (hwt rfl p hp)
      | 1, _ =>
        have hm : hv ∈ [(lawLearned t).1] := hm
        rw [List.mem_singleton.mp hm]
        exact hv_ok hw q2
end Mine
end
/-! ## part F6 -/
section
open PySem PySem.W PyProof.Rows
set_option maxRecDepth 100000
namespace Mine
noncomputable def ind (s : Int) : Int := if decide (s < 256) = true then 1 else 0
theorem ind_mono {a b : Int} (h : b ≤ a) : ind a ≤ ind b := by
  unfold ind
  by_cases h1 : a < 256
  · have h2 : b < 256 := by (first | lia | omega)
    simp [h1, h2]
  · by_cases h2 : b < 256 <;> simp [h1, h2]
theorem su_get {w : List Int} {m : Nat} (h : m < 8) : (tru0 (lawSU w)).getD m 0 = ind (lawSum w m) := by
  unfold tru0 lawSU
  rw [List.getD_eq_getElem?_getD, List.getElem?_map, List.getElem?_map, List.getElem?_range h]; rfl
theorem tru0_01 (su : List Int) : ∀ x ∈ tru0 su, x = 0 ∨ x = 1 := fun x hx => by
  obtain ⟨t, _, rfl⟩ := List.mem_map.mp hx
  by_cases h : decide (t < 256) = true
  · rw [if_pos h]; exact .inr rfl
  · rw [if_neg h]; exact .inl rfl
theorem tru1_01 (dn : Nat) : ∀ x ∈ tru1 dn, x = 0 ∨ x = 1 := fun x hx => by
  obtain ⟨m, _, rfl⟩ := List.mem_map.mp hx
  rcases bit_01 dn m with h | h <;> rw [h]
  · exact .inl rfl
  · exact .inr rfl
theorem bcnt_eq {t : List Int} (h : ∀ x ∈ t, x = 0 ∨ x = 1) (k : Nat) : ((bcnt t k : Nat) : Int) = ((List.range 8).map fun m => t.getD m 0 * ((bit m k : Nat) : Int)).sum := by
  rw [sum_01 (get_01 h), sum_nat]; rfl
theorem sum8 (f : Nat → Int) : ((List.range 8).map f).sum = f 0 + f 1 + f 2 + f 3 + f 4 + f 5 + f 6 + f 7 := by
  show f 0 + (f 1 + (f 2 + (f 3 + (f 4 + (f 5 + (f 6 + (f 7 + 0))))))) = _
  (first | lia | omega)
theorem bcnt_w {w : List Int} {t : List Int} (ht : t = tru0 (lawSU w)) :
    ((bcnt t 0 : Nat) : Int) = t.getD 1 0 + t.getD 3 0 + t.getD 5 0 + t.getD 7 0 ∧ ((bcnt t 1 : Nat) : Int) = t.getD 2 0 + t.getD 3 0 + t.getD 6 0 + t.getD 7 0 ∧ ((bcnt t 2 : Nat) : Int) = t.getD 4 0 + t.getD 5 0 + t.getD 6 0 + t.getD 7 0 := by
  have h := tru0_01 (lawSU w)
  rw [← ht] at h
  refine ⟨?_, ?_, ?_⟩
  · rw [bcnt_eq h, sum8]
    simp only [show bit 0 0 = 0 from rfl, show bit 1 0 = 1 from rfl, show bit 2 0 = 0 from rfl, show bit 3 0 = 1 from rfl, show bit 4 0 = 0 from rfl, show bit 5 0 = 1 from rfl, show bit 6 0 = 0 from rfl, show bit 7 0 = 1 from rfl, Int.natCast_zero, Int.natCast_one, Int.mul_zero, Int.mul_one]
    (first | lia | omega)
  · rw [bcnt_eq h, sum8]
    simp only [show bit 0 1 = 0 from rfl, show bit 1 1 = 0 from rfl, show bit 2 1 = 1 from rfl, show bit 3 1 = 1 from rfl, show bit 4 1 = 0 from rfl, show bit 5 1 = 0 from rfl, show bit 6 1 = 1 from rfl, show bit 7 1 = 1 from rfl, Int.natCast_zero, Int.natCast_one, Int.mul_zero, Int.mul_one]
    (first | lia | omega)
  · rw [bcnt_eq h, sum8]
    simp only [show bit 0 2 = 0 from rfl, show bit 1 2 = 0 from rfl, show bit 2 2 = 0 from rfl, show bit 3 2 = 0 from rfl, show bit 4 2 = 1 from rfl, show bit 5 2 = 1 from rfl, show bit 6 2 = 1 from rfl, show bit 7 2 = 1 from rfl, Int.natCast_zero, Int.natCast_one, Int.mul_zero, Int.mul_one]
    (first | lia | omega)
theorem lt3 {i : Nat} (h : i < 3) : i = 0 ∨ i = 1 ∨ i = 2 := by omega
theorem i_l {e x y z : Int} (h : y ≤ x) : ind (e + (x + z)) ≤ ind (e + (y + z)) := ind_mono (Int.add_le_add_left (Int.add_le_add_right h z) e)
theorem i_m {e x y u : Int} (h : y ≤ x) : ind (e + (u + (x + 0))) ≤ ind (e + (u + (y + 0))) := ind_mono (Int.add_le_add_left (Int.add_le_add_left (Int.add_le_add_right h 0) u) e)
theorem i_r {e x y u : Int} (h : y ≤ x) : ind (e + (x + (u + 0))) ≤ ind (e + (u + (y + 0))) := ind_mono (by omega)
theorem i_s {e x y u : Int} (h : y ≤ x) : ind (e + (u + (x + 0))) ≤ ind (e + (y + (u + 0))) := ind_mono (by omega)
theorem cm1 {m n : Nat} {A B C D E F : Int} (hm : (m : Int) = A + C + B + D) (hn : (n : Int) = E + C + F + D) (p : A ≤ E) (q : B ≤ F) : m ≤ n := by omega
theorem cm2 {m n : Nat} {A B C D E F : Int} (hm : (m : Int) = A + B + C + D) (hn : (n : Int) = E + C + F + D) (p : A ≤ E) (q : B ≤ F) : m ≤ n := by omega
theorem cm3 {m n : Nat} {A B C D E F : Int} (hm : (m : Int) = A + C + B + D) (hn : (n : Int) = E + F + C + D) (p : A ≤ E) (q : B ≤ F) : m ≤ n := by omega
theorem cm4 {m n : Nat} {A B C D E F : Int} (hm : (m : Int) = A + B + C + D) (hn : (n : Int) = E + F + C + D) (p : A ≤ E) (q : B ≤ F) : m ≤ n := by omega
theorem w_mono (a b c d : Int) {t : List Int} (ht : t = tru0 (lawSU [a, b, c, d])) : ∀ i j, i < 3 → j < 3 → ([a, b, c, d] : List Int).getD j 0 ≤ ([a, b, c, d] : List Int).getD i 0 → bcnt t i ≤ bcnt t j := by
  intro i j hi hj hw
  obtain ⟨x0, x1, x2⟩ := bcnt_w ht
  have g : ∀ m, m < 8 → t.getD m 0 = ind (lawSum [a, b, c, d] m) := fun m hm => by rw [ht, su_get hm]
  have s1 : lawSum [a, b, c, d] 1 = 256 + d + (a + 0) := rfl
  have s2 : lawSum [a, b, c, d] 2 = 256 + d + (b + 0) := rfl
  have s3 : lawSum [a, b, c, d] 3 = 256 + d + (a + (b + 0)) := rfl
  have s4 : lawSum [a, b, c, d] 4 = 256 + d + (c + 0) := rfl
  have s5 : lawSum [a, b, c, d] 5 = 256 + d + (a + (c + 0)) := rfl
  have s6 : lawSum [a, b, c, d] 6 = 256 + d + (b + (c + 0)) := rfl
  rw [g 1 (by decide), g 3 (by decide), g 5 (by decide), g 7 (by decide), s1, s3, s5] at x0
  rw [g 2 (by decide), g 3 (by decide), g 6 (by decide), g 7 (by decide), s2, s3, s6] at x1
  rw [g 4 (by decide), g 5 (by decide), g 6 (by decide), g 7 (by decide), s4, s5, s6] at x2
  rcases lt3 hi with rfl | rfl | rfl <;> rcases lt3 hj with rfl | rfl | rfl
  · exact Nat.le_refl _
  · exact cm1 x0 x1 (i_l hw) (i_l hw)
  · exact cm2 x0 x2 (i_l hw) (i_r hw)
  · exact cm1 x1 x0 (i_l hw) (i_l hw)
  · exact Nat.le_refl _
  · exact cm4 x1 x2 (i_l hw) (i_m hw)
  · exact cm3 x2 x0 (i_l hw) (i_s hw)
  · exact cm4 x2 x1 (i_l hw) (i_m hw)
  · exact Nat.le_refl _
theorem w_hv {w : List Int} (hw : w.length = 4) : ∀ p ∈ prs, hvE (bcnt (tru0 (lawSU w)) p.1) (bcnt (tru0 (lawSU w)) p.2) (w.getD p.1 0) (w.getD p.2 0) = true := by
  intro p hp
  obtain ⟨p1, p2⟩ := prs_lt p hp
  match w, hw with
  | [a, b, c, d], _ =>
    have m1 := w_mono a b c d rfl p.1 p.2 p1 p2
    have m2 := w_mono a b c d rfl p.2 p.1 p2 p1
    unfold hvE
    simp only [Bool.and_eq_true, Bool.or_eq_true, Bool.not_eq_true', decide_eq_false_iff_not, decide_eq_true_eq]
    generalize bcnt (tru0 (lawSU [a, b, c, d])) p.1 = x at *
    generalize bcnt (tru0 (lawSU [a, b, c, d])) p.2 = y at *
    generalize ([a, b, c, d] : List Int).getD p.1 0 = u at *
    generalize ([a, b, c, d] : List Int).getD p.2 0 = v at *
    constructor
    · by_cases h : x < y
      · refine .inr ?_
        rcases Int.lt_or_le v u with g | g
        · exact g
        · have := m2 g; (first | lia | omega)
      · exact .inl h
    · by_cases h : y < x
      · refine .inr ?_
        rcases Int.lt_or_le u v with g | g
        · exact g
        · have := m1 g; (first | lia | omega)
      · exact .inl h
theorem set_nonneg {l : List Int} {i : Nat} {v : Int} (h : ∀ x ∈ l, 0 ≤ x) (hv : 0 ≤ v) : ∀ x ∈ l.set i v, 0 ≤ x := fun x hx => by
  rcases List.mem_or_eq_of_mem_set hx with h' | rfl
  · exact h x h'
  · exact hv
theorem getD_nonneg {l : List Int} (h : ∀ x ∈ l, 0 ≤ x) (i : Nat) : 0 ≤ l.getD i 0 := by
  rw [List.getD_eq_getElem?_getD]
  cases e : l[i]? with
  | none => exact Int.le_refl _
  | some x => exact h x (List.mem_of_getElem? e)
theorem dr_nonneg (xs : List Int) : ∀ n, ∀ x ∈ dr xs n, 0 ≤ x
  | 0 => by
    show ∀ x ∈ dr0, 0 ≤ x
    decide
  | n + 1 => set_nonneg (dr_nonneg xs n) (by
    have := getD_nonneg (dr_nonneg xs n) (n % 11)
    (first | lia | omega))
theorem sd_get (d : List Int) {k : Nat} (hk : k < 3) : (lawSD d).getD k (0, 0) = (d.getD (5 + k) 0 % 100, side2 (d.getD (5 + k) 0) (d.getD (8 + k) 0)) := by
  unfold lawSD
  rw [List.getD_eq_getElem?_getD, List.getElem?_map, List.getElem?_range hk]; rfl
theorem sd_ok (d : List Int) : SdOk (lawSD d) := by
  refine ⟨rfl, fun k hk => ?_, fun k hk => ?_⟩
  · rw [sd_get d hk]
    dsimp only
    (first | lia | omega)
  · rw [sd_get d hk]
    dsimp only
    unfold side2
    generalize d.getD (5 + k) 0 = x
    generalize d.getD (8 + k) 0 = y
    split <;> (first | lia | omega)
theorem way_ok (d : List Int) : wayV d ≠ 0 ∧ (wayV d).natAbs ≤ 3 := by
  unfold wayV
  generalize hg : (d.getD 4 0 / 256 % 4).toNat = n
  have : n < 4 := by (first | lia | omega)
  match n, this with
  | 0, _ => decide
  | 1, _ => decide
  | 2, _ => decide
  | 3, _ => decide
theorem law_facts (xs : List Int) : ∃ ms f dn, LawF (lawDrawn xs) (lawW (lawDrawn xs)) (lawSU (lawW (lawDrawn xs))) (lawSD (lawDrawn xs)) ms f dn := by
  have hd : (lawDrawn xs).length = 11 := dr_length _ _
  have h0 := getD_nonneg (dr_nonneg (xs.take 60) (xs.take 60).length) 4
  obtain ⟨dn, hdn⟩ := Int.eq_ofNat_of_zero_le h0
  have hdn : (lawDrawn xs).getD 4 0 = (dn : Int) := hdn
  generalize lawDrawn xs = d at hd hdn
  have hw : (lawW d).length = 4 := rfl
  generalize lawW d = w at hw
  have H := sd_ok d
  obtain ⟨w0, w3⟩ := way_ok d
  generalize lawSD d = sd at H
  have hs : (lawSU w).length = 8 := rfl
  obtain ⟨c1, c2, c3, c4⟩ := cuts_ok hs
  obtain ⟨n1, n2, n3, n4⟩ := ends_ok hs
  have l0 : (tru0 (lawSU w)).length = 8 := rfl
  have l1 : (tru1 dn).length = 8 := rfl
  have z0 := tru0_01 (lawSU w)
  have z1 := tru1_01 dn
  refine ⟨rowS (lawSU w) 8, firesN (lawSU w), dn, ⟨hd, hw, H.len, hs, rfl, oth_row _, row_due _, rfl, ?_, ?_, cnt_ok H, cnt_s1 H, cnt_s2 H, cnt_s3 H, hdn, w0, w3, fun k hk => ?_, fun m hm => ?_, both_eq sd (get_01 z0) (get_01 z1), tblF H w0 l0 z0 (fun _ => w_hv hw) (by decide), tblF H w0 l1 z1 (fun h => by cases h) (by decide)⟩⟩
  · rw [c1, c2, c3, c4]; rfl
  · rw [n1, n2, n3, n4]
    have e1 : ((max (firesN (lawSU w)) 5 : Nat) : Int) = max ((firesN (lawSU w) : Nat) : Int) 5 := by (first | lia | omega)
    have e2 : ((min (firesN (lawSU w)) 3 : Nat) : Int) = min ((firesN (lawSU w) : Nat) : Int) 3 := by (first | lia | omega)
    rw [e1, e2]; rfl
  · obtain ⟨d0, d1, d2⟩ := H.df k hk
    exact ⟨d0, by (first | lia | omega)⟩
  · rw [oft_get hm]
    have a := get_01 z0 m
    have b := get_01 z1 m
    (first | lia | omega)
theorem law_holds : PySem.Challenge.rw_xh0017_01.Holds := join (law_ok law_facts)
end Mine
end
theorem PySem.Challenge.cw_xh0017_01_holds : PySem.Challenge.rw_xh0017_01.Holds :=
  Mine.law_holds
