import PyProof.Rows.All
import Wide.All
import OpenK.AllK
import Wide.FinOn
import Flt.RightMore
import Flt.RightSqrt
import Flt.Calls
import PySem.Challenge.RW_mj0062_01
set_option Elab.async false
section
open PySem PySem.W PyProof.Rows
set_option maxRecDepth 100000
set_option maxHeartbeats 8000000
namespace Mine
open_top hd for PySem.Challenge.rw_mj0062_01
end Mine
end
section
open PySem PySem.W PySem.Calls PyProof.Rows
set_option maxRecDepth 100000
set_option maxHeartbeats 8000000
namespace Mine

/-- the heap without the table of nested code that belongs to add_callers (a generator expression lets it grow) -/
@[irreducible] def hid (h : Heap) : Heap := h.hide 23
theorem hid_get {h : Heap} {b : Addr} (hb : b ≠ 23) : (hid h).get? b = h.get? b := by unfold hid; exact Heap.hide_ne h hb
theorem hid_none (h : Heap) : (hid h).get? 23 = none := by unfold hid; exact Heap.hide_self h 23
theorem hid_size (h : Heap) : (hid h).objs.size = h.objs.size := by unfold hid; exact Heap.hide_size h 23
theorem hid_ne {h : Heap} {b : Addr} {o : Obj} (e : (hid h).get? b = some o) : b ≠ 23 := by
  rintro rfl
  rw [hid_none] at e; cases e
theorem of_hid {h : Heap} {b : Addr} {o : Obj} (e : (hid h).get? b = some o) : h.get? b = some o := (hid_get (hid_ne e)).symm.trans e

abbrev Stays (h h' : Heap) : Prop := ∀ b o, h.get? b = some o → h'.get? b = some o
theorem Stays.refl (h : Heap) : Stays h h := fun _ _ e => e
theorem Stays.trans {h h' h'' : Heap} (x : Stays h h') (y : Stays h' h'') : Stays h h'' := fun b o e => y b o (x b o e)

abbrev tabObj (ps : Array Value) : Obj := { cls := .none, data := .fields ps }
def TabOk (ps : Array Value) : Prop := ps = #[] ∨ ∃ c, ps = #[rawInt 13, rawInt 42, .ref c]

abbrev TopAt (mg mb : Str → Option Value) (h : Heap) : Prop := TopRead Mine.hd.view_39 (looseW Mine.hd.view_39 []) mg mb h

structure Sees (w : World) (mg mb : Str → Option Value) (h : Heap) : Prop where
  X : (Mine.hd.heap_39 w.params).In (hid h)
  T : TopAt mg mb (hid h)
  tab : ∃ ps, h.get? 23 = some (tabObj ps) ∧ TabOk ps
  bmod : ∃ bm ob, BMod (hid h) mainGlobals mg bm ob

/-- room for calls -/
structure Room (A : Around) (d u : Nat) : Prop where
  depth : A.depth + d < recursionLimit
  units : A.units + u < cLine
  handled : A.handled = none

theorem enter {K : Frag} {prog : Program} {w : World} {A : Around} {s : Shared} {Q E : Value → Shared → Prop} {p : Program} {loose : List Str} {mg mb : Str → Option Value} {ps : Array Value}
    {name qual : Str} {params : Arguments} {body : List Stmt} {scope : Scope} {dV kV doc pm cdv ct oc : Value} {an od : Option Addr} {osl : Array (Option Value)} {f : Addr} {args : List Value} {binds : List (Str × Value)}
    (X : K.In (hid s.heap)) (T : TopRead p loose mg mb (hid s.heap)) (tab : s.heap.get? 23 = some (tabObj ps))
    (ho : K.lookup f = some ⟨oc, od, .func (fnOf name qual params body scope dV kV doc pm an cdv ct), osl⟩) (hcd : codeIn K cdv qual = true) (hroom : A.depth < recursionLimit)
    (hbind : BindsTo s (fnOf name qual params body scope dV kV doc pm an cdv ct) ⟨args, []⟩ binds) (hloc : ∀ y ∈ binds, scope.names.lookup y.1 = some .local)
    (h : ∀ h₁, Fr (hid s.heap) s.heap.objs.size h₁ (fun y => binds.reverse.lookup y) → News (hid s.heap) s.heap.objs.size h₁ [(23, tabObj ps)] →
      wpAny (model prog w) (A.deeper (envOf qual scope s.heap.objs.size f cdv)) (execs body (envOf qual scope s.heap.objs.size f cdv))
        (fun fl s' => Q (match fl with | .ret v => v | _ => .none) s') (fun _ _ => False)
        { s with heap := h₁, toks := s.toks + binds.length })
    (hco : scope.isCoroutine = false := by rfl) (hgen : scope.isGenerator = false := by rfl) (hk : scope.kind = .function := by rfl)
    (hcell : ∀ x ∈ scope.names, x.2 ≠ .cell := by decide) : wpAny (model prog w) A (call (.ref f) args) Q E s := by
  have up : Stays (hid s.heap) s.heap := fun b o e => of_hid e
  refine wpAny_call ?_
  refine codeAny_call_def (fd := fnOf name qual params body scope dV kV doc pm an cdv ct) (body := body) (binds := binds) hroom (up _ _ (X _ _ ho)) rfl (T.nolimit.keeps up) (codeRec_of (X.keeps up) hcd) rfl hbind hcell hloc (fun h₁ hns hk₁ => ?_) hco hgen hk
  refine wpAny_mono (h h₁ ⟨hns, fun b o e => hk₁ b o (up b o e), Nat.le_of_eq (hid_size _)⟩ fun p hp => ?_) (fun fl s' hl => hl) fun _ _ y => y.elim
  rw [List.mem_singleton.mp hp]
  exact ⟨hk₁ _ _ tab, Nat.ne_of_lt (Heap.lt_size tab), hid_none _⟩

section
variable {w : World} {mg mb : Str → Option Value} {g h h' : Heap} {L : Addr} {m : Str → Option Value} {news : List (Addr × Obj)} {ps : Array Value}

theorem fresh_back {h h' : Heap} {d : Addr} (st : Stays h h') (e : h'.get? d = none) : h.get? d = none := by
  cases q : h.get? d with
  | none => rfl
  | some o => rw [st _ _ q] at e; cases e
/-- at a callee's end -/
theorem end_stays (F : Fr (hid g) L h' m) : Stays (hid g) (hid h') := fun b o e => (hid_get (hid_ne e)).trans (F.keep b o e)
theorem end_sees (F : Fr (hid g) L h' m) (N : News (hid g) L h' news) (hm : (23, tabObj ps) ∈ news) (ok : TabOk ps) (X : (Mine.hd.heap_39 w.params).In (hid g)) (T : TopAt mg mb (hid g)) (BM : ∃ bm ob, BMod (hid g) mainGlobals mg bm ob) : Sees w mg mb h' :=
  ⟨X.keeps (end_stays F), T.keeps (end_stays F), ⟨ps, N.get hm, ok⟩, BM.imp fun _ x => x.imp fun _ y => y.keeps (end_stays F)⟩
theorem end_get {g₀ : Heap} {a : Addr} {o : Obj} (N : News g₀ L h' news) (hm : (23, tabObj ps) ∈ news) (ha : (a, o) ∈ news) (hc : o.cls ≠ .none) : (hid h').get? a = some o := by
  refine (hid_get ?_).trans (N.get ha)
  rintro rfl
  have := (N.get ha).symm.trans (N.get hm)
  cases this
  exact hc rfl
theorem end_tup {g₀ : Heap} {a : Addr} {items : Array Value} {n : Nat} {d : Option Addr} {sl : Array (Option Value)} (N : News g₀ L h' news) (hm : (23, tabObj ps) ∈ news) (ha : (a, { cls := .type "tuple", dict := d, data := .seq items n, slots := sl }) ∈ news) : IsTup (hid h') a items :=
  ⟨_, end_get N hm ha (by simp), rfl, _, rfl⟩
theorem end_list {g₀ : Heap} {a : Addr} {items : Array Value} {n : Nat} {d : Option Addr} {sl : Array (Option Value)} (N : News g₀ L h' news) (hm : (23, tabObj ps) ∈ news) (ha : (a, { cls := .type "list", dict := d, data := .seq items n, slots := sl }) ∈ news) : (hid h').IsList a items :=
  ⟨_, end_get N hm ha (by simp), rfl, _, rfl⟩
theorem end_dict {prog : Program} {K : Type} [DecidableEq K] {knd : KeyKind prog w K} {kvs : List (K × Value)} {g₀ : Heap} {a : Addr} {o : Obj} (N : News g₀ L h' news) (hm : (23, tabObj ps) ∈ news) (ha : (a, o) ∈ news) (hd : o.IsDictOf knd kvs) : (hid h').DictOf knd a kvs :=
  Heap.dictOf_iff.mpr ⟨o, end_get N hm ha (by obtain ⟨_, _, ⟨hc, _⟩, _⟩ := hd; rw [hc]; simp), hd⟩

/-- every object of the heap that is neither the frame nor the base's -/
@[irreducible] def allNews (h₀ : Heap) (L : Addr) (h : Heap) : List (Addr × Obj) :=
  (List.range h.objs.size).filterMap fun a => if a = L then none else if (h₀.get? a).isSome then none else (h.get? a).map fun o => (a, o)
theorem mem_all {h₀ : Heap} {a : Addr} {o : Obj} (h1 : a ≠ L) (h2 : h₀.get? a = none) (h3 : h.get? a = some o) : (a, o) ∈ allNews h₀ L h := by
  unfold allNews
  refine List.mem_filterMap.mpr ⟨a, List.mem_range.mpr (Heap.lt_size h3), ?_⟩
  rw [if_neg h1, h2, h3]; rfl
theorem of_mem_all {h₀ : Heap} {p : Addr × Obj} (hp : p ∈ allNews h₀ L h) : p.1 ≠ L ∧ h₀.get? p.1 = none ∧ h.get? p.1 = some p.2 := by
  unfold allNews at hp
  obtain ⟨a, _, e⟩ := List.mem_filterMap.mp hp
  split at e
  · cases e
  · rename_i n1
    split at e
    · cases e
    · rename_i n2
      obtain ⟨o, ho, rfl⟩ := Option.map_eq_some_iff.mp e
      exact ⟨n1, by simpa using n2, ho⟩

/-- a call came back -/
theorem back_fr (F : Fr (hid g) L h m) (hL : L ≠ 23) (st : Stays (hid h) (hid h')) : Fr (hid g) L h' m := by
  have up : ∀ b o, b ≠ 23 → h.get? b = some o → h'.get? b = some o := fun b o hb e => of_hid (st b o ((hid_get hb).trans e))
  obtain ⟨oL, es, ep, ho, r⟩ := F.ns
  exact ⟨⟨oL, es, ep, up _ _ hL ho, r⟩, fun b o e => up b o (hid_ne e) (F.keep b o e), F.above⟩
theorem back_news (hL : L ≠ 23) (tab : h'.get? 23 = some (tabObj ps)) : News (hid g) L h' ((23, tabObj ps) :: allNews (hid g) L (hid h')) := by
  intro p hp
  rcases List.mem_cons.mp hp with rfl | hp
  · exact ⟨tab, Ne.symm hL, hid_none _⟩
  · obtain ⟨a, b, c⟩ := of_mem_all hp
    exact ⟨of_hid c, a, b⟩
/-- what stood at h stands at h', the frame apart -/
theorem staysBut {m' : Str → Option Value} (F' : Fr (hid g) L h' m') (F : Fr (hid g) L h m) (N : News (hid g) L h' news) (hs : ∀ p ∈ allNews (hid g) L (hid h), p ∈ news) : ∀ b o, b ≠ L → (hid h).get? b = some o → (hid h').get? b = some o := by
  intro b o hb e
  refine (hid_get (hid_ne e)).trans ?_
  cases q : (hid g).get? b with
  | none => exact (N _ (hs _ (mem_all hb q e))).1
  | some o' => have := F.keep b o' q; rw [of_hid e] at this; cases this; exact F'.keep b o q
theorem fr_ne_tup {h₀ : Heap} {a : Addr} {items : Array Value} (F : Fr h₀ L h m) (H : IsTup (hid h) a items) : a ≠ L := by
  rintro rfl
  obtain ⟨o, es, ep, ho, hd, _⟩ := F.ns
  obtain ⟨o', ho', _, n, hd'⟩ := H
  rw [of_hid ho'] at ho; cases ho; rw [hd] at hd'; cases hd'
theorem fr_ne_list {h₀ : Heap} {a : Addr} {items : Array Value} (F : Fr h₀ L h m) (H : (hid h).IsList a items) : a ≠ L := by
  rintro rfl
  obtain ⟨o, es, ep, ho, hd, _⟩ := F.ns
  obtain ⟨o', ho', _, n, hd'⟩ := H
  rw [of_hid ho'] at ho; cases ho; rw [hd] at hd'; cases hd'
end
end Mine
end
section
open PySem PySem.W PySem.Calls PyProof.Rows
set_option maxRecDepth 100000
set_option maxHeartbeats 8000000
namespace Mine

structure Light where
  r : Int
  g : Int
  b : Int
  p : Str

def addP (acc : List Str) (p : Str) : List Str := if p ∈ acc then acc else acc ++ [p]
def places (ls : List Light) : List Str := ls.foldl (fun acc l => addP acc l.p) []
def atP (p : Str) (ls : List Light) : List Light := ls.filter fun l => decide (l.p = p)
abbrev Phi := Nat → List Light → UInt64 → Prop

abbrev knd (w : World) : KeyKind Challenge.rw_mj0062_01.row.prog w Str := strKind Challenge.rw_mj0062_01.row.prog w

def RowIs (Φ : Phi) (h : Heap) (v : Value) (ls : List Light) : Prop :=
  ∃ a b0 b1 b2 t0 t1 t2 t3, v = .ref a ∧ IsTup h a #[.float b0 t0, .float b1 t1, .float b2 t2, .int ls.length t3] ∧ Φ 0 ls b0 ∧ Φ 1 ls b1 ∧ Φ 2 ls b2 ∧ t0 ≠ 0 ∧ t1 ≠ 0 ∧ t2 ≠ 0
def CallersIs (w : World) (Φ : Phi) (h : Heap) (d : Addr) (ls : List Light) : Prop :=
  (d == sysModules) = false ∧ ∃ kvs : List (Str × Value), h.DictOf (knd w) d kvs ∧ kvs.map (·.1) = places ls ∧ ∀ kv ∈ kvs, RowIs Φ h kv.2 (atP kv.1 ls)
def ColIs (Φ : Phi) (i : Nat) (ls : List Light) (v : Value) : Prop :=
  (ls = [] ∧ ∃ t, v = .int 0 t) ∨ (ls ≠ [] ∧ ∃ b t, v = .float b t ∧ Φ i ls b ∧ t ≠ 0)
def EntryAt (w : World) (Φ : Phi) (h : Heap) (v : Value) (d : Addr) (ls : List Light) : Prop :=
  ∃ a c0 c1 c2 tn, v = .ref a ∧ IsTup h a #[c0, c1, c2, .int ls.length tn, .ref d] ∧ ColIs Φ 0 ls c0 ∧ ColIs Φ 1 ls c1 ∧ ColIs Φ 2 ls c2 ∧ CallersIs w Φ h d ls

theorem RowIs.keeps {Φ : Phi} {h h' : Heap} {v : Value} {ls : List Light} (x : RowIs Φ h v ls) (k : Stays h h') : RowIs Φ h' v ls :=
  let ⟨a, b0, b1, b2, t0, t1, t2, t3, e, ht, r⟩ := x; ⟨a, b0, b1, b2, t0, t1, t2, t3, e, ht.keeps k, r⟩
theorem CallersIs.keeps {w : World} {Φ : Phi} {h h' : Heap} {d : Addr} {ls : List Light} (x : CallersIs w Φ h d ls) (k : Stays h h') : CallersIs w Φ h' d ls :=
  let ⟨n, kvs, hd, hk, hr⟩ := x; ⟨n, kvs, hd.keep k, hk, fun kv hm => (hr kv hm).keeps k⟩
theorem EntryAt.keeps {w : World} {Φ : Phi} {h h' : Heap} {v : Value} {d : Addr} {ls : List Light} (x : EntryAt w Φ h v d ls) (k : Stays h h') : EntryAt w Φ h' v d ls :=
  let ⟨a, c0, c1, c2, tn, e, ht, p0, p1, p2, hc⟩ := x; ⟨a, c0, c1, c2, tn, e, ht.keeps k, p0, p1, p2, hc.keeps k⟩

/-- over a change of the frame alone -/
theorem IsTup.keepsBut {h h' : Heap} {L a : Addr} {items : Array Value} (x : IsTup h a items) (k : ∀ b o, b ≠ L → h.get? b = some o → h'.get? b = some o) (hL : a ≠ L) : IsTup h' a items :=
  let ⟨o, ho, r⟩ := x; ⟨o, k _ _ hL ho, r⟩
theorem RowIs.keepsBut {Φ : Phi} {h h' h₀ hx : Heap} {L : Addr} {m : Str → Option Value} {v : Value} {ls : List Light} (x : RowIs Φ (hid h) v ls) (F : Fr h₀ L h m) (k : ∀ b o, b ≠ L → (hid h).get? b = some o → (hid h').get? b = some o) : RowIs Φ (hid h') v ls :=
  let ⟨a, b0, b1, b2, t0, t1, t2, t3, e, ht, r⟩ := x; ⟨a, b0, b1, b2, t0, t1, t2, t3, e, IsTup.keepsBut ht k (fr_ne_tup F ht), r⟩
theorem CallersIs.keepsBut {w : World} {Φ : Phi} {h h' h₀ : Heap} {L : Addr} {m : Str → Option Value} {d : Addr} {ls : List Light} (x : CallersIs w Φ (hid h) d ls) (hd : d ≠ L) (F : Fr h₀ L h m) (k : ∀ b o, b ≠ L → (hid h).get? b = some o → (hid h').get? b = some o) : CallersIs w Φ (hid h') d ls :=
  let ⟨n, kvs, ⟨o, es, ep, ho, r⟩, hk, hr⟩ := x; ⟨n, kvs, ⟨o, es, ep, k _ _ hd ho, r⟩, hk, fun kv hm => RowIs.keepsBut (hx := h') (hr kv hm) F k⟩
theorem EntryAt.keepsBut {w : World} {Φ : Phi} {h h' h₀ : Heap} {L : Addr} {m : Str → Option Value} {v : Value} {d : Addr} {ls : List Light} (x : EntryAt w Φ (hid h) v d ls) (hd : d ≠ L) (F : Fr h₀ L h m) (k : ∀ b o, b ≠ L → (hid h).get? b = some o → (hid h').get? b = some o) : EntryAt w Φ (hid h') v d ls :=
  let ⟨a, c0, c1, c2, tn, e, ht, p0, p1, p2, hc⟩ := x; ⟨a, c0, c1, c2, tn, e, IsTup.keepsBut ht k (fr_ne_tup F ht), p0, p1, p2, hc.keepsBut hd F k⟩
theorem ne_of_fresh {h h₀ : Heap} {L d : Addr} {m : Str → Option Value} (F : Fr h₀ L h m) (hL : L ≠ 23) (hd : (hid h).get? d = none) : d ≠ L := by
  rintro rfl
  obtain ⟨o, es, ep, ho, _⟩ := F.ns
  rw [hid_get hL, ho] at hd; cases hd

def LightIs (h : Heap) (v : Value) (l : Light) : Prop :=
  ∃ a t0 t1 t2 t3, v = .ref a ∧ IsTup h a #[.int l.r t0, .int l.g t1, .int l.b t2, .str l.p t3]
theorem LightIs.keeps {h h' : Heap} {v : Value} {l : Light} (x : LightIs h v l) (k : Stays h h') : LightIs h' v l :=
  let ⟨a, t0, t1, t2, t3, e, ht⟩ := x; ⟨a, t0, t1, t2, t3, e, ht.keeps k⟩


section
variable {prog : Program} {w : World} {A : Around} {E : Value → Shared → Prop} {s : Shared} {h₀ : Heap} {L : Addr} {m : Str → Option Value} {news : List (Addr × Obj)}

/-- a display of one pair, key and value by names of the frame -/
theorem dict1 {cn : Str} {cs : Scope} {a : Addr} {ccd : Value} {kx vx : Str} {pk pv pos : Pos} {x : Str} {t : Tok} {v : Value} {Q : Value → Shared → Prop}
    (F : Fr h₀ L s.heap m) (N : News h₀ L s.heap news) (hbig : h₀.NoLimit) (hk : m kx = some (.str x t)) (hv : m vx = some v)
    (k : ∀ d h' o, Fr h₀ L h' m → News h₀ L h' ((d, o) :: news) → (∀ p ∈ news, p.1 < d) → (d == sysModules) = false → o.IsDictOf (strKind prog w) [(x, v)] → Q (.ref d) { s with heap := h', toks := s.toks + 1 })
    (hc : cs.kind = .function := by rfl) (hl1 : (envOf cn cs L a ccd).kindOf kx = some .local := by rfl) (hl2 : (envOf cn cs L a ccd).kindOf vx = some .local := by rfl)
    (hd1 : (kx == ("__debug__" : Str)) = false := by decide) (hd2 : (vx == ("__debug__" : Str)) = false := by decide) :
    wpAny (model prog w) A (eval (.Dict [some (.Name kx pk)] [.Name vx pv] pos) (envOf cn cs L a ccd)) Q E s := by
  refine wpAny_Dict_walk (knd := strKind prog w) rfl rfl (by simp) (by simp) ?_
  refine pairTrees_cons_walk ?_
  refine ld (F.push _) hk ?_ hc hl1 hd1
  refine ld (F.push _) hv ?_ hc hl2 hd2
  refine pairTrees_nil_walk ?_
  refine display_done_str (P := fun h' => Q (.ref s.heap.objs.size) { s with heap := h', toks := s.toks + 1 }) rfl ?_ (Heap.DictOf.new (knd := strKind prog w) s.heap) ?_
  · simp [strPairs]
  · intro h' hd hs
    obtain ⟨o', ho', hd'⟩ := Heap.dictOf_iff.mp hd
    have hx := F.notModules (modules_low hbig)
    refine k _ h' o' (F.filled hs) ?_ (fun p hp => Heap.lt_size (N p hp).1) hx hd'
    have N' := News.push F N { cls := .type "dict", data := .dict #[] }
    exact News.setAt (own := []) N' (fun _ hp => nomatch hp) (fun p hp => Nat.ne_of_lt (Heap.lt_size (N p hp).1)) hs ho'
end

theorem hideQ {α : Type} {prog : Program} {w : World} {A : Around} {x : Sem α} {Q : α → Shared → Prop} {E : Value → Shared → Prop} {s : Shared} (h : ∀ QQ : α → Shared → Prop, (∀ a s, Q a s → QQ a s) → wpAny (model prog w) A x QQ E s) : wpAny (model prog w) A x Q E s := h Q fun _ _ h => h

end Mine
end
section
open PySem PySem.W PySem.Calls PyProof.Rows
open Sem (wp)
set_option maxRecDepth 100000
set_option maxHeartbeats 8000000
namespace Mine

section
variable {prog : Program} {w : World} {A : Around} {E : Value → Shared → Prop} {s : Shared}

theorem next_tup_item {it l : Addr} {i : Nat} {items : Array Value} {x : Value} {Q : Value → Shared → Prop} (hit : s.heap.IsTupleIter it l i)
    (hl : s.heap.IsTuple l items) (hx : items[i]? = some x)
    (hQ : ∀ h', h'.IsTupleIter it l (i + 1) → Heap.SameBut it s.heap h' → Q x { s with heap := h' }) :
    wpAny (model prog w) A (Builtin.SmallTypes.nextOf (.ref it)) Q E s := by
  obtain ⟨o, ho, hc, hd⟩ := id hit
  obtain ⟨ol, hol, _, nl, hdl⟩ := hl
  unfold Builtin.SmallTypes.nextOf
  refine wpAny_bind (wpAny_callSpecial?_slot (name := Str.ofString "__next__") hit.typeIs F.slot_tuple_iterator_next
    (wpAny_call_entry F.slot_tuple_iterator_next hit.typeIs F.entry_tuple_iterator_next ?_ (F.args_tuple_iterator_next_1 _)))
  show wpAny _ _ (field (.ref it) 0 >>= _) _ _ s
  refine wpAny_bind (wpAny_field ho hd (x := .ref l) rfl ?_)
  show wpAny _ _ (if (Value.ref l == Value.none) = true then _ else _) _ _ s
  rw [if_neg (show ¬ ((Value.ref l == Value.none) = true) from Bool.false_ne_true)]
  show wpAny _ _ (field (.ref it) 1 >>= _) _ _ s
  refine wpAny_bind (wpAny_field ho hd (x := .int i 0) rfl ?_)
  show wpAny _ _ (seqItems? (.ref l) >>= _) _ _ s
  refine wpAny_bind (wpAny_seqItems hol hdl ?_)
  simp only [Int.toNat_natCast, hx]
  refine wpAny_bind (wpAny_setField ho hd (by simp) (wpAny_pure ⟨x, rfl, wpAny_pure (hQ _ ?_ (Heap.SameBut.update ..))⟩))
  exact ⟨_, Heap.get?_update_self _ ho (Obj.isFreed_of_fields (Obj.data_mapFields hd _)), (Obj.cls_mapFields ..).trans hc, by
    rw [Obj.data_mapFields hd]; simp [rawInt]⟩

theorem next_tup_end {it l : Addr} {i : Nat} {items : Array Value} {Q : Value → Shared → Prop} (hh : A.handled = none)
    (hit : s.heap.IsTupleIter it l i) (hl : s.heap.IsTuple l items) (hx : items[i]? = none)
    (hE : ∀ h' e, Heap.ExtBut it s.heap h' → (∃ o, h'.get? e = some o ∧ o.cls = .type "StopIteration") → E (.ref e) { s with heap := h' }) :
    wpAny (model prog w) A (Builtin.SmallTypes.nextOf (.ref it)) Q E s := by
  obtain ⟨o, ho, hc, hd⟩ := id hit
  obtain ⟨ol, hol, _, nl, hdl⟩ := hl
  unfold Builtin.SmallTypes.nextOf
  refine wpAny_bind (wpAny_callSpecial?_slot (name := Str.ofString "__next__") hit.typeIs F.slot_tuple_iterator_next
    (wpAny_call_entry F.slot_tuple_iterator_next hit.typeIs F.entry_tuple_iterator_next ?_ (F.args_tuple_iterator_next_1 _)))
  show wpAny _ _ (field (.ref it) 0 >>= _) _ _ s
  refine wpAny_bind (wpAny_field ho hd (x := .ref l) rfl ?_)
  show wpAny _ _ (if (Value.ref l == Value.none) = true then _ else _) _ _ s
  rw [if_neg (show ¬ ((Value.ref l == Value.none) = true) from Bool.false_ne_true)]
  show wpAny _ _ (field (.ref it) 1 >>= _) _ _ s
  refine wpAny_bind (wpAny_field ho hd (x := .int i 0) rfl ?_)
  show wpAny _ _ (seqItems? (.ref l) >>= _) _ _ s
  refine wpAny_bind (wpAny_seqItems hol hdl ?_)
  simp only [Int.toNat_natCast, hx]
  refine wpAny_bind (wpAny_rule (wpAny_bind (wpAny_setField ho hd (by simp) ?_)))
  show wpAny _ _ (newExc (.type "StopIteration") [] >>= _) _ _ _
  refine wpAny_bind ?_
  simp only [newExc, newTuple]
  refine wpAny_bind (wpAny_newObj_type ?_ (by size_fits))
  refine wpAny_bind (m := firstArgMember _ _) (wpAny_of_eq (a := Value.none) (by first | rfl | (simp only [firstArgMember]; rfl)) ?_)
  refine wpAny_newObj_type ?_ (by size_fits)
  simp only [raiseNew]
  refine wpAny_bind (wpAny_handled ?_)
  first | rw [show A.in1.handled = none from hh] | rw [hh]
  refine wpAny_bind (wpAny_pure (wpAny_throw ?_))
  exact hE _ _ (((Heap.SameBut.update ..).extBut.push _).push _) ⟨_, Heap.get?_push_size _ rfl, rfl⟩

theorem tzip_next_item {z TI TO i1 i2 l1 l2 : Addr} {k1 k2 : Nat} {xs ys : Array Value} {x y a b : Value} {Q : Value → Shared → Prop} (D : ZipApart z TI TO i1 i2 l1 l2)
    (hz : IsZip s.heap z TI TO .none) (hTI : IsPair s.heap TI (.ref i1) (.ref i2)) (hTO : IsPair s.heap TO a b)
    (h1 : s.heap.IsTupleIter i1 l1 k1) (h2 : s.heap.IsTupleIter i2 l2 k2) (hl1 : s.heap.IsTuple l1 xs) (hl2 : s.heap.IsTuple l2 ys) (hx : xs[k1]? = some x) (hy : ys[k2]? = some y)
    (hQ : ∀ h', IsZip h' z TI TO (rawInt s.heap.objs.size) → IsPair h' TO x y → h'.IsTupleIter i1 l1 (k1 + 1) → h'.IsTupleIter i2 l2 (k2 + 1) → IsPair h' s.heap.objs.size x y → h'.objs.size = s.heap.objs.size + 1 →
      (∀ c o, c ≠ z → c ≠ TO → c ≠ i1 → c ≠ i2 → s.heap.get? c = some o → h'.get? c = some o) → Q (.ref s.heap.objs.size) { s with heap := h' }) :
    wpAny (model prog w) A (Builtin.«zip.__next__» ⟨[.ref z], []⟩) (fun fin s' => ∃ v, fin = .done (.ret v) ∧ Q v s') E s := by
  show wpAny _ _ (field (.ref z) 2 >>= _) _ _ _
  refine wpAny_bind (wpAny_field hz rfl (x := .bool false) rfl ?_)
  show wpAny _ _ (field (.ref z) 3 >>= _) _ _ _
  refine wpAny_bind (wpAny_field hz rfl (x := .ref TI) rfl ?_)
  refine wpAny_bind (wpAny_seqItems hTI rfl ?_)
  show wpAny _ _ (Builtin.SmallTypes.ownedTupleIsFree (.ref z) >>= _) _ _ _
  refine wpAny_bind ?_
  unfold Builtin.SmallTypes.ownedTupleIsFree
  refine wpAny_bind (wpAny_field hz rfl (x := .none) rfl (wpAny_pure ?_))
  simp only [if_true]
  refine wpAny_bind (wpAny_rule ?_)
  refine wpAny_bind (wpAny_field hz rfl (x := .ref TO) rfl ?_)
  refine wpAny_bind (wpAny_setField_rec hz (by simp) fun h₁ hz₁ hs₁ => ?_)
  replace hz₁ : IsZip h₁ z TI TO .ellipsis := hz₁
  refine wpAny_bind ?_
  simp only [List.zipIdx_cons, List.zipIdx_nil, List.forIn_cons, List.forIn_nil]
  refine wpAny_bind (wpAny_bind (wpAny_onRaise ?_))
  show wpAny _ _ (Builtin.SmallTypes.nextOf (.ref i1) >>= _) _ _ _
  refine wpAny_bind (next_tup_item (h1.extBut hs₁.extBut D.i1z) (hl1.extBut hs₁.extBut D.l1z) hx fun h₂ h1₂ hs₂ => wpAny_pure ?_)
  have hTO₂ : IsPair h₂ TO a b := hs₂.extBut _ _ D.TOi1 (hs₁.extBut _ _ D.TOz hTO)
  refine wpAny_bind (wpAny_seqItems hTO₂ rfl ?_)
  refine wpAny_bind (wpAny_updateSeq_pair hTO₂ fun h₃ hTO₃ hs₃ => ?_)
  replace hTO₃ : IsPair h₃ TO x b := hTO₃
  refine wpAny_bind (wpAny_letGo (wpAny_pure ?_))
  refine wpAny_bind (wpAny_bind (wpAny_onRaise ?_))
  show wpAny _ _ (Builtin.SmallTypes.nextOf (.ref i2) >>= _) _ _ _
  refine wpAny_bind (next_tup_item (((h2.extBut hs₁.extBut D.i2z).extBut hs₂.extBut D.i12.symm).extBut hs₃.extBut D.TOi2.symm)
    (((hl2.extBut hs₁.extBut D.l2z).extBut hs₂.extBut D.l2i1).extBut hs₃.extBut D.l2TO) hy fun h₄ h2₄ hs₄ => wpAny_pure ?_)
  have hTO₄ : IsPair h₄ TO x b := hs₄.extBut _ _ D.TOi2 hTO₃
  refine wpAny_bind (wpAny_seqItems hTO₄ rfl ?_)
  refine wpAny_bind (wpAny_updateSeq_pair hTO₄ fun h₅ hTO₅ hs₅ => ?_)
  replace hTO₅ : IsPair h₅ TO x y := hTO₅
  refine wpAny_bind (wpAny_letGo (wpAny_pure (wpAny_pure ?_)))
  refine wpAny_bind (wpAny_seqItems hTO₅ rfl ?_)
  refine wpAny_bind (wpAny_newTuple ?_)
  have hsz : h₅.objs.size = s.heap.objs.size := by rw [hs₅.1, hs₄.1, hs₃.1, hs₂.1, hs₁.1]
  have hz₅ : IsZip h₅ z TI TO .ellipsis := hs₅.extBut _ _ D.TOz.symm (hs₄.extBut _ _ D.i2z.symm (hs₃.extBut _ _ D.TOz.symm (hs₂.extBut _ _ D.i1z.symm hz₁)))
  have hk₅ : ∀ c o, c ≠ z → c ≠ TO → c ≠ i1 → c ≠ i2 → s.heap.get? c = some o → h₅.get? c = some o := fun c o c1 c2 c3 c4 e =>
    hs₅.extBut _ _ c2 (hs₄.extBut _ _ c4 (hs₃.extBut _ _ c2 (hs₂.extBut _ _ c3 (hs₁.extBut _ _ c1 e))))
  have h1₅ : h₅.IsTupleIter i1 l1 (k1 + 1) := ((h1₂.extBut hs₃.extBut D.TOi1.symm).extBut hs₄.extBut D.i12).extBut hs₅.extBut D.TOi1.symm
  have h2₅ : h₅.IsTupleIter i2 l2 (k2 + 1) := h2₄.extBut hs₅.extBut D.TOi2.symm
  have hzlt : z < h₅.objs.size := Heap.lt_size hz₅
  have hTOlt : TO < h₅.objs.size := Heap.lt_size hTO₅
  show wpAny _ _ (Builtin.SmallTypes.ownedTupleHandOut (.ref z) (.ref h₅.objs.size) >>= _) _ _ _
  refine wpAny_bind ?_
  unfold Builtin.SmallTypes.ownedTupleHandOut
  have hz₆ : IsZip (h₅.push { cls := .type "tuple", data := .seq #[x, y] }) z TI TO .ellipsis := Heap.get?_push_of_some _ hz₅
  refine wpAny_bind (wpAny_setField_rec hz₆ (by simp) fun h₇ hz₇ hs₇ => ?_)
  replace hz₇ : IsZip h₇ z TI TO (rawInt h₅.objs.size) := hz₇
  refine wpAny_setField_rec hz₇ (by simp) fun h₈ hz₈ hs₈ => ?_
  replace hz₈ : IsZip h₈ z TI TO (rawInt h₅.objs.size) := hz₈
  have up : ∀ c o, c ≠ z → h₅.get? c = some o → h₈.get? c = some o := fun c o c1 e => hs₈.extBut _ _ c1 (hs₇.extBut _ _ c1 (Heap.get?_push_of_some _ e))
  have hT₈ : IsPair h₈ h₅.objs.size x y := hs₈.extBut _ _ (Nat.ne_of_gt hzlt) (hs₇.extBut _ _ (Nat.ne_of_gt hzlt) (Heap.get?_push_size _ rfl))
  have hz8 : h₈.objs.size = h₅.objs.size + 1 := by rw [hs₈.1, hs₇.1, Heap.size_push]
  rw [hsz] at hz₈ hT₈ hz8
  refine wpAny_pure ⟨_, rfl, ?_⟩
  show Q (.ref h₅.objs.size) _
  rw [hsz]
  exact hQ h₈ hz₈ (up _ _ D.TOz hTO₅) (h1₅.at fun o e => up _ o D.i1z e) (h2₅.at fun o e => up _ o D.i2z e) hT₈ hz8 fun c o c1 c2 c3 c4 e => up c o c1 (hk₅ c o c1 c2 c3 c4 e)

theorem tzip_next_end {z TI TO i1 i2 l1 l2 : Addr} {k1 : Nat} {xs : Array Value} {a b : Value} {Q : Fin → Shared → Prop} (hh : A.handled = none) (D : ZipApart z TI TO i1 i2 l1 l2)
    (hz : IsZip s.heap z TI TO .none) (hTI : IsPair s.heap TI (.ref i1) (.ref i2)) (hTO : IsPair s.heap TO a b)
    (h1 : s.heap.IsTupleIter i1 l1 k1) (hl1 : s.heap.IsTuple l1 xs) (hend : xs[k1]? = none)
    (hE : ∀ h' e, (∀ c o, c ≠ z → c ≠ TO → c ≠ i1 → c ≠ i2 → s.heap.get? c = some o → h'.get? c = some o) → (∃ o, h'.get? e = some o ∧ o.cls = .type "StopIteration") → E (.ref e) { s with heap := h' }) :
    wpAny (model prog w) A (Builtin.«zip.__next__» ⟨[.ref z], []⟩) Q E s := by
  show wpAny _ _ (field (.ref z) 2 >>= _) _ _ _
  refine wpAny_bind (wpAny_field hz rfl (x := .bool false) rfl ?_)
  show wpAny _ _ (field (.ref z) 3 >>= _) _ _ _
  refine wpAny_bind (wpAny_field hz rfl (x := .ref TI) rfl ?_)
  refine wpAny_bind (wpAny_seqItems hTI rfl ?_)
  show wpAny _ _ (Builtin.SmallTypes.ownedTupleIsFree (.ref z) >>= _) _ _ _
  refine wpAny_bind ?_
  unfold Builtin.SmallTypes.ownedTupleIsFree
  refine wpAny_bind (wpAny_field hz rfl (x := .none) rfl (wpAny_pure ?_))
  simp only [if_true]
  refine wpAny_bind (wpAny_rule ?_)
  refine wpAny_bind (wpAny_field hz rfl (x := .ref TO) rfl ?_)
  refine wpAny_bind (wpAny_setField_rec hz (by simp) fun h₁ hz₁ hs₁ => ?_)
  replace hz₁ : IsZip h₁ z TI TO .ellipsis := hz₁
  refine wpAny_bind ?_
  simp only [List.zipIdx_cons, List.zipIdx_nil, List.forIn_cons, List.forIn_nil]
  refine wpAny_bind (wpAny_bind (wpAny_onRaise ?_))
  show wpAny _ _ (Builtin.SmallTypes.nextOf (.ref i1) >>= _) _ _ _
  refine wpAny_bind (next_tup_end hh (h1.extBut hs₁.extBut D.i1z) (hl1.extBut hs₁.extBut D.l1z) hend fun h₂ e hs₂ he => ?_)
  obtain ⟨oe, hoe, hce⟩ := he
  have hz₂ : IsZip h₂ z TI TO .ellipsis := hs₂ _ _ D.i1z.symm hz₁
  have hez : e ≠ z := fun x => by subst x; rw [hz₂] at hoe; cases hoe; simp at hce
  refine wpAny_setField_rec hz₂ (by simp) fun h₃ _ hs₃ => hE h₃ e (fun c o c1 _ c3 _ x => hs₃.extBut _ _ c1 (hs₂ _ _ c3 (hs₁.extBut _ _ c1 x))) ⟨oe, hs₃.extBut _ _ hez hoe, hce⟩

/-- zip over two tuples of one length -/
theorem walks_tzip (hh : A.handled = none) (z TI TO i1 i2 l1 l2 : Addr) (D : ZipApart z TI TO i1 i2 l1 l2) (xs ys : Array Value) (hlen : xs.size = ys.size) :
    WalksU prog w A z [z, TI, TO, i1, i2, l1, l2] [z, TO, i1, i2] xs.size
      (fun i vals => ∃ x y, xs[i]? = some x ∧ ys[i]? = some y ∧ vals = #[x, y])
      (fun i h => IsZip h z TI TO .none ∧ IsPair h TI (.ref i1) (.ref i2) ∧ (∃ a b, IsPair h TO a b) ∧ h.IsTupleIter i1 l1 i ∧ h.IsTupleIter i2 l2 i ∧ h.IsTuple l1 xs ∧ h.IsTuple l2 ys)
      (fun i T h => IsZip h z TI TO (rawInt T) ∧ IsPair h TI (.ref i1) (.ref i2) ∧ (∃ a b, IsPair h TO a b) ∧ h.IsTupleIter i1 l1 (i + 1) ∧ h.IsTupleIter i2 l2 (i + 1) ∧ h.IsTuple l1 xs ∧ h.IsTuple l2 ys ∧
        T ≠ z ∧ T ≠ TO ∧ T ≠ i1 ∧ T ≠ i2) where
  sub := fun c hc => by simp at hc ⊢; rcases hc with rfl | rfl | rfl | rfl <;> simp
  frame := fun i h h' hst hk => by
    obtain ⟨hz, hTI, ⟨a, b, hTO⟩, h1, h2, hl1, hl2⟩ := hst
    exact ⟨hk z (by simp) _ hz, hk TI (by simp) _ hTI, ⟨a, b, hk TO (by simp) _ hTO⟩, h1.at fun o e => hk i1 (by simp) o e, h2.at fun o e => hk i2 (by simp) o e,
      hl1.at fun o e => hk l1 (by simp) o e, hl2.at fun o e => hk l2 (by simp) o e⟩
  item := fun i s Q E hi hst hQ => by
    obtain ⟨hz, hTI, ⟨a, b, hTO⟩, h1, h2, hl1, hl2⟩ := hst
    have hiy : i < ys.size := hlen ▸ hi
    have hT : s.TypeIs (.ref z) "zip" := ⟨_, hz, rfl⟩
    have lt : ∀ {c o}, s.heap.get? c = some o → s.heap.objs.size ≠ c := fun e => Nat.ne_of_gt (Heap.lt_size e)
    unfold pyNext
    refine wpAny_bind (wpAny_attempt (wpAny_callSpecial?_slot (name := Str.ofString "__next__") hT F.slot_zip_next
      (wpAny_call_entry F.slot_zip_next hT F.entry_zip_next
        (tzip_next_item D hz hTI hTO h1 h2 hl1 hl2 (Array.getElem?_eq_getElem hi) (Array.getElem?_eq_getElem hiy) fun h' a1 a2 a3 a4 a5 a6 hk => wpAny_pure ?_) (F.args_zip_next_1 _))))
    exact hQ s.heap.objs.size #[xs[i], ys[i]] h' s.toks ⟨_, _, Array.getElem?_eq_getElem hi, Array.getElem?_eq_getElem hiy, rfl⟩ ⟨_, a5, rfl, _, rfl⟩
      ⟨a1, hk _ _ D.TIz D.TITO D.TIi1 D.TIi2 hTI, ⟨_, _, a2⟩, a3, a4, hl1.at fun o e => hk _ o D.l1z D.l1TO D.l1i1 D.l1i2 e, hl2.at fun o e => hk _ o D.l2z D.l2TO D.l2i1 D.l2i2 e,
        lt hz, lt hTO, (by obtain ⟨_, e, _⟩ := h1; exact lt e), (by obtain ⟨_, e, _⟩ := h2; exact lt e)⟩
      fun c o hc e => hk c o (fun x => hc (by simp [x])) (fun x => hc (by simp [x])) (fun x => hc (by simp [x])) (fun x => hc (by simp [x])) e
  go := fun elts k pos i T s Q E hm hQ => by
    obtain ⟨hz, hTI, ⟨a, b, hTO⟩, h1, h2, hl1, hl2, _⟩ := hm
    refine wpAny_letOwnedTupleGo_zip hz fun h' hz' hs' => hQ h' ⟨hz', hs'.extBut _ _ D.TIz hTI, ⟨a, b, hs'.extBut _ _ D.TOz hTO⟩, h1.extBut hs'.extBut D.i1z, h2.extBut hs'.extBut D.i2z,
      hl1.extBut hs'.extBut D.l1z, hl2.extBut hs'.extBut D.l2z⟩ fun c o hc e => hs'.extBut _ _ (fun x => hc (by simp [x])) e
  apart := fun i T h hm hT => by
    obtain ⟨_, _, _, _, _, _, _, t1, t2, t3, t4⟩ := hm
    simp at hT
    rcases hT with rfl | rfl | rfl | rfl
    · exact t1 rfl
    · exact t2 rfl
    · exact t3 rfl
    · exact t4 rfl
  done := fun s Q E hst hQ => by
    obtain ⟨hz, hTI, ⟨a, b, hTO⟩, h1, h2, hl1, hl2⟩ := hst
    have hT : s.TypeIs (.ref z) "zip" := ⟨_, hz, rfl⟩
    unfold pyNext
    refine wpAny_bind (wpAny_attempt (wpAny_callSpecial?_slot (name := Str.ofString "__next__") hT F.slot_zip_next
      (wpAny_call_entry F.slot_zip_next hT F.entry_zip_next (tzip_next_end hh D hz hTI hTO h1 hl1 (Array.getElem?_eq_none (Nat.le_refl _)) fun h' e hk he => ?_) (F.args_zip_next_1 _))))
    obtain ⟨o, ho, hc⟩ := he
    refine wpAny_bind (wpAny_isInstance (T := "StopIteration") (b := true) ⟨o, ho, hc⟩ isSubtype_stop ?_)
    exact wpAny_pure (hQ _ _ fun c o hc e =>
      hk c o (fun x => hc (by simp [x])) (fun x => hc (by simp [x])) (fun x => hc (by simp [x])) (fun x => hc (by simp [x])) e)
  self := fun i s Q E hst hQ => wpAny_pyIter_zip hst.1 hQ
end

abbrev tzH1 (h : Heap) (l1 : Addr) : Heap := h.push { cls := .type "tuple_iterator", data := .fields #[.ref l1, .int 0 0] }
abbrev tzH2 (h : Heap) (l1 l2 : Addr) : Heap := (tzH1 h l1).push { cls := .type "tuple_iterator", data := .fields #[.ref l2, .int 0 0] }
abbrev tzH3 (h : Heap) (l1 l2 : Addr) : Heap := (tzH2 h l1 l2).push { cls := .type "tuple", data := .seq #[.ref h.objs.size, .ref (tzH1 h l1).objs.size] }
abbrev tzH4 (h : Heap) (l1 l2 : Addr) : Heap := (tzH3 h l1 l2).push { cls := .type "tuple", data := .seq #[.none, .none] }
abbrev tzH5 (h : Heap) (l1 l2 : Addr) : Heap := (tzH4 h l1 l2).push { cls := .type "zip", data := .fields #[.none, .bool false, .bool false, .ref (tzH2 h l1 l2).objs.size, .ref (tzH3 h l1 l2).objs.size] }

theorem meets_tzip_new (l1 l2 : Addr) (xs ys : Array Value) :
    Meets (Builtin.«zip.__new__» ⟨[.type "zip", .ref l1, .ref l2], []⟩) (fun _ R s => s.heap.IsTuple l1 xs ∧ s.heap.IsTuple l2 ys ∧
      R (.ok (.ret (.ref (tzH4 s.heap l1 l2).objs.size))) { s with heap := tzH5 s.heap l1 l2 }) :=
  .of_wp fun prog w A R s h => by
    obtain ⟨hp, g, d, tk, os⟩ := s; obtain ⟨hl1, hl2, h⟩ := h
    have hsub := sub_zip
    have hL1 : Heap.IsTuple (Shared.heap ⟨hp, g, d, tk, os⟩) l1 xs := hl1
    have hL2 : Heap.IsTuple (Shared.heap ⟨hp.push { cls := .type "tuple_iterator", data := .fields #[.ref l1, .int 0 0] }, g, d, tk, os⟩) l2 ys := Heap.IsTuple.push hl2 _
    wp_walk using wpAny_pyIter_tuple hL1, wpAny_pyIter_tuple hL2
    exact ⟨_, rfl, h⟩

section
variable {prog : Program} {w : World} {A : Around} {E : Value → Shared → Prop} {s : Shared}

theorem call_tzip {l1 l2 : Addr} {xs ys : Array Value} {Q : Value → Shared → Prop} (hl1 : s.heap.IsTuple l1 xs) (hl2 : s.heap.IsTuple l2 ys)
    (h : ∀ h', IsZip h' (s.heap.objs.size + 4) (s.heap.objs.size + 2) (s.heap.objs.size + 3) .none → IsPair h' (s.heap.objs.size + 2) (.ref s.heap.objs.size) (.ref (s.heap.objs.size + 1)) →
      IsPair h' (s.heap.objs.size + 3) .none .none → h'.IsTupleIter s.heap.objs.size l1 0 → h'.IsTupleIter (s.heap.objs.size + 1) l2 0 → h'.objs.size = s.heap.objs.size + 5 →
      (∀ c o, s.heap.get? c = some o → h'.get? c = some o) → Q (.ref (s.heap.objs.size + 4)) { s with heap := h' }) :
    wpAny (model prog w) A (call (.type "zip") [.ref l1, .ref l2]) Q E s := by
  refine callType_new F.called_zip (by decide) (F.typeCall_zip_2 _ _) (F.newCall_zip_2 _ _) (fun obj => F.args_object_init_3 obj _ _) F.entry_zip_new
    (meets_tzip_new l1 l2 xs ys) ⟨hl1, hl2, ?_⟩
  have z1 : (tzH1 s.heap l1).objs.size = s.heap.objs.size + 1 := Heap.size_push ..
  have z2 : (tzH2 s.heap l1 l2).objs.size = s.heap.objs.size + 2 := by rw [Heap.size_push, z1]
  have z3 : (tzH3 s.heap l1 l2).objs.size = s.heap.objs.size + 3 := by rw [Heap.size_push, z2]
  have z4 : (tzH4 s.heap l1 l2).objs.size = s.heap.objs.size + 4 := by rw [Heap.size_push, z3]
  have z5 : (tzH5 s.heap l1 l2).objs.size = s.heap.objs.size + 5 := by rw [Heap.size_push, z4]
  have g5 : (tzH5 s.heap l1 l2).get? (tzH4 s.heap l1 l2).objs.size = some _ := Heap.get?_push_size _ rfl
  have g4 : (tzH5 s.heap l1 l2).get? (tzH3 s.heap l1 l2).objs.size = some _ := Heap.get?_push_of_some _ (Heap.get?_push_size _ rfl)
  have g3 : (tzH5 s.heap l1 l2).get? (tzH2 s.heap l1 l2).objs.size = some _ := Heap.get?_push_of_some _ (Heap.get?_push_of_some _ (Heap.get?_push_size _ rfl))
  have g2 : (tzH5 s.heap l1 l2).get? (tzH1 s.heap l1).objs.size = some _ := Heap.get?_push_of_some _ (Heap.get?_push_of_some _ (Heap.get?_push_of_some _ (Heap.get?_push_size _ rfl)))
  have g1 : (tzH5 s.heap l1 l2).get? s.heap.objs.size = some _ := Heap.get?_push_of_some _ (Heap.get?_push_of_some _ (Heap.get?_push_of_some _ (Heap.get?_push_of_some _ (Heap.get?_push_size _ rfl))))
  show _ ∧ _
  rw [z2, z3, z4] at g5
  rw [z1, z2] at g3
  rw [z3] at g4
  rw [z1] at g2
  rw [z4]
  exact ⟨⟨_, g5, rfl⟩, h _ g5 g3 g4 ⟨_, g1, rfl, rfl⟩ ⟨_, g2, rfl, rfl⟩ z5 fun c o x =>
    Heap.get?_push_of_some _ (Heap.get?_push_of_some _ (Heap.get?_push_of_some _ (Heap.get?_push_of_some _ (Heap.get?_push_of_some _ x))))⟩
end

end Mine
end
section
open PySem PySem.W PySem.Calls PyProof.Rows
open Sem (wp)
set_option maxRecDepth 100000
set_option maxHeartbeats 8000000
namespace Mine
section
variable {prog : Program} {w : World} {A : Around}

/-- the element of a generator over pairs, at a state where a token has been made -/
def EltT (prog : Program) (w : World) (cenv : Env) (xa xb : Str) (elt : Expr) (Pt : Nat → Array Value → Prop) (F : Nat → Value → Prop) (D U : Nat) : Prop :=
  ∀ (A' : Around) (E' : Value → Shared → Prop) (i : Nat) (va vb : Value) (t : Shared) (mm : Str → Option Value), A'.handled = none → A'.depth ≤ D → A'.units ≤ U → Pt i #[va, vb] → 1 ≤ t.toks → t.heap.Ns cenv.locals mm → mm xa = some va → mm xb = some vb →
    wpAny (model prog w) A' (eval elt cenv) (fun y t' => F i y ∧ Keeps t t') E' t

theorem pass_len {n i : Nat} (h : i < n) : passing (fun _ => true) n i = i :: passing (fun _ => true) n (i + 1) := passing_true (pz := fun _ => true) h rfl

theorem loopT {elt iter : Expr} {xa xb : Str} {pa pb pt : Pos} {kt : Nat} {scope : Scope} {pos : Pos} {I : Addr} {fp wr : List Addr} {n : Nat} {Pt : Nat → Array Value → Prop} {St : Nat → Heap → Prop} {Mid : Nat → Addr → Heap → Prop} {cenv : Env} {F : Nat → Value → Prop}
    (hh : A.handled = none) (W : ∀ A' : Around, A'.handled = none → WalksU prog w A' I fp wr n Pt St Mid) (h2 : ∀ i vals, Pt i vals → ∃ va vb, vals = #[va, vb]) (hab : xa ≠ xb)
    (hxa : cenv.kindOf xa = some .local) (hxb : cenv.kindOf xb = some .local) (hp : (cenv.scope.kind == .class || (cenv.scope.kind == .module && cenv.locals != cenv.globals)) = false)
    (hco : cenv.scope.isCoroutine = false) (hC : cenv.locals ∉ fp) (hq : EltT prog w cenv xa xb elt Pt F (A.depth + 1) (A.units + 3)) :
    ∀ (k i : Nat) (s₀ s : Shared) (m : Str → Option Value), i + k = n → St i s.heap → s.heap.Ns cenv.locals m → GenSince cenv.locals wr s₀ s →
      Seg (model prog w) A (fun j s₀ r s₁ => r = .ok .next ∧ (j = 0 ∧ GenSince cenv.locals wr s₀ s₁)) (genProto cenv.locals fp wr (fun _ => true) n F) (passing (fun _ => true) n i).length s₀
        (.compLoop (.GeneratorExp elt [⟨.Tuple [.Name xa pa, .Name xb pb] kt pt, iter, [], 0⟩] scope pos) 0 (.ref I) .none cenv)
        ((model prog w).den (.compLoop (.GeneratorExp elt [⟨.Tuple [.Name xa pa, .Name xb pb] kt pt, iter, [], 0⟩] scope pos) 0 (.ref I) .none cenv)) [] s := by
  have ho : (A.over (.compLoop (.GeneratorExp elt [⟨.Tuple [.Name xa pa, .Name xb pb] kt pt, iter, [], 0⟩] scope pos) 0 (.ref I) .none cenv) []).handled = none := hh
  have hCw : cenv.locals ∉ wr := fun h => hC ((W A hh).sub _ h)
  intro k
  induction k with
  | zero =>
    intro i s₀ s m hi hst hn hsince
    obtain rfl : i = n := by omega
    show Seg _ A _ _ _ s₀ _ ((compTurn (.GeneratorExp elt [⟨.Tuple [.Name xa pa, .Name xb pb] kt pt, iter, [], 0⟩] scope pos) 0 (.ref I) .none cenv).onRaise (leaving cenv)) [] s
    rw [compTurn_gen, Sem.onRaise_eq_wrap]
    refine seg_bind_wrap (wpAny_standAt ?_)
    refine seg_bind_wrap ((W _ ho).done s _ _ hst fun h' tk hk' => ?_)
    exact seg_end (.ok .next) ⟨rfl, by rw [passing_end]; rfl, hsince.step fun b o _ hw e => hk' b o hw e⟩
  | succ k ih =>
    intro i s₀ s m hi hst hn hsince
    have hlt : i < n := by omega
    show Seg _ A _ _ _ s₀ _ ((compTurn (.GeneratorExp elt [⟨.Tuple [.Name xa pa, .Name xb pb] kt pt, iter, [], 0⟩] scope pos) 0 (.ref I) .none cenv).onRaise (leaving cenv)) [] s
    rw [compTurn_gen, Sem.onRaise_eq_wrap]
    refine seg_bind_wrap (wpAny_standAt ?_)
    refine seg_bind_wrap ((W _ ho).item i s _ _ hlt hst fun T vals h₁ tk₁ hPv hT₁ hmid hk₁ => ?_)
    obtain ⟨va, vb, rfl⟩ := h2 i vals hPv
    refine seg_bind_wrap ((W _ ho).go _ _ _ i T _ _ _ hmid fun h₂ hst₂ hk₂ => ?_)
    have hT₂ : h₂.IsTuple T #[va, vb] := let ⟨o, e, r⟩ := hT₁; ⟨o, hk₂ _ o ((W _ ho).apart i T _ hmid) e, r⟩
    refine seg_bind_wrap (wpAny_assign_Tuple ho hT₂ rfl rfl fun h₃ hx₃ => ?_)
    replace hx₃ : Heap.ExtBut h₂.objs.size h₂ h₃ := hx₃
    have old₃ : ∀ b o, h₂.get? b = some o → h₃.get? b = some o := fun b o e => hx₃ b o (Nat.ne_of_lt (Heap.lt_size e)) e
    show wpAny _ _ (do holding [vb] (assign (.Name xa pa) cenv va); do holding [] (assign (.Name xb pb) cenv vb); pure ()) _ _ _
    refine wpAny_bind (wpAny_holding (wpAny_assign_Name (wpAny_storeName_local hxa (hn.at' fun o e => old₃ _ o (hk₂ _ o hCw (hk₁ _ o hCw e))) (fun h₄ hn₄ hs₄ => ?_) hp)))
    replace hs₄ : Heap.SameBut cenv.locals h₃ h₄ := hs₄
    refine wpAny_bind (wpAny_holding (wpAny_assign_Name (wpAny_storeName_local hxb hn₄ (fun h₅ hn₅ hs₅ => wpAny_pure ?_) hp)))
    replace hs₅ : Heap.SameBut cenv.locals h₄ h₅ := hs₅
    have up : ∀ b o, b ≠ cenv.locals → b ∉ wr → s.heap.get? b = some o → h₅.get? b = some o := fun b o hb hw e => hs₅.extBut b o hb (hs₄.extBut b o hb (old₃ b o (hk₂ b o hw (hk₁ b o hw e))))
    have hst₅ : St (i + 1) h₅ := (W A hh).frame _ _ _ hst₂ fun b hb o e => hs₅.extBut b o (fun h => hC (h ▸ hb)) (hs₄.extBut b o (fun h => hC (h ▸ hb)) (old₃ b o e))
    refine seg_bind_wrap ?_
    rw [List.forIn_nil]
    refine wpAny_pure ?_
    rw [pass_len hlt, List.length_cons]
    simp only [if_true]
    have hy : ∀ v, yieldOut cenv v = yieldValue v := fun v => by simp only [yieldOut, hco, Bool.false_eq_true, if_false]
    simp only [hy]
    rw [Sem.bind_eq_wrap', Sem.bind_eq_wrap', Sem.wrap_wrap, Sem.wrap_wrap]
    refine seg_wrap (wpAny_mono (hq _ _ i va vb _ _ ho (Nat.le_of_eq rfl) (Nat.le_of_eq rfl) hPv (Nat.succ_le_succ (Nat.zero_le _)) hn₅ (by simp [hab]) (by simp)) (fun y s₆ h₆ => ?_) fun _ _ e => e)
    obtain ⟨hF, h₆, tk₆, rfl, hk₆⟩ := h₆
    refine seg_at (seg_yield rfl rfl rfl ⟨⟨i, passing_here (pz := fun _ => true) hlt rfl, hF⟩, hsince.step fun b o hb hw e => hk₆ b o (up b o hb hw e), fun s'' hal => ?_⟩)
    exact seg_again rfl (ih (i + 1) s'' s'' _ (by omega) ((W A hh).frame _ _ _ hst₅ fun b hb o e => hal b (List.mem_cons_of_mem _ hb) o (hk₆ b o e))
      ((hn₅.keeps hk₆).at' fun o e => hal _ (List.mem_cons_self ..) o e) (GenSince.refl _ _ _))

theorem startT {elt iter : Expr} {xa xb : Str} {pa pb pt : Pos} {kt : Nat} {scope : Scope} {pos : Pos} {I a : Addr} {g : Nat} {fp wr : List Addr} {n : Nat} {Pt : Nat → Array Value → Prop} {St : Nat → Heap → Prop} {Mid : Nat → Addr → Heap → Prop} {cenv : Env} {F : Nat → Value → Prop}
    (hh : A.handled = none) (W : ∀ A' : Around, A'.handled = none → WalksU prog w A' I fp wr n Pt St Mid) (h2 : ∀ i vals, Pt i vals → ∃ va vb, vals = #[va, vb]) (hab : xa ≠ xb)
    (hxa : cenv.kindOf xa = some .local) (hxb : cenv.kindOf xb = some .local) (hp : (cenv.scope.kind == .class || (cenv.scope.kind == .module && cenv.locals != cenv.globals)) = false)
    (hco : cenv.scope.isCoroutine = false) (hC : cenv.locals ∉ fp) {s : Shared} {m : Str → Option Value} (hq : EltT prog w cenv xa xb elt Pt F (A.depth + 1) (A.units + 4))
    (hg : s.heap.IsGen a g) (hgs : s.gens[g]? = some (.fresh (.compStart (.GeneratorExp elt [⟨.Tuple [.Name xa pa, .Name xb pb] kt pt, iter, [], 0⟩] scope pos) 0 (.ref I) .none cenv)))
    (hst : St 0 s.heap) (hn : s.heap.Ns cenv.locals m) (hl : s.heap.NoLimit) : GenAt prog w A a g cenv.locals fp wr (fun _ => true) n F 0 s := by
  refine ⟨hg, hl, _, hgs, fun s'' hal => ⟨rfl, ?_⟩⟩
  have hst'' := (W A hh).frame _ _ s''.heap hst fun b hb o e => hal b (List.mem_cons_of_mem _ hb) o e
  have loop := loopT (A := A.in1) (iter := iter) (pa := pa) (pb := pb) (pt := pt) (kt := kt) (scope := scope) (pos := pos) hh W h2 hab hxa hxb hp hco hC hq n 0 s'' s'' m (Nat.zero_add _) hst''
    (hn.at' fun o e => hal _ (List.mem_cons_self ..) o e) (GenSince.refl _ _ _)
  show Seg _ A.in1 _ _ _ s'' _ ((compStart (.GeneratorExp elt [⟨.Tuple [.Name xa pa, .Name xb pb] kt pt, iter, [], 0⟩] scope pos) 0 (.ref I) .none cenv).onRaise (leaving cenv)) [] s''
  have ho : (A.in1.over (.compStart (.GeneratorExp elt [⟨.Tuple [.Name xa pa, .Name xb pb] kt pt, iter, [], 0⟩] scope pos) 0 (.ref I) .none cenv) []).handled = none := hh
  unfold compStart
  rw [Sem.onRaise_eq_wrap]
  show Seg _ A.in1 _ _ _ s'' _ ((ask >>= _).wrap _ _ _ _) [] s''
  refine seg_bind_wrap (wpAny_askSetting ?_)
  split
  · exact seg_again rfl loop
  · first
      | exact seg_bind_wrap (wpAny_rule (seg_bind_wrap (wpAny_standAt (seg_bind_wrap ((W _ ho).self 0 s'' _ _ hst'' (seg_again rfl loop))))))
      | (refine seg_bind_wrap (wpAny_rule ?_); show Seg _ A.in1 _ _ _ s'' _ ((standAt iter.pos >>= _).wrap _ _ _ _) [] s''; exact seg_bind_wrap (wpAny_standAt (seg_bind_wrap ((W _ ho).self 0 s'' _ _ hst'' (seg_again rfl loop)))))
end

section
variable {prog : Program} {w : World} {A : Around} {E : Value → Shared → Prop} {s : Shared}
theorem genexpT {env : Env} {elt iter : Expr} {xa xb : Str} {pa pb pt : Pos} {kt : Nat} {scope : Scope} {cl : List (Str × Addr)} {pos : Pos} {Q : Value → Shared → Prop}
    (hh : A.handled = none) (hco : scope.isCoroutine = false) (hclos : closureFor scope env = pure cl) (hcell : ∀ y ∈ scope.names, y.2 ≠ .cell) (h0 : scope.names.lookup (".0" : Str) = some NameKind.local)
    (hxa : scope.names.lookup xa = some .local) (hxb : scope.names.lookup xb = some .local) (hab : xa ≠ xb) (hkind : scope.kind = .function) (hroom : A.depth < recursionLimit)
    (h : wpAny (model prog w) A (eval iter env) (fun xv s₁ => wpAny (model prog w) A (pyIter xv) (fun it s₂ => s₂.heap.NoLimit ∧
      wpAny (model prog w) A (genexprCode env pos (env.qual ++ "<genexpr>") scope) (fun code s₃ => wpAny (model prog w) A (builtinsFor env.globals env.builtins) (fun bi s₄ =>
        ∃ I fp wr n Pt St Mid F, it = .ref I ∧ (∀ A' : Around, A'.handled = none → WalksU prog w A' I fp wr n Pt St Mid) ∧ (∀ i vals, Pt i vals → ∃ va vb, vals = #[va, vb]) ∧ St 0 s₄.heap ∧ (∀ b ∈ fp, b < s₄.heap.objs.size) ∧ s₄.heap.NoLimit ∧ cStatics ∉ wr ∧
          EltT prog w (genEnv scope cl s₄.heap.objs.size code bi env) xa xb elt Pt F (A.depth + 1) (A.units + 8) ∧
          (∀ a h₅ tk gs, gs.bare = true → s₄.heap.objs.size < a → h₅.objs.size = a + 1 → (∀ b o, s₄.heap.get? b = some o → h₅.get? b = some o) →
            WalksS prog w A.in4 a (a :: s₄.heap.objs.size :: List.range s₄.heap.objs.size) (s₄.heap.objs.size :: wr) (GenOnlyQ s₄.gens.size) (passing (fun _ => true) n 0).length
              (fun j y => ∃ i, (passing (fun _ => true) n 0)[j]? = some i ∧ F i y) (GenAt prog w A.in4 a s₄.gens.size s₄.heap.objs.size (List.range s₄.heap.objs.size) wr (fun _ => true) n F) →
            GenAt prog w A.in4 a s₄.gens.size s₄.heap.objs.size (List.range s₄.heap.objs.size) wr (fun _ => true) n F 0 { s₄ with gens := s₄.gens.push gs, toks := tk, heap := h₅ } →
            Q (.ref a) { s₄ with gens := s₄.gens.push gs, toks := tk, heap := h₅ })) E s₃) E s₂) E s₁) E s)
    (hs : ∀ x, genFold iter env x = pure x) :
    wpAny (model prog w) A (eval (.GeneratorExp elt [⟨.Tuple [.Name xa pa, .Name xb pb] kt pt, iter, [], 0⟩] scope pos) env) Q E s := by
  refine wpAny_GeneratorExp_make hco hclos hcell h0 hkind hroom (wpAny_mono h (fun xv s₁ h₁ => wpAny_mono h₁ (fun it s₂ h₂ => ⟨h₂.1, wpAny_mono h₂.2 (fun code s₃ h₃ => wpAny_mono h₃ (fun bi s₄ h₄ => ?_)
    fun _ _ e => e) fun _ _ e => e⟩) fun _ _ e => e) fun _ _ e => e) hs
  obtain ⟨I, fp, wr, n, Pt, St, Mid, F, rfl, W, h2, hst, hfp, hl, hcw, hq, hQ⟩ := h₄
  have hclt : cStatics < s₄.heap.objs.size := let ⟨_, hn, _⟩ := hl; hn.lt
  intro h' hn' hs'
  have hsz : h'.objs.size = s₄.heap.objs.size + 1 := by rw [hs'.1, Heap.size_push]
  have up : ∀ b o, s₄.heap.get? b = some o → h'.get? b = some o := fun b o e => hs'.extBut b o (Nat.ne_of_lt (Heap.lt_size e)) (Heap.get?_push_of_some _ e)
  refine hQ _ _ _ _ rfl (by omega) (by rw [Heap.size_push]) (fun b o e => Heap.get?_push_of_some _ (up b o e))
    (WalksS.genexpQ (A := A.in4) hh _ _ _ _ wr (fun _ => true) n F (by rw [hsz]; exact Nat.succ_ne_self _) (fun hm => by have := List.mem_range.mp hm; omega) (fun b hb => List.mem_range.mpr (hfp b ((W A hh).sub b hb))) hroom (List.mem_range.mpr hclt) (Nat.ne_of_lt hclt) hcw) ?_
  exact startT (A := A.in4) (cenv := genEnv scope cl s₄.heap.objs.size code bi env) (m := fun y => if y = ".0" then some (.ref I) else none) hh
    (fun A' hA => (W A' hA).mono_fp fun b hb => List.mem_range.mpr (hfp b hb)) h2 hab hxa hxb (by simp [genEnv, hkind]) hco
    (fun hm => Nat.lt_irrefl _ (List.mem_range.mp hm)) hq ⟨_, _, _, Heap.get?_push_size _ rfl, rfl, rfl, rfl⟩ (Array.getElem?_push_size ..)
    ((W A hh).frame _ _ _ hst fun b _ o e => Heap.get?_push_of_some _ (up b o e)) (hn'.push _) (hl.keeps fun b o e => Heap.get?_push_of_some _ (up b o e))
end
end Mine
end
section
open PySem PySem.W PySem.Calls PyProof.Rows
open Sem (wp)
set_option maxRecDepth 100000
set_option maxHeartbeats 8000000
namespace Mine

/-- x₁ + x₂ is y: two floats, or two ints -/
def SumOf (x₁ x₂ y : Value) : Prop :=
  (∃ b1 t1 b2 t2 t, x₁ = .float b1 t1 ∧ x₂ = .float b2 t2 ∧ y = .float (Float64.add b1 b2) t ∧ t ≠ 0) ∨ (∃ n1 t1 n2 t2 t, x₁ = .int n1 t1 ∧ x₂ = .int n2 t2 ∧ y = .int (n1 + n2) t)
def Addable (x₁ x₂ : Value) : Prop :=
  (∃ b1 t1 b2 t2, x₁ = .float b1 t1 ∧ x₂ = .float b2 t2) ∨ (∃ n1 t1 n2 t2, x₁ = .int n1 t1 ∧ x₂ = .int n2 t2)

section
variable {prog : Program} {w : World} {A : Around} {E : Value → Shared → Prop} {s : Shared}

theorem add_sum {x₁ x₂ : Value} (h1 : 1 ≤ s.toks) (h : Addable x₁ x₂) {Q : Value → Shared → Prop} (k : ∀ y, SumOf x₁ x₂ y → Q y { s with toks := s.toks + 1 }) :
    wpAny (model prog w) A (binaryOp .Add x₁ x₂) Q E s := by
  rcases h with ⟨b1, t1, b2, t2, rfl, rfl⟩ | ⟨n1, t1, n2, t2, rfl, rfl⟩
  · exact PyProof.Rows.add_float (k _ (.inl ⟨_, _, _, _, _, rfl, rfl, rfl, Nat.ne_of_gt h1⟩))
  · exact PyProof.Rows.add_int (k _ (.inr ⟨_, _, _, _, _, rfl, rfl, rfl⟩))

theorem hideP {P : Prop} (h : ∀ G : Prop, (P → G) → G) : P := h P id
theorem passing_all (n : Nat) : passing (fun _ => true) n 0 = List.range n := by
  unfold passing
  rw [List.drop_zero]
  exact List.filter_eq_self.mpr fun _ _ => rfl

/-- the generator expression of add_callers, over a zip of two tuples -/
theorem gen_sum {env : Env} {iter : Expr} {p1 p2 p3 pa pb pt : Pos} {kt : Nat} {scope : Scope} {pos : Pos} {Q : Value → Shared → Prop} {mg : Str → Option Value} {bm : Addr} {ob : Obj}
    (hcode : env.code = .ref 27) (hh : A.handled = none) (hco : scope.isCoroutine = false) (hclos : closureFor scope env = pure [])
    (hcell : ∀ y ∈ scope.names, y.2 ≠ .cell) (h0 : scope.names.lookup (".0" : Str) = some NameKind.local)
    (hxa : scope.names.lookup (Str.ofString "i") = some .local) (hxb : scope.names.lookup (Str.ofString "j") = some .local) (hkind : scope.kind = .function) (hroom : A.depth < recursionLimit)
    (hl : pos.line = 13) (hc : pos.col = 42)
    (h : wpAny (model prog w) A (eval iter env) (fun xv s₁ => ∃ (z TI TO i1 i2 l1 l2 : Addr) (xs ys : Array Value) (Kb : Addr) (ps : Array Value), xv = .ref z ∧ ZipApart z TI TO i1 i2 l1 l2 ∧ xs.size = ys.size ∧ (∀ (i : Nat) (x y : Value), xs[i]? = some x → ys[i]? = some y → Addable x y) ∧
        (IsZip s₁.heap z TI TO .none ∧ IsPair s₁.heap TI (.ref i1) (.ref i2) ∧ (∃ a b, IsPair s₁.heap TO a b) ∧ s₁.heap.IsTupleIter i1 l1 0 ∧ s₁.heap.IsTupleIter i2 l2 0 ∧ s₁.heap.IsTuple l1 xs ∧ s₁.heap.IsTuple l2 ys) ∧
        cStatics < Kb ∧ Kb < z ∧ Kb < TO ∧ Kb < i1 ∧ Kb < i2 ∧ s₁.heap.NoLimit ∧ BMod s₁.heap env.globals mg bm ob ∧ bm ≠ 23 ∧ env.globals ≠ 23 ∧ AllBare s₁.gens ∧
        s₁.heap.IsCode 27 23 ps ∧ s₁.heap.TableAt 27 23 ps ∧ TabOk ps ∧
        (∀ (a : Addr) (ps' : Array Value) (s₅ : Shared), s₅.heap.get? 23 = some (tabObj ps') → TabOk ps' → AllBare s₅.gens → s₅.os = s₁.os → s₅.drawn = s₁.drawn → (∀ b o, b ≠ 23 → s₁.heap.get? b = some o → s₅.heap.get? b = some o) →
          Gen prog w A Kb a xs.size (fun j y => ∃ x₁ x₂, xs[j]? = some x₁ ∧ ys[j]? = some x₂ ∧ SumOf x₁ x₂ y) s₅ → Q (.ref a) s₅)) E s)
    (hs : ∀ x, genFold iter env x = pure x) :
    wpAny (model prog w) A (eval (.GeneratorExp (.BinOp (.Name (Str.ofString "i") p1) .Add (.Name (Str.ofString "j") p2) p3) [⟨.Tuple [.Name (Str.ofString "i") pa, .Name (Str.ofString "j") pb] kt pt, iter, [], 0⟩] scope pos) env) Q E s := by
  refine genexpT hh hco hclos hcell h0 hxa hxb (by decide) hkind hroom (wpAny_mono h (fun xv s₁ h₁ => ?_) fun _ _ e => e) hs
  refine hideP fun G toG => ?_
  obtain ⟨z, TI, TO, i1, i2, l1, l2, xs, ys, Kb, ps, rfl, D, hlen, hadd, hst, hKs, kz, kTO, k1, k2, hlim, M, hbm, hgl, hb, hcd, htb, htok, ret⟩ := h₁
  have W := fun (A' : Around) (hA : A'.handled = none) => walks_tzip (prog := prog) (w := w) hA z TI TO i1 i2 l1 l2 D xs ys hlen
  refine toG ((W A hh).self 0 _ _ _ hst ⟨hlim, ?_⟩)
  clear toG
  -- the code, new or found
  suffices hcodeR : ∀ code h₃ tk₃ ps', Heap.ExtBut 23 s₁.heap h₃ → s₁.heap.objs.size ≤ h₃.objs.size → h₃.get? 23 = some (tabObj ps') → TabOk ps' →
      wpAny (model prog w) A (builtinsFor env.globals env.builtins) (fun bi s₄ =>
        ∃ I fp wr n₀ Pt St₀ Mid F, Value.ref z = .ref I ∧ (∀ A' : Around, A'.handled = none → WalksU prog w A' I fp wr n₀ Pt St₀ Mid) ∧ (∀ i vals, Pt i vals → ∃ va vb, vals = #[va, vb]) ∧ St₀ 0 s₄.heap ∧ (∀ b ∈ fp, b < s₄.heap.objs.size) ∧ s₄.heap.NoLimit ∧ cStatics ∉ wr ∧
          EltT prog w (genEnv scope [] s₄.heap.objs.size code bi env) (Str.ofString "i") (Str.ofString "j") (.BinOp (.Name (Str.ofString "i") p1) .Add (.Name (Str.ofString "j") p2) p3) Pt F (A.depth + 1) (A.units + 8) ∧
          (∀ a h₅ tk gs, gs.bare = true → s₄.heap.objs.size < a → h₅.objs.size = a + 1 → (∀ b o, s₄.heap.get? b = some o → h₅.get? b = some o) →
            WalksS prog w A.in4 a (a :: s₄.heap.objs.size :: List.range s₄.heap.objs.size) (s₄.heap.objs.size :: wr) (GenOnlyQ s₄.gens.size) (passing (fun _ => true) n₀ 0).length
              (fun j y => ∃ i, (passing (fun _ => true) n₀ 0)[j]? = some i ∧ F i y) (GenAt prog w A.in4 a s₄.gens.size s₄.heap.objs.size (List.range s₄.heap.objs.size) wr (fun _ => true) n₀ F) →
            GenAt prog w A.in4 a s₄.gens.size s₄.heap.objs.size (List.range s₄.heap.objs.size) wr (fun _ => true) n₀ F 0 { s₄ with gens := s₄.gens.push gs, toks := tk, heap := h₅ } →
            Q (.ref a) { s₄ with gens := s₄.gens.push gs, toks := tk, heap := h₅ })) E { s₁ with heap := h₃, toks := tk₃ } by
    rcases htok with e | ⟨cc, e⟩
    · subst e
      refine wpAny_genexprCodeX hcode hcd htb rfl fun c' h₃ tk₃ hx₃ hge hlt _ _ htab₃ _ => ?_
      have hsz : s₁.heap.objs.size ≤ h₃.objs.size := Nat.le_trans hge (Nat.le_of_lt hlt)
      refine hcodeR (.ref c') h₃ tk₃ _ hx₃ hsz htab₃.2 (.inr ⟨c', ?_⟩)
      rw [hl, hc]; rfl
    · subst e
      refine wpAny_genexprCode_hit (c' := .ref cc) hcode hcd ?_ ?_
      · simp [codeAmong, rawInt, hl, hc]
      · exact hcodeR (.ref cc) s₁.heap s₁.toks _ (Heap.ExtBut.refl _ _) (Nat.le_refl _) htb.2 (.inr ⟨cc, rfl⟩)
  intro code h₃ tk₃ ps' hx₃ hsz htab₃ htok₃
  have up : ∀ b o, b ≠ 23 → s₁.heap.get? b = some o → h₃.get? b = some o := fun b o hb e => hx₃ b o hb e
  have hns : h₃.Ns env.globals mg := M.ns.extBut hx₃ hgl
  refine wpAny_builtinsFor hns M.name M.ne (up _ _ hbm M.obj) M.cls M.dict M.data ?_
  have tne : ∀ {b : Addr} {o : Obj}, s₁.heap.get? b = some o → o.cls ≠ .none → b ≠ 23 := fun e hc' e' => by
    subst e'; rw [htb.2] at e; cases e; exact hc' rfl
  refine hideP fun G toG => ?_
  obtain ⟨hz, hTI, ⟨ta, tb, hTO⟩, ⟨o1, h1, c1, d1⟩, ⟨o2, h2, c2, d2⟩, ⟨ol1, hl1, cl1, dl1⟩, ⟨ol2, hl2, cl2, dl2⟩⟩ := id hst
  refine toG ?_
  clear toG
  have n1 : z ≠ 23 := tne hz (by simp)
  have n2 : TI ≠ 23 := tne hTI (by simp)
  have n3 : TO ≠ 23 := tne hTO (by simp)
  have n4 : i1 ≠ 23 := tne h1 (by rw [c1]; simp)
  have n5 : i2 ≠ 23 := tne h2 (by rw [c2]; simp)
  have n6 : l1 ≠ 23 := tne hl1 (by rw [cl1]; simp)
  have n7 : l2 ≠ 23 := tne hl2 (by rw [cl2]; simp)
  have hcP : cStatics ≠ 23 := by decide
  have hst₃ : IsZip h₃ z TI TO .none ∧ IsPair h₃ TI (.ref i1) (.ref i2) ∧ (∃ a b, IsPair h₃ TO a b) ∧ h₃.IsTupleIter i1 l1 0 ∧ h₃.IsTupleIter i2 l2 0 ∧ h₃.IsTuple l1 xs ∧ h₃.IsTuple l2 ys :=
    ⟨up _ _ n1 hz, up _ _ n2 hTI, ⟨ta, tb, up _ _ n3 hTO⟩, ⟨o1, up _ _ n4 h1, c1, d1⟩, ⟨o2, up _ _ n5 h2, c2, d2⟩, ⟨ol1, up _ _ n6 hl1, cl1, dl1⟩, ⟨ol2, up _ _ n7 hl2, cl2, dl2⟩⟩
  refine ⟨z, _, _, xs.size, _, _, _, (fun j y => ∃ x₁ x₂, xs[j]? = some x₁ ∧ ys[j]? = some x₂ ∧ SumOf x₁ x₂ y), rfl, W, (fun i vals hv => by obtain ⟨x, y, _, _, e⟩ := hv; exact ⟨x, y, e⟩), hst₃, ?_, hlim.extBut hx₃ hcP, ?_, ?_, ?_⟩
  · intro b hb
    simp only [List.mem_cons, List.not_mem_nil, or_false] at hb
    rcases hb with rfl | rfl | rfl | rfl | rfl | rfl | rfl
    · exact Heap.lt_size (up _ _ n1 hz)
    · exact Heap.lt_size (up _ _ n2 hTI)
    · exact Heap.lt_size (up _ _ n3 hTO)
    · exact Heap.lt_size (up _ _ n4 h1)
    · exact Heap.lt_size (up _ _ n5 h2)
    · exact Heap.lt_size (up _ _ n6 hl1)
    · exact Heap.lt_size (up _ _ n7 hl2)
  · intro hm
    simp only [List.mem_cons, List.not_mem_nil, or_false] at hm
    rcases hm with e | e | e | e
    · exact Nat.lt_irrefl _ (Nat.lt_trans hKs (e ▸ kz))
    · exact Nat.lt_irrefl _ (Nat.lt_trans hKs (e ▸ kTO))
    · exact Nat.lt_irrefl _ (Nat.lt_trans hKs (e ▸ k1))
    · exact Nat.lt_irrefl _ (Nat.lt_trans hKs (e ▸ k2))
  · intro A' E' i va vb t m₂ hA hD hU hP h1 hn hma hmb
    obtain ⟨x, y, hx, hy, e⟩ := hP
    obtain ⟨e1, e2⟩ : va = x ∧ vb = y := by simpa using congrArg Array.toList e
    subst e1 e2
    refine wpAny_BinOp ?_
    refine wpAny_Name (wpAny_loadName_local hkind hxa hn hma ?_) (by decide)
    refine wpAny_Name (wpAny_loadName_local hkind hxb hn hmb ?_) (by decide)
    exact add_sum h1 (hadd i _ _ hx hy) fun v hv => ⟨⟨_, _, hx, hy, hv⟩, t.heap, _, rfl, fun _ _ e => e⟩
  · intro a h₅ tk gs hgb hag hsz₅ hk₅ Wg hat
    have hag' : h₃.objs.size < a := hag
    have hk₅' : ∀ b o, h₃.get? b = some o → h₅.get? b = some o := hk₅
    have hpl : (passing (fun _ => true) xs.size 0).length = xs.size := by rw [passing_all, List.length_range]
    refine ret a ps' _ (hk₅' _ _ htab₃) htok₃ (hb.push hgb) rfl rfl (fun b o hb e => hk₅' b o (up b o hb e)) ?_
    rw [hpl] at Wg
    have Wg' := PySem.WalksS.imp (P' := fun j y => ∃ x₁ x₂, xs[j]? = some x₁ ∧ ys[j]? = some x₂ ∧ SumOf x₁ x₂ y) Wg fun j y hy => by
      obtain ⟨i, hij, hy⟩ := hy
      rw [passing_all] at hij
      obtain ⟨hj, e⟩ := List.getElem?_eq_some_iff.mp hij
      rw [List.getElem_range] at e
      subst e
      exact hy
    refine ⟨_, _, _, _, Wg', hat, (fun i s' st => st.1.typeIs), List.mem_cons_self, ?_, ?_⟩
    · intro b hb
      show b < h₅.objs.size
      rw [hsz₅]
      rcases List.mem_cons.mp hb with rfl | hb
      · exact Nat.lt_succ_self _
      · rcases List.mem_cons.mp hb with rfl | hb
        · exact Nat.lt_succ_of_lt hag'
        · exact Nat.lt_succ_of_lt (Nat.lt_trans (List.mem_range.mp hb) hag')
    · intro b hb
      rcases List.mem_cons.mp hb with rfl | hb
      · exact Nat.lt_of_lt_of_le (Nat.lt_trans kz (Heap.lt_size hz)) hsz
      · simp only [List.mem_cons, List.not_mem_nil, or_false] at hb
        rcases hb with rfl | rfl | rfl | rfl
        · exact kz
        · exact kTO
        · exact k1
        · exact k2

/-- tuple() of that generator -/
theorem tuple_sum {a Kb : Addr} {xs ys : Array Value} {Q : Value → Shared → Prop} (G : AllBare s.gens)
    (X : Gen prog w A Kb a xs.size (fun j y => ∃ x₁ x₂, xs[j]? = some x₁ ∧ ys[j]? = some x₂ ∧ SumOf x₁ x₂ y) s) (hsz : xs.size ≤ sizeLine)
    (hQ : ∀ (s' : Shared) (acc : Array Value), AllBare s'.gens → s'.os = s.os → s'.drawn = s.drawn → (∀ b o, b ≤ Kb → s.heap.get? b = some o → s'.heap.get? b = some o) → acc.size = xs.size →
      (∀ (j : Nat) (v : Value), acc[j]? = some v → ∃ x₁ x₂, xs[j]? = some x₁ ∧ ys[j]? = some x₂ ∧ SumOf x₁ x₂ v) →
      Q (.ref s'.heap.objs.size) { s' with heap := s'.heap.push { cls := .type "tuple", data := .seq acc } }) :
    wpAny (model prog w) A (call (.type "tuple") [.ref a]) Q E s := by
  obtain ⟨fp, wr, g, St, W, hst, hT, hI, hfp, hwr⟩ := X
  refine call_tuple_gen (hsz := hsz) W.in4_3 hT hst hfp hI fun s' acc hm hacc => ?_
  exact hQ s' acc (G.movedS hm) hm.os hm.drawn (fun b o hb e => hm.heap b o (fun hmem => Nat.lt_irrefl _ (Nat.lt_of_lt_of_le (hwr b hmem) hb)) e) hacc.1 hacc.2
end

end Mine
end
section
open PySem PySem.W PySem.Calls PyProof.Rows
open Sem (wp)
set_option maxRecDepth 100000
set_option maxHeartbeats 8000000
namespace Mine

section
variable {prog : Program} {w : World} {K : Type} [DecidableEq K] {knd : KeyKind prog w K} {A : Around} {s : Shared} {g : Heap} {L : Addr} {m : Str → Option Value} {news : List (Addr × Obj)}

theorem keep2 {m₂ m0 : Str → Option Value} {a b : Str} (h : ∀ y, y ≠ a → y ≠ b → m₂ y = m0 y) : ∃ u : Str → Option Value, m₂ = fun y => if y = a then u y else if y = b then u y else m0 y :=
  ⟨m₂, funext fun y => by
    by_cases h1 : y = a
    · simp [h1]
    · by_cases h2 : y = b
      · simp [h2]
      · simp only [if_neg h1, if_neg h2]; exact h y h1 h2⟩
theorem keep1 {m₂ m0 : Str → Option Value} {a : Str} (h : ∀ y, y ≠ a → m₂ y = m0 y) : ∃ u : Str → Option Value, m₂ = fun y => if y = a then u y else m0 y :=
  ⟨m₂, funext fun y => by
    by_cases h1 : y = a
    · simp [h1]
    · simp only [if_neg h1]; exact h y h1⟩
theorem news_sub {h : Heap} {a b : List (Addr × Obj)} (N : News g L h a) (hs : ∀ p ∈ b, p ∈ a) : News g L h b := fun p hp => N p (hs p hp)

/-- a for over the items of a dict of the base's -/
theorem for_items {env : Env} {Q : Flow → Shared → Prop} {xk xv o : Str} {pk pv pt pos apos cpos po : Pos} {x1 : Nat} {body : List Stmt} {d : Addr} {kvs : List (K × Value)}
    (hL : env.locals = L) (hh : A.handled = none) (hkind : env.scope.kind = .function) (hxk : env.kindOf xk = some .local) (hxv : env.kindOf xv = some .local) (hxo : env.kindOf o = some .local) (hob : (o == ("__debug__" : Str)) = false)
    (F : Fr g L s.heap m) (N : News g L s.heap news) (ho : m o = some (.ref d)) (hd : g.DictOf knd d kvs) (hdS : (d == sysModules) = false) (hline : (apos.endLine == cpos.line) = true)
    (hbase : attributeBase (.Name o po) "items" env (eval (.Name o po) env) = eval (.Name o po) env)
    (J : Nat → (Str → Option Value) → List (Addr × Obj) → Array GenState → Prop) (h0 : J 0 m news s.gens)
    (step : ∀ i k v key m₁ news₁ h tk gn it io, kvs[i]? = some (k, v) → knd.is k key = true → J i m₁ news₁ gn → (∀ p ∈ news₁, p.1 ≠ it) →
      Fr g L h (fun y => if y = xv then some v else if y = xk then some key else m₁ y) → News g L h ((it, io) :: news₁) →
      wpAny (model prog w) A (execs body env) (fun f s₂ => f = .next ∧ ∃ h' tk' gn' m₂ news₂, s₂ = { s with heap := h', gens := gn', toks := tk' } ∧ Fr g L h' m₂ ∧ News g L h' ((it, io) :: news₂) ∧ (∀ p ∈ news₂, p.1 ≠ it) ∧ J (i + 1) m₂ news₂ gn')
        (fun _ _ => False) { s with heap := h, gens := gn, toks := tk })
    (done : ∀ m' news' h' tk' gn', J kvs.length m' news' gn' → Fr g L h' m' → News g L h' news' → Q .next { s with heap := h', gens := gn', toks := tk' }) :
    wpAny (model prog w) A (exec (.For (.Tuple [.Name xk pk, .Name xv pv] x1 pt) (.Call (.Attribute (.Name o po) "items" apos) [] [] cpos) body [] pos) env) Q (fun _ _ => False) s := by
  subst hL
  have hp : (env.scope.kind == .class || (env.scope.kind == .module && env.locals != env.globals)) = false := by rw [hkind]; rfl
  obtain ⟨ep, hat⟩ := hd.dictAt
  have hds : s.heap.DictAt knd d kvs ep := hat.keep F.keep
  have hdg : d < g.objs.size := hat.lt_size
  have hdL : d ≠ env.locals := Nat.ne_of_lt (Nat.lt_of_lt_of_le hdg F.above)
  refine wpAny_For (wpAny_Call_items hdS hds.dictOf hbase hline (fun Q' hq => wpAny_Name (wpAny_loadName_local hkind hxo F.ns ho hq) hob) ?_) (by intro _; rfl)
  refine wpAny_pyIter_items (knd := knd) (d := d) (kvs := kvs) (ep := ep) ⟨_, Heap.get?_push_size _ rfl, rfl, rfl⟩ (hds.push _) ?_
  generalize hit : (s.heap.push { cls := .type "dict_items", data := .fields #[.ref d] }).objs.size = it
  have hsz : it = s.heap.objs.size + 1 := by rw [← hit]; exact Heap.size_push ..
  have hitL : it ≠ env.locals := by rw [hsz]; exact Nat.ne_of_gt (Nat.lt_succ_of_lt F.ns.lt)
  have hdi : d ≠ it := by rw [hsz]; exact Nat.ne_of_lt (Nat.lt_succ_of_lt (Nat.lt_trans (Nat.lt_of_lt_of_le hdg F.above) F.ns.lt))
  have hgit : g.get? it = none := by
    cases q : g.get? it with
    | none => rfl
    | some o' => exact absurd (Heap.lt_size (F.keep _ _ q)) (by rw [hsz]; exact Nat.not_lt.mpr (Nat.le_succ _))
  refine codeAny_forLoop_any
    (fun n s' => ∃ h' tk gn m' news' i ok ov, s' = { s with heap := h', gens := gn, toks := tk } ∧ IsItemIter h' it d i kvs.length ep ok ov ∧ Fr g env.locals h' m' ∧ News g env.locals h' news' ∧ (∀ p ∈ news', p.1 ≠ it) ∧ J i m' news' gn ∧ i ≤ kvs.length ∧ n = kvs.length + 1 - i) ?_ (kvs.length + 1) ?_
  · rintro n s' ⟨H, tk, gn, m', news', i, ok, ov, rfl, hit', F', N', hni, hJ, hi, rfl⟩
    have hm' : H.DictAt knd d kvs ep := hat.keep F'.keep
    cases hv : kvs[i]? with
    | none =>
      have hz : i = kvs.length := Nat.le_antisymm hi (by simpa using hv)
      refine wpAny_pyNext_items_end hh hit' hm' hv fun h₁ he₁ => wpAny_execs_nil ?_
      refine done m' news' h₁ tk gn (hz ▸ hJ) ⟨F'.ns.extBut he₁ (Ne.symm hitL), fun b o e => he₁ b o (fun q => by rw [q, hgit] at e; cases e) (F'.keep b o e), F'.above⟩ fun p hp => ⟨he₁ _ _ (hni p hp) (N' p hp).1, (N' p hp).2⟩
    | some kv =>
      obtain ⟨k, v⟩ := kv
      have hlt : i < kvs.length := (List.getElem?_eq_some_iff.mp hv).1
      have hiH : it < H.objs.size := Heap.lt_size hit'
      refine wpAny_pyNext_items_item hit' hm' hv fun key h₁ hkey heo ht₁ hz₁ hk₁ => ?_
      refine wpAny_letOwnedTupleGo_items heo fun h₂ he₂ hs₂ => ?_
      replace hs₂ : Heap.SameBut it h₁ h₂ := hs₂
      have hz₁' : h₁.objs.size = H.objs.size + 1 := hz₁
      have ht₂ : h₂.IsTuple H.objs.size #[key, v] := ⟨_, (hs₂.2 _ (Nat.ne_of_gt hiH)).trans ht₁, rfl, _, rfl⟩
      have hz₂ : h₂.objs.size = H.objs.size + 1 := hs₂.1.trans hz₁'
      refine wpAny_assign_Tuple hh ht₂ rfl rfl fun h₃ hx₃ => ?_
      replace hx₃ : Heap.ExtBut h₂.objs.size h₂ h₃ := hx₃
      have up₃ : ∀ b o, b ≠ it → H.get? b = some o → h₃.get? b = some o := fun b o hb e =>
        hx₃ b o (by rw [hz₂]; exact Nat.ne_of_lt (Nat.lt_succ_of_lt (Heap.lt_size e))) (hs₂.extBut b o hb (hk₁ b o hb e))
      have hit₃ : h₃.get? it = some _ := hx₃ _ _ (by rw [hz₂]; exact Nat.ne_of_lt (Nat.lt_succ_of_lt hiH)) he₂
      have hn₃ : h₃.Ns env.locals m' := F'.ns.at fun o x => up₃ _ o (Ne.symm hitL) x
      show wpAny _ _ (do holding [v] (assign (.Name xk pk) env key); do holding [] (assign (.Name xv pv) env v); pure ()) _ _ _
      refine wpAny_bind (wpAny_holding (wpAny_assign_Name (wpAny_storeName_local hxk hn₃ (fun h₄ hn₄ hs₄ => ?_) hp)))
      replace hs₄ : Heap.SameBut env.locals h₃ h₄ := hs₄
      refine wpAny_bind (wpAny_holding (wpAny_assign_Name (wpAny_storeName_local hxv hn₄ (fun h₅ hn₅ hs₅ => wpAny_pure ?_) hp)))
      replace hs₅ : Heap.SameBut env.locals h₄ h₅ := hs₅
      have up₅ : ∀ b o, b ≠ env.locals → h₃.get? b = some o → h₅.get? b = some o := fun b o hb e => hs₅.extBut b o hb (hs₄.extBut b o hb e)
      have F₅ : Fr g env.locals h₅ (fun y => if y = xv then some v else if y = xk then some key else m' y) :=
        ⟨hn₅, fun b o e => up₅ b o (fun q => by subst q; exact absurd (Nat.lt_of_lt_of_le (Heap.lt_size e) F'.above) (Nat.lt_irrefl _)) (up₃ b o (fun q => by rw [q, hgit] at e; cases e) (F'.keep b o e)), F'.above⟩
      have N₅ : News g env.locals h₅ ((it, _) :: news') := fun p hp => by
        rcases List.mem_cons.mp hp with e | hp
        · rw [e]; exact ⟨up₅ _ _ hitL hit₃, hitL, hgit⟩
        · exact ⟨up₅ _ _ (N' p hp).2.1 (up₃ _ _ (hni p hp) (N' p hp).1), (N' p hp).2⟩
      refine wpAny_mono (step i k v key m' news' h₅ _ gn it _ hv hkey hJ hni F₅ N₅) (fun f s₃ h₆ => ?_) fun _ _ x => x.elim
      obtain ⟨rfl, h₆, tk₆, gn₆, m₆, news₆, rfl, F₆, N₆, hn₆, hJ₆⟩ := h₆
      exact ⟨kvs.length + 1 - (i + 1), by omega, h₆, tk₆, gn₆, m₆, news₆, i + 1, key, v, rfl, (N₆ _ (.head _)).1, F₆, (fun p hp => N₆ p (.tail _ hp)), hn₆, hJ₆, hlt, rfl⟩
  · refine ⟨_, s.toks, s.gens, m, news, 0, .none, .none, rfl, ?_, (F.push _).push _, fun p hp => ⟨Heap.get?_push_of_some _ (Heap.get?_push_of_some _ (N p hp).1), (N p hp).2⟩, ?_, h0, Nat.zero_le _, rfl⟩
    · rw [← hit]; exact Heap.get?_push_size _ rfl
    · intro p hp e
      exact absurd (Heap.lt_size (N p hp).1) (by rw [e, hsz]; exact Nat.not_lt.mpr (Nat.le_succ _))
end

end Mine
end
section
open PySem PySem.W PySem.Calls PyProof.Rows
set_option maxRecDepth 100000
namespace Mine

theorem mem_addP {acc : List Str} {p q : Str} : q ∈ addP acc p ↔ q ∈ acc ∨ q = p := by
  unfold addP
  split
  · rename_i h
    constructor
    · exact .inl
    · rintro (h' | rfl)
      · exact h'
      · exact h
  · simp
theorem addP_mem {acc : List Str} {p : Str} (h : p ∈ acc) : addP acc p = acc := if_pos h
theorem addP_new {acc : List Str} {p : Str} (h : p ∉ acc) : addP acc p = acc ++ [p] := if_neg h
theorem mem_foldP {l : List Str} : ∀ {acc : List Str} {q : Str}, q ∈ l.foldl addP acc ↔ q ∈ acc ∨ q ∈ l := by
  induction l with
  | nil => intro acc q; simp
  | cons a l ih =>
    intro acc q
    rw [List.foldl_cons, ih, mem_addP, List.mem_cons]
    constructor
    · rintro ((h | h) | h)
      · exact .inl h
      · exact .inr (.inl h)
      · exact .inr (.inr h)
    · rintro (h | h | h)
      · exact .inl (.inl h)
      · exact .inl (.inr h)
      · exact .inr h
theorem places_eq (ls : List Light) : places ls = (ls.map (·.p)).foldl addP [] := by
  unfold places; rw [List.foldl_map]
theorem mem_places {ls : List Light} {p : Str} : p ∈ places ls ↔ ∃ l ∈ ls, l.p = p := by
  rw [places_eq, mem_foldP]
  simp
theorem places_snoc (ls : List Light) (l : Light) : places (ls ++ [l]) = addP (places ls) l.p := by
  unfold places; rw [List.foldl_append]; rfl
theorem nodup_addP {acc : List Str} (h : acc.Nodup) (p : Str) : (addP acc p).Nodup := by
  unfold addP
  split
  · exact h
  · rename_i hn
    rw [List.nodup_append]
    refine ⟨h, by simp, ?_⟩
    intro a ha b hb e
    rw [List.mem_singleton.mp hb] at e
    exact hn (e ▸ ha)
theorem places_nodup (ls : List Light) : (places ls).Nodup := by
  suffices h : ∀ (l : List Str) (acc : List Str), acc.Nodup → (l.foldl addP acc).Nodup by
    rw [places_eq]; exact h _ _ List.nodup_nil
  intro l
  induction l with
  | nil => exact fun _ h => h
  | cons a l ih => exact fun acc h => ih _ (nodup_addP h a)

/-- adding the places of l one by one is adding l's lights one by one -/
theorem fold_places (l2 : List Light) (acc : List Str) : (places l2).foldl addP acc = (l2.map (·.p)).foldl addP acc := by
  suffices h : ∀ n (l2 : List Light), l2.length = n → (places l2).foldl addP acc = (l2.map (·.p)).foldl addP acc from h _ l2 rfl
  intro n
  induction n with
  | zero => intro l2 h; rw [List.length_eq_zero_iff.mp h]; rfl
  | succ n ih =>
    intro l2 h
    have hne : l2 ≠ [] := by intro e; rw [e] at h; cases h
    obtain ⟨l, x, rfl⟩ : ∃ l x, l2 = l ++ [x] := ⟨l2.dropLast, l2.getLast hne, (List.dropLast_concat_getLast hne).symm⟩
    have hl : l.length = n := by simpa using h
    rw [places_snoc, List.map_append, List.foldl_append]
    show _ = addP _ x.p
    rw [← ih l hl]
    by_cases hx : x.p ∈ places l
    · rw [addP_mem hx, addP_mem]
      exact mem_foldP.mpr (.inr hx)
    · rw [addP_new hx, List.foldl_append]; rfl
theorem places_append (l1 l2 : List Light) : places (l1 ++ l2) = (places l2).foldl addP (places l1) := by
  rw [fold_places, places_eq, places_eq, List.map_append, List.foldl_append]

theorem atP_append (p : Str) (l1 l2 : List Light) : atP p (l1 ++ l2) = atP p l1 ++ atP p l2 := by unfold atP; exact List.filter_append ..
theorem atP_nil {p : Str} {ls : List Light} (h : p ∉ places ls) : atP p ls = [] := by
  unfold atP
  rw [List.filter_eq_nil_iff]
  intro l hl
  simp only [decide_eq_true_eq]
  exact fun e => h (mem_places.mpr ⟨l, hl, e⟩)
theorem atP_ne {p : Str} {ls : List Light} (h : p ∈ places ls) : atP p ls ≠ [] := by
  obtain ⟨l, hl, e⟩ := mem_places.mp h
  intro h'
  have : l ∈ atP p ls := by unfold atP; rw [List.mem_filter]; exact ⟨hl, by simp [e]⟩
  rw [h'] at this; cases this
theorem atP_le (p : Str) (ls : List Light) : (atP p ls).length ≤ ls.length := by unfold atP; exact List.length_filter_le ..

section
variable {kvs : List (Str × Value)} {k : Str} {v : Value}
theorem stored_new (h : k ∉ kvs.map (·.1)) : stored kvs k v = kvs ++ [(k, v)] := by
  unfold stored
  rw [if_neg]
  intro h'
  obtain ⟨kv, hm, e⟩ := List.any_eq_true.mp h'
  exact h (List.mem_map.mpr ⟨kv, hm, by simpa using e⟩)
theorem stored_old (h : k ∈ kvs.map (·.1)) : stored kvs k v = kvs.map (fun kv => if kv.1 = k then (kv.1, v) else kv) := by
  unfold stored
  rw [if_pos]
  obtain ⟨kv, hm, e⟩ := List.mem_map.mp h
  exact List.any_eq_true.mpr ⟨kv, hm, by simpa using e⟩
theorem valueAt_some (h : k ∈ kvs.map (·.1)) : ∃ v, valueAt kvs k = some v ∧ (k, v) ∈ kvs := by
  unfold valueAt
  cases q : kvs.find? fun kv => decide (kv.1 = k) with
  | none =>
    obtain ⟨kv, hm, e⟩ := List.mem_map.mp h
    have := List.find?_eq_none.mp q kv hm
    simp [e] at this
  | some kv =>
    have h1 : kv.1 = k := by simpa using List.find?_some q
    exact ⟨kv.2, rfl, by rw [← h1]; exact List.mem_of_find?_eq_some q⟩
theorem valueAt_none (h : k ∉ kvs.map (·.1)) : valueAt kvs k = none := by
  unfold valueAt
  cases q : kvs.find? fun kv => decide (kv.1 = k) with
  | none => rfl
  | some kv =>
    have h1 : kv.1 = k := by simpa using List.find?_some q
    exact absurd (List.mem_map.mpr ⟨kv, List.mem_of_find?_eq_some q, h1⟩) h
end

end Mine
namespace Mine
theorem addP_len (acc : List Str) (p : Str) : (addP acc p).length ≤ acc.length + 1 := by
  unfold addP; split <;> simp
theorem foldP_len (l : List Str) : ∀ acc : List Str, (l.foldl addP acc).length ≤ acc.length + l.length := by
  induction l with
  | nil => intro acc; exact Nat.le_refl _
  | cons a l ih =>
    intro acc
    have h1 := ih (addP acc a)
    have h2 := addP_len acc a
    rw [List.foldl_cons, List.length_cons]; omega
theorem places_len (ls : List Light) : (places ls).length ≤ ls.length := by
  rw [places_eq]
  have := foldP_len (ls.map (·.p)) []
  simpa using this
end Mine
end
section
open PySem PySem.W PySem.Calls PyProof.Rows
set_option maxRecDepth 100000
set_option maxHeartbeats 8000000
set_option pp.fieldNotation false
namespace Mine

theorem entry_spec {w : World} {A : Around} {s : Shared} {Q E : Value → Shared → Prop} {mg mb : Str → Option Value} {a : Addr} {b0 b1 b2 : Value} {p : Str} {tp : Tok}
   (S : Sees w mg mb s.heap) (R : Room A 1 8) (H : IsTup (hid s.heap) a #[b0, b1, b2])
   (ret : ∀ e d row tn tn' h' tk', Sees w mg mb h' → Stays (hid s.heap) (hid h') → IsTup (hid h') e #[b0, b1, b2, .int 1 tn, .ref d] → (d == sysModules) = false → (hid s.heap).get? d = none → (hid h').DictOf (knd w) d [(p, .ref row)] → IsTup (hid h') row #[b0, b1, b2, .int 1 tn'] → (hid s.heap).get? e = none ∧ (hid s.heap).get? row = none → Q (.ref e) {s with heap := h', toks := tk'}) :
   wpAny (model Challenge.rw_mj0062_01.row.prog w) A (call (.ref 56) [.ref a, .str p tp]) Q E s := by
  obtain ⟨X, T, ⟨ps, tab, tok⟩, BM⟩ := S
  obtain ⟨dep, uni, han⟩ := R
  obtain ⟨hdl, dp, fr, gd, un⟩ := A
  dsimp only at dep uni han
  subst han
  revert X; k_fill; intro X
  k_dflt (refine' enter (binds := [(Str.ofString "three", .ref a), (Str.ofString "place", .str p tp)]) ?X ?T ?tab ?k6 ?k7 ?k8 ?k9 ?kB ?_ ?c2 ?c3 ?c4 ?c5; (case X => assumption); (case T => assumption); (case tab => assumption); (case k6 => k_is); (case k7 => k_is); (case k8 => (show dp < recursionLimit; omega)); (case k9 => exact BindsTo.of_eq rfl);  (case c5 => decide); (case kB => exact locs rfl); (case c2 => exact rfl); (case c3 => exact rfl); (case c4 => exact rfl); k_whole; intro h' F' N'; (try dsimp only); (try k_fold))
  k_steps
  k_dflt (refine' dict1 ?F ?N T.nolimit ?hk ?hv ?_ ?a1 ?a2 ?a3 ?a4 ?a5; (case F => k_asm); (case N => k_asm); (case hk => exact rfl); (case hv => exact rfl); (case a1 => rfl); (case a2 => rfl); (case a3 => rfl); (case a4 => decide); (case a5 => decide); k_whole)
  intro d' h' o' F' N' l1 lo' hd'
  have fr' := N'.fresh (List.Mem.head _)
  k_lt l1
  try k_sweep
  try dsimp only
  k_steps
  show Q _ _
  exact ret _ _ _ _ _ _ _ (end_sees (by k_asm) (by k_asm) (by k_mem) tok X T BM) (end_stays (by k_asm)) (end_tup (by k_asm) (by k_mem) (by k_mem)) lo' fr' (end_dict (by k_asm) (by k_mem) (by k_mem) hd') (end_tup (by k_asm) (by k_mem) (by k_mem)) ⟨News.fresh (by k_asm) (by k_mem), News.fresh (by k_asm) (by k_mem)⟩

theorem shown_spec {w : World} {A : Around} {s : Shared} {Q E : Value → Shared → Prop} {mg mb : Str → Option Value} {a : Addr} {r g b : Int} {t0 t1 t2 t3 : Tok} {p : Str}
   (S : Sees w mg mb s.heap) (R : Room A 2 16) (H : IsTup (hid s.heap) a #[.int r t0, .int g t1, .int b t2, .str p t3]) (hr : 0 ≤ r ∧ r < 16) (hg : 0 ≤ g ∧ g < 16) (hb : 0 ≤ b ∧ b < 16)
   (ret : ∀ e d row u0 u1 u2 tn tn' h' tk', Sees w mg mb h' → Stays (hid s.heap) (hid h') →
      IsTup (hid h') e #[.float (Float64.div (Float64.ofInt r) 4643211215818981376) u0, .float (Float64.div (Float64.ofInt g) 4643211215818981376) u1, .float (Float64.div (Float64.ofInt b) 4643211215818981376) u2, .int 1 tn, .ref d] → (d == sysModules) = false → (hid s.heap).get? d = none → (hid h').DictOf (knd w) d [(p, .ref row)] →
      IsTup (hid h') row #[.float (Float64.div (Float64.ofInt r) 4643211215818981376) u0, .float (Float64.div (Float64.ofInt g) 4643211215818981376) u1, .float (Float64.div (Float64.ofInt b) 4643211215818981376) u2, .int 1 tn'] → u0 ≠ 0 ∧ u1 ≠ 0 ∧ u2 ≠ 0 → (hid s.heap).get? e = none ∧ (hid s.heap).get? row = none → Q (.ref e) {s with heap := h', toks := tk'}) :
   wpAny (model Challenge.rw_mj0062_01.row.prog w) A (call (.ref 63) [.ref a]) Q E s := by
  obtain ⟨X, T, ⟨ps, tab, tok⟩, BM⟩ := S
  obtain ⟨dep, uni, han⟩ := R
  obtain ⟨hdl, dp, fr, gd, un⟩ := A
  dsimp only at dep uni han
  subst han
  revert X; k_fill; intro X
  k_dflt (refine' enter (binds := [(Str.ofString "light", .ref a)]) ?X ?T ?tab ?k6 ?k7 ?k8 ?k9 ?kB ?_ ?c2 ?c3 ?c4 ?c5; (case X => assumption); (case T => assumption); (case tab => assumption); (case k6 => k_is); (case k7 => k_is); (case k8 => (show dp < recursionLimit; omega)); (case k9 => exact BindsTo.of_eq rfl);  (case c5 => decide); (case kB => exact locs rfl); (case c2 => exact rfl); (case c3 => exact rfl); (case c4 => exact rfl); k_whole; intro h' F' N'; (try dsimp only); (try k_fold))
  k_steps
  rename Fr _ _ _ _ => F
  rename News _ _ _ _ => N
  refine entry_spec (mg := mg) (mb := mb) (end_sees F N (by k_mem) tok X T BM) ⟨?_, ?_, rfl⟩ (end_tup N (by k_mem) (by k_mem)) ?_
  · show dp + 1 + 1 < recursionLimit; omega
  · show un + 3 + 8 < cLine; omega
  · intro e d row tn tn' h' tk' S' st H1 H2 H2' H3 H4 H5
    show Q _ _
    exact ret e d row _ _ _ tn tn' h' tk' S' (Stays.trans (end_stays F) st) H1 H2 (fresh_back (end_stays F) H2') H3 H4 ⟨Nat.succ_ne_zero _, Nat.succ_ne_zero _, Nat.succ_ne_zero _⟩ ⟨fresh_back (end_stays F) H5.1, fresh_back (end_stays F) H5.2⟩

theorem rgb_spec {w : World} {A : Around} {s : Shared} {Q E : Value → Shared → Prop} {mg mb : Str → Option Value} {r g b : UInt64} {t1 t2 t3 : Tok}
   (S : Sees w mg mb s.heap) (R : Room A 1 8)
   (ret : ∀ e y i q u0 u1 u2 h' tk', Sees w mg mb h' → Stays (hid s.heap) (hid h') → IsTup (hid h') e #[.float y u0, .float i u1, .float q u2] →
      y = Float64.add (Float64.add (Float64.mul 4599075939470750515 r) (Float64.mul 4603489467105573601 g)) (Float64.mul 4592590756007337001 b) →
      i = Float64.sub (Float64.mul 4604840546993784750 (Float64.sub r y)) (Float64.mul 4598535507515466056 (Float64.sub b y)) →
      q = Float64.add (Float64.mul 4602318531202457272 (Float64.sub r y)) (Float64.mul 4601057523306793533 (Float64.sub b y)) → u0 ≠ 0 ∧ u1 ≠ 0 ∧ u2 ≠ 0 → Q (.ref e) {s with heap := h', toks := tk'}) :
   wpAny (model Challenge.rw_mj0062_01.row.prog w) A (call (.ref 35) [.float r t1, .float g t2, .float b t3]) Q E s := by
  obtain ⟨X, T, ⟨ps, tab, tok⟩, BM⟩ := S
  obtain ⟨dep, uni, han⟩ := R
  obtain ⟨hdl, dp, fr, gd, un⟩ := A
  dsimp only at dep uni han
  subst han
  revert X; k_fill; intro X
  k_dflt (refine' enter (binds := [(Str.ofString "r", .float r t1), (Str.ofString "g", .float g t2), (Str.ofString "b", .float b t3)]) ?X ?T ?tab ?k6 ?k7 ?k8 ?k9 ?kB ?_ ?c2 ?c3 ?c4 ?c5; (case X => assumption); (case T => assumption); (case tab => assumption); (case k6 => k_is); (case k7 => k_is); (case k8 => (show dp < recursionLimit; omega)); (case k9 => exact BindsTo.of_eq rfl);  (case c5 => decide); (case kB => exact locs rfl); (case c2 => exact rfl); (case c3 => exact rfl); (case c4 => exact rfl); k_whole; intro h' F' N'; (try dsimp only); (try k_fold))
  k_steps
  show Q _ _
  exact ret _ _ _ _ _ _ _ _ _ (end_sees (by k_asm) (by k_asm) (by k_mem) tok X T BM) (end_stays (by k_asm)) (end_tup (by k_asm) (by k_mem) (by k_mem)) rfl rfl rfl ⟨Nat.succ_ne_zero _, Nat.succ_ne_zero _, Nat.succ_ne_zero _⟩

theorem told_spec {w : World} {A : Around} {s : Shared} {Q E : Value → Shared → Prop} {mg mb : Str → Option Value} {a : Addr} {r g b : Int} {t0 t1 t2 t3 : Tok} {p : Str} {fr fg fb : UInt64}
   (S : Sees w mg mb s.heap) (R : Room A 2 16) (H : IsTup (hid s.heap) a #[.int r t0, .int g t1, .int b t2, .str p t3]) (hr : 0 ≤ r ∧ r < 16) (hg : 0 ≤ g ∧ g < 16) (hb : 0 ≤ b ∧ b < 16)
   (er : fr = Float64.div (Float64.ofInt r) 4643211215818981376) (eg : fg = Float64.div (Float64.ofInt g) 4643211215818981376) (eb : fb = Float64.div (Float64.ofInt b) 4643211215818981376)
   (ret : ∀ e d row y i q u0 u1 u2 tn tn' h' tk', Sees w mg mb h' → Stays (hid s.heap) (hid h') →
      y = Float64.add (Float64.add (Float64.mul 4599075939470750515 fr) (Float64.mul 4603489467105573601 fg)) (Float64.mul 4592590756007337001 fb) →
      i = Float64.sub (Float64.mul 4604840546993784750 (Float64.sub fr y)) (Float64.mul 4598535507515466056 (Float64.sub fb y)) →
      q = Float64.add (Float64.mul 4602318531202457272 (Float64.sub fr y)) (Float64.mul 4601057523306793533 (Float64.sub fb y)) →
      IsTup (hid h') e #[.float y u0, .float i u1, .float q u2, .int 1 tn, .ref d] → (d == sysModules) = false → (hid s.heap).get? d = none → (hid h').DictOf (knd w) d [(p, .ref row)] →
      IsTup (hid h') row #[.float y u0, .float i u1, .float q u2, .int 1 tn'] → u0 ≠ 0 ∧ u1 ≠ 0 ∧ u2 ≠ 0 → (hid s.heap).get? e = none ∧ (hid s.heap).get? row = none → Q (.ref e) {s with heap := h', toks := tk'}) :
   wpAny (model Challenge.rw_mj0062_01.row.prog w) A (call (.ref 70) [.ref a]) Q E s := by
  subst er eg eb
  obtain ⟨X, T, ⟨ps, tab, tok⟩, BM⟩ := S
  obtain ⟨dep, uni, han⟩ := R
  obtain ⟨hdl, dp, fr, gd, un⟩ := A
  dsimp only at dep uni han
  subst han
  revert X; k_fill; intro X
  k_dflt (refine' enter (binds := [(Str.ofString "light", .ref a)]) ?X ?T ?tab ?k6 ?k7 ?k8 ?k9 ?kB ?_ ?c2 ?c3 ?c4 ?c5; (case X => assumption); (case T => assumption); (case tab => assumption); (case k6 => k_is); (case k7 => k_is); (case k8 => (show dp < recursionLimit; omega)); (case k9 => exact BindsTo.of_eq rfl);  (case c5 => decide); (case kB => exact locs rfl); (case c2 => exact rfl); (case c3 => exact rfl); (case c4 => exact rfl); k_whole; intro h' F' N'; (try dsimp only); (try k_fold))
  k_steps
  rename Fr _ _ _ _ => F
  rename News _ _ _ _ => N
  refine rgb_spec (mg := mg) (mb := mb) (end_sees F N (by k_mem) tok X T BM) ⟨?_, ?_, rfl⟩ ?_
  · show dp + 1 + 1 < recursionLimit; omega
  · show un + 3 + 8 < cLine; omega
  intro e y i q u0 u1 u2 h1 tk1 S1 st H1 ey ei eq hz
  obtain ⟨ps1, tab1, tok1⟩ := S1.tab
  have hL := Ne.symm (N _ (by k_mem : (23, tabObj ps) ∈ _)).2.1
  have F1 := back_fr F hL st
  have N1 := back_news (g := s.heap) hL tab1
  have st0 := end_stays F
  clear F N
  skip
  try k_fold
  k_steps
  rename Fr _ _ _ _ => F2
  rename News _ _ _ _ => N2
  refine entry_spec (mg := mg) (mb := mb) (end_sees F2 N2 (by k_mem) tok1 X T BM) ⟨?_, ?_, rfl⟩ H1 ?_
  · show dp + 1 + 1 < recursionLimit; omega
  · show un + 3 + 8 < cLine; omega
  · intro e d row tn tn' h' tk' S' st2 G1 G2 G2' G3 G4 G5
    show Q _ _
    exact ret e d row _ _ _ _ _ _ tn tn' h' tk' S' (Stays.trans (end_stays F2) st2) ey ei eq G1 G2 (fresh_back (end_stays F2) G2') G3 G4 hz ⟨fresh_back (end_stays F2) G5.1, fresh_back (end_stays F2) G5.2⟩
end Mine
end
section
open PySem PySem.W PySem.Calls PyProof.Rows
set_option maxRecDepth 100000
set_option maxHeartbeats 8000000
set_option pp.fieldNotation false
namespace Mine

def clamp0 (x : UInt64) : UInt64 := if (Float64.cmp x 0 == some Ordering.lt) = true then 0 else x
theorem clamp_if {prog : Program} {w : World} {A : Around} {E : Value → Shared → Prop} {s : Shared} {h₀ : Heap} {L a : Addr} {m : Str → Option Value} {news : List (Addr × Obj)} {cn x : Str} {cs : Scope} {ccd : Value} {p1 p2 p3 p4 p5 p6 p7 : Pos} {k1 k2 : Nat} {R : UInt64} {t : Tok} {Q : Flow → Shared → Prop}
    (F : Fr h₀ L s.heap m) (N : News h₀ L s.heap news) (hm : m x = some (.float R t)) (hk : cs.kind = .function) (hx : (envOf cn cs L a ccd).kindOf x = some .local) (hd : (x == ("__debug__" : Str)) = false)
    (k : ∀ h' tk' t', Fr h₀ L h' (fun z => if z = x then some (.float (clamp0 R) t') else m z) → News h₀ L h' news → Q .next { s with heap := h', toks := tk' }) :
    wpAny (model prog w) A (exec (.If (.Compare (.Name x p1) [.Lt] [.Constant (.float 0) k1 p2] p3) [.Assign [.Name x p4] (.Constant (.float 0) k2 p5) p6] [] p7) (envOf cn cs L a ccd)) Q E s := by
  refine wpAny_If (wpAny_isTrue_Compare1 ?_ (by with_unfolding_all rfl))
  refine ld F hm ?_ hk hx hd
  refine AutoFloatOps.wpAny_Constant_float ?_
  refine AutoFloatOps.lt_0 (wpAny_truthy_bool ?_)
  cases hc : (Float64.cmp R 0 == some Ordering.lt)
  · simp only [Bool.false_eq_true, if_false]
    refine wpAny_execs_nil ?_
    have e : m = fun z => if z = x then some (.float (clamp0 R) t) else m z := by
      funext z
      by_cases hz : z = x
      · subst hz
        rw [if_pos rfl, hm]; unfold clamp0; rw [if_neg (by rw [hc]; exact Bool.false_ne_true)]
      · rw [if_neg hz]
    exact k _ _ t (e ▸ F) N
  · simp only [if_true]
    refine wpAny_execs_cons (wpAny_Assign_Name (AutoFloatOps.wpAny_Constant_float ?_) (by with_unfolding_all rfl))
    refine storeX_L F N (fun h' F' N' => ?_) hk hx
    refine wpAny_execs_nil ?_
    have e : clamp0 R = 0 := by unfold clamp0; rw [if_pos hc]
    exact k _ _ _ (e.symm ▸ F') N'
theorem clamp_gt {x : UInt64} (h0 : (Float64.cmp 0 4607182418800017408 == some Ordering.gt) = false) (h : (Float64.cmp x 4607182418800017408 == some Ordering.gt) = false) : (Float64.cmp (clamp0 x) 4607182418800017408 == some Ordering.gt) = false := by
  unfold clamp0
  split
  · exact h0
  · exact h
theorem yiq_spec {w : World} {A : Around} {s : Shared} {Q E : Value → Shared → Prop} {mg mb : Str → Option Value} {y i q : UInt64} {t1 t2 t3 : Tok}
   (S : Sees w mg mb s.heap) (R : Room A 1 8)
   (h1 : (Float64.cmp (Float64.add (Float64.add y (Float64.mul 4606703976345377586 i)) (Float64.mul 4603791717925830846 q)) 4607182418800017408 == some Ordering.gt) = false)
   (h2 : (Float64.cmp (Float64.sub (Float64.sub y (Float64.mul 4598621754083818298 i)) (Float64.mul 4603901015759978483 q)) 4607182418800017408 == some Ordering.gt) = false)
   (h3 : (Float64.cmp (Float64.add (Float64.sub y (Float64.mul 4607671262177584182 i)) (Float64.mul 4610375502138591871 q)) 4607182418800017408 == some Ordering.gt) = false)
   (ret : ∀ e r g b u0 u1 u2 h' tk', Sees w mg mb h' → Stays (hid s.heap) (hid h') → IsTup (hid h') e #[.float r u0, .float g u1, .float b u2] →
      r = clamp0 (Float64.add (Float64.add y (Float64.mul 4606703976345377586 i)) (Float64.mul 4603791717925830846 q)) →
      g = clamp0 (Float64.sub (Float64.sub y (Float64.mul 4598621754083818298 i)) (Float64.mul 4603901015759978483 q)) →
      b = clamp0 (Float64.add (Float64.sub y (Float64.mul 4607671262177584182 i)) (Float64.mul 4610375502138591871 q)) →
      Q (.ref e) {s with heap := h', toks := tk'}) :
   wpAny (model Challenge.rw_mj0062_01.row.prog w) A (call (.ref 42) [.float y t1, .float i t2, .float q t3]) Q E s := by
  have h0 : (Float64.cmp 0 4607182418800017408 == some Ordering.gt) = false := by decide +kernel
  obtain ⟨X, T, ⟨ps, tab, tok⟩, BM⟩ := S
  obtain ⟨dep, uni, han⟩ := R
  obtain ⟨hdl, dp, fr, gd, un⟩ := A
  dsimp only at dep uni han
  subst han
  revert X; k_fill; intro X
  k_dflt (refine' enter (binds := [(Str.ofString "y", .float y t1), (Str.ofString "i", .float i t2), (Str.ofString "q", .float q t3)]) ?X ?T ?tab ?k6 ?k7 ?k8 ?k9 ?kB ?_ ?c2 ?c3 ?c4 ?c5; (case X => assumption); (case T => assumption); (case tab => assumption); (case k6 => k_is); (case k7 => k_is); (case k8 => (show dp < recursionLimit; omega)); (case k9 => exact BindsTo.of_eq rfl);  (case c5 => decide); (case kB => exact locs rfl); (case c2 => exact rfl); (case c3 => exact rfl); (case c4 => exact rfl); k_whole; intro h' F' N'; (try dsimp only); (try k_fold))
  have g1 := clamp_gt h0 h1
  have g2 := clamp_gt h0 h2
  have g3 := clamp_gt h0 h3
  clear h0 h1 h2 h3
  refine wpAny_execs_cons ?_
  refine hideQ fun Q1 to1 => ?_
  k_steps
  refine to1 _ _ ?_
  clear to1
  dsimp only
  refine wpAny_execs_cons ?_
  refine hideQ fun Q1 to1 => ?_
  try k_fold
  k_steps
  refine to1 _ _ ?_
  clear to1
  dsimp only
  refine wpAny_execs_cons ?_
  refine hideQ fun Q1 to1 => ?_
  try k_fold
  k_steps
  refine to1 _ _ ?_
  clear to1
  rename Fr _ _ _ _ => F1
  rename News _ _ _ _ => N1
  dsimp only
  refine wpAny_execs_cons ?_
  k_dflt (refine clamp_if F1 N1 rfl rfl rfl (by decide) ?_)
  intro h2' tk2 t2' F2 N2
  clear F1 N1
  dsimp only
  refine wpAny_execs_cons ?_
  k_dflt (refine clamp_if F2 N2 rfl rfl rfl (by decide) ?_)
  intro h3' tk3 t3' F3 N3
  clear F2 N2
  dsimp only
  refine wpAny_execs_cons ?_
  k_dflt (refine clamp_if F3 N3 rfl rfl rfl (by decide) ?_)
  intro h4' tk4 t4' F4 N4
  clear F3 N3
  dsimp only
  try k_fold
  k_steps
  show Q _ _
  exact ret _ _ _ _ _ _ _ _ _ (end_sees (by k_asm) (by k_asm) (by k_mem) tok X T BM) (end_stays (by k_asm)) (end_tup (by k_asm) (by k_mem) (by k_mem)) rfl rfl rfl
end Mine
end
section
open PySem PySem.W PySem.Calls PyProof.Rows
set_option maxRecDepth 100000
set_option maxHeartbeats 8000000
set_option pp.fieldNotation false
namespace Mine

abbrev tupO (items : Array Value) : Obj := { cls := .type "tuple", data := .seq items }
def RowIn (Φ : Phi) (g : Heap) (extra : List (Addr × Obj)) (v : Value) (ls : List Light) : Prop :=
  ∃ a b0 b1 b2 t0 t1 t2 t3, v = .ref a ∧ (IsTup g a #[.float b0 t0, .float b1 t1, .float b2 t2, .int ls.length t3] ∨ (a, tupO #[.float b0 t0, .float b1 t1, .float b2 t2, .int ls.length t3]) ∈ extra) ∧ Φ 0 ls b0 ∧ Φ 1 ls b1 ∧ Φ 2 ls b2 ∧ t0 ≠ 0 ∧ t1 ≠ 0 ∧ t2 ≠ 0

structure Closed (Φ : Phi) : Prop where
  add : ∀ i l1 l2 b1 b2, l1 ≠ [] → l2 ≠ [] → l1.length + l2.length ≤ 11 → Φ i l1 b1 → Φ i l2 b2 → Φ i (l1 ++ l2) (Float64.add b2 b1)
  zero : ∀ i l b, l ≠ [] → Φ i l b → Φ i l (Float64.add b (Float64.ofInt 0))

section
variable {prog : Program} {w : World} {A : Around} {E : Value → Shared → Prop} {s : Shared} {g : Heap} {L d : Addr} {m : Str → Option Value} {news : List (Addr × Obj)} {gg : Obj → List (Addr × Obj)} {o : Obj}
theorem setItem_led {K : Type} [DecidableEq K] {knd : KeyKind prog w K} {k : K} {key v : Value} {kvs : List (K × Value)} {Q : Unit → Shared → Prop} (hkey : knd.is k key = true)
    (F : Fr g L s.heap m) (N : News g L s.heap news) (U : UpdF d o news gg) (hd : o.IsDictOf knd kvs) (hsz : kvs.length ≤ sizeLine)
    (h : ∀ h' o', Fr g L h' m → News g L h' (gg o') → o'.IsDictOf knd (stored kvs k v) → Q () { s with heap := h', toks := s.toks + 1 }) :
    wpAny (model prog w) A (setItem (.ref d) key v) Q E s := by
  obtain ⟨pre, post, rfl, hg, h1, h2⟩ := U.split
  have hm : (d, o) ∈ pre ++ (d, o) :: post := List.mem_append_right _ (.head _)
  refine wpAny_setItem_pairs (hsz := hsz) hkey (Heap.dictOf_iff.mpr ⟨o, N.get hm, hd⟩) fun h' hm' hs => ?_
  obtain ⟨o', ho', hd'⟩ := Heap.dictOf_iff.mp hm'
  exact h h' o' (F.change hs (N _ hm).2.1 (N.fresh hm)) (hg o' ▸ N.setAt h1 h2 hs ho') hd'
end

theorem take_fresh {kvs : List (Str × Value)} {i : Nat} {k : Str} {v : Value} (hn : (kvs.map (·.1)).Nodup) (hv : kvs[i]? = some (k, v)) : k ∉ (kvs.take i).map (·.1) := by
  intro hm
  rw [List.map_take] at hm
  obtain ⟨j, hj, e⟩ := List.mem_iff_getElem.mp hm
  have hj' : j < i ∧ j < (kvs.map (·.1)).length := by rw [List.length_take] at hj; omega
  rw [List.getElem_take] at e
  obtain ⟨hi, e2⟩ := List.getElem?_eq_some_iff.mp hv
  have hi' : i < (kvs.map (·.1)).length := by simpa using hi
  have e3 : (kvs.map (·.1))[i] = k := by simp [e2]
  have := (List.pairwise_iff_getElem.mp hn) j i hj'.2 hi' hj'.1
  exact this (e.trans e3.symm)

theorem triples_ok {ps : Array Value} (h : TabOk ps) : TriplesOk ps.toList := by
  rcases h with rfl | ⟨c, rfl⟩
  · trivial
  · simp [TriplesOk, rawInt]
theorem addable4 {b0 b1 b2 c0 c1 c2 : UInt64} {n m : Int} {t0 t1 t2 t3 u0 u1 u2 u3 : Tok} : ∀ (i : Nat) (x y : Value), (#[Value.float b0 t0, .float b1 t1, .float b2 t2, .int n t3] : Array Value)[i]? = some x → (#[Value.float c0 u0, .float c1 u1, .float c2 u2, .int m u3] : Array Value)[i]? = some y → Addable x y := by
  intro i x y hx hy
  match i with
  | 0 => cases hx; cases hy; exact .inl ⟨_, _, _, _, rfl, rfl⟩
  | 1 => cases hx; cases hy; exact .inl ⟨_, _, _, _, rfl, rfl⟩
  | 2 => cases hx; cases hy; exact .inl ⟨_, _, _, _, rfl, rfl⟩
  | 3 => cases hx; cases hy; exact .inr ⟨_, _, _, _, rfl, rfl⟩
  | n + 4 => simp at hx
theorem code27 {w : World} {h : Heap} {ps : Array Value} (X : (Mine.hd.heap_39 w.params).In h) (tab : h.get? 23 = some (tabObj ps)) (ok : TabOk ps) : h.IsCode 27 23 ps := by
  have h27 := X 27 _ (by with_unfolding_all rfl)
  exact ⟨_, _, _, _, _, _, _, _, _, _, h27, rfl, rfl, rfl, rfl, rfl, rfl, tab, rfl, triples_ok ok, by decide⟩
theorem table27 {w : World} {h : Heap} {ps : Array Value} (X : (Mine.hd.heap_39 w.params).In h) (tab : h.get? 23 = some (tabObj ps)) : h.TableAt 27 23 ps := by
  have h27 := X 27 _ (by with_unfolding_all rfl)
  exact ⟨⟨_, _, h27, rfl, rfl, rfl⟩, tab⟩

/-- what stands between the turns of the second loop -/
structure Merge (Φ : Phi) (g : Heap) (l1 l2 : List Light) (kvs2 : List (Str × Value)) (i : Nat) (kvs : List (Str × Value)) (extra : List (Addr × Obj)) : Prop where
  keys : kvs.map (·.1) = ((kvs2.take i).map (·.1)).foldl addP (places l1)
  rows : ∀ kv ∈ kvs, RowIn Φ g extra kv.2 (atP kv.1 l1 ++ (if kv.1 ∈ (kvs2.take i).map (·.1) then atP kv.1 l2 else []))
theorem merge_start {Φ : Phi} {g : Heap} {l1 l2 : List Light} {kvs1 kvs2 : List (Str × Value)} (K1 : kvs1.map (·.1) = places l1) (R1 : ∀ kv ∈ kvs1, RowIs Φ g kv.2 (atP kv.1 l1)) : Merge Φ g l1 l2 kvs2 0 kvs1 [] := by
  refine ⟨by simpa using K1, fun kv hm => ?_⟩
  simp only [List.take_zero, List.map_nil, List.not_mem_nil, if_false, List.append_nil]
  obtain ⟨a, b0, b1, b2, t0, t1, t2, t3, e, ht, r⟩ := R1 kv hm
  exact ⟨a, b0, b1, b2, t0, t1, t2, t3, e, .inl ht, r⟩

theorem merge_size {Φ : Phi} {g : Heap} {l1 l2 : List Light} {kvs kvs2 : List (Str × Value)} {i : Nat} {extra : List (Addr × Obj)} (M : Merge Φ g l1 l2 kvs2 i kvs extra) (hlen : l1.length + l2.length ≤ 11) (K2 : kvs2.map (·.1) = places l2) : kvs.length ≤ sizeLine := by
  have h1 := congrArg List.length M.keys
  have h2 := foldP_len ((kvs2.take i).map (·.1)) (places l1)
  have h3 := places_len l1
  have h4 := places_len l2
  have h5 := congrArg List.length K2
  have h6 := List.length_take_le' i kvs2
  rw [List.length_map] at h1 h2 h5
  have := sizeLine_eq
  omega
theorem take_succ_mem {kvs2 : List (Str × Value)} {i : Nat} {k q : Str} {v : Value} (hv : kvs2[i]? = some (k, v)) : q ∈ (kvs2.take (i + 1)).map (·.1) ↔ q ∈ (kvs2.take i).map (·.1) ∨ q = k := by
  rw [List.take_add_one, hv, List.map_append, List.mem_append]
  simp
theorem merge_new {Φ : Phi} {g : Heap} {l1 l2 : List Light} {kvs kvs2 : List (Str × Value)} {i : Nat} {extra : List (Addr × Obj)} {k : Str} {v : Value} (M : Merge Φ g l1 l2 kvs2 i kvs extra)
    (hn : (kvs2.map (·.1)).Nodup) (hv : kvs2[i]? = some (k, v)) (hin : k ∉ kvs.map (·.1)) (hR : RowIs Φ g v (atP k l2)) : Merge Φ g l1 l2 kvs2 (i + 1) (stored kvs k v) extra := by
  rw [stored_new hin]
  have hk1 : k ∉ places l1 := fun h => hin (by rw [M.keys]; exact mem_foldP.mpr (.inl h))
  constructor
  · rw [List.take_add_one, hv, List.map_append, List.map_append, List.foldl_append, ← M.keys]
    show _ = addP _ k
    rw [addP_new hin]; rfl
  · intro kv hm
    rcases List.mem_append.mp hm with hm | hm
    · have hne : kv.1 ≠ k := fun e => hin (List.mem_map.mpr ⟨kv, hm, e⟩)
      have h1 := M.rows kv hm
      have : (kv.1 ∈ (kvs2.take (i + 1)).map (·.1)) = (kv.1 ∈ (kvs2.take i).map (·.1)) := propext ((take_succ_mem hv).trans ⟨fun h => h.resolve_right hne, .inl⟩)
      simp only [this]
      exact h1
    · rw [List.mem_singleton.mp hm]
      dsimp only
      rw [if_pos ((take_succ_mem hv).mpr (.inr rfl)), atP_nil hk1, List.nil_append]
      obtain ⟨a, b0, b1, b2, t0, t1, t2, t3, e, ht, r⟩ := hR
      exact ⟨a, b0, b1, b2, t0, t1, t2, t3, e, .inl ht, r⟩

theorem merge_old {Φ : Phi} {g : Heap} {l1 l2 : List Light} {kvs kvs2 : List (Str × Value)} {i : Nat} {extra : List (Addr × Obj)} {k : Str} {v : Value} {t7 : Addr} {b0 b1 b2 c0 c1 c2 : UInt64} {n0 n1 n2 n3 : Tok} (M : Merge Φ g l1 l2 kvs2 i kvs extra) (CL : Closed Φ)
    (hlen : l1.length + l2.length ≤ 11) (hn : (kvs2.map (·.1)).Nodup) (hv : kvs2[i]? = some (k, v)) (hin : k ∈ kvs.map (·.1)) (hp0 : Φ 0 (atP k l2) b0) (hp1 : Φ 1 (atP k l2) b1) (hp2 : Φ 2 (atP k l2) b2)
    (q0 : Φ 0 (atP k l1 ++ (if k ∈ (kvs2.take i).map (·.1) then atP k l2 else [])) c0) (q1 : Φ 1 (atP k l1 ++ (if k ∈ (kvs2.take i).map (·.1) then atP k l2 else [])) c1) (q2 : Φ 2 (atP k l1 ++ (if k ∈ (kvs2.take i).map (·.1) then atP k l2 else [])) c2)
    (K2 : kvs2.map (·.1) = places l2) (hz : n0 ≠ 0 ∧ n1 ≠ 0 ∧ n2 ≠ 0) :
    Merge Φ g l1 l2 kvs2 (i + 1) (stored kvs k (.ref t7)) ((t7, tupO #[.float (Float64.add b0 c0) n0, .float (Float64.add b1 c1) n1, .float (Float64.add b2 c2) n2, .int (((atP k l2).length : Int) + ((atP k l1 ++ (if k ∈ (kvs2.take i).map (·.1) then atP k l2 else [])).length : Int)) n3]) :: extra) := by
  have hkt : k ∉ (kvs2.take i).map (·.1) := take_fresh hn hv
  simp only [if_neg hkt, List.append_nil] at q0 q1 q2 ⊢
  have hk1 : k ∈ places l1 := by
    rw [M.keys] at hin
    exact (mem_foldP.mp hin).resolve_right hkt
  have hk2 : k ∈ places l2 := by rw [← K2]; exact List.mem_map.mpr ⟨_, List.mem_of_getElem? hv, rfl⟩
  have hle : (atP k l1).length + (atP k l2).length ≤ 11 := by
    have := atP_le k l1; have := atP_le k l2; omega
  rw [stored_old hin]
  constructor
  · rw [keys_map_store, List.take_add_one, hv, List.map_append, List.foldl_append, ← M.keys]
    show _ = addP _ k
    rw [addP_mem hin]
  · intro kv hm
    obtain ⟨kv0, hm0, e⟩ := List.mem_map.mp hm
    by_cases hk : kv0.1 = k
    · rw [if_pos hk] at e
      subst e
      dsimp only
      rw [hk, if_pos ((take_succ_mem hv).mpr (.inr rfl))]
      refine ⟨t7, _, _, _, n0, n1, n2, n3, rfl, .inr ?_, CL.add 0 _ _ _ _ (atP_ne hk1) (atP_ne hk2) hle q0 hp0, CL.add 1 _ _ _ _ (atP_ne hk1) (atP_ne hk2) hle q1 hp1, CL.add 2 _ _ _ _ (atP_ne hk1) (atP_ne hk2) hle q2 hp2, hz⟩
      have : ((atP k l1 ++ atP k l2).length : Int) = ((atP k l2).length : Int) + ((atP k l1).length : Int) := by rw [List.length_append]; omega
      rw [this]
      exact List.Mem.head _
    · rw [if_neg hk] at e
      subst e
      have h1 := M.rows kv0 hm0
      have : (kv0.1 ∈ (kvs2.take (i + 1)).map (·.1)) = (kv0.1 ∈ (kvs2.take i).map (·.1)) := propext ((take_succ_mem hv).trans ⟨fun h => h.resolve_right hk, .inl⟩)
      simp only [this]
      obtain ⟨a, d0, d1, d2, s0, s1, s2, s3, e, ht, r⟩ := h1
      exact ⟨a, d0, d1, d2, s0, s1, s2, s3, e, ht.imp id (List.Mem.tail _), r⟩

theorem rowIn_is {Φ : Phi} {g h : Heap} {L : Addr} {m : Str → Option Value} {news extra : List (Addr × Obj)} {ps : Array Value} {v : Value} {ls : List Light} (R : RowIn Φ (hid g) extra v ls) (F : Fr (hid g) L h m) (N : News (hid g) L h news) (hm : (23, tabObj ps) ∈ news) (hs : ∀ p ∈ extra, p ∈ news) : RowIs Φ (hid h) v ls := by
  obtain ⟨a, b0, b1, b2, t0, t1, t2, t3, e, ht, r⟩ := R
  refine ⟨a, b0, b1, b2, t0, t1, t2, t3, e, ?_, r⟩
  rcases ht with ht | ht
  · exact ht.keeps (end_stays F)
  · exact end_tup N hm (hs _ ht)

theorem chain_fr {g h H : Heap} {L : Addr} {m : Str → Option Value} (F : Fr (hid g) L h m) (hL : L ≠ 23) (up : ∀ b o, b ≠ 23 → h.get? b = some o → H.get? b = some o) : Fr (hid g) L H m := by
  obtain ⟨oL, es, ep, ho, r⟩ := F.ns
  exact ⟨⟨oL, es, ep, up _ _ hL ho, r⟩, fun b o e => up b o (hid_ne e) (F.keep b o e), F.above⟩
theorem chain_news {g h H : Heap} {L it d0 : Addr} {io o2 : Obj} {ps2 ps5 : Array Value} {extra : List (Addr × Obj)} (N : News (hid g) L h ((it, io) :: (d0, o2) :: (23, tabObj ps2) :: extra)) (up : ∀ b o, b ≠ 23 → h.get? b = some o → H.get? b = some o)
    (tab : H.get? 23 = some (tabObj ps5)) (h1 : @Ne Nat 23 it) (h2 : @Ne Nat d0 23) (h3 : ∀ p ∈ extra, p.1 ≠ 23) : News (hid g) L H ((it, io) :: (d0, o2) :: (23, tabObj ps5) :: extra) := by
  intro p hp
  rcases List.mem_cons.mp hp with rfl | hp
  · have := N _ (List.Mem.head _); exact ⟨up _ _ (Ne.symm h1) this.1, this.2⟩
  · rcases List.mem_cons.mp hp with rfl | hp
    · have := N _ (List.Mem.tail _ (List.Mem.head _)); exact ⟨up _ _ h2 this.1, this.2⟩
    · rcases List.mem_cons.mp hp with rfl | hp
      · have := N _ (List.Mem.tail _ (List.Mem.tail _ (List.Mem.head _))); exact ⟨tab, this.2⟩
      · have := N _ (List.Mem.tail _ (List.Mem.tail _ (List.Mem.tail _ hp))); exact ⟨up _ _ (h3 p hp) this.1, this.2⟩
theorem acc4 {b0 b1 b2 c0 c1 c2 : UInt64} {n m : Int} {t0 t1 t2 t3 u0 u1 u2 u3 : Tok} {acc : Array Value}
    (hsz : acc.size = (#[Value.float b0 t0, .float b1 t1, .float b2 t2, .int n t3] : Array Value).size)
    (h : ∀ (j : Nat) (v : Value), acc[j]? = some v → ∃ x₁ x₂, (#[Value.float b0 t0, .float b1 t1, .float b2 t2, .int n t3] : Array Value)[j]? = some x₁ ∧ (#[Value.float c0 u0, .float c1 u1, .float c2 u2, .int m u3] : Array Value)[j]? = some x₂ ∧ SumOf x₁ x₂ v) :
    ∃ n0 n1 n2 n3, acc = #[.float (Float64.add b0 c0) n0, .float (Float64.add b1 c1) n1, .float (Float64.add b2 c2) n2, .int (n + m) n3] ∧ n0 ≠ 0 ∧ n1 ≠ 0 ∧ n2 ≠ 0 := by
  obtain ⟨l⟩ := acc
  match l, hsz with
  | [v0, v1, v2, v3], _ =>
    have e0 : ∃ t, v0 = .float (Float64.add b0 c0) t ∧ t ≠ 0 := by
      obtain ⟨x, y, hx, hy, hs⟩ := h 0 v0 rfl
      cases hx; cases hy
      rcases hs with ⟨_, _, _, _, t, e1, e2, e3⟩ | ⟨_, _, _, _, t, e1, _, _⟩
      · cases e1; cases e2; exact ⟨t, e3⟩
      · cases e1
    have e1 : ∃ t, v1 = .float (Float64.add b1 c1) t ∧ t ≠ 0 := by
      obtain ⟨x, y, hx, hy, hs⟩ := h 1 v1 rfl
      cases hx; cases hy
      rcases hs with ⟨_, _, _, _, t, e1, e2, e3⟩ | ⟨_, _, _, _, t, e1, _, _⟩
      · cases e1; cases e2; exact ⟨t, e3⟩
      · cases e1
    have e2 : ∃ t, v2 = .float (Float64.add b2 c2) t ∧ t ≠ 0 := by
      obtain ⟨x, y, hx, hy, hs⟩ := h 2 v2 rfl
      cases hx; cases hy
      rcases hs with ⟨_, _, _, _, t, e1, e2, e3⟩ | ⟨_, _, _, _, t, e1, _, _⟩
      · cases e1; cases e2; exact ⟨t, e3⟩
      · cases e1
    have e3 : ∃ t, v3 = .int (n + m) t := by
      obtain ⟨x, y, hx, hy, hs⟩ := h 3 v3 rfl
      cases hx; cases hy
      rcases hs with ⟨_, _, _, _, t, e1, e2, e3⟩ | ⟨_, _, _, _, t, e1, e2, e3⟩
      · cases e1
      · cases e1; cases e2; exact ⟨t, e3⟩
    obtain ⟨a0, rfl, z0⟩ := e0
    obtain ⟨a1, rfl, z1⟩ := e1
    obtain ⟨a2, rfl, z2⟩ := e2
    obtain ⟨a3, rfl⟩ := e3
    exact ⟨a0, a1, a2, a3, rfl, z0, z1, z2⟩

theorem callers_spec {w : World} {A : Around} {s : Shared} {Q E : Value → Shared → Prop} {mg mb : Str → Option Value} {Φ : Phi} {d1 d2 : Addr} {l1 l2 : List Light}
   (S : Sees w mg mb s.heap) (R : Room A 2 16) (G : AllBare s.gens) (CL : Closed Φ) (hlen : l1.length + l2.length ≤ 11)
   (C1 : CallersIs w Φ (hid s.heap) d1 l1) (C2 : CallersIs w Φ (hid s.heap) d2 l2)
   (ret : ∀ d h' tk' gn', Sees w mg mb h' → Stays (hid s.heap) (hid h') → AllBare gn' → (hid s.heap).get? d = none → CallersIs w Φ (hid h') d (l1 ++ l2) → Q (.ref d) {s with heap := h', toks := tk', gens := gn'}) :
   wpAny (model Challenge.rw_mj0062_01.row.prog w) A (call (.ref 28) [.ref d1, .ref d2]) Q E s := by
  obtain ⟨hS1, kvs1, D1, K1, R1⟩ := C1
  obtain ⟨hS2, kvs2, D2, K2, R2⟩ := C2
  have len1 : kvs1.length ≤ 11 := by
    have := congrArg List.length K1
    rw [List.length_map] at this
    have := places_len l1
    omega
  obtain ⟨X, T, ⟨ps, tab, tok⟩, BM⟩ := S
  obtain ⟨dep, uni, han⟩ := R
  obtain ⟨hdl, dp, fr, gd, un⟩ := A
  dsimp only at dep uni han
  subst han
  revert X; k_fill; intro X
  k_dflt (refine' enter (binds := [(Str.ofString "target", .ref d1), (Str.ofString "source", .ref d2)]) ?X ?T ?tab ?k6 ?k7 ?k8 ?k9 ?kB ?_ ?c2 ?c3 ?c4 ?c5; (case X => assumption); (case T => assumption); (case tab => assumption); (case k6 => k_is); (case k7 => k_is); (case k8 => (show dp < recursionLimit; omega)); (case k9 => exact BindsTo.of_eq rfl);  (case c5 => decide); (case kB => exact locs rfl); (case c2 => exact rfl); (case c3 => exact rfl); (case c4 => exact rfl); k_whole; intro h' F' N'; (try dsimp only); (try k_fold))
  k_steps
  rename Fr _ _ _ _ => F0
  rename News _ _ _ _ => N0
  rename Obj.IsDictOf (PySem.strKind _ _) _ _ => hs0
  rename _ < _ => lt0
  rename (_ == sysModules) = false => lo0
  rename_i d0 hA o0 f1 f2 f3 hB
  have fr0 := N0.fresh (List.Mem.head _)
  generalize hm0 : (fun y => if y = Str.ofString "new_callers" then some (Value.ref d0) else List.lookup y (List.reverse [(Str.ofString "target", Value.ref d1), (Str.ofString "source", Value.ref d2)])) = m0 at F0
  have hm0n : m0 (Str.ofString "new_callers") = some (.ref d0) := by rw [← hm0]; rfl
  have hm0s : m0 (Str.ofString "source") = some (.ref d2) := by rw [← hm0]; rfl
  refine for_items (knd := knd w) (L := s.heap.objs.size) rfl rfl rfl rfl rfl rfl (by decide) F0 N0 (by rw [← hm0]; rfl) D1 hS1 rfl rfl
    (fun i m' news' gn => (∃ u : Str → Option Value, m' = fun y => if y = Str.ofString "caller" then u y else if y = Str.ofString "func" then u y else m0 y) ∧ (∃ o, news' = [(d0, o), (23, tabObj ps)] ∧ o.IsDictOf (knd w) (kvs1.take i)) ∧ gn = s.gens) ?_ ?_ ?_
  · exact ⟨keep2 fun _ _ _ => rfl, ⟨o0, rfl, by simpa using hs0⟩, rfl⟩
  · rintro i k v key m₁ news₁ h tk gn it io hv hk ⟨⟨u, rfl⟩, ⟨o1, rfl, hd1⟩, rfl⟩ hni F N
    obtain ⟨tk1, rfl⟩ := Value.isStrOf_shape hk
    have ne1 : @Ne Nat d0 it := hni _ (List.Mem.head _)
    have ne2 : @Ne Nat 23 it := hni _ (List.Mem.tail _ (List.Mem.head _))
    subst hm0
    try k_fold
    k_steps
    refine setItem_led hk (by k_asm) (by k_asm) (by k_updF) hd1 ?_ ?_
    · have := sizeLine_eq; have := List.length_take_le' i kvs1; omega
    intro h2 o2 F2 N2 hd2
    dsimp only
    refine wpAny_execs_nil ?_
    refine ⟨rfl, h2, _, _, _, [(d0, o2), (23, tabObj ps)], rfl, F2, N2, ?_, keep2 (fun y h1 h2 => by simp only [if_neg h1, if_neg h2]), ⟨o2, rfl, ?_⟩, rfl⟩
    · intro p hp
      rcases List.mem_cons.mp hp with rfl | hp
      · exact ne1
      · rw [List.mem_singleton.mp hp]; exact ne2
    · have hnd := D1.dictAt.choose_spec.nodup
      have hlt := (List.getElem?_eq_some_iff.mp hv).1
      rw [stored_new (take_fresh hnd hv)] at hd2
      rw [List.take_add_one, hv]
      exact hd2
  · rintro m' news' h9 tk9 gn9 ⟨⟨u, rfl⟩, ⟨o1, rfl, hd1⟩, rfl⟩ F N
    rw [List.take_length] at hd1
    generalize hm1 : (fun y => if y = Str.ofString "caller" then u y else if y = Str.ofString "func" then u y else m0 y) = m1 at F
    dsimp only
    try k_fold
    k_steps
    refine for_items (knd := knd w) (L := s.heap.objs.size) rfl rfl rfl rfl rfl rfl (by decide) F N (by rw [← hm1, ← hm0]; rfl) D2 hS2 rfl rfl
      (fun i m' news' gn => (∃ u : Str → Option Value, m' = fun y => if y = Str.ofString "caller" then u y else if y = Str.ofString "func" then u y else m1 y) ∧
        ∃ o ps' kvs extra, news' = (d0, o) :: (23, tabObj ps') :: extra ∧ TabOk ps' ∧ (∀ p ∈ extra, p.1 ≠ d0 ∧ p.1 ≠ 23) ∧ AllBare gn ∧ o.IsDictOf (knd w) kvs ∧ Merge Φ (hid s.heap) l1 l2 kvs2 i kvs extra) ?_ ?_ ?_
    · exact ⟨keep2 fun _ _ _ => rfl, o1, ps, kvs1, [], rfl, tok, (fun _ hp => nomatch hp), G, hd1, merge_start K1 R1⟩
    · rintro i k v key m₁ news₁ h tk gn it io hv hk ⟨⟨u2, rfl⟩, o2, ps2, kvs, extra, rfl, tok2, hex, hG, hd2, hM⟩ hni F2 N2
      obtain ⟨tk1, rfl⟩ := Value.isStrOf_shape hk
      have ne1 : @Ne Nat d0 it := hni _ (List.Mem.head _)
      have ne2 : @Ne Nat 23 it := hni _ (List.Mem.tail _ (List.Mem.head _))
      subst hm1 hm0
      try k_fold
      k_steps
      refine wpAny_in_of hk lo0 (Heap.DictOf.mapOf (Heap.dictOf_iff.mpr ⟨o2, N2.get (by k_mem), hd2⟩)) ?_
      have hRv := R2 (k, v) (List.mem_of_getElem? hv)
      dsimp only at hRv
      by_cases hin : k ∈ kvs.map (·.1)
      · obtain ⟨v0, hv0, hvm⟩ := valueAt_some hin
        rw [hv0]
        dsimp only [Option.isSome_some]
        obtain ⟨a, b0, b1, b2, t0, t1, t2, t3, rfl, ht, hp0, hp1, hp2, _⟩ := hRv
        k_steps
        refine IsiPair.isTuple_tuple ht (Fr.keep (by k_asm)) ?_
        k_steps
        rename Fr _ _ _ _ => F3
        rename News _ _ _ _ => N3
        obtain ⟨a0, c0, c1, c2, u0, u1, u2, u3, rfl, hr0, q0, q1, q2, _⟩ := hM.rows (k, v0) hvm
        dsimp only at hr0 q0 q1 q2
        obtain ⟨bm, ob, hbm⟩ := BM
        refine gen_sum (mg := mg) (bm := bm) (ob := ob) rfl rfl rfl rfl (by decide) rfl rfl rfl rfl (show dp + 1 < recursionLimit by omega) rfl rfl ?_ (by intro _; rfl)
        try k_fold
        k_steps
        have hmap : Heap.MapOf (knd w) h d0 (valueAt kvs) := Heap.DictOf.mapOf (Heap.dictOf_iff.mpr ⟨o2, N3.get (by k_mem), hd2⟩)
        refine tail_any (Heap.MapOf.typeIs (s := { heap := h, gens := gn, drawn := s.drawn, toks := tk, os := s.os }) hmap) slot_dict_getitem.lookup (wpAny_getItem_of hk hmap hv0 ?_) (by with_unfolding_all rfl)
        k_steps
        have hl1 : Heap.IsTuple h a #[.float b0 t0, .float b1 t1, .float b2 t2, .int (atP k l2).length t3] := IsTup.keeps ht F3.keep
        have hl2 : Heap.IsTuple h a0 #[.float c0 u0, .float c1 u1, .float c2 u2, .int (atP k l1 ++ (if k ∈ (kvs2.take i).map (·.1) then atP k l2 else [])).length u3] := by
          rcases hr0 with hr0 | hr0
          · exact IsTup.keeps hr0 F3.keep
          · exact News.isTup N3 (List.Mem.tail _ (List.Mem.tail _ (List.Mem.tail _ hr0)))
        refine call_tzip hl1 hl2 ?_
        intro h4 hz4 hTI4 hTO4 hi41 hi42 hsz4 hk4
        k_unfold
        have ltd : d0 < h.objs.size := Heap.lt_size (N3.get (by k_mem : (d0, o2) ∈ _))
        have hlt23 : 23 ≤ h.objs.size - 1 := Nat.le_sub_one_of_lt (Nat.lt_trans lt0 ltd)
        have tab4 : h4.get? 23 = some (tabObj ps2) := hk4 _ _ (N3.get (by k_mem))
        have up4 : Stays (hid s.heap) h4 := fun b o e => hk4 b o (F3.keep b o e)
        refine ⟨_, _, _, _, _, _, _, #[.float b0 t0, .float b1 t1, .float b2 t2, .int (atP k l2).length t3], #[.float c0 u0, .float c1 u1, .float c2 u2, .int (atP k l1 ++ (if k ∈ (kvs2.take i).map (·.1) then atP k l2 else [])).length u3], h.objs.size - 1, ps2, rfl, zipApart_new (Heap.lt_size hl1.choose_spec.1) (Heap.lt_size hl2.choose_spec.1), rfl, addable4, ⟨hz4, hTI4, ⟨_, _, hTO4⟩, hi41, hi42, Heap.IsTuple.at hl1 (fun o e => hk4 _ o e), Heap.IsTuple.at hl2 (fun o e => hk4 _ o e)⟩,
          ?_, ?_, ?_, ?_, ?_, T.nolimit.keeps up4, hbm.keeps up4, hid_ne hbm.obj, (show mainGlobals ≠ 23 by decide), hG, code27 (X.keeps up4) tab4 tok2, table27 (X.keeps up4) tab4, tok2, ?_⟩
        · exact Nat.lt_of_lt_of_le (show cStatics < 23 by decide) hlt23
        · show h.objs.size - 1 < h.objs.size + 4; omega
        · show h.objs.size - 1 < h.objs.size + 3; omega
        · exact Nat.sub_one_lt (Nat.ne_of_gt (Nat.lt_of_le_of_lt (Nat.zero_le _) ltd))
        · show h.objs.size - 1 < h.objs.size + 1; omega
        · intro a5 ps5 s5 tab5 tok5 G5 os5 dr5 keep5 X5
          k_steps
          refine tuple_sum G5 X5 (by have := sizeLine_eq; show 4 ≤ sizeLine; omega) ?_
          rintro ⟨hp, gp, dr, tkp, osp⟩ acc G6 os6 dr6 keep6 hsz6 hacc
          dsimp only at G6 os6 dr6 keep6 os5 dr5 tab5 keep5
          have eos : osp = s.os := os6.trans os5
          have edr : dr = s.drawn := dr6.trans dr5
          subst eos edr
          obtain ⟨n0, n1, n2, n3, eacc, hz4⟩ := acc4 hsz6 hacc
          subst eacc
          -- the heap now
          have up6 : ∀ b o, b ≠ 23 → h.get? b = some o → hp.get? b = some o := fun b o hb e => by
            have hlt : b < h.objs.size := Heap.lt_size e
            exact keep6 b o (Nat.le_sub_one_of_lt hlt) (keep5 b o hb (hk4 b o e))
          have tab6 : hp.get? 23 = some (tabObj ps5) := keep6 _ _ hlt23 tab5
          have hL23 : s.heap.objs.size ≠ 23 := Ne.symm (N3 _ (by k_mem : (23, tabObj ps2) ∈ _)).2.1
          have F6 := chain_fr F3 hL23 up6
          have ni : ∀ p ∈ extra, p.1 ≠ it := fun p hp => hni p (List.Mem.tail _ (List.Mem.tail _ hp))
          have N6 : News (hid s.heap) s.heap.objs.size hp ((it, io) :: (d0, o2) :: (23, tabObj ps5) :: extra) := chain_news N3 up6 tab6 ne2 (Nat.ne_of_gt lt0) (fun p hp => (hex p hp).2)
          have F7 := F6.push (tupO #[.float (Float64.add b0 c0) n0, .float (Float64.add b1 c1) n1, .float (Float64.add b2 c2) n2, .int (((atP k l2).length : Int) + ((atP k l1 ++ (if k ∈ (kvs2.take i).map (·.1) then atP k l2 else [])).length : Int)) n3])
          have N7 := News.push F6 N6 (tupO #[.float (Float64.add b0 c0) n0, .float (Float64.add b1 c1) n1, .float (Float64.add b2 c2) n2, .int (((atP k l2).length : Int) + ((atP k l1 ++ (if k ∈ (kvs2.take i).map (·.1) then atP k l2 else [])).length : Int)) n3])
          have al7 : ∀ p ∈ (it, io) :: (d0, o2) :: (23, tabObj ps5) :: extra, p.1 < hp.objs.size := fun p hp => Heap.lt_size (N6 p hp).1
          generalize hp.objs.size = t7 at N7 al7
          have at1 : @LT.lt Nat _ it t7 := al7 _ (List.Mem.head _)
          have at2 : @LT.lt Nat _ d0 t7 := al7 _ (List.Mem.tail _ (List.Mem.head _))
          have at3 : @LT.lt Nat _ 23 t7 := al7 _ (List.Mem.tail _ (List.Mem.tail _ (List.Mem.head _)))
          have at4 : ∀ p ∈ extra, p.1 < t7 := fun p hp => al7 p (List.Mem.tail _ (List.Mem.tail _ (List.Mem.tail _ hp)))
          generalize hp.push (tupO #[.float (Float64.add b0 c0) n0, .float (Float64.add b1 c1) n1, .float (Float64.add b2 c2) n2, .int (((atP k l2).length : Int) + ((atP k l1 ++ (if k ∈ (kvs2.take i).map (·.1) then atP k l2 else [])).length : Int)) n3]) = h7 at F7 N7
          clear F6 N6 F3 N3
          k_steps
          have hex0 : ∀ p ∈ (23, tabObj ps5) :: extra, p.1 ≠ d0 := fun p hp => by
            rcases List.mem_cons.mp hp with rfl | hp
            · exact Nat.ne_of_lt lt0
            · exact (hex p hp).1
          refine setItem_led hk F7 N7 (UpdF.tail (Nat.ne_of_gt at2) (UpdF.tail (Ne.symm ne1) (UpdF.head hex0))) hd2 (merge_size hM hlen K2) ?_
          intro h8 o8 F8 N8 hd8
          dsimp only
          refine wpAny_execs_nil ?_
          refine wpAny_execs_nil ?_
          refine wpAny_execs_nil ?_
          refine ⟨rfl, h8, _, _, _, (d0, o8) :: (23, tabObj ps5) :: (t7, tupO #[.float (Float64.add b0 c0) n0, .float (Float64.add b1 c1) n1, .float (Float64.add b2 c2) n2, .int (((atP k l2).length : Int) + ((atP k l1 ++ (if k ∈ (kvs2.take i).map (·.1) then atP k l2 else [])).length : Int)) n3]) :: extra, rfl, F8, news_sub N8 ?_, ?_, keep2 (fun y h1 h2 => by simp only [if_neg h1, if_neg h2]), o8, ps5, _, (t7, tupO #[.float (Float64.add b0 c0) n0, .float (Float64.add b1 c1) n1, .float (Float64.add b2 c2) n2, .int (((atP k l2).length : Int) + ((atP k l1 ++ (if k ∈ (kvs2.take i).map (·.1) then atP k l2 else [])).length : Int)) n3]) :: extra, rfl, tok5, ?_, G6, hd8, ?_⟩
          · intro p hp
            rcases List.mem_cons.mp hp with rfl | hp
            · exact List.Mem.tail _ (List.Mem.head _)
            · rcases List.mem_cons.mp hp with rfl | hp
              · exact List.Mem.tail _ (List.Mem.tail _ (List.Mem.head _))
              · rcases List.mem_cons.mp hp with rfl | hp
                · exact List.Mem.tail _ (List.Mem.tail _ (List.Mem.tail _ (List.Mem.head _)))
                · rcases List.mem_cons.mp hp with rfl | hp
                  · exact List.Mem.head _
                  · exact List.Mem.tail _ (List.Mem.tail _ (List.Mem.tail _ (List.Mem.tail _ hp)))
          · intro p hp
            rcases List.mem_cons.mp hp with rfl | hp
            · exact ne1
            · rcases List.mem_cons.mp hp with rfl | hp
              · exact ne2
              · rcases List.mem_cons.mp hp with rfl | hp
                · exact Nat.ne_of_gt at1
                · exact ni p hp
          · intro p hp
            rcases List.mem_cons.mp hp with rfl | hp
            · exact ⟨Nat.ne_of_gt at2, Nat.ne_of_gt at3⟩
            · exact hex p hp
          · exact merge_old hM CL hlen D2.dictAt.choose_spec.nodup hv hin hp0 hp1 hp2 q0 q1 q2 K2 hz4
      · rw [valueAt_none hin]
        dsimp only [Option.isSome_none]
        k_steps
        refine setItem_led hk (by k_asm) N2 (UpdF.tail (Ne.symm ne1) (UpdF.head ?_)) hd2 (merge_size hM hlen K2) ?_
        · intro p hp
          rcases List.mem_cons.mp hp with rfl | hp
          · exact Nat.ne_of_lt lt0
          · exact (hex p hp).1
        intro h8 o8 F8 N8 hd8
        dsimp only
        refine wpAny_execs_nil ?_
        refine wpAny_execs_nil ?_
        refine ⟨rfl, h8, _, _, _, (d0, o8) :: (23, tabObj ps2) :: extra, rfl, F8, N8, ?_, keep2 (fun y h1 h2 => by simp only [if_neg h1, if_neg h2]), o8, ps2, _, extra, rfl, tok2, hex, hG, hd8, ?_⟩
        · intro p hp
          rcases List.mem_cons.mp hp with rfl | hp
          · exact ne1
          · exact hni p (List.Mem.tail _ hp)
        · exact merge_new hM D2.dictAt.choose_spec.nodup hv hin hRv
    · rintro m' news' h8 tk8 gn8 ⟨⟨u2, rfl⟩, o2, ps2, kvs, extra, rfl, tok2, hex, hG, hd2, hM⟩ F2 N2
      subst hm1 hm0
      dsimp only
      try k_fold
      k_steps
      show Q _ _
      refine ret d0 h8 _ _ (end_sees F2 N2 (List.Mem.tail _ (List.Mem.head _)) tok2 X T BM) (end_stays F2) hG fr0 ⟨lo0, kvs, end_dict N2 (List.Mem.tail _ (List.Mem.head _)) (List.Mem.head _) hd2, ?_, fun kv hm => ?_⟩
      · rw [hM.keys, List.take_length, K2, places_append]
      · have h1 := hM.rows kv hm
        rw [List.take_length, K2] at h1
        rw [atP_append]
        have h2 : (if kv.1 ∈ places l2 then atP kv.1 l2 else []) = atP kv.1 l2 := by
          split
          · rfl
          · rename_i hn; exact (atP_nil hn).symm
        rw [h2] at h1
        exact rowIn_is h1 F2 N2 (List.Mem.tail _ (List.Mem.head _)) fun p hp => List.Mem.tail _ (List.Mem.tail _ hp)
end Mine
end
section
open PySem PySem.W PySem.Calls PyProof.Rows
set_option maxRecDepth 100000
set_option maxHeartbeats 8000000
set_option pp.fieldNotation false
namespace Mine

theorem tok_fv {α : Type} {M : Model} {A : Around} {x : Sem α} {Q : α → Shared → Prop} {E : Value → Shared → Prop} {h : Heap} {gn : Array GenState} {dr : Drawn} {os : OsState} {a b : Nat} (hb : 1 ≤ a + b)
    (k : ∀ tk, 1 ≤ tk → wpAny M A x Q E ⟨h, gn, dr, tk, os⟩) : wpAny M A x Q E ⟨h, gn, dr, a + b, os⟩ := k _ hb
section
local macro_rules | `(tactic| walk_at "execs cons") => `(tactic| (k_here; (with_reducible refine tok_fv (by first | omega | (simp; omega)) ?_); intro tkz htkz))
theorem stats_spec {w : World} {A : Around} {s : Shared} {Q E : Value → Shared → Prop} {mg mb : Str → Option Value} {Φ : Phi} {v1 v2 : Value} {d1 d2 : Addr} {l1 l2 : List Light}
   (S : Sees w mg mb s.heap) (R : Room A 3 24) (G : AllBare s.gens) (CL : Closed Φ) (hlen : l1.length + l2.length ≤ 11) (hne : l2 ≠ [])
   (E1 : EntryAt w Φ (hid s.heap) v1 d1 l1) (E2 : EntryAt w Φ (hid s.heap) v2 d2 l2)
   (ret : ∀ r d h' tk' gn', Sees w mg mb h' → Stays (hid s.heap) (hid h') → AllBare gn' → (hid s.heap).get? d = none → EntryAt w Φ (hid h') r d (l1 ++ l2) → Q r {s with heap := h', toks := tk', gens := gn'}) :
   wpAny (model Challenge.rw_mj0062_01.row.prog w) A (call (.ref 21) [v1, v2]) Q E s := by
  obtain ⟨a1, x0, x1, x2, tn1, rfl, H1, C10, C11, C12, D1⟩ := E1
  obtain ⟨a2, y0, y1, y2, tn2, rfl, H2, C20, C21, C22, D2⟩ := E2
  obtain ⟨b0, u0, rfl, p0, _⟩ := (C20.resolve_left fun h => hne h.1).2
  obtain ⟨b1, u1, rfl, p1, _⟩ := (C21.resolve_left fun h => hne h.1).2
  obtain ⟨b2, u2, rfl, p2, _⟩ := (C22.resolve_left fun h => hne h.1).2
  obtain ⟨X, T, ⟨ps, tab, tok⟩, BM⟩ := S
  obtain ⟨dep, uni, han⟩ := R
  obtain ⟨hdl, dp, fr, gd, un⟩ := A
  dsimp only at dep uni han
  subst han
  revert X; k_fill; intro X
  k_dflt (refine' enter (binds := [(Str.ofString "target", .ref a1), (Str.ofString "source", .ref a2)]) ?X ?T ?tab ?k6 ?k7 ?k8 ?k9 ?kB ?_ ?c2 ?c3 ?c4 ?c5; (case X => assumption); (case T => assumption); (case tab => assumption); (case k6 => k_is); (case k7 => k_is); (case k8 => (show dp < recursionLimit; omega)); (case k9 => exact BindsTo.of_eq rfl);  (case c5 => decide); (case kB => exact locs rfl); (case c2 => exact rfl); (case c3 => exact rfl); (case c4 => exact rfl); k_whole; intro h' F' N'; (try dsimp only); (try k_fold))
  by_cases hl1 : l1 = []
  · obtain ⟨w0, rfl⟩ := (C10.resolve_right fun h => h.1 hl1).2
    obtain ⟨w1, rfl⟩ := (C11.resolve_right fun h => h.1 hl1).2
    obtain ⟨w2, rfl⟩ := (C12.resolve_right fun h => h.1 hl1).2
    k_steps
    rename Fr _ _ _ _ => F
    rename News _ _ _ _ => N
    refine callers_spec (mg := mg) (mb := mb) (end_sees F N (by k_mem) tok X T BM) ⟨?_, ?_, rfl⟩ G CL hlen (D1.keeps (end_stays F)) (D2.keeps (end_stays F)) ?_
    · show dp + 1 + 2 < recursionLimit; omega
    · show un + 3 + 16 < cLine; omega
    intro d h1 tk1 gn1 S1 st G1 fd C1
    obtain ⟨ps1, tab1, tok1⟩ := S1.tab
    have hL := Ne.symm (N _ (by k_mem : (23, tabObj ps) ∈ _)).2.1
    have F1 := back_fr F hL st
    have N1 := back_news (g := s.heap) hL tab1
    have dL := ne_of_fresh F hL fd
    have fd' := fresh_back (end_stays F) fd
    have C1' : ∀ h2 m2 n2, Fr (hid s.heap) s.heap.objs.size h2 m2 → News (hid s.heap) s.heap.objs.size h2 n2 → (∀ p ∈ allNews (hid s.heap) s.heap.objs.size (hid h1), p ∈ n2) → CallersIs w Φ (hid h2) d (l1 ++ l2) := fun h2 m2 n2 F2 N2 hs => C1.keepsBut dL F1 (staysBut F2 F1 N2 hs)
    clear F N
    try k_fold
    k_steps
    rename Fr _ _ _ _ => F2
    rename News _ _ _ _ => N2
    show Q _ _
    have len2 : ((l1 ++ l2).length : Int) = (l2.length : Int) + (l1.length : Int) := by rw [List.length_append]; omega
    refine ret _ d _ _ _ (end_sees F2 N2 (by k_mem) tok1 X T BM) (end_stays F2) G1 fd' ⟨_, _, _, _, _, rfl, (by rw [len2]; exact end_tup N2 (by k_mem) (by k_mem)), ?_, ?_, ?_, C1' _ _ _ F2 N2 (fun p hp => by repeat (first | exact hp | refine List.Mem.tail _ ?_))⟩
    · exact .inr ⟨by simp [hne], _, _, rfl, by rw [hl1]; exact CL.zero 0 _ _ hne p0, by show @Ne Nat _ 0; omega⟩
    · exact .inr ⟨by simp [hne], _, _, rfl, by rw [hl1]; exact CL.zero 1 _ _ hne p1, by show @Ne Nat _ 0; omega⟩
    · exact .inr ⟨by simp [hne], _, _, rfl, by rw [hl1]; exact CL.zero 2 _ _ hne p2, by show @Ne Nat _ 0; omega⟩
  · obtain ⟨c0, w0, rfl, q0, _⟩ := (C10.resolve_left fun h => hl1 h.1).2
    obtain ⟨c1, w1, rfl, q1, _⟩ := (C11.resolve_left fun h => hl1 h.1).2
    obtain ⟨c2, w2, rfl, q2, _⟩ := (C12.resolve_left fun h => hl1 h.1).2
    k_steps
    rename Fr _ _ _ _ => F
    rename News _ _ _ _ => N
    refine callers_spec (mg := mg) (mb := mb) (end_sees F N (by k_mem) tok X T BM) ⟨?_, ?_, rfl⟩ G CL hlen (D1.keeps (end_stays F)) (D2.keeps (end_stays F)) ?_
    · show dp + 1 + 2 < recursionLimit; omega
    · show un + 3 + 16 < cLine; omega
    intro d h1 tk1 gn1 S1 st G1 fd C1
    obtain ⟨ps1, tab1, tok1⟩ := S1.tab
    have hL := Ne.symm (N _ (by k_mem : (23, tabObj ps) ∈ _)).2.1
    have F1 := back_fr F hL st
    have N1 := back_news (g := s.heap) hL tab1
    have dL := ne_of_fresh F hL fd
    have fd' := fresh_back (end_stays F) fd
    have C1' : ∀ h2 m2 n2, Fr (hid s.heap) s.heap.objs.size h2 m2 → News (hid s.heap) s.heap.objs.size h2 n2 → (∀ p ∈ allNews (hid s.heap) s.heap.objs.size (hid h1), p ∈ n2) → CallersIs w Φ (hid h2) d (l1 ++ l2) := fun h2 m2 n2 F2 N2 hs => C1.keepsBut dL F1 (staysBut F2 F1 N2 hs)
    clear F N
    try k_fold
    k_steps
    rename Fr _ _ _ _ => F2
    rename News _ _ _ _ => N2
    show Q _ _
    have len2 : ((l1 ++ l2).length : Int) = (l2.length : Int) + (l1.length : Int) := by rw [List.length_append]; omega
    refine ret _ d _ _ _ (end_sees F2 N2 (by k_mem) tok1 X T BM) (end_stays F2) G1 fd' ⟨_, _, _, _, _, rfl, (by rw [len2]; exact end_tup N2 (by k_mem) (by k_mem)), ?_, ?_, ?_, C1' _ _ _ F2 N2 (fun p hp => by repeat (first | exact hp | refine List.Mem.tail _ ?_))⟩
    · exact .inr ⟨by simp [hne], _, _, rfl, CL.add 0 _ _ _ _ hl1 hne hlen q0 p0, by show @Ne Nat _ 0; omega⟩
    · exact .inr ⟨by simp [hne], _, _, rfl, CL.add 1 _ _ _ _ hl1 hne hlen q1 p1, by show @Ne Nat _ 0; omega⟩
    · exact .inr ⟨by simp [hne], _, _, rfl, CL.add 2 _ _ _ _ hl1 hne hlen q2 p2, by show @Ne Nat _ 0; omega⟩
end
end Mine
end
section
open PySem PySem.W PySem.Calls PyProof.Rows
set_option maxRecDepth 100000
set_option maxHeartbeats 8000000
set_option pp.fieldNotation false
namespace Mine

abbrev Ent := Value × Addr × Light
def Ents (w : World) (Φ : Phi) (h : Heap) (es : List Ent) : Prop := ∀ e ∈ es, EntryAt w Φ h e.1 e.2.1 [e.2.2]

theorem isList_keeps {h h' : Heap} {a : Addr} {items : Array Value} (x : h.IsList a items) (k : Stays h h') : h'.IsList a items := let ⟨o, ho, r⟩ := x; ⟨o, k _ _ ho, r⟩

theorem entry_ne {w : World} {Φ : Phi} {h : Heap} {v : Value} {d : Addr} {ls : List Light} (E : EntryAt w Φ (hid h) v d ls) : d ≠ h.objs.size := by
  obtain ⟨_, _, _, _, _, _, _, _, _, _, _, kvs, ⟨o, es, ep, ho, _⟩, _⟩ := E
  have := Heap.lt_size ho
  rw [hid_size] at this
  exact Nat.ne_of_lt this

theorem halves_spec {w : World} {Φ : Phi} {mg mb : Str → Option Value} (CL : Closed Φ) : ∀ (n : Nat) {A : Around} {s : Shared} {Q E : Value → Shared → Prop} {l : Addr} {es : List Ent},
   es.length = n → 1 ≤ n → n ≤ 11 →
   Sees w mg mb s.heap → Room A (n + 4) (8 * n + 24) → AllBare s.gens → (hid s.heap).IsList l (es.map (·.1)).toArray → Ents w Φ (hid s.heap) es →
   (∀ r d h' tk' gn', Sees w mg mb h' → Stays (hid s.heap) (hid h') → AllBare gn' → (d ∈ es.map (·.2.1) ∨ (hid s.heap).get? d = none) → EntryAt w Φ (hid h') r d (es.map (·.2.2)) → Q r {s with heap := h', toks := tk', gens := gn'}) →
   wpAny (model Challenge.rw_mj0062_01.row.prog w) A (call (.ref 84) [.ref l]) Q E s := by
  intro n
  induction n using Nat.strongRecOn with
  | ind n ih =>
  intro A s Q E l es hn h1 h11 S R G HL HE ret
  obtain ⟨X, T, ⟨ps, tab, tok⟩, BM⟩ := S
  obtain ⟨dep, uni, han⟩ := R
  obtain ⟨hdl, dp, fr, gd, un⟩ := A
  dsimp only at dep uni han
  subst han
  revert X; k_fill; intro X
  k_dflt (refine' enter (binds := [(Str.ofString "entries", .ref l)]) ?X ?T ?tab ?k6 ?k7 ?k8 ?k9 ?kB ?_ ?c2 ?c3 ?c4 ?c5; (case X => assumption); (case T => assumption); (case tab => assumption); (case k6 => k_is); (case k7 => k_is); (case k8 => (show dp < recursionLimit; omega)); (case k9 => exact BindsTo.of_eq rfl);  (case c5 => decide); (case kB => exact locs rfl); (case c2 => exact rfl); (case c3 => exact rfl); (case c4 => exact rfl); k_whole; intro h' F' N'; (try dsimp only); (try k_fold))
  have hsz : (es.map (·.1)).toArray.size = n := by simp [hn]
  by_cases hn1 : n = 1
  · subst hn1
    obtain ⟨e, rfl⟩ := List.length_eq_one_iff.mp hn
    k_steps
    all_goals first | (exfalso; omega) | skip
    rename Fr _ _ _ _ => F
    rename News _ _ _ _ => N
    show Q _ _
    refine ret _ _ _ _ _ (end_sees F N (by k_mem) tok X T BM) (end_stays F) G (.inl (List.Mem.head _)) ((HE e (List.Mem.head _)).keeps (end_stays F))
  · have hn2 : 2 ≤ n := by omega
    have hnz : ((n : Int) == 1) = false := by simp; omega
    k_steps
    rename Fr _ _ _ _ => F1
    rename News _ _ _ _ => N1
    have hhalf : Int.fdiv (((es.map (·.1)).toArray.size : Nat) : Int) 2 = ((n / 2 : Nat) : Int) := by
      rw [hsz, Int.fdiv_eq_ediv_of_nonneg _ (by decide)]; omega
    have HL1 := end_list N1 (List.Mem.tail _ (List.Mem.head _)) (List.Mem.head _)
    rw [hhalf, slicePick_upto', List.toList_toArray, ← List.map_take] at HL1
    refine ih (n / 2) (by omega) (es := es.take (n / 2)) (by rw [List.length_take]; omega) (by omega) (by omega) (end_sees F1 N1 (List.Mem.tail _ (List.Mem.head _)) tok X T BM) ⟨?_, ?_, rfl⟩ G HL1 ?_ ?_
    · show dp + 1 + (n / 2 + 4) < recursionLimit; omega
    · show un + 3 + (8 * (n / 2) + 24) < cLine; omega
    · exact fun e he => (HE e (List.mem_of_mem_take he)).keeps (end_stays F1)
    intro r1 d1 h2 tk2 gn2 S2 st2 G2 dd1 E1
    obtain ⟨ps2, tab2, tok2⟩ := S2.tab
    have hL := Ne.symm (N1 _ (List.Mem.tail _ (List.Mem.head _))).2.1
    have F2 := back_fr F1 hL st2
    have N2 := back_news (g := s.heap) hL tab2
    have d1L : d1 ≠ s.heap.objs.size := by
      rcases dd1 with hm | hf
      · obtain ⟨e, he, rfl⟩ := List.mem_map.mp hm
        exact entry_ne (HE e (List.mem_of_mem_take he))
      · exact ne_of_fresh F1 hL hf
    have dd1' : d1 ∈ es.map (·.2.1) ∨ (hid s.heap).get? d1 = none := dd1.imp (fun hm => by
      obtain ⟨e, he, q⟩ := List.mem_map.mp hm
      exact List.mem_map.mpr ⟨e, List.mem_of_mem_take he, q⟩) (fresh_back (end_stays F1))
    have E1' : ∀ h3 m3 n3, Fr (hid s.heap) s.heap.objs.size h3 m3 → News (hid s.heap) s.heap.objs.size h3 n3 → (∀ p ∈ allNews (hid s.heap) s.heap.objs.size (hid h2), p ∈ n3) → EntryAt w Φ (hid h3) r1 d1 ((es.take (n / 2)).map (·.2.2)) := fun h3 m3 n3 F3 N3 hs => E1.keepsBut d1L F2 (staysBut F3 F2 N3 hs)
    clear F1 N1
    try k_fold
    k_steps
    rename Fr _ _ _ _ => F3
    rename News _ _ _ _ => N3
    have HL3 := end_list N3 (List.Mem.tail _ (List.Mem.head _)) (List.Mem.head _)
    rw [hhalf, slicePick_from', List.toList_toArray, ← List.map_drop] at HL3
    have E3 := E1' _ _ _ F3 N3 (fun p hp => List.Mem.tail _ (List.Mem.tail _ hp))
    refine ih (n - n / 2) (by omega) (es := es.drop (n / 2)) (by rw [List.length_drop]; omega) (by omega) (by omega) (end_sees F3 N3 (List.Mem.tail _ (List.Mem.head _)) tok2 X T BM) ⟨?_, ?_, rfl⟩ G2 HL3 ?_ ?_
    · show dp + 1 + (n - n / 2 + 4) < recursionLimit; omega
    · show un + 3 + (8 * (n - n / 2) + 24) < cLine; omega
    · exact fun e he => (HE e (List.mem_of_mem_drop he)).keeps (end_stays F3)
    intro r2 d2 h4 tk4 gn4 S4 st4 G4 dd2 E4
    obtain ⟨ps4, tab4, tok4⟩ := S4.tab
    have F4 := back_fr F3 hL st4
    have N4 := back_news (g := s.heap) hL tab4
    have E3' := E3.keeps st4
    have d2L : d2 ≠ s.heap.objs.size := by
      rcases dd2 with hm | hf
      · obtain ⟨e, he, rfl⟩ := List.mem_map.mp hm
        exact entry_ne (HE e (List.mem_of_mem_drop he))
      · exact ne_of_fresh F3 hL hf
    have P5 : ∀ h5 m5 n5, Fr (hid s.heap) s.heap.objs.size h5 m5 → News (hid s.heap) s.heap.objs.size h5 n5 → (∀ p ∈ allNews (hid s.heap) s.heap.objs.size (hid h4), p ∈ n5) →
        EntryAt w Φ (hid h5) r1 d1 ((es.take (n / 2)).map (·.2.2)) ∧ EntryAt w Φ (hid h5) r2 d2 ((es.drop (n / 2)).map (·.2.2)) := fun h5 m5 n5 F5 N5 hs => ⟨E3'.keepsBut d1L F4 (staysBut F5 F4 N5 hs), E4.keepsBut d2L F4 (staysBut F5 F4 N5 hs)⟩
    clear F3 N3
    try k_fold
    k_steps
    rename Fr _ _ _ _ => F5
    rename News _ _ _ _ => N5
    obtain ⟨E51, E52⟩ := P5 _ _ _ F5 N5 (fun p hp => List.Mem.tail _ hp)
    have cat : (es.take (n / 2)).map (fun e => e.2.2) ++ (es.drop (n / 2)).map (fun e => e.2.2) = es.map (fun e => e.2.2) := by rw [← List.map_append, List.take_append_drop]
    refine stats_spec (mg := mg) (mb := mb) (end_sees F5 N5 (List.Mem.head _) tok4 X T BM) ⟨?_, ?_, rfl⟩ G4 CL ?_ ?_ E51 E52 ?_
    · show dp + 1 + 3 < recursionLimit; omega
    · show un + 3 + 24 < cLine; omega
    · rw [← List.length_append, cat, List.length_map]; omega
    · intro e
      have := congrArg List.length e
      rw [List.length_map, List.length_drop] at this
      simp at this
      omega
    intro r d h6 tk6 gn6 S6 st6 G6 fd6 E6
    show Q _ _
    rw [cat] at E6
    exact ret r d h6 tk6 gn6 S6 (Stays.trans (end_stays F5) st6) G6 (.inr (fresh_back (end_stays F5) fd6)) E6
end Mine
end
section
open PySem PySem.W PySem.Calls PyProof.Rows
open Sem (wp)
set_option maxRecDepth 100000
set_option maxHeartbeats 8000000
namespace Mine

section
variable {prog : Program} {w : World} {A : Around} {s : Shared} {g : Heap} {L : Addr} {m : Str → Option Value}

/-- the heap between turns: what is neither the frame nor the iterator stays -/
abbrev UpBut (L it : Addr) (H h : Heap) : Prop := ∀ b o, b ≠ it → b ≠ L → H.get? b = some o → h.get? b = some o
abbrev FieldsAt (h : Heap) (it : Addr) : Prop := ∀ o, h.get? it = some o → ∃ vs, o.data = .fields vs

theorem loop_walks {env : Env} {R : Result → Shared → Prop} {x : Str} {px : Pos} {body : List Stmt} {ps : Array Value} {it : Addr} {fp : List Addr} {n : Nat} {P : Nat → Value → Prop} {St : Nat → Heap → Prop}
    (W : Walks prog w A it fp [it] n P St) (hfl : ∀ i h, St i h → ∃ o vs, h.get? it = some o ∧ o.data = .fields vs) (hfp : ∀ b ∈ fp, b = it ∨ ∃ o, (hid g).get? b = some o)
    (hL : env.locals = L) (hitL : it ≠ L) (hit23 : it ≠ 23) (hgit : (hid g).get? it = none) (hkind : env.scope.kind = .function) (hx : env.kindOf x = some .local)
    (F : Fr (hid g) L s.heap m) (hL23 : L ≠ 23) (tab : s.heap.get? 23 = some (tabObj ps)) (tok : TabOk ps) (hst : St 0 s.heap)
    (J : Nat → (Str → Option Value) → Heap → Array GenState → Prop) (h0 : J 0 m s.heap s.gens)
    (Jst : ∀ i m H h gn, J i m H gn → Fr (hid g) L H m → FieldsAt H it → UpBut L it H h → J i m h gn)
    (step : ∀ i v m₁ h tk gn io ps, P i v → J i m₁ h gn → FieldsAt h it →
      Fr (hid g) L h (fun y => if y = x then some v else m₁ y) → News (hid g) L h [(it, io), (23, tabObj ps)] → TabOk ps →
      wpAny (model prog w) A (execs body env) (fun f s₂ => f = .next ∧ ∃ h' tk' gn' m₂ ps', s₂ = { s with heap := h', gens := gn', toks := tk' } ∧ Fr (hid g) L h' m₂ ∧ News (hid g) L h' [(it, io), (23, tabObj ps')] ∧ TabOk ps' ∧ J (i + 1) m₂ h' gn')
        (fun _ _ => False) { s with heap := h, gens := gn, toks := tk })
    (done : ∀ m' h' tk' gn' ps', J n m' h' gn' → Fr (hid g) L h' m' → News (hid g) L h' [(23, tabObj ps')] → TabOk ps' → R (.ok .next) { s with heap := h', gens := gn', toks := tk' }) :
    codeAny (model prog w) A (.forLoop (.Name x px) (.ref it) body [] env) R s := by
  subst hL
  have hp : (env.scope.kind == .class || (env.scope.kind == .module && env.locals != env.globals)) = false := by rw [hkind]; rfl
  have fl : ∀ h : Heap, (∃ o vs, h.get? it = some o ∧ o.data = .fields vs) → FieldsAt h it := fun h ⟨o, vs, ho, hd⟩ o' ho' => by rw [ho] at ho'; cases ho'; exact ⟨vs, hd⟩
  have near : ∀ {H h₁ : Heap} {m' : Str → Option Value}, Fr (hid g) env.locals H m' → (∀ b o, b ∉ [it] → H.get? b = some o → h₁.get? b = some o) → Fr (hid g) env.locals h₁ m' := fun F' hk => by
    obtain ⟨oL, es, ep, ho, r⟩ := F'.ns
    exact ⟨⟨oL, es, ep, hk _ _ (by simpa using Ne.symm hitL) ho, r⟩, fun b o e => hk b o (by simp; rintro rfl; rw [hgit] at e; cases e) (F'.keep b o e), F'.above⟩
  refine codeAny_forLoop_any
    (fun k s' => ∃ h' tk gn m' ps' i, s' = { s with heap := h', gens := gn, toks := tk } ∧ St i h' ∧ Fr (hid g) env.locals h' m' ∧ h'.get? 23 = some (tabObj ps') ∧ TabOk ps' ∧ J i m' h' gn ∧ i ≤ n ∧ k = n + 1 - i) ?_ (n + 1)
    ⟨s.heap, s.toks, s.gens, m, ps, 0, rfl, hst, F, tab, tok, h0, Nat.zero_le _, rfl⟩
  rintro k s' ⟨H, tk, gn, m', ps', i, rfl, hst', F', tab', tok', hJ, hi, rfl⟩
  by_cases hlt : i < n
  · refine W.item i _ _ _ hlt hst' fun v h₁ tk₁ hP hst₁ hk₁ => ?_
    refine wpAny_of_eq (rfl : letOwnedTupleGo (.Name x px) (.ref it) v = pure ()) ?_
    have F₁ := near F' hk₁
    refine wpAny_assign_Name (wpAny_storeName_local hx F₁.ns (fun h₂ hn₂ hs₂ => ?_) hp)
    replace hs₂ : Heap.SameBut env.locals h₁ h₂ := hs₂
    have F₂ : Fr (hid g) env.locals h₂ (fun y => if y = x then some v else m' y) := F₁.set hn₂ hs₂
    obtain ⟨io, vs, hio, hdio⟩ := hfl _ _ hst₁
    have up : UpBut env.locals it H h₂ := fun b o hb1 hb2 e => hs₂.extBut b o hb2 (hk₁ b o (by simpa using hb1) e)
    have hio₂ : h₂.get? it = some io := hs₂.extBut _ _ hitL hio
    have tab₂ : h₂.get? 23 = some (tabObj ps') := up _ _ (Ne.symm hit23) (Ne.symm hL23) tab'
    have N₂ : News (hid g) env.locals h₂ [(it, io), (23, tabObj ps')] := fun p hp => by
      rcases List.mem_cons.mp hp with rfl | hp
      · exact ⟨hio₂, hitL, hgit⟩
      · rw [List.mem_singleton.mp hp]; exact ⟨tab₂, Ne.symm hL23, hid_none _⟩
    refine wpAny_mono (step i v m' h₂ _ gn io ps' hP (Jst i m' H h₂ gn hJ F' (fl H (hfl _ _ hst')) up) (fl h₂ ⟨io, vs, hio₂, hdio⟩) F₂ N₂ tok') (fun f s₃ h₃ => ?_) fun _ _ x => x.elim
    obtain ⟨rfl, h₃, tk₃, gn₃, m₃, ps₃, rfl, F₃, N₃, tok₃, hJ₃⟩ := h₃
    refine ⟨n + 1 - (i + 1), by omega, h₃, tk₃, gn₃, m₃, ps₃, i + 1, rfl, ?_, F₃, (N₃ _ (.tail _ (.head _))).1, tok₃, hJ₃, hlt, rfl⟩
    refine W.frame _ _ _ hst₁ fun b hb o e => ?_
    rcases hfp b hb with rfl | ⟨ob, hob⟩
    · rw [hio] at e; cases e; exact (N₃ _ (.head _)).1
    · have := F₁.keep b ob hob
      rw [e] at this; cases this
      exact F₃.keep b o hob
  · have hin : i = n := by omega
    subst hin
    refine W.done _ _ _ hst' fun h₁ tk₁ hk₁ => wpAny_execs_nil ?_
    have F₁ := near F' hk₁
    have up : UpBut env.locals it H h₁ := fun b o hb1 _ e => hk₁ b o (by simpa using hb1) e
    refine done m' h₁ tk₁ gn ps' (Jst i m' H h₁ gn hJ F' (fl H (hfl _ _ hst')) up) F₁ (fun p hp => ?_) tok'
    rw [List.mem_singleton.mp hp]
    exact ⟨hk₁ _ _ (by simpa using Ne.symm hit23) tab', Ne.symm hL23, hid_none _⟩

/-- a for over a list of the base's, the invariant over the heap -/
theorem for_list {env : Env} {Q : Flow → Shared → Prop} {x o : Str} {px po pos : Pos} {body : List Stmt} {l : Addr} {items : Array Value} {ps : Array Value}
    (hL : env.locals = L) (hL23 : L ≠ 23) (hh : A.handled = none) (hkind : env.scope.kind = .function) (hx : env.kindOf x = some .local) (hxo : env.kindOf o = some .local) (hob : (o == ("__debug__" : Str)) = false)
    (F : Fr (hid g) L s.heap m) (tab : s.heap.get? 23 = some (tabObj ps)) (tok : TabOk ps) (ho : m o = some (.ref l)) (hl : (hid g).IsList l items)
    (J : Nat → (Str → Option Value) → Heap → Array GenState → Prop) (h0 : J 0 m s.heap s.gens)
    (Jst : ∀ i m H h gn it, J i m H gn → Fr (hid g) L H m → it ≠ 23 → FieldsAt H it → UpBut L it H h → J i m h gn)
    (step : ∀ i v m₁ h tk gn it io ps, items[i]? = some v → J i m₁ h gn → FieldsAt h it → it ≠ 23 →
      Fr (hid g) L h (fun y => if y = x then some v else m₁ y) → News (hid g) L h [(it, io), (23, tabObj ps)] → TabOk ps →
      wpAny (model prog w) A (execs body env) (fun f s₂ => f = .next ∧ ∃ h' tk' gn' m₂ ps', s₂ = { s with heap := h', gens := gn', toks := tk' } ∧ Fr (hid g) L h' m₂ ∧ News (hid g) L h' [(it, io), (23, tabObj ps')] ∧ TabOk ps' ∧ J (i + 1) m₂ h' gn')
        (fun _ _ => False) { s with heap := h, gens := gn, toks := tk })
    (done : ∀ m' h' tk' gn' ps', J items.size m' h' gn' → Fr (hid g) L h' m' → News (hid g) L h' [(23, tabObj ps')] → TabOk ps' → Q .next { s with heap := h', gens := gn', toks := tk' }) :
    wpAny (model prog w) A (exec (.For (.Name x px) (.Name o po) body [] pos) env) Q (fun _ _ => False) s := by
  subst hL
  have hls : s.heap.IsList l items := isList_keeps hl F.keep
  refine wpAny_For (wpAny_Name (wpAny_loadName_local hkind hxo F.ns ho ?_) hob) (by intro _; rfl)
  refine wpAny_pyIter_list hls ?_
  have hitL : s.heap.objs.size ≠ env.locals := Nat.ne_of_gt F.ns.lt
  have hit23 : s.heap.objs.size ≠ 23 := Nat.ne_of_gt (Heap.lt_size tab)
  have hgit : (hid g).get? s.heap.objs.size = none := next_is_new F
  obtain ⟨ol, hol, _⟩ := id hl
  have hlg : l < (hid g).objs.size := Heap.lt_size hol
  have hne : l ≠ s.heap.objs.size := Nat.ne_of_lt (Nat.lt_trans (Nat.lt_of_lt_of_le hlg F.above) F.ns.lt)
  have W := Walks.list (prog := prog) (w := w) hh s.heap.objs.size l hne items
  refine loop_walks (s := { s with heap := s.heap.push { cls := .type "list_iterator", data := .fields #[.ref l, .int 0 0] } }) W (fun i h st => let ⟨o, ho, _, hd⟩ := st.1; ⟨o, _, ho, hd⟩) (fun b hb => ?_) rfl hitL hit23 hgit hkind hx (F.push _) hL23 (Heap.get?_push_of_some _ tab) tok
    ⟨⟨_, Heap.get?_push_size _ rfl, rfl, rfl⟩, hls.at fun o e => Heap.get?_push_of_some _ e⟩ J ?_ (fun i m H h gn hJ F' hf up => Jst i m H h gn _ hJ F' hit23 hf up) (fun i v m₁ h tk gn io ps hv hJ hf F' N' tok' => step i v m₁ h tk gn _ io ps hv hJ hf hit23 F' N' tok') done
  · rcases List.mem_cons.mp hb with rfl | hb
    · exact .inl rfl
    · rw [List.mem_singleton.mp hb]; exact .inr ⟨ol, hol⟩
  · refine Jst 0 m s.heap _ s.gens s.heap.objs.size h0 F hit23 ?_ fun b o _ _ e => Heap.get?_push_of_some _ e
    intro o' e'
    exact absurd (Heap.lt_size e') (Nat.lt_irrefl _)
end

end Mine
end
section
open PySem PySem.W PySem.Calls PyProof.Rows
set_option maxRecDepth 100000
set_option maxHeartbeats 8000000
set_option pp.fieldNotation false
namespace Mine

theorem ne_fields_tup {H : Heap} {a it : Addr} {items : Array Value} (H1 : IsTup (hid H) a items) (hf : FieldsAt H it) : a ≠ it := by
  rintro rfl
  obtain ⟨o, ho, _, n, hd⟩ := H1
  obtain ⟨vs, hv⟩ := hf o (of_hid ho)
  rw [hd] at hv; cases hv
theorem up_hid {L it : Addr} {H h : Heap} (up : UpBut L it H h) {b : Addr} {o : Obj} (h1 : b ≠ it) (h2 : b ≠ L) (e : (hid H).get? b = some o) : (hid h).get? b = some o :=
  (hid_get (hid_ne e)).trans (up b o h1 h2 (of_hid e))
theorem IsTup.up {L it a : Addr} {H h h₀ : Heap} {m : Str → Option Value} {items : Array Value} (x : IsTup (hid H) a items) (F : Fr h₀ L H m) (hf : FieldsAt H it) (up : UpBut L it H h) : IsTup (hid h) a items :=
  have h1 := ne_fields_tup x hf
  have h2 := fr_ne_tup F x
  let ⟨o, ho, r⟩ := x; ⟨o, up_hid up h1 h2 ho, r⟩
theorem RowIs.up {Φ : Phi} {L it : Addr} {H h h₀ : Heap} {m : Str → Option Value} {v : Value} {ls : List Light} (x : RowIs Φ (hid H) v ls) (F : Fr h₀ L H m) (hf : FieldsAt H it) (up : UpBut L it H h) : RowIs Φ (hid h) v ls :=
  let ⟨a, b0, b1, b2, t0, t1, t2, t3, e, ht, r⟩ := x; ⟨a, b0, b1, b2, t0, t1, t2, t3, e, IsTup.up ht F hf up, r⟩
theorem EntryAt.up {w : World} {Φ : Phi} {L it : Addr} {H h h₀ : Heap} {m : Str → Option Value} {v : Value} {d : Addr} {ls : List Light} (x : EntryAt w Φ (hid H) v d ls) (hd : d ≠ L) (F : Fr h₀ L H m) (hf : FieldsAt H it) (up : UpBut L it H h) : EntryAt w Φ (hid h) v d ls := by
  obtain ⟨a, c0, c1, c2, tn, e, ht, p0, p1, p2, n, kvs, ⟨o, es, ep, ho, hc, hdat, r⟩, hk, hr⟩ := x
  have hdi : d ≠ it := by
    rintro rfl
    obtain ⟨vs, hv⟩ := hf o (of_hid ho)
    rw [hdat] at hv; cases hv
  exact ⟨a, c0, c1, c2, tn, e, IsTup.up ht F hf up, p0, p1, p2, n, kvs, ⟨o, es, ep, up_hid up hdi hd ho, hc, hdat, r⟩, hk, fun kv hm => RowIs.up (hr kv hm) F hf up⟩

theorem onward_spec {w : World} {A : Around} {s : Shared} {Q E : Value → Shared → Prop} {mg mb : Str → Option Value} {Φ : Phi} {l : Addr} {es : List Ent}
   (S : Sees w mg mb s.heap) (R : Room A 4 32) (G : AllBare s.gens) (CL : Closed Φ) (h11 : es.length ≤ 11)
   (HL : (hid s.heap).IsList l (es.map (·.1)).toArray) (HE : Ents w Φ (hid s.heap) es)
   (ret : ∀ r d h' tk' gn', Sees w mg mb h' → Stays (hid s.heap) (hid h') → AllBare gn' → (hid s.heap).get? d = none → EntryAt w Φ (hid h') r d (es.map (·.2.2)) → Q r {s with heap := h', toks := tk', gens := gn'}) :
   wpAny (model Challenge.rw_mj0062_01.row.prog w) A (call (.ref 77) [.ref l]) Q E s := by
  obtain ⟨X, T, ⟨ps, tab, tok⟩, BM⟩ := S
  obtain ⟨dep, uni, han⟩ := R
  obtain ⟨hdl, dp, fr, gd, un⟩ := A
  dsimp only at dep uni han
  subst han
  revert X; k_fill; intro X
  k_dflt (refine' enter (binds := [(Str.ofString "entries", .ref l)]) ?X ?T ?tab ?k6 ?k7 ?k8 ?k9 ?kB ?_ ?c2 ?c3 ?c4 ?c5; (case X => assumption); (case T => assumption); (case tab => assumption); (case k6 => k_is); (case k7 => k_is); (case k8 => (show dp < recursionLimit; omega)); (case k9 => exact BindsTo.of_eq rfl);  (case c5 => decide); (case kB => exact locs rfl); (case c2 => exact rfl); (case c3 => exact rfl); (case c4 => exact rfl); k_whole; intro h' F' N'; (try dsimp only); (try k_fold))
  k_steps
  rename Fr _ _ _ _ => F0
  rename News _ _ _ _ => N0
  rename Obj.IsDictOf (PySem.strKind _ _) _ _ => hs0
  rename (_ == sysModules) = false => lo0
  rename_i d0 hA o0 f1 f2 f3 l10 D0 hB l11 hC
  have hL23 : s.heap.objs.size ≠ 23 := Ne.symm (N0 _ (by k_mem : (23, tabObj ps) ∈ _)).2.1
  have fr0 : (hid s.heap).get? d0 = none := N0.fresh (List.Mem.tail _ (List.Mem.head _))
  have dL0 : d0 ≠ s.heap.objs.size := (N0 _ (List.Mem.tail _ (List.Mem.head _))).2.1
  have E0 : EntryAt w Φ (hid hC) (.ref D0) d0 [] := ⟨_, _, _, _, _, rfl, end_tup N0 (by k_mem) (by k_mem), .inl ⟨rfl, _, rfl⟩, .inl ⟨rfl, _, rfl⟩, .inl ⟨rfl, _, rfl⟩, lo0, [], end_dict N0 (by k_mem) (by k_mem) hs0, rfl, fun _ hm => nomatch hm⟩
  refine for_list (g := s.heap) (L := s.heap.objs.size) rfl hL23 rfl rfl rfl rfl (by decide) F0 (N0.get (by k_mem : (23, tabObj ps) ∈ _)) tok rfl HL
    (fun i m' H gn => (∃ (u : Str → Option Value) (r : Value) (d : Addr), (m' = fun y => if y = Str.ofString "entry" then u y else if y = Str.ofString "total" then some r else List.lookup y (List.reverse [(Str.ofString "entries", Value.ref l)])) ∧
      EntryAt w Φ (hid H) r d ((es.take i).map (·.2.2)) ∧ d ≠ s.heap.objs.size ∧ (hid s.heap).get? d = none) ∧ AllBare gn) ?_ ?_ ?_ ?_
  · refine ⟨⟨fun y => if y = Str.ofString "total" then some (Value.ref D0) else List.lookup y (List.reverse [(Str.ofString "entries", Value.ref l)]), _, d0, ?_, E0, dL0, fr0⟩, G⟩
    funext y
    by_cases h1 : y = Str.ofString "entry"
    · rw [if_pos h1]
    · rw [if_neg h1]
  · rintro i m' H h gn it ⟨⟨u, r, d, hm, E1, dL, fd⟩, hG⟩ F _ hf up
    exact ⟨⟨u, r, d, hm, E1.up dL F hf up, dL, fd⟩, hG⟩
  · rintro i v m₁ h tk gn it io ps1 hv ⟨⟨u, r, d, rfl, E1, dL, fd⟩, hG⟩ hf hit F N tok1
    have hv' : (es.map (·.1))[i]? = some v := by simpa using hv
    obtain ⟨e, he, rfl⟩ : ∃ e, es[i]? = some e ∧ e.1 = v := by
      rw [List.getElem?_map] at hv'
      exact Option.map_eq_some_iff.mp hv'
    have hi : i < es.length := (List.getElem?_eq_some_iff.mp he).1
    have E2 := (HE e (List.mem_of_getElem? he)).keeps (end_stays F)
    have hitL := (N _ (List.Mem.head _)).2.1
    have hgit := (N _ (List.Mem.head _)).2.2
    refine hideQ fun QQ toQ => ?_
    try k_fold
    k_steps
    rename Fr _ _ _ _ => F1
    rename News _ _ _ _ => N1
    refine stats_spec (mg := mg) (mb := mb) (end_sees F1 N1 (by k_mem) tok1 X T BM) ⟨?_, ?_, rfl⟩ hG CL ?_ (by simp) E1 E2 ?_
    · show dp + 1 + 3 < recursionLimit; omega
    · show un + 3 + 24 < cLine; omega
    · rw [List.length_map, List.length_take]; simp; omega
    intro r2 d2 h2 tk2 gn2 S2 st2 G2 fd2 E3
    obtain ⟨ps2, tab2, tok2⟩ := S2.tab
    have F2 := back_fr F1 hL23 st2
    have N2 := back_news (g := s.heap) hL23 tab2
    have d2L := ne_of_fresh F1 hL23 fd2
    have fd2' := fresh_back (end_stays F1) fd2
    have hio : (it, io) ∈ allNews (hid s.heap) s.heap.objs.size (hid h2) := mem_all hitL hgit (st2 _ _ ((hid_get hit).trans (N1.get (by k_mem))))
    have E3' : ∀ h3 m3 n3, Fr (hid s.heap) s.heap.objs.size h3 m3 → News (hid s.heap) s.heap.objs.size h3 n3 → (∀ p ∈ allNews (hid s.heap) s.heap.objs.size (hid h2), p ∈ n3) → EntryAt w Φ (hid h3) r2 d2 ((es.take (i + 1)).map (·.2.2)) := fun h3 m3 n3 F3 N3 hs => by
      have := E3.keepsBut d2L F2 (staysBut F3 F2 N3 hs)
      rw [List.take_add_one, he, List.map_append]
      exact this
    clear F1 N1
    try k_fold
    k_steps
    rename Fr _ _ _ _ => F3
    rename News _ _ _ _ => N3
    show QQ _ _
    refine toQ _ _ ⟨rfl, _, _, _, _, ps2, rfl, F3, news_sub N3 ?_, tok2, ⟨⟨fun _ => some e.1, r2, d2, ?meq, E3' _ _ _ F3 N3 (fun p hp => List.Mem.tail _ hp), d2L, fd2'⟩, G2⟩⟩
    · intro p hp
      rcases List.mem_cons.mp hp with rfl | hp
      · exact List.Mem.tail _ hio
      · rw [List.mem_singleton.mp hp]; exact List.Mem.head _
    · funext y
      by_cases h1 : y = Str.ofString "entry"
      · subst h1; exact rfl
      · by_cases h2 : y = Str.ofString "total"
        · subst h2; exact rfl
        · simp only [if_neg h1, if_neg h2]
  · rintro m' h9 tk9 gn9 ps9 ⟨⟨u, r, d, rfl, E1, dL, fd⟩, hG⟩ F N tok9
    dsimp only
    try k_fold
    k_steps
    show Q _ _
    have hsz : (es.map (·.1)).toArray.size = es.length := by simp
    rw [hsz, List.take_length] at E1
    exact ret r d h9 _ _ (end_sees F N (by k_mem) tok9 X T BM) (end_stays F) hG fd E1
end Mine
end
section
open PySem PySem.W PySem.Calls PyProof.Rows
set_option maxRecDepth 100000
set_option maxHeartbeats 8000000
set_option pp.fieldNotation false
namespace Mine

def LGood (l : Light) : Prop := (0 ≤ l.r ∧ l.r < 16) ∧ (0 ≤ l.g ∧ l.g < 16) ∧ (0 ≤ l.b ∧ l.b < 16) ∧ (l.p = Str.ofString "left" ∨ l.p = Str.ofString "middle" ∨ l.p = Str.ofString "right")
abbrev LEnt := Value × Light
def LEnts (h : Heap) (es : List LEnt) : Prop := ∀ e ∈ es, LightIs h e.1 e.2 ∧ LGood e.2

theorem LightIs.up {L it : Addr} {H h h₀ : Heap} {m : Str → Option Value} {v : Value} {l : Light} (x : LightIs (hid H) v l) (F : Fr h₀ L H m) (hf : FieldsAt H it) (up : UpBut L it H h) : LightIs (hid h) v l :=
  let ⟨a, t0, t1, t2, t3, e, ht⟩ := x; ⟨a, t0, t1, t2, t3, e, IsTup.up ht F hf up⟩

/-- every object of the heap that is neither the frame nor the base's nor that one -/
@[irreducible] def restNews (h₀ : Heap) (L : Addr) (h : Heap) (la : Addr) : List (Addr × Obj) := (allNews h₀ L h).filter fun p => decide (p.1 ≠ la)
theorem of_rest {h₀ h : Heap} {L la : Addr} {p : Addr × Obj} (hp : p ∈ restNews h₀ L h la) : p.1 ≠ L ∧ h₀.get? p.1 = none ∧ h.get? p.1 = some p.2 ∧ p.1 ≠ la := by
  unfold restNews at hp
  obtain ⟨h1, h2⟩ := List.mem_filter.mp hp
  obtain ⟨a, b, c⟩ := of_mem_all h1
  exact ⟨a, b, c, by simpa using h2⟩
theorem mem_rest {h₀ h : Heap} {L la a : Addr} {o : Obj} (h1 : a ≠ L) (h2 : h₀.get? a = none) (h3 : h.get? a = some o) (h4 : a ≠ la) : (a, o) ∈ restNews h₀ L h la := by
  unfold restNews
  exact List.mem_filter.mpr ⟨mem_all h1 h2 h3, by simpa using h4⟩
theorem rest_news {g h : Heap} {L la : Addr} {ps : Array Value} {lo : Obj} (hL : L ≠ 23) (tab : h.get? 23 = some (tabObj ps)) (hl : h.get? la = some lo) (h1 : la ≠ L) (h2 : (hid g).get? la = none) : News (hid g) L h ((la, lo) :: (23, tabObj ps) :: restNews (hid g) L (hid h) la) := by
  intro p hp
  rcases List.mem_cons.mp hp with rfl | hp
  · exact ⟨hl, h1, h2⟩
  rcases List.mem_cons.mp hp with rfl | hp
  · exact ⟨tab, Ne.symm hL, hid_none _⟩
  · obtain ⟨a, b, c, _⟩ := of_rest hp
    exact ⟨of_hid c, a, b⟩
theorem staysBut2 {g h h' : Heap} {L la : Addr} {m m' : Str → Option Value} {news : List (Addr × Obj)} (F' : Fr (hid g) L h' m') (F : Fr (hid g) L h m) (N : News (hid g) L h' news) (hs : ∀ p ∈ restNews (hid g) L (hid h) la, p ∈ news) : ∀ b o, b ≠ L → b ≠ la → (hid h).get? b = some o → (hid h').get? b = some o := by
  intro b o hb hb2 e
  refine (hid_get (hid_ne e)).trans ?_
  cases q : (hid g).get? b with
  | none => exact (N _ (hs _ (mem_rest hb q e hb2))).1
  | some o' => have := F.keep b o' q; rw [of_hid e] at this; cases this; exact F'.keep b o q
theorem ne_list_tup {H : Heap} {a la : Addr} {items : Array Value} {its : Array Value} {n : Nat} (x : IsTup (hid H) a items) (hl : H.get? la = some (W.listOf its n)) : a ≠ la := by
  rintro rfl
  obtain ⟨o, ho, hc, _⟩ := x
  rw [of_hid ho] at hl; cases hl; simp at hc
theorem LightIs.keepsBut2 {h h' h₀ : Heap} {L la : Addr} {m : Str → Option Value} {v : Value} {l : Light} {its : Array Value} {n : Nat} (x : LightIs (hid h) v l) (F : Fr h₀ L h m) (hl : h.get? la = some (W.listOf its n)) (k : ∀ b o, b ≠ L → b ≠ la → (hid h).get? b = some o → (hid h').get? b = some o) : LightIs (hid h') v l := by
  obtain ⟨a, t0, t1, t2, t3, e, ht⟩ := x
  have h1 := fr_ne_tup F ht
  have h2 := ne_list_tup ht hl
  obtain ⟨o, ho, r⟩ := ht
  exact ⟨a, t0, t1, t2, t3, e, o, k _ _ h1 h2 ho, r⟩

theorem fr_keep2 {g h : Heap} {L : Addr} {m₂ m0 : Str → Option Value} {a b : Str} (F : Fr g L h m₂) (e : ∀ y, y ≠ a → y ≠ b → m₂ y = m0 y) : ∃ u : Str → Option Value, Fr g L h (fun y => if y = a then u y else if y = b then u y else m0 y) := by
  obtain ⟨u, hu⟩ := keep2 e
  exact ⟨u, hu ▸ F⟩
theorem item_pick3 {prog : Program} {w : World} {A : Around} {E : Value → Shared → Prop} {s : Shared} {value slice : Expr} {t : Addr} {k : Int} {a b c u : Tok} {Q : Value → Shared → Prop} (ht : IsTup s.heap t #[.str (Str.ofString "left") a, .str (Str.ofString "middle") b, .str (Str.ofString "right") c]) (hk : k = 0 ∨ k = 1 ∨ k = 2)
    (h : ∀ pl tp, (pl = Str.ofString "left" ∨ pl = Str.ofString "middle" ∨ pl = Str.ofString "right") → Q (.str pl tp) s)
    (hs : subscripted slice false (.ref t) (.int k u) = operate [.ref t, .int k u] (getItem (.ref t) (.int k u))) : wpAny (model prog w) A (subscriptTail value slice (.ref t) (.int k u)) Q E s := by
  rcases hk with rfl | rfl | rfl
  · exact item_tupleT (l := [_, _, _]) (j := 0) ht (by decide) (by decide) rfl rfl (h _ _ (.inl rfl)) hs
  · exact item_tupleT (l := [_, _, _]) (j := 1) ht (by decide) (by decide) rfl rfl (h _ _ (.inr (.inl rfl))) hs
  · exact item_tupleT (l := [_, _, _]) (j := 2) ht (by decide) (by decide) rfl rfl (h _ _ (.inr (.inr rfl))) hs
theorem lights_spec {w : World} {A : Around} {s : Shared} {Q E : Value → Shared → Prop} {mg mb : Str → Option Value} {l : Addr} {items : Array Value}
   (S : Sees w mg mb s.heap) (R : Room A 2 16) (h8 : items.size ≤ 8)
   (HL : (hid s.heap).IsList l items) (HI : ∀ (i : Nat) (v : Value), items[i]? = some v → ∃ n t, v = Value.int n t)
   (ret : ∀ la es h' tk', Sees w mg mb h' → Stays (hid s.heap) (hid h') → (hid h').IsList la (es.map (·.1)).toArray → LEnts (hid h') es → es.length = 3 + items.size → Q (.ref la) {s with heap := h', toks := tk'}) :
   wpAny (model Challenge.rw_mj0062_01.row.prog w) A (call (.ref 49) [.ref l]) Q E s := by
  obtain ⟨X, T, ⟨ps, tab, tok⟩, BM⟩ := S
  obtain ⟨dep, uni, han⟩ := R
  obtain ⟨hdl, dp, fr, gd, un⟩ := A
  dsimp only at dep uni han
  subst han
  revert X; k_fill; intro X
  k_dflt (refine' enter (binds := [(Str.ofString "numbers", .ref l)]) ?X ?T ?tab ?k6 ?k7 ?k8 ?k9 ?kB ?_ ?c2 ?c3 ?c4 ?c5; (case X => assumption); (case T => assumption); (case tab => assumption); (case k6 => k_is); (case k7 => k_is); (case k8 => (show dp < recursionLimit; omega)); (case k9 => exact BindsTo.of_eq rfl);  (case c5 => decide); (case kB => exact locs rfl); (case c2 => exact rfl); (case c3 => exact rfl); (case c4 => exact rfl); k_whole; intro h' F' N'; (try dsimp only); (try k_fold))
  k_steps
  rename Fr _ _ _ _ => F0
  rename News _ _ _ _ => N0
  rename_i d1 hA1 l1 d2 hA2 l2 d3 hA3 l3 la0 hA4 l4 hC
  have hL23 : s.heap.objs.size ≠ 23 := Ne.symm (N0 _ (by k_mem : (23, tabObj ps) ∈ _)).2.1
  have hx0 := N0 _ (List.Mem.head _)
  refine for_list (g := s.heap) (L := s.heap.objs.size) rfl hL23 rfl rfl rfl rfl (by decide) F0 (N0.get (by k_mem : (23, tabObj ps) ∈ _)) tok rfl HL
    (fun i m' H gn => (∃ (u : Str → Option Value) (la : Addr) (es : List LEnt) (n : Nat), (m' = fun y => if y = Str.ofString "place" then u y else if y = Str.ofString "number" then u y else if y = Str.ofString "lights" then some (.ref la) else List.lookup y (List.reverse [(Str.ofString "numbers", Value.ref l)])) ∧
      H.get? la = some (W.listOf (es.map (·.1)).toArray n) ∧ la ≠ s.heap.objs.size ∧ la ≠ 23 ∧ (hid s.heap).get? la = none ∧ LEnts (hid H) es ∧ es.length = 3 + i) ∧ gn = s.gens) ?_ ?_ ?_ ?_
  · refine ⟨⟨fun y => if y = Str.ofString "lights" then some (Value.ref la0) else List.lookup y (List.reverse [(Str.ofString "numbers", Value.ref l)]), la0, [(.ref d1, ⟨15, 4, 1, Str.ofString "left"⟩), (.ref d2, ⟨2, 9, 14, Str.ofString "right"⟩), (.ref d3, ⟨7, 0, 12, Str.ofString "left"⟩)], 0, ?_, hx0.1, hx0.2.1, ?_, hx0.2.2, ?_, rfl⟩, rfl⟩
    · funext y
      by_cases h1 : y = Str.ofString "place"
      · rw [if_pos h1]
      · rw [if_neg h1]
        by_cases h1 : y = Str.ofString "number"
        · rw [if_pos h1]
        · rw [if_neg h1]
    · exact Nat.ne_of_gt l4.2.2.2
    · intro e he
      simp only [List.mem_cons, List.not_mem_nil, or_false] at he
      rcases he with rfl | rfl | rfl
      · exact ⟨⟨_, _, _, _, _, rfl, end_tup N0 (by k_mem) (by k_mem)⟩, ⟨by dsimp only; decide, by dsimp only; decide⟩, ⟨by dsimp only; decide, by dsimp only; decide⟩, ⟨by dsimp only; decide, by dsimp only; decide⟩, .inl rfl⟩
      · exact ⟨⟨_, _, _, _, _, rfl, end_tup N0 (by k_mem) (by k_mem)⟩, ⟨by dsimp only; decide, by dsimp only; decide⟩, ⟨by dsimp only; decide, by dsimp only; decide⟩, ⟨by dsimp only; decide, by dsimp only; decide⟩, .inr (.inr rfl)⟩
      · exact ⟨⟨_, _, _, _, _, rfl, end_tup N0 (by k_mem) (by k_mem)⟩, ⟨by dsimp only; decide, by dsimp only; decide⟩, ⟨by dsimp only; decide, by dsimp only; decide⟩, ⟨by dsimp only; decide, by dsimp only; decide⟩, .inl rfl⟩
  · rintro i m' H h gn it ⟨⟨u, la, es, n, hm, ha, b1, b2, b3, E1, hlen⟩, hG⟩ F _ hf up
    refine ⟨⟨u, la, es, n, hm, up _ _ ?_ b1 ha, b1, b2, b3, fun e he => ⟨(E1 e he).1.up F hf up, (E1 e he).2⟩, hlen⟩, hG⟩
    rintro rfl
    obtain ⟨vs, hv⟩ := hf _ ha
    cases hv
  · rintro i v m₁ h tk gn it io ps1 hv ⟨⟨u, la, es, n, rfl, ha, b1, b2, b3, E1, hlen⟩, rfl⟩ hf hit F N tok1
    obtain ⟨nn, tn, rfl⟩ := HI i v hv
    have hi : i < items.size := by
      rw [Array.getElem?_eq_some_iff] at hv
      exact hv.1
    have hne : la ≠ it := by
      rintro rfl
      obtain ⟨vs, hv⟩ := hf _ ha
      cases hv
    have hit := N _ (List.Mem.head _)
    have hio : (it, io) ∈ restNews (hid s.heap) s.heap.objs.size (hid h) la := mem_rest hit.2.1 hit.2.2 ((hid_get (by assumption)).trans hit.1) (Ne.symm hne)
    have N1 := rest_news hL23 (N.get (by k_mem : (23, tabObj ps1) ∈ _)) ha b1 b3
    have E1' : ∀ h3 m3 n3, Fr (hid s.heap) s.heap.objs.size h3 m3 → News (hid s.heap) s.heap.objs.size h3 n3 → (∀ p ∈ restNews (hid s.heap) s.heap.objs.size (hid h) la, p ∈ n3) → LEnts (hid h3) es := fun h3 m3 n3 F3 N3 hs => by
      have k := staysBut2 F3 F N3 hs
      exact fun e he => ⟨(E1 e he).1.keepsBut2 F ha k, (E1 e he).2⟩
    have hsz : (es.map (·.1)).toArray.size ≤ sizeLine := by rw [PySem.sizeLine_eq]; simp; omega
    clear N
    refine hideQ fun QQ toQ => ?_
    try k_fold
    k_steps
    have h3 : Int.fmod (Int.fdiv nn 4096) 3 = 0 ∨ Int.fmod (Int.fdiv nn 4096) 3 = 1 ∨ Int.fmod (Int.fdiv nn 4096) 3 = 2 := by
      have a := Int.fmod_nonneg_of_pos (Int.fdiv nn 4096) (b := 3) (by decide)
      have b := Int.fmod_lt_of_pos (Int.fdiv nn 4096) (b := 3) (by decide)
      omega
    rename News _ _ _ _ => N2
    k_dflt (refine' item_pick3 ?t h3 ?_ ?s; (case t => exact News.isTup N2 (List.Mem.head _)); (case s => with_unfolding_all rfl))
    intro pl tp hpl
    clear h3
    k_steps
    rename Fr _ _ _ _ => F3
    rename News _ _ _ _ => N3
    rename_i D0 _ lt0 _ D1 _ lt1
    refine append_K F3 N3 (Upd.tail (@Nat.ne_of_gt D1 la lt1.2.1) (Upd.tail (@Nat.ne_of_gt D0 la lt0.1) (Upd.head ?_))) ?_ hsz
    · intro p hp
      rcases List.mem_cons.mp hp with rfl | hp
      · exact Ne.symm b2
      · exact (of_rest hp).2.2.2
    intro h4 F4 N4
    refine wpAny_execs_nil ?_
    obtain ⟨u4, F5⟩ := fr_keep2 (a := Str.ofString "place") (b := Str.ofString "number") (m0 := fun y => if y = Str.ofString "lights" then some (.ref la) else List.lookup y (List.reverse [(Str.ofString "numbers", Value.ref l)])) F4 (fun y h1 h2 => by simp only [if_neg h1, if_neg h2])
    have LT : LightIs (hid h4) (.ref D1) ⟨Int.fmod nn 16, Int.fmod (Int.fdiv nn 16 + 9) 16, Int.fmod (Int.fdiv nn 256 + 4) 16, pl⟩ :=
      ⟨_, _, _, _, _, rfl, end_tup N4 (List.Mem.tail _ (List.Mem.tail _ (List.Mem.tail _ (List.Mem.head _)))) (List.Mem.head _)⟩
    refine toQ _ _ ⟨rfl, _, _, _, _, ps1, rfl, F5, news_sub N4 ?sub, tok1, ⟨⟨u4, la, es ++ [(.ref D1, ⟨Int.fmod nn 16, Int.fmod (Int.fdiv nn 16 + 9) 16, Int.fmod (Int.fdiv nn 256 + 4) 16, pl⟩)], n + 1, rfl, ?lst, b1, b2, b3, ?ents, ?len⟩, rfl⟩⟩
    case ents =>
      intro e he
      rcases List.mem_append.mp he with he | he
      · exact E1' _ _ _ F4 N4 (fun p hp => List.Mem.tail _ (List.Mem.tail _ (List.Mem.tail _ (List.Mem.tail _ hp)))) e he
      · rw [List.mem_singleton.mp he]
        exact ⟨LT, ⟨Int.fmod_nonneg_of_pos _ (by decide), Int.fmod_lt_of_pos _ (by decide)⟩, ⟨Int.fmod_nonneg_of_pos _ (by decide), Int.fmod_lt_of_pos _ (by decide)⟩, ⟨Int.fmod_nonneg_of_pos _ (by decide), Int.fmod_lt_of_pos _ (by decide)⟩, hpl⟩
    case len => simp; omega
    case lst => 
      have := N4.get (List.Mem.tail _ (List.Mem.tail _ (List.Mem.head _)))
      simpa using this
    case sub =>
      intro p hp
      rcases List.mem_cons.mp hp with rfl | hp
      · exact List.Mem.tail _ (List.Mem.tail _ (List.Mem.tail _ (List.Mem.tail _ hio)))
      · rw [List.mem_singleton.mp hp]; exact List.Mem.tail _ (List.Mem.tail _ (List.Mem.tail _ (List.Mem.head _)))
  · rintro m' h9 tk9 gn9 ps9 ⟨⟨u, la, es, n, rfl, ha, b1, b2, b3, E1, hlen⟩, rfl⟩ F N tok9
    dsimp only
    try k_fold
    k_steps
    show Q _ _
    exact ret la es h9 _ (end_sees F N (by k_mem) tok9 X T BM) (end_stays F) ⟨_, (hid_get b2).trans ha, rfl, _, rfl⟩ E1 hlen
end Mine
end
section
open PySem PySem.W PySem.Calls PyProof.Rows
open Sem (wp)
set_option maxRecDepth 100000
set_option maxHeartbeats 8000000
namespace Mine

section
variable {prog : Program} {w : World} {A : Around} {s : Shared} {g : Heap} {L : Addr} {m : Str → Option Value}

/-- as loop_walks, with objects that stay -/
theorem loop_walks2 {env : Env} {R : Result → Shared → Prop} {x : Str} {px : Pos} {body : List Stmt} {ps : Array Value} {it : Addr} {fp : List Addr} {n : Nat} {P : Nat → Value → Prop} {St : Nat → Heap → Prop}
    (W : Walks prog w A it fp [it] n P St) (kn : List (Addr × Obj)) (hkn : ∀ p ∈ kn, p.1 ≠ it) (hN : News (hid g) L s.heap kn)
    (hfl : ∀ i h, St i h → ∃ o vs, h.get? it = some o ∧ o.data = .fields vs) (hfp : ∀ b ∈ fp, b = it ∨ (∃ o, (hid g).get? b = some o) ∨ ∃ o, (b, o) ∈ kn)
    (hL : env.locals = L) (hitL : it ≠ L) (hit23 : it ≠ 23) (hgit : (hid g).get? it = none) (hkind : env.scope.kind = .function) (hx : env.kindOf x = some .local)
    (F : Fr (hid g) L s.heap m) (hL23 : L ≠ 23) (tab : s.heap.get? 23 = some (tabObj ps)) (tok : TabOk ps) (hst : St 0 s.heap)
    (J : Nat → (Str → Option Value) → Heap → Array GenState → Prop) (h0 : J 0 m s.heap s.gens)
    (Jst : ∀ i m H h gn, J i m H gn → Fr (hid g) L H m → FieldsAt H it → UpBut L it H h → J i m h gn)
    (step : ∀ i v m₁ h tk gn io ps, i < n → P i v → J i m₁ h gn → FieldsAt h it →
      Fr (hid g) L h (fun y => if y = x then some v else m₁ y) → News (hid g) L h ((it, io) :: (23, tabObj ps) :: kn) → TabOk ps →
      wpAny (model prog w) A (execs body env) (fun f s₂ => f = .next ∧ ∃ h' tk' gn' m₂ ps', s₂ = { s with heap := h', gens := gn', toks := tk' } ∧ Fr (hid g) L h' m₂ ∧ News (hid g) L h' ((it, io) :: (23, tabObj ps') :: kn) ∧ TabOk ps' ∧ J (i + 1) m₂ h' gn')
        (fun _ _ => False) { s with heap := h, gens := gn, toks := tk })
    (done : ∀ m' h' tk' gn' ps', J n m' h' gn' → Fr (hid g) L h' m' → News (hid g) L h' ((23, tabObj ps') :: kn) → TabOk ps' → R (.ok .next) { s with heap := h', gens := gn', toks := tk' }) :
    codeAny (model prog w) A (.forLoop (.Name x px) (.ref it) body [] env) R s := by
  subst hL
  have hp : (env.scope.kind == .class || (env.scope.kind == .module && env.locals != env.globals)) = false := by rw [hkind]; rfl
  have fl : ∀ h : Heap, (∃ o vs, h.get? it = some o ∧ o.data = .fields vs) → FieldsAt h it := fun h ⟨o, vs, ho, hd⟩ o' ho' => by rw [ho] at ho'; cases ho'; exact ⟨vs, hd⟩
  have near : ∀ {H h₁ : Heap} {m' : Str → Option Value}, Fr (hid g) env.locals H m' → (∀ b o, b ∉ [it] → H.get? b = some o → h₁.get? b = some o) → Fr (hid g) env.locals h₁ m' := fun F' hk => by
    obtain ⟨oL, es, ep, ho, r⟩ := F'.ns
    exact ⟨⟨oL, es, ep, hk _ _ (by simpa using Ne.symm hitL) ho, r⟩, fun b o e => hk b o (by simp; rintro rfl; rw [hgit] at e; cases e) (F'.keep b o e), F'.above⟩
  refine codeAny_forLoop_any
    (fun k s' => ∃ h' tk gn m' ps' i, s' = { s with heap := h', gens := gn, toks := tk } ∧ St i h' ∧ Fr (hid g) env.locals h' m' ∧ h'.get? 23 = some (tabObj ps') ∧ TabOk ps' ∧ News (hid g) env.locals h' kn ∧ J i m' h' gn ∧ i ≤ n ∧ k = n + 1 - i) ?_ (n + 1)
    ⟨s.heap, s.toks, s.gens, m, ps, 0, rfl, hst, F, tab, tok, hN, h0, Nat.zero_le _, rfl⟩
  rintro k s' ⟨H, tk, gn, m', ps', i, rfl, hst', F', tab', tok', hN', hJ, hi, rfl⟩
  by_cases hlt : i < n
  · refine W.item i _ _ _ hlt hst' fun v h₁ tk₁ hP hst₁ hk₁ => ?_
    refine wpAny_of_eq (rfl : letOwnedTupleGo (.Name x px) (.ref it) v = pure ()) ?_
    have F₁ := near F' hk₁
    refine wpAny_assign_Name (wpAny_storeName_local hx F₁.ns (fun h₂ hn₂ hs₂ => ?_) hp)
    replace hs₂ : Heap.SameBut env.locals h₁ h₂ := hs₂
    have F₂ : Fr (hid g) env.locals h₂ (fun y => if y = x then some v else m' y) := F₁.set hn₂ hs₂
    obtain ⟨io, vs, hio, hdio⟩ := hfl _ _ hst₁
    have up : UpBut env.locals it H h₂ := fun b o hb1 hb2 e => hs₂.extBut b o hb2 (hk₁ b o (by simpa using hb1) e)
    have hio₂ : h₂.get? it = some io := hs₂.extBut _ _ hitL hio
    have tab₂ : h₂.get? 23 = some (tabObj ps') := up _ _ (Ne.symm hit23) (Ne.symm hL23) tab'
    have N₂ : News (hid g) env.locals h₂ ((it, io) :: (23, tabObj ps') :: kn) := fun p hp => by
      rcases List.mem_cons.mp hp with rfl | hp
      · exact ⟨hio₂, hitL, hgit⟩
      rcases List.mem_cons.mp hp with rfl | hp
      · exact ⟨tab₂, Ne.symm hL23, hid_none _⟩
      · exact ⟨up _ _ (hkn p hp) (hN' p hp).2.1 (hN' p hp).1, (hN' p hp).2⟩
    refine wpAny_mono (step i v m' h₂ _ gn io ps' hlt hP (Jst i m' H h₂ gn hJ F' (fl H (hfl _ _ hst')) up) (fl h₂ ⟨io, vs, hio₂, hdio⟩) F₂ N₂ tok') (fun f s₃ h₃ => ?_) fun _ _ x => x.elim
    obtain ⟨rfl, h₃, tk₃, gn₃, m₃, ps₃, rfl, F₃, N₃, tok₃, hJ₃⟩ := h₃
    refine ⟨n + 1 - (i + 1), by omega, h₃, tk₃, gn₃, m₃, ps₃, i + 1, rfl, ?_, F₃, (N₃ _ (.tail _ (.head _))).1, tok₃, fun p hp => N₃ p (.tail _ (.tail _ hp)), hJ₃, hlt, rfl⟩
    refine W.frame _ _ _ hst₁ fun b hb o e => ?_
    rcases hfp b hb with rfl | ⟨ob, hob⟩ | ⟨ob, hob⟩
    · rw [hio] at e; cases e; exact (N₃ _ (.head _)).1
    · have := F₁.keep b ob hob
      rw [e] at this; cases this
      exact F₃.keep b o hob
    · have := hk₁ _ _ (by simpa using hkn _ hob) (hN' _ hob).1
      rw [e] at this; cases this
      exact (N₃ _ (.tail _ (.tail _ hob))).1
  · have hin : i = n := by omega
    subst hin
    refine W.done _ _ _ hst' fun h₁ tk₁ hk₁ => wpAny_execs_nil ?_
    have F₁ := near F' hk₁
    have up : UpBut env.locals it H h₁ := fun b o hb1 _ e => hk₁ b o (by simpa using hb1) e
    refine done m' h₁ tk₁ gn ps' (Jst i m' H h₁ gn hJ F' (fl H (hfl _ _ hst')) up) F₁ (fun p hp => ?_) tok'
    rcases List.mem_cons.mp hp with rfl | hp
    · exact ⟨hk₁ _ _ (by simpa using Ne.symm hit23) tab', Ne.symm hL23, hid_none _⟩
    · exact ⟨hk₁ _ _ (by simpa using hkn p hp) (hN' p hp).1, (hN' p hp).2⟩

/-- a for over a tuple of the frame's own -/
theorem loop_tuple {env : Env} {Q : Flow → Shared → Prop} {x : Str} {px : Pos} {body : List Stmt} {T : Addr} {items : Array Value} {ps : Array Value} {d : Option Addr} {n : Nat} {sl : Array (Option Value)} {E : Value → Shared → Prop}
    (kn : List (Addr × Obj)) (hT : (T, { cls := .type "tuple", dict := d, data := .seq items n, slots := sl }) ∈ kn) (hN : News (hid g) L s.heap kn)
    (hL : env.locals = L) (hL23 : L ≠ 23) (hh : A.handled = none) (hkind : env.scope.kind = .function) (hx : env.kindOf x = some .local)
    (F : Fr (hid g) L s.heap m) (tab : s.heap.get? 23 = some (tabObj ps)) (tok : TabOk ps)
    (J : Nat → (Str → Option Value) → Heap → Array GenState → Prop) (h0 : J 0 m s.heap s.gens)
    (Jst : ∀ i m H h gn it, J i m H gn → Fr (hid g) L H m → it ≠ 23 → FieldsAt H it → UpBut L it H h → J i m h gn)
    (step : ∀ i v m₁ h tk gn it io ps, items[i]? = some v → J i m₁ h gn → FieldsAt h it → it ≠ 23 → (∀ p ∈ kn, p.1 ≠ it) →
      Fr (hid g) L h (fun y => if y = x then some v else m₁ y) → News (hid g) L h ((it, io) :: (23, tabObj ps) :: kn) → TabOk ps →
      wpAny (model prog w) A (execs body env) (fun f s₂ => f = .next ∧ ∃ h' tk' gn' m₂ ps', s₂ = { s with heap := h', gens := gn', toks := tk' } ∧ Fr (hid g) L h' m₂ ∧ News (hid g) L h' ((it, io) :: (23, tabObj ps') :: kn) ∧ TabOk ps' ∧ J (i + 1) m₂ h' gn')
        (fun _ _ => False) { s with heap := h, gens := gn, toks := tk })
    (done : ∀ m' h' tk' gn' ps', J items.size m' h' gn' → Fr (hid g) L h' m' → News (hid g) L h' ((23, tabObj ps') :: kn) → TabOk ps' → Q .next { s with heap := h', gens := gn', toks := tk' }) :
    wpAny (model prog w) A (pyIter (.ref T)) (fun it s₂ => codeAny (model prog w) A (.forLoop (.Name x px) it body [] env) (fun r s' => match r with | .ok f => Q f s' | .error e => cameBackBy (model prog w) A env E e s') s₂) E s := by
  subst hL
  have zT := hN _ hT
  have ht : s.heap.IsTuple T items := ⟨_, zT.1, rfl, _, rfl⟩
  refine wpAny_pyIter_tuple ht ?_
  have hitL : s.heap.objs.size ≠ env.locals := Nat.ne_of_gt F.ns.lt
  have hit23 : s.heap.objs.size ≠ 23 := Nat.ne_of_gt (Heap.lt_size tab)
  have hgit : (hid g).get? s.heap.objs.size = none := next_is_new F
  have hkn : ∀ p ∈ kn, p.1 ≠ s.heap.objs.size := fun p hp => Nat.ne_of_lt (Heap.lt_size (hN p hp).1)
  have hne : T ≠ s.heap.objs.size := hkn _ hT
  have W := Walks.tuple (prog := prog) (w := w) hh s.heap.objs.size T hne items
  refine loop_walks2 (s := { s with heap := s.heap.push { cls := .type "tuple_iterator", data := .fields #[.ref T, .int 0 0] } }) W kn hkn (fun p hp => ⟨Heap.get?_push_of_some _ (hN p hp).1, (hN p hp).2⟩) (fun i h st => let ⟨o, ho, _, hd⟩ := st.1; ⟨o, _, ho, hd⟩) (fun b hb => ?_) rfl hitL hit23 hgit hkind hx (F.push _) hL23 (Heap.get?_push_of_some _ tab) tok
    ⟨⟨_, Heap.get?_push_size _ rfl, rfl, rfl⟩, ht.at fun o e => Heap.get?_push_of_some _ e⟩ J ?_ (fun i m H h gn hJ F' hf up => Jst i m H h gn _ hJ F' hit23 hf up) (fun i v m₁ h tk gn io ps _ hv hJ hf F' N' tok' => step i v m₁ h tk gn _ io ps hv hJ hf hit23 hkn F' N' tok') (fun m' h' tk' gn' ps' a b c d => done m' h' tk' gn' ps' a b c d)
  · rcases List.mem_cons.mp hb with rfl | hb
    · exact .inl rfl
    · rw [List.mem_singleton.mp hb]; exact .inr (.inr ⟨_, hT⟩)
  · refine Jst 0 m s.heap _ s.gens s.heap.objs.size h0 F hit23 ?_ fun b o _ _ e => Heap.get?_push_of_some _ e
    intro o' e'
    exact absurd (Heap.lt_size e') (Nat.lt_irrefl _)

/-- a for over range(3) -/
theorem loop_range3 {env : Env} {Q : Flow → Shared → Prop} {x : Str} {px : Pos} {body : List Stmt} {R : Addr} {ps : Array Value} {t0 t1 t2 : Tok} {E : Value → Shared → Prop}
    (kn : List (Addr × Obj)) (hR : IsRange s.heap R 0 3 1 t0 t1 t2) (hN : News (hid g) L s.heap kn)
    (hL : env.locals = L) (hL23 : L ≠ 23) (hh : A.handled = none) (hkind : env.scope.kind = .function) (hx : env.kindOf x = some .local)
    (F : Fr (hid g) L s.heap m) (tab : s.heap.get? 23 = some (tabObj ps)) (tok : TabOk ps)
    (J : Nat → (Str → Option Value) → Heap → Array GenState → Prop) (h0 : J 0 m s.heap s.gens)
    (Jst : ∀ i m H h gn it, J i m H gn → Fr (hid g) L H m → it ≠ 23 → FieldsAt H it → UpBut L it H h → J i m h gn)
    (step : ∀ i t m₁ h tk gn it io ps, i < 3 → J i m₁ h gn → FieldsAt h it → it ≠ 23 → (∀ p ∈ kn, p.1 ≠ it) →
      Fr (hid g) L h (fun y => if y = x then some (.int (i : Int) t) else m₁ y) → News (hid g) L h ((it, io) :: (23, tabObj ps) :: kn) → TabOk ps →
      wpAny (model prog w) A (execs body env) (fun f s₂ => f = .next ∧ ∃ h' tk' gn' m₂ ps', s₂ = { s with heap := h', gens := gn', toks := tk' } ∧ Fr (hid g) L h' m₂ ∧ News (hid g) L h' ((it, io) :: (23, tabObj ps') :: kn) ∧ TabOk ps' ∧ J (i + 1) m₂ h' gn')
        (fun _ _ => False) { s with heap := h, gens := gn, toks := tk })
    (done : ∀ m' h' tk' gn' ps', J 3 m' h' gn' → Fr (hid g) L h' m' → News (hid g) L h' ((23, tabObj ps') :: kn) → TabOk ps' → Q .next { s with heap := h', gens := gn', toks := tk' }) :
    wpAny (model prog w) A (pyIter (.ref R)) (fun it s₂ => codeAny (model prog w) A (.forLoop (.Name x px) it body [] env) (fun r s' => match r with | .ok f => Q f s' | .error e => cameBackBy (model prog w) A env E e s') s₂) E s := by
  subst hL
  refine wpAny_pyIter_range hR (by decide) ?_
  have hitL : s.heap.objs.size ≠ env.locals := Nat.ne_of_gt F.ns.lt
  have hit23 : s.heap.objs.size ≠ 23 := Nat.ne_of_gt (Heap.lt_size tab)
  have hgit : (hid g).get? s.heap.objs.size = none := next_is_new F
  have hkn : ∀ p ∈ kn, p.1 ≠ s.heap.objs.size := fun p hp => Nat.ne_of_lt (Heap.lt_size (hN p hp).1)
  have W := Walks.range (prog := prog) (w := w) hh s.heap.objs.size 0 1 3
  refine loop_walks2 (s := { s with heap := s.heap.push { cls := .type "range_iterator", data := .fields #[rawInt 0, rawInt (Builtin.Range.rangeSize 0 3 1), rawInt 1] } }) W kn hkn (fun p hp => ⟨Heap.get?_push_of_some _ (hN p hp).1, (hN p hp).2⟩) (fun i h st => ⟨_, _, st, rfl⟩) (fun b hb => .inl (List.mem_singleton.mp hb)) rfl hitL hit23 hgit hkind hx (F.push _) hL23 (Heap.get?_push_of_some _ tab) tok
    (Heap.get?_push_size _ rfl) J ?_ (fun i m H h gn hJ F' hf up => Jst i m H h gn _ hJ F' hit23 hf up) (fun i v m₁ h tk gn io ps hi hv hJ hf F' N' tok' => ?_) (fun m' h' tk' gn' ps' a b c d => done m' h' tk' gn' ps' a b c d)
  · refine Jst 0 m s.heap _ s.gens s.heap.objs.size h0 F hit23 ?_ fun b o _ _ e => Heap.get?_push_of_some _ e
    intro o' e'
    exact absurd (Heap.lt_size e') (Nat.lt_irrefl _)
  · obtain ⟨t, rfl⟩ := hv
    rw [Int.mul_one, Int.zero_add] at F'
    exact step i t m₁ h tk gn _ io ps hi hJ hf hit23 hkn F' N' tok'
end

end Mine
end
section
open PySem PySem.W PySem.Calls PyProof.Rows
set_option maxRecDepth 100000
set_option maxHeartbeats 8000000
set_option pp.fieldNotation false
namespace Mine

structure Row4 where
  r : Int
  g : Int
  b : Int
  n : Int
def tot (ls : List Light) : Row4 := ls.foldl (fun t l => ⟨t.r + l.r, t.g + l.g, t.b + l.b, t.n + 1⟩) ⟨0, 0, 0, 0⟩
def LineAt (h : Heap) (a : Addr) (t : Row4) : Prop := ∃ t0 t1 t2 t3 k, h.get? a = some (W.listOf #[.int t.r t0, .int t.g t1, .int t.b t2, .int t.n t3] k)
def LineIs (h : Heap) (a : Addr) (t : Row4) : Prop := ∃ t0 t1 t2 t3, h.IsList a #[.int t.r t0, .int t.g t1, .int t.b t2, .int t.n t3]
def LinesAt (h : Heap) (sa : Addr) (rows : List (Addr × Row4)) : Prop := h.IsList sa (rows.map fun a => Value.ref a.1).toArray ∧ ∀ e ∈ rows, LineIs h e.1 e.2
def totals (ls : List Light) : List Row4 := tot ls :: (places ls).map fun p => tot (atP p ls)
structure Led (g : Heap) (L : Addr) (H : Heap) (na sa : Addr) (rows : List (Str × Addr)) (f : Str → Row4) : Prop where
  names : ∃ vs n, H.get? na = some (W.listOf (List.toArray vs) n) ∧ StrsAre vs (rows.map (·.1))
  sums : ∃ n, H.get? sa = some (W.listOf (rows.map fun r => Value.ref r.2).toArray n)
  lines : ∀ r ∈ rows, LineAt H r.2 (f r.1)
  nodup : (na :: sa :: rows.map (·.2)).Nodup
  nodup1 : (rows.map (·.1)).Nodup
  fresh : ∀ a ∈ na :: sa :: rows.map (·.2), a ≠ L ∧ a ≠ 23 ∧ (hid g).get? a = none

@[irreducible] def restOf (h₀ : Heap) (L : Addr) (h : Heap) (xs : List Addr) : List (Addr × Obj) := (allNews h₀ L h).filter fun p => decide (p.1 ∉ xs)
theorem of_restOf {h₀ h : Heap} {L : Addr} {xs : List Addr} {p : Addr × Obj} (hp : p ∈ restOf h₀ L h xs) : p.1 ≠ L ∧ h₀.get? p.1 = none ∧ h.get? p.1 = some p.2 ∧ p.1 ∉ xs := by
  unfold restOf at hp
  obtain ⟨h1, h2⟩ := List.mem_filter.mp hp
  obtain ⟨a, b, c⟩ := of_mem_all h1
  exact ⟨a, b, c, by simpa using h2⟩
theorem mem_restOf {h₀ h : Heap} {L a : Addr} {xs : List Addr} {o : Obj} (h1 : a ≠ L) (h2 : h₀.get? a = none) (h3 : h.get? a = some o) (h4 : a ∉ xs) : (a, o) ∈ restOf h₀ L h xs := by
  unfold restOf
  exact List.mem_filter.mpr ⟨mem_all h1 h2 h3, by simpa using h4⟩
theorem restOf_news {g h : Heap} {L : Addr} {xs : List Addr} {ps : Array Value} (hL : L ≠ 23) (tab : h.get? 23 = some (tabObj ps)) : News (hid g) L h ((23, tabObj ps) :: restOf (hid g) L (hid h) xs) := by
  intro p hp
  rcases List.mem_cons.mp hp with rfl | hp
  · exact ⟨tab, Ne.symm hL, hid_none _⟩
  · obtain ⟨a, b, c, _⟩ := of_restOf hp
    exact ⟨of_hid c, a, b⟩
theorem news_cons {g h : Heap} {L a : Addr} {o : Obj} {news : List (Addr × Obj)} (N : News g L h news) (h1 : h.get? a = some o) (h2 : a ≠ L) (h3 : g.get? a = none) : News g L h ((a, o) :: news) := by
  intro p hp
  rcases List.mem_cons.mp hp with rfl | hp
  · exact ⟨h1, h2, h3⟩
  · exact N p hp
theorem staysOf {g h h' : Heap} {L : Addr} {xs : List Addr} {m m' : Str → Option Value} {news : List (Addr × Obj)} (F' : Fr (hid g) L h' m') (F : Fr (hid g) L h m) (N : News (hid g) L h' news) (hs : ∀ p ∈ restOf (hid g) L (hid h) xs, p ∈ news) : ∀ b o, b ≠ L → b ≠ 23 → b ∉ xs → h.get? b = some o → h'.get? b = some o := by
  intro b o hb h23 hb2 e
  cases q : (hid g).get? b with
  | none => exact (N _ (hs _ (mem_restOf hb q ((hid_get h23).trans e) hb2))).1
  | some o' => have := F.keep b o' q; rw [e] at this; cases this; exact F'.keep b o q

theorem Led.up {g : Heap} {L : Addr} {H h : Heap} {na sa it : Addr} {rows : List (Str × Addr)} {f : Str → Row4} (x : Led g L H na sa rows f) (hf : FieldsAt H it) (up : UpBut L it H h) : Led g L h na sa rows f := by
  have go : ∀ a its n, a ≠ L → H.get? a = some (W.listOf its n) → h.get? a = some (W.listOf its n) := fun a its n h1 e => up _ _ (by rintro rfl; obtain ⟨vs, hv⟩ := hf _ e; cases hv) h1 e
  obtain ⟨⟨vs, n, hn, hs⟩, ⟨n2, hsu⟩, hl, nd, nd1, fr⟩ := x
  refine ⟨⟨vs, n, go _ _ _ (fr _ (by simp)).1 hn, hs⟩, ⟨n2, go _ _ _ (fr _ (by simp)).1 hsu⟩, fun r hr => ?_, nd, nd1, fr⟩
  obtain ⟨t0, t1, t2, t3, k, e⟩ := hl r hr
  exact ⟨t0, t1, t2, t3, k, go _ _ _ (fr _ (by simp only [List.mem_cons]; exact .inr (.inr (List.mem_map.mpr ⟨r, hr, rfl⟩)))).1 e⟩

theorem keep4 {m₂ m0 : Str → Option Value} {a b c d : Str} (h : ∀ y, y ≠ a → y ≠ b → y ≠ c → y ≠ d → m₂ y = m0 y) : ∃ u : Str → Option Value, m₂ = fun y => if y = a then u y else if y = b then u y else if y = c then u y else if y = d then u y else m0 y :=
  ⟨m₂, funext fun y => by
    by_cases h1 : y = a
    · simp [h1]
    by_cases h2 : y = b
    · simp [h2]
    by_cases h3 : y = c
    · simp [h3]
    by_cases h4 : y = d
    · simp [h4]
    · simp only [if_neg h1, if_neg h2, if_neg h3, if_neg h4]; exact h y h1 h2 h3 h4⟩
theorem tot_snoc (ls : List Light) (l : Light) : tot (ls ++ [l]) = ⟨(tot ls).r + l.r, (tot ls).g + l.g, (tot ls).b + l.b, (tot ls).n + 1⟩ := by
  unfold tot; rw [List.foldl_append]; rfl
def totOf (ls : List Light) (x : Str) : Row4 := if x = Str.ofString "all" then tot ls else tot (atP x ls)

theorem allLt_mem {d : Nat} {l : List (Addr × Obj)} {p : Addr × Obj} (h : AllLt d l) (hp : p ∈ l) : @LT.lt Nat _ p.1 d := by
  induction l with
  | nil => cases hp
  | cons q r ih =>
    rcases List.mem_cons.mp hp with e | hp
    · rw [e]; exact h.1
    · exact ih h.2 hp

theorem Led.keep {g : Heap} {L : Addr} {H h : Heap} {na sa : Addr} {rows : List (Str × Addr)} {f : Str → Row4} (x : Led g L H na sa rows f) (k : ∀ b o, b ≠ L → b ≠ 23 → H.get? b = some o → h.get? b = some o) : Led g L h na sa rows f := by
  obtain ⟨⟨vs, n, hn, hs⟩, ⟨n2, hsu⟩, hl, nd, nd1, fr⟩ := x
  have f1 := fr na (by simp)
  have f2 := fr sa (by simp)
  refine ⟨⟨vs, n, k _ _ f1.1 f1.2.1 hn, hs⟩, ⟨n2, k _ _ f2.1 f2.2.1 hsu⟩, fun r hr => ?_, nd, nd1, fr⟩
  obtain ⟨t0, t1, t2, t3, kk, e⟩ := hl r hr
  have f3 := fr r.2 (List.Mem.tail _ (List.Mem.tail _ (List.mem_map.mpr ⟨r, hr, rfl⟩)))
  exact ⟨t0, t1, t2, t3, kk, k _ _ f3.1 f3.2.1 e⟩
theorem isStrOf_at {x y : Str} {t : Tok} (h : y ≠ x) : isStrOf x (.str y t) = false := by simp [isStrOf, h]
theorem str_index {prog : Program} {w : World} {A : Around} {E : Value → Shared → Prop} {s : Shared} {h₀ : Heap} {L D : Addr} {news : List (Addr × Obj)} {x : Str} {t : Tok} {its : Array Value} {ys : List Str} {n j : Nat} {Q : Value → Shared → Prop}
    (N : News h₀ L s.heap news) (hm : (D, W.listOf its n) ∈ news) (hi : StrsAre its.toList ys) (hj : ys[j]? = some x) (hf : ∀ i, i < j → ys[i]? ≠ some x) (hz : its.size ≤ 100)
    (h : Q (.int j s.toks) { s with toks := s.toks + 1 }) : wpAny (model prog w) A (call (.builtin "list.index") [.ref D, .str x t]) Q E s := by
  obtain ⟨tt, hv⟩ := hi.get j x hj
  have hlen := hi.len_eq
  obtain ⟨hj1, hj2⟩ := List.getElem?_eq_some_iff.mp hv
  have hs : its.toList.length = its.size := Array.length_toList
  have a1 : j < its.size := hs ▸ hj1
  have a2 : isStrOf x its[j] = true := by
    rw [← Array.getElem_toList, hj2]
    show (x == x) = true
    exact beq_self_eq_true x
  have a3 : ∀ i (hi' : i < its.size), i < j → isStrOf x its[i] = false := by
    intro i hi' hlt
    have hi1 : i < ys.length := by rw [← hlen, hs]; exact hi'
    obtain ⟨t2, hv2⟩ := hi.get i ys[i] (List.getElem?_eq_getElem hi1)
    obtain ⟨_, hv3⟩ := List.getElem?_eq_some_iff.mp hv2
    rw [← Array.getElem_toList, hv3]
    exact isStrOf_at fun hc => hf i hlt (by rw [List.getElem?_eq_getElem hi1, hc])
  have a4 : (j : Int) < 2 ^ 63 - 1 := by omega
  exact call_meets PySem.F.slot_list_index ⟨_, (N _ hm).1, rfl⟩ PySem.F.entry_list_index (PySem.F.args_list_index_2 _ _)
    (MeetsSeq.list_index D its n (.str x t) (isStrOf x) (fun y hy => eq_isStrOf x t hi y (by simpa using hy)) j a1 a4 a2 a3) ⟨(N _ hm).1, h⟩
def plus (t : Row4) (l : Light) : Row4 := ⟨t.r + l.r, t.g + l.g, t.b + l.b, t.n + 1⟩
def bump (l : Light) (f : Str → Row4) (x : Str) : Str → Row4 := fun y => if y = x then plus (f y) l else f y

def setF (f : Str → Row4) (x : Str) (t : Row4) : Str → Row4 := fun y => if y = x then t else f y
theorem setF_self (f : Str → Row4) (x : Str) : setF f x (f x) = f := by
  funext y; unfold setF; by_cases h : y = x
  · rw [if_pos h, h]
  · rw [if_neg h]
theorem setF_setF (f : Str → Row4) (x : Str) (t t' : Row4) : setF (setF f x t) x t' = setF f x t' := by
  funext y; unfold setF; by_cases h : y = x
  · rw [if_pos h, if_pos h]
  · rw [if_neg h, if_neg h, if_neg h]
theorem setF_at (f : Str → Row4) (x : Str) (t : Row4) : setF f x t x = t := by unfold setF; rw [if_pos rfl]
theorem bump_eq (l : Light) (f : Str → Row4) (x : Str) : bump l f x = setF f x (plus (f x) l) := by
  funext y; unfold setF bump; by_cases h : y = x
  · rw [if_pos h, if_pos h, h]
  · rw [if_neg h, if_neg h]
def partRow (l : Light) (t : Row4) : Nat → Row4
  | 0 => t
  | 1 => ⟨t.r + l.r, t.g, t.b, t.n⟩
  | 2 => ⟨t.r + l.r, t.g + l.g, t.b, t.n⟩
  | _ => ⟨t.r + l.r, t.g + l.g, t.b + l.b, t.n⟩
theorem nodup_fst {rows : List (Str × Addr)} (nd : (rows.map (·.2)).Nodup) {x : Str} {a : Addr} (h : (x, a) ∈ rows) {r : Str × Addr} (hr : r ∈ rows) (e : r.2 = a) : r.1 = x := by
  induction rows with
  | nil => cases h
  | cons q rs ih =>
    rw [List.map_cons, List.nodup_cons] at nd
    rcases List.mem_cons.mp h with h1 | h1 <;> rcases List.mem_cons.mp hr with h2 | h2
    · rw [h2, ← h1]
    · exact absurd (List.mem_map.mpr ⟨r, h2, by rw [e, ← h1]⟩) nd.1
    · exact absurd (List.mem_map.mpr ⟨(x, a), h1, by rw [← h2, e]⟩) nd.1
    · exact ih nd.2 h1 h2
theorem nodup_snd {rows : List (Str × Addr)} (nd : (rows.map (·.1)).Nodup) {x : Str} {a : Addr} (h : (x, a) ∈ rows) {r : Str × Addr} (hr : r ∈ rows) (e : r.1 = x) : r.2 = a := by
  induction rows with
  | nil => cases h
  | cons q rs ih =>
    rw [List.map_cons, List.nodup_cons] at nd
    rcases List.mem_cons.mp h with h1 | h1 <;> rcases List.mem_cons.mp hr with h2 | h2
    · rw [h2, ← h1]
    · exact absurd (List.mem_map.mpr ⟨r, h2, by rw [e, ← h1]⟩) nd.1
    · exact absurd (List.mem_map.mpr ⟨(x, a), h1, by rw [← h2, e]⟩) nd.1
    · exact ih nd.2 h1 h2
theorem Led.set {g : Heap} {L : Addr} {h h' : Heap} {na sa aj : Addr} {rows : List (Str × Addr)} {f : Str → Row4} {x : Str} {t : Row4} (E : Led g L h na sa rows f) (hj : (x, aj) ∈ rows) (k : ∀ b o, b ≠ L → b ≠ 23 → b ≠ aj → h.get? b = some o → h'.get? b = some o) (hl : LineAt h' aj t) : Led g L h' na sa rows (setF f x t) := by
  obtain ⟨⟨vs, n, hn, hs⟩, ⟨n2, hsu⟩, hli, nd, nd1, fr⟩ := E
  have f1 := fr na (by simp)
  have f2 := fr sa (by simp)
  have n1 := (List.nodup_cons.mp nd).1
  have n2' := (List.nodup_cons.mp (List.nodup_cons.mp nd).2)
  have mj : aj ∈ rows.map (·.2) := List.mem_map.mpr ⟨_, hj, rfl⟩
  refine ⟨⟨vs, n, k _ _ f1.1 f1.2.1 (fun e => n1 (List.Mem.tail _ (e ▸ mj))) hn, hs⟩, ⟨n2, k _ _ f2.1 f2.2.1 (fun e => n2'.1 (e ▸ mj)) hsu⟩, fun r hr => ?_, nd, nd1, fr⟩
  by_cases e : r.2 = aj
  · rw [nodup_fst n2'.2 hj hr e, setF_at, e]; exact hl
  · have e1 : r.1 ≠ x := by
      intro hx
      exact e (nodup_snd nd1 hj hr hx)
    unfold setF
    rw [if_neg e1]
    obtain ⟨t0, t1, t2, t3, kk, eq⟩ := hli r hr
    have f3 := fr r.2 (List.Mem.tail _ (List.Mem.tail _ (List.mem_map.mpr ⟨r, hr, rfl⟩)))
    exact ⟨t0, t1, t2, t3, kk, k _ _ f3.1 f3.2.1 e eq⟩
theorem totOf_snoc (ls : List Light) (l : Light) (h : l.p ≠ Str.ofString "all") : totOf (ls ++ [l]) = bump l (bump l (totOf ls) (Str.ofString "all")) l.p := by
  funext y
  unfold bump totOf
  by_cases h1 : y = Str.ofString "all"
  · subst h1
    simp only [if_neg (Ne.symm h), if_true]
    exact tot_snoc ls l
  · simp only [if_neg h1]
    rw [atP_append]
    by_cases h2 : y = l.p
    · subst h2
      simp only [if_true]
      have : atP l.p [l] = [l] := by simp [atP]
      rw [this]
      exact tot_snoc _ l
    · simp only [if_neg h2]
      have : atP y [l] = [] := by simp [atP, Ne.symm h2]
      rw [this, List.append_nil]
theorem fr_keep1 {g h : Heap} {L : Addr} {m₂ m0 : Str → Option Value} {a : Str} (F : Fr g L h m₂) (e : ∀ y, y ≠ a → m₂ y = m0 y) : ∃ u : Str → Option Value, Fr g L h (fun y => if y = a then u y else m0 y) := by
  obtain ⟨u, hu⟩ := keep1 e
  exact ⟨u, hu ▸ F⟩
theorem fr_keep3 {g h : Heap} {L : Addr} {m₂ m0 : Str → Option Value} {a b c : Str} (F : Fr g L h m₂) (e : ∀ y, y ≠ a → y ≠ b → y ≠ c → m₂ y = m0 y) : ∃ u : Str → Option Value, Fr g L h (fun y => if y = a then u y else if y = b then u y else if y = c then u y else m0 y) := by
  refine ⟨m₂, ?_⟩
  have : (fun y => if y = a then m₂ y else if y = b then m₂ y else if y = c then m₂ y else m0 y) = m₂ := by
    funext y
    by_cases h1 : y = a
    · rw [if_pos h1]
    by_cases h2 : y = b
    · rw [if_neg h1, if_pos h2]
    by_cases h3 : y = c
    · rw [if_neg h1, if_neg h2, if_pos h3]
    · rw [if_neg h1, if_neg h2, if_neg h3, e y h1 h2 h3]
  rw [this]; exact F
theorem fr_keep4 {g h : Heap} {L : Addr} {m₂ m0 : Str → Option Value} {a b c d : Str} (F : Fr g L h m₂) (e : ∀ y, y ≠ a → y ≠ b → y ≠ c → y ≠ d → m₂ y = m0 y) : ∃ u : Str → Option Value, Fr g L h (fun y => if y = a then u y else if y = b then u y else if y = c then u y else if y = d then u y else m0 y) := by
  obtain ⟨u, hu⟩ := keep4 e
  exact ⟨u, hu ▸ F⟩
local macro_rules | `(tactic| k_all) => `(tactic| assumption)
theorem ledger_spec {w : World} {A : Around} {s : Shared} {Q E : Value → Shared → Prop} {mg mb : Str → Option Value} {l : Addr} {es : List LEnt}
   (S : Sees w mg mb s.heap) (R : Room A 2 16) (h11 : es.length ≤ 11)
   (HL : (hid s.heap).IsList l (es.map (·.1)).toArray) (HE : LEnts (hid s.heap) es)
   (ret : ∀ r na sa (vs : Array Value) (rows : List (Addr × Row4)) h' tk', Sees w mg mb h' → Stays (hid s.heap) (hid h') → IsTup (hid h') r #[.ref na, .ref sa] → (hid h').IsList na vs → StrsAre vs.toList (places (es.map (·.2))) → LinesAt (hid h') sa rows → rows.map (·.2) = totals (es.map (·.2)) →
      Q (.ref r) {s with heap := h', toks := tk'}) :
   wpAny (model Challenge.rw_mj0062_01.row.prog w) A (call (.ref 91) [.ref l]) Q E s := by
  obtain ⟨X, T, ⟨ps, tab, tok⟩, BM⟩ := S
  obtain ⟨dep, uni, han⟩ := R
  obtain ⟨hdl, dp, fr, gd, un⟩ := A
  dsimp only at dep uni han
  subst han
  revert X; k_fill; intro X
  k_dflt (refine' enter (binds := [(Str.ofString "lights", .ref l)]) ?X ?T ?tab ?k6 ?k7 ?k8 ?k9 ?kB ?_ ?c2 ?c3 ?c4 ?c5; (case X => assumption); (case T => assumption); (case tab => assumption); (case k6 => k_is); (case k7 => k_is); (case k8 => (show dp < recursionLimit; omega)); (case k9 => exact BindsTo.of_eq rfl);  (case c5 => decide); (case kB => exact locs rfl); (case c2 => exact rfl); (case c3 => exact rfl); (case c4 => exact rfl); k_whole; intro h' F' N'; (try dsimp only); (try k_fold))
  k_steps
  rename Fr _ _ _ _ => F0
  rename News _ _ _ _ => N0
  rename_i na0 hA1 l1 hA2 ta0 li0 hA3 l2 sa0 hA4 l3 hC
  have hL23 : s.heap.objs.size ≠ 23 := Ne.symm (N0 _ (by k_mem : (23, tabObj ps) ∈ _)).2.1
  refine for_list (g := s.heap) (L := s.heap.objs.size) rfl hL23 rfl rfl rfl rfl (by decide) F0 (N0.get (by k_mem : (23, tabObj ps) ∈ _)) tok rfl HL
    (fun i m' H gn => (∃ (u : Str → Option Value) (na sa : Addr) (rows : List (Str × Addr)), (m' = fun y => if y = Str.ofString "light" then u y else if y = Str.ofString "name" then u y else if y = Str.ofString "line" then u y else if y = Str.ofString "column" then u y else if y = Str.ofString "sums" then some (.ref sa) else if y = Str.ofString "names" then some (.ref na) else List.lookup y (List.reverse [(Str.ofString "lights", Value.ref l)])) ∧
      Led s.heap s.heap.objs.size H na sa rows (totOf ((es.take i).map (·.2))) ∧ rows.map (·.1) = Str.ofString "all" :: places ((es.take i).map (·.2))) ∧ gn = s.gens) ?_ ?_ ?_ ?_
  · have x1 := N0 _ (List.Mem.head _)
    have x2 := N0 _ (List.Mem.tail _ (List.Mem.head _))
    have x3 := N0 _ (List.Mem.tail _ (List.Mem.tail _ (List.Mem.head _)))
    refine ⟨⟨fun y => if y = Str.ofString "sums" then some (Value.ref sa0) else if y = Str.ofString "names" then some (Value.ref na0) else List.lookup y (List.reverse [(Str.ofString "lights", Value.ref l)]), na0, sa0, [(Str.ofString "all", li0)], ?_, ⟨⟨_, _, x3.1, .cons _ _ .nil⟩, ⟨_, x1.1⟩, ?_, ?_, by simp, ?_⟩, rfl⟩, rfl⟩
    · funext y
      by_cases h1 : y = Str.ofString "light"
      · rw [if_pos h1]
      rw [if_neg h1]
      by_cases h1 : y = Str.ofString "name"
      · rw [if_pos h1]
      rw [if_neg h1]
      by_cases h1 : y = Str.ofString "line"
      · rw [if_pos h1]
      rw [if_neg h1]
      by_cases h1 : y = Str.ofString "column"
      · rw [if_pos h1]
      rw [if_neg h1]
    · intro r hr
      rw [List.mem_singleton.mp hr]
      exact ⟨_, _, _, _, _, x2.1⟩
    · have q1 : na0 ≠ sa0 := @Nat.ne_of_lt na0 sa0 l3.2.1
      have q2 : na0 ≠ li0 := @Nat.ne_of_lt na0 li0 l2.1
      have q3 : sa0 ≠ li0 := @Nat.ne_of_gt sa0 li0 l3.1
      simp [q1, q2, q3]
    · intro a ha
      simp only [List.map_cons, List.map_nil, List.mem_cons, List.not_mem_nil, or_false] at ha
      rcases ha with rfl | rfl | rfl
      · exact ⟨x3.2.1, @Nat.ne_of_gt _ 23 l1, x3.2.2⟩
      · exact ⟨x1.2.1, @Nat.ne_of_gt _ 23 l3.2.2, x1.2.2⟩
      · exact ⟨x2.2.1, @Nat.ne_of_gt _ 23 l2.2, x2.2.2⟩
  · rintro i m' H h gn it ⟨⟨u, na, sa, rows, hm, E1, hr⟩, hG⟩ F _ hf up
    exact ⟨⟨u, na, sa, rows, hm, E1.up hf up, hr⟩, hG⟩
  · intro i v m₁ h tk gn it io ps1 hv hJ hf hit F N tok1
    refine hideP fun G toG => ?_
    obtain ⟨⟨u, na, sa, rows, rfl, E1, hrow⟩, rfl⟩ := hJ
    have hv' : (es.map (·.1))[i]? = some v := by simpa using hv
    obtain ⟨e, he, rfl⟩ : ∃ e, es[i]? = some e ∧ e.1 = v := by
      rw [List.getElem?_map] at hv'
      exact Option.map_eq_some_iff.mp hv'
    have hi : i < es.length := (List.getElem?_eq_some_iff.mp he).1
    obtain ⟨⟨la, t0, t1, t2, t3, e1, HT⟩, LG⟩ := HE e (List.mem_of_getElem? he)
    rw [e1] at F
    have hnall : e.2.p ≠ Str.ofString "all" := by
      rcases LG.2.2.2 with h | h | h <;> rw [h] <;> decide
    have htk : (es.take (i + 1)).map (·.2) = (es.take i).map (·.2) ++ [e.2] := by
      rw [List.take_add_one, he, List.map_append]; rfl
    have hio0 := (N _ (List.Mem.head _)).1
    refine toG ?_
    clear toG
    refine hideQ fun QQ toQ => ?_
    refine wpAny_execs_cons ?_
    refine wpAny_mono (E := fun _ _ => False) (Q := fun f s' => f = .next ∧ ∃ h2 tk2 rows2, s' = {s with heap := h2, toks := tk2} ∧ Fr (hid s.heap) s.heap.objs.size h2 (fun y => if y = Str.ofString "light" then some (.ref la) else if y = Str.ofString "light" then u y else if y = Str.ofString "name" then u y else if y = Str.ofString "line" then u y else if y = Str.ofString "column" then u y else if y = Str.ofString "sums" then some (.ref sa) else if y = Str.ofString "names" then some (.ref na) else List.lookup y (List.reverse [(Str.ofString "lights", Value.ref l)])) ∧
      Led s.heap s.heap.objs.size h2 na sa rows2 (totOf ((es.take i).map (·.2))) ∧ rows2.map (·.1) = Str.ofString "all" :: places ((es.take (i + 1)).map (·.2)) ∧ e.2.p ∈ rows2.map (·.1) ∧ News (hid s.heap) s.heap.objs.size h2 [(it, io), (23, tabObj ps1)]) ?_ ?_ (fun _ _ (x : False) => x.elim)
    · refine hideQ fun QQ toQ => ?_
      have hitn := N _ (List.Mem.head _)
      obtain ⟨⟨vs, nn, hna, hvs⟩, ⟨sn, hsa⟩, hli, nd, nd1, fre⟩ := id E1
      have fna := fre na (by simp)
      have fsa := fre sa (by simp)
      have hrn : ∀ r ∈ rows, r.2 ∉ [na, sa] := by
        intro r hr hc
        have h1 := (List.nodup_cons.mp nd).1
        have h2 := (List.nodup_cons.mp (List.nodup_cons.mp nd).2).1
        simp only [List.mem_cons, List.not_mem_nil, or_false] at hc
        rcases hc with h | h
        · exact h1 (List.Mem.tail _ (h ▸ List.mem_map.mpr ⟨r, hr, rfl⟩))
        · exact h2 (h ▸ List.mem_map.mpr ⟨r, hr, rfl⟩)
      have nie : ∀ a its n, h.get? a = some (W.listOf its n) → it ≠ a := fun a its n e => by rintro rfl; obtain ⟨vs, hv⟩ := hf _ e; cases hv
      have hio : (it, io) ∈ restOf (hid s.heap) s.heap.objs.size (hid h) [na, sa] := mem_restOf hitn.2.1 hitn.2.2 ((hid_get hit).trans hitn.1) (by
        simp only [List.mem_cons, List.not_mem_nil, or_false, not_or]; exact ⟨nie _ _ _ hna, nie _ _ _ hsa⟩)
      have N1 := news_cons (news_cons (restOf_news (xs := [na, sa]) hL23 (N.get (by k_mem : (23, tabObj ps1) ∈ _))) hsa fsa.1 fsa.2.2) hna fna.1 fna.2.2
      have KS : ∀ h3 m3 n3, Fr (hid s.heap) s.heap.objs.size h3 m3 → News (hid s.heap) s.heap.objs.size h3 n3 → (∀ p ∈ restOf (hid s.heap) s.heap.objs.size (hid h) [na, sa], p ∈ n3) → ∀ b o, b ≠ s.heap.objs.size → b ≠ 23 → b ∉ [na, sa] → h.get? b = some o → h3.get? b = some o := fun h3 m3 n3 F3 N3 hs b o h1 h2 h4 e => staysOf F3 F N3 hs b o h1 h2 h4 e
      clear N
      try k_fold
      k_steps
      · rename Fr _ _ _ _ => F3
        rename News _ _ _ _ => N3
        rename List.any _ _ = true => hin
        show QQ _ _
        have hpin : e.2.p ∈ rows.map (·.1) := by simpa using hin
        refine toQ _ _ ⟨rfl, _, _, rows, rfl, F3, E1, ?_, hpin, news_sub N3 ?_⟩
        · rw [htk, places_snoc, addP_mem, hrow]
          rw [hrow] at hpin
          exact (List.mem_cons.mp hpin).resolve_left hnall
        · intro p hp
          rcases List.mem_cons.mp hp with rfl | hp
          · exact List.Mem.tail _ (List.Mem.tail _ (List.Mem.tail _ hio))
          · rw [List.mem_singleton.mp hp]; exact List.Mem.tail _ (List.Mem.tail _ (List.Mem.head _))
      · rename Fr _ _ _ _ => F3
        rename News _ _ _ _ => N3
        rename List.any _ _ = false => hin
        have hnas : na ≠ sa := by
          have := (List.nodup_cons.mp nd).1
          simp only [List.mem_cons, not_or] at this
          exact this.1
        have hpin : e.2.p ∉ rows.map (·.1) := by
          intro hc
          have : (List.map (fun x => x.1) rows).any (fun x => x == e.2.p) = true := by
            rw [List.any_eq_true]; exact ⟨_, hc, by simp⟩
          rw [this] at hin; cases hin
        have hrl : rows.length ≤ 12 := by
          have a1 : (rows.map (·.1)).length = rows.length := List.length_map ..
          rw [hrow, List.length_cons] at a1
          have := places_len ((es.take i).map (·.2))
          rw [List.length_map, List.length_take] at this
          omega
        have hvl : vs.length = rows.length := by
          have := StrsAre.length hvs
          rw [List.length_map] at this
          exact this
        refine append_K F3 N3 (Upd.head ?_) ?_ (by rw [PySem.sizeLine_eq]; simp; omega)
        · intro p hp
          rcases List.mem_cons.mp hp with rfl | hp
          · exact Ne.symm hnas
          rcases List.mem_cons.mp hp with rfl | hp
          · exact Ne.symm fna.2.1
          · have := (of_restOf hp).2.2.2
            simp only [List.mem_cons, not_or] at this
            exact this.1
        intro h4 F4 N4
        clear F3 N3
        try k_fold
        k_steps
        rename Fr _ _ _ _ => F5
        rename News _ _ _ _ => N5
        rename_i D0 _ lt0
        refine append_K F5 N5 (Upd.tail (@Nat.ne_of_gt D0 sa lt0.2.1) (Upd.tail hnas (Upd.head ?_))) ?_ (by rw [PySem.sizeLine_eq]; simp; omega)
        · intro p hp
          rcases List.mem_cons.mp hp with rfl | hp
          · exact Ne.symm fsa.2.1
          · have := (of_restOf hp).2.2.2
            simp only [List.mem_cons, not_or] at this
            exact this.2.1
        intro h6 F6 N6
        clear F5 N5
        try k_fold
        k_steps
        rename Fr _ _ _ _ => F7
        rename News _ _ _ _ => N7
        show QQ _ _
        have zD := N7 _ (List.Mem.head _)
        refine toQ _ _ ⟨rfl, _, _, rows ++ [(e.2.p, D0)], rfl, F7, ⟨⟨vs ++ [.str e.2.p t3], nn + 1, ?e1, ?e2⟩, ⟨sn + 1, ?e3⟩, ?e4, ?e5, ?e6, ?e7⟩, ?_, by simp, news_sub N7 ?_⟩
        case e1 =>
          have := N7.get (List.Mem.tail _ (List.Mem.head _))
          rw [List.push_toArray] at this
          exact this
        case e2 =>
          rw [List.map_append]
          exact StrsAre.append' hvs (.cons _ _ .nil)
        case e3 =>
          have := N7.get (List.Mem.tail _ (List.Mem.tail _ (List.Mem.head _)))
          rw [List.push_toArray] at this
          rw [List.map_append]
          exact this
        case e4 =>
          intro r hr
          rcases List.mem_append.mp hr with hr | hr
          · obtain ⟨x0, x1, x2, x3, k, e⟩ := hli r hr
            have fr := fre r.2 (List.Mem.tail _ (List.Mem.tail _ (List.mem_map.mpr ⟨r, hr, rfl⟩)))
            refine ⟨x0, x1, x2, x3, k, KS _ _ _ F7 N7 (fun p hp => List.Mem.tail _ (List.Mem.tail _ (List.Mem.tail _ (List.Mem.tail _ hp)))) r.2 _ fr.1 fr.2.1 (hrn r hr) e⟩
          · rw [List.mem_singleton.mp hr]
            have hz : totOf ((es.take i).map (·.2)) e.2.p = ⟨0, 0, 0, 0⟩ := by
              unfold totOf
              rw [if_neg hnall, atP_nil]
              · rfl
              · rw [hrow] at hpin
                exact fun h => hpin (List.Mem.tail _ h)
            show LineAt _ D0 (totOf _ e.2.p)
            rw [hz]
            exact ⟨_, _, _, _, _, zD.1⟩
        case e5 =>
          rw [List.map_append, ← List.cons_append, ← List.cons_append]
          refine List.nodup_append.mpr ⟨nd, by simp, ?_⟩
          intro a ha b hb
          rw [List.mem_singleton.mp hb]
          intro hab
          rcases List.mem_cons.mp ha with h | ha
          · exact absurd (hab.symm.trans h) (@Nat.ne_of_gt D0 na lt0.1)
          rcases List.mem_cons.mp ha with h | ha
          · exact absurd (hab.symm.trans h) (@Nat.ne_of_gt D0 sa lt0.2.1)
          obtain ⟨r, hr, he⟩ := List.mem_map.mp ha
          obtain ⟨x0, x1, x2, x3, k, e⟩ := hli r hr
          have fr := fre r.2 (List.Mem.tail _ (List.Mem.tail _ (List.mem_map.mpr ⟨r, hr, rfl⟩)))
          have := allLt_mem lt0.2.2.2 (mem_restOf fr.1 fr.2.2 ((hid_get fr.2.1).trans e) (hrn r hr))
          exact absurd (he.trans hab) (Nat.ne_of_lt this)
        case e6 =>
          rw [List.map_append]
          refine List.nodup_append.mpr ⟨nd1, by simp, ?_⟩
          intro a ha b hb
          rw [List.mem_singleton.mp hb]
          rintro rfl
          exact hpin ha
        case e7 =>
          intro a ha
          rw [List.map_append, ← List.cons_append, ← List.cons_append] at ha
          rcases List.mem_append.mp ha with ha | ha
          · exact fre a ha
          · rw [List.mem_singleton.mp ha]
            exact ⟨zD.2.1, @Nat.ne_of_gt D0 23 lt0.2.2.1, zD.2.2⟩
        · rw [htk, places_snoc, addP_new, List.map_append, hrow]
          · rfl
          · rw [hrow] at hpin
            exact fun h => hpin (List.Mem.tail _ h)
        · intro p hp
          rcases List.mem_cons.mp hp with rfl | hp
          · exact List.Mem.tail _ (List.Mem.tail _ (List.Mem.tail _ (List.Mem.tail _ hio)))
          · rw [List.mem_singleton.mp hp]; exact List.Mem.tail _ (List.Mem.tail _ (List.Mem.tail _ (List.Mem.head _)))
    · rintro f s' ⟨rfl, h2, tk2, rows2, rfl, F2, E2, hrow2, hpin, N2⟩
      dsimp only
      have N2' := restOf_news (xs := []) (g := s.heap) hL23 (N2.get (by k_mem : (23, tabObj ps1) ∈ _))
      have hio := N2 _ (List.Mem.head _)
      have hio2 : (it, io) ∈ restOf (hid s.heap) s.heap.objs.size (hid h2) [] := mem_restOf hio.2.1 hio.2.2 ((hid_get hit).trans hio.1) (by simp)
      clear N2
      have KK : ∀ h3 m3 n3, Fr (hid s.heap) s.heap.objs.size h3 m3 → News (hid s.heap) s.heap.objs.size h3 n3 → (∀ p ∈ restOf (hid s.heap) s.heap.objs.size (hid h2) [], p ∈ n3) → Led s.heap s.heap.objs.size h3 na sa rows2 (totOf ((es.take i).map (·.2))) := fun h3 m3 n3 F3 N3 hs => E2.keep (fun b o h1 h2 e => staysOf F3 F2 N3 hs b o h1 h2 (by simp) e)
      refine wpAny_execs_cons ?_
      refine wpAny_For ?_ (by intro _; rfl)
      refine hideQ fun QE toE => ?_
      try k_fold
      k_steps
      rename Fr _ _ _ _ => F5
      rename News _ _ _ _ => N5
      rename_i T0 h5 lt5
      show QE _ _
      refine toE _ _ ?_
      have E5 := KK _ _ _ F5 N5 (fun p hp => List.Mem.tail _ (List.Mem.tail _ hp))
      clear KK
      refine loop_tuple (g := s.heap) (L := s.heap.objs.size) [(T0, { cls := Value.type "tuple", data := Data.seq #[Value.str (Str.ofString "all") tk2, Value.str e.2.p t3] }), (it, io)] (List.Mem.head _) (news_sub N5 ?nsub) rfl hL23 rfl rfl rfl F5 (N5.get (by k_mem : (23, tabObj ps1) ∈ _)) tok1
        (fun k m' H gn => (∃ u' : Str → Option Value, (m' = fun y => if y = Str.ofString "name" then u' y else if y = Str.ofString "line" then u' y else if y = Str.ofString "column" then u' y else if y = Str.ofString "light" then some (.ref la) else if y = Str.ofString "sums" then some (.ref sa) else if y = Str.ofString "names" then some (.ref na) else List.lookup y (List.reverse [(Str.ofString "lights", Value.ref l)])) ∧
          Led s.heap s.heap.objs.size H na sa rows2 (([Str.ofString "all", e.2.p].take k).foldl (bump e.2) (totOf ((es.take i).map (·.2))))) ∧ gn = s.gens) ?h0 ?jst ?step ?done
      case nsub =>
        intro p hp
        rcases List.mem_cons.mp hp with rfl | hp
        · exact List.Mem.head _
        · rw [List.mem_singleton.mp hp]; exact List.Mem.tail _ (List.Mem.tail _ hio2)
      case h0 =>
        refine ⟨⟨u, ?_, E5⟩, rfl⟩
        funext y
        by_cases h1 : y = Str.ofString "name"
        · subst h1; exact rfl
        by_cases h2 : y = Str.ofString "line"
        · subst h2; exact rfl
        by_cases h3 : y = Str.ofString "column"
        · subst h3; exact rfl
        simp only [if_neg h1, if_neg h2, if_neg h3]
        split <;> rfl
      case jst =>
        rintro i m' H h gn it ⟨⟨u, hm, E1⟩, hG⟩ F _ hf up
        exact ⟨⟨u, hm, E1.up hf up⟩, hG⟩
      case done =>
        rintro m' hx tkx gnx psx ⟨⟨u', rfl, EX⟩, rfl⟩ FX NX tokx
        dsimp only
        refine wpAny_execs_nil ?_
        obtain ⟨u3, F4⟩ := fr_keep4 (a := Str.ofString "light") (b := Str.ofString "name") (c := Str.ofString "line") (d := Str.ofString "column") (m0 := fun y => if y = Str.ofString "sums" then some (.ref sa) else if y = Str.ofString "names" then some (.ref na) else List.lookup y (List.reverse [(Str.ofString "lights", Value.ref l)])) FX (fun y h1 h2 h3 h4 => by simp only [if_neg h1, if_neg h2, if_neg h3, if_neg h4])
        refine toQ _ _ ⟨rfl, _, _, _, _, psx, rfl, F4, news_sub NX ?_, tokx, ⟨⟨u3, na, sa, rows2, rfl, ?_, hrow2⟩, rfl⟩⟩
        · intro p hp
          simp only [List.mem_cons, List.not_mem_nil, or_false] at hp
          rcases hp with rfl | rfl
          · exact List.Mem.tail _ (List.Mem.tail _ (List.Mem.head _))
          · exact List.Mem.head _
        · rw [htk, totOf_snoc _ _ hnall]
          exact EX
      case step =>
        rintro k v m₁ h tk gn it2 io2 ps2 hv ⟨⟨u', rfl, E6⟩, rfl⟩ hf2 hit2 hkn F6 N6 tok2
        obtain ⟨x, tx, rfl, hx, hbump⟩ : ∃ x tx, v = .str x tx ∧ x ∈ rows2.map (·.1) ∧ (([Str.ofString "all", e.2.p].take (k + 1)).foldl (bump e.2) (totOf ((es.take i).map (·.2)))) = bump e.2 (([Str.ofString "all", e.2.p].take k).foldl (bump e.2) (totOf ((es.take i).map (·.2)))) x := by
          match k, hv with
          | 0, hv => 
            cases hv
            exact ⟨_, _, rfl, by rw [hrow2]; exact List.Mem.head _, rfl⟩
          | 1, hv =>
            cases hv
            exact ⟨_, _, rfl, hpin, rfl⟩
          | k + 2, hv => simp at hv
        rw [hbump]
        generalize (([Str.ofString "all", e.2.p].take k).foldl (bump e.2) (totOf ((es.take i).map (·.2)))) = f0 at E6
        obtain ⟨j, aj, hj⟩ : ∃ (j : Nat) (aj : Addr), rows2[j]? = some (x, aj) := by
          obtain ⟨r, hr, rfl⟩ := List.mem_map.mp hx
          obtain ⟨j, hj⟩ := List.getElem?_of_mem hr
          exact ⟨j, r.2, hj⟩
        have hjm := List.mem_of_getElem? hj
        obtain ⟨⟨vs, nn, hna, hvs⟩, ⟨sn, hsa⟩, hli, nd, nd1, fre⟩ := id E6
        have fna := fre na (by simp)
        have fsa := fre sa (by simp)
        have faj := fre aj (List.Mem.tail _ (List.Mem.tail _ (List.mem_map.mpr ⟨_, hjm, rfl⟩)))
        obtain ⟨x0, x1, x2, x3, kj, haj⟩ := hli _ hjm
        have z1 := N6 _ (List.Mem.head _)
        have z2 := N6 _ (List.Mem.tail _ (List.Mem.tail _ (List.Mem.head _)))
        have z3 := N6 _ (List.Mem.tail _ (List.Mem.tail _ (List.Mem.tail _ (List.Mem.head _))))
        have m1 : (it2, io2) ∈ restOf (hid s.heap) s.heap.objs.size (hid h) [] := mem_restOf z1.2.1 z1.2.2 ((hid_get hit2).trans z1.1) (by simp)
        have m2 : (T0, { cls := Value.type "tuple", data := Data.seq #[Value.str (Str.ofString "all") tk2, Value.str e.2.p t3] }) ∈ restOf (hid s.heap) s.heap.objs.size (hid h) [] := mem_restOf z2.2.1 z2.2.2 ((hid_get (@Nat.ne_of_gt T0 23 lt5.1)).trans z2.1) (by simp)
        have m3 : (it, io) ∈ restOf (hid s.heap) s.heap.objs.size (hid h) [] := mem_restOf z3.2.1 z3.2.2 ((hid_get hit).trans z3.1) (by simp)
        have N7 := news_cons (news_cons (restOf_news (xs := []) hL23 (N6.get (by k_mem : (23, tabObj ps2) ∈ _))) hsa fsa.1 fsa.2.2) hna fna.1 fna.2.2
        have KK : ∀ h3 m3 n3, Fr (hid s.heap) s.heap.objs.size h3 m3 → News (hid s.heap) s.heap.objs.size h3 n3 → (∀ p ∈ restOf (hid s.heap) s.heap.objs.size (hid h) [], p ∈ n3) → Led s.heap s.heap.objs.size h3 na sa rows2 f0 := fun h3 m3 n3 F3 N3 hs => E6.keep (fun b o h1 h2 e => staysOf F3 F6 N3 hs b o h1 h2 (by simp) e)
        clear N6
        refine hideQ fun QQ toQ => ?_
        refine wpAny_execs_cons ?_
        refine hideQ fun QA toA => ?_
        try k_fold
        k_steps
        have hjl : j < rows2.length := (List.getElem?_eq_some_iff.mp hj).1
        have hrl : rows2.length ≤ 12 := by
          have a1 : (rows2.map (·.1)).length = rows2.length := List.length_map ..
          rw [hrow2, List.length_cons] at a1
          have := places_len ((es.take (i + 1)).map (·.2))
          rw [List.length_map, List.length_take] at this
          omega
        have hvl : vs.length = rows2.length := by
          have := StrsAre.length hvs
          rw [List.length_map] at this
          exact this
        have hys : (rows2.map (·.1))[j]? = some x := by rw [List.getElem?_map, hj]; rfl
        have hfirst : ∀ q, q < j → (rows2.map (·.1))[q]? ≠ some x := by
          intro q hq hc
          have hql : q < (rows2.map (·.1)).length := (List.getElem?_eq_some_iff.mp hc).1
          have := (List.getElem?_inj hql nd1).mp (hc.trans hys.symm)
          omega
        refine str_index N7 (List.Mem.head _) hvs hys hfirst (by simp; omega) ?_
        have hls : Heap.IsList h sa (rows2.map fun r => Value.ref r.2).toArray := ⟨_, hsa, rfl, _, rfl⟩
        have hsx : ((rows2.map fun r => Value.ref r.2).toArray)[(j : Int).toNat]? = some (.ref aj) := by
          simp [hj]
        refine tail_any hls.typeIs slot_list_getitem.lookup (wpAny_getItem_list hls (by omega) (by omega) hsx ?_) (by with_unfolding_all rfl)
        try k_fold
        k_steps
        rename Fr _ _ _ _ => F8
        rename News _ _ _ _ => N8
        show QA _ _
        refine toA _ _ ?_
        dsimp only
        refine wpAny_execs_cons ?_
        refine wpAny_For ?_ (by intro _; rfl)
        refine hideQ fun QR toR => ?_
        try k_fold
        k_steps
        rename Fr _ _ _ _ => F9
        rename News _ _ _ _ => N9
        show QR _ _
        refine toR _ _ ?_
        have E9 := KK _ _ _ F9 N9 (fun p hp => List.Mem.tail _ (List.Mem.tail _ (List.Mem.tail _ hp)))
        clear KK
        have N9' := news_sub (b := [(it2, io2), (T0, { cls := Value.type "tuple", data := Data.seq #[Value.str (Str.ofString "all") tk2, Value.str e.2.p t3] }), (it, io)]) N9 (by
          intro p hp
          simp only [List.mem_cons, List.not_mem_nil, or_false] at hp
          rcases hp with rfl | rfl | rfl
          · exact List.Mem.tail _ (List.Mem.tail _ (List.Mem.tail _ m1))
          · exact List.Mem.tail _ (List.Mem.tail _ (List.Mem.tail _ m2))
          · exact List.Mem.tail _ (List.Mem.tail _ (List.Mem.tail _ m3)))
        have tab9 := N9.get (by k_mem : (23, tabObj ps2) ∈ _)
        have hioF := hf _ hio0
        refine loop_range3 (g := s.heap) (L := s.heap.objs.size) _ (by assumption) N9' rfl hL23 rfl rfl rfl F9 tab9 tok2
          (fun c m' H gn => (∃ u2 : Str → Option Value, (m' = fun y => if y = Str.ofString "column" then u2 y else if y = Str.ofString "line" then some (.ref aj) else if y = Str.ofString "name" then some (.str x tx) else if y = Str.ofString "light" then some (.ref la) else if y = Str.ofString "sums" then some (.ref sa) else if y = Str.ofString "names" then some (.ref na) else List.lookup y (List.reverse [(Str.ofString "lights", Value.ref l)])) ∧
            Led s.heap s.heap.objs.size H na sa rows2 (setF f0 x (partRow e.2 (f0 x) c))) ∧ gn = s.gens) ?h0 ?jst ?step ?done
        case h0 =>
          refine ⟨⟨u', ?_, by rw [show partRow e.2 (f0 x) 0 = f0 x from rfl, setF_self]; exact E9⟩, rfl⟩
          funext y
          by_cases h3 : y = Str.ofString "column"
          · subst h3; exact rfl
          by_cases h2 : y = Str.ofString "line"
          · subst h2; exact rfl
          by_cases h1 : y = Str.ofString "name"
          · subst h1; exact rfl
          simp only [if_neg h1, if_neg h2, if_neg h3]
        case jst =>
          rintro i m' H h gn it ⟨⟨u, hm, E1⟩, hG⟩ F _ hf up
          exact ⟨⟨u, hm, E1.up hf up⟩, hG⟩
        case done =>
          rintro m' hx tkx gnx psx ⟨⟨u2, rfl, EX⟩, rfl⟩ FX NX tokx
          dsimp only
          obtain ⟨y0, y1, y2, y3, ky, hay⟩ := EX.lines _ hjm
          rw [setF_at] at hay
          have w2 := NX _ (List.Mem.tail _ (List.Mem.head _))
          have w3 := NX _ (List.Mem.tail _ (List.Mem.tail _ (List.Mem.head _)))
          have w4 := NX _ (List.Mem.tail _ (List.Mem.tail _ (List.Mem.tail _ (List.Mem.head _))))
          have nf : ∀ b o vs, hx.get? b = some o → o.data = .fields vs → b ≠ aj := by
            rintro b o vs h1 h2 rfl
            rw [hay] at h1; cases h1; cases h2
          have v2 : (it2, io2) ∈ restOf (hid s.heap) s.heap.objs.size (hid hx) [aj] := mem_restOf w2.2.1 w2.2.2 ((hid_get hit2).trans w2.1) (by
            obtain ⟨vs, hv⟩ := hf2 _ z1.1
            simpa using nf _ _ _ w2.1 hv)
          have v3 : (T0, { cls := Value.type "tuple", data := Data.seq #[Value.str (Str.ofString "all") tk2, Value.str e.2.p t3] }) ∈ restOf (hid s.heap) s.heap.objs.size (hid hx) [aj] := mem_restOf w3.2.1 w3.2.2 ((hid_get (@Nat.ne_of_gt T0 23 lt5.1)).trans w3.1) (by
            simp only [List.mem_singleton]
            rintro rfl
            have := w3.1.symm.trans hay
            simp at this)
          have v4 : (it, io) ∈ restOf (hid s.heap) s.heap.objs.size (hid hx) [aj] := mem_restOf w4.2.1 w4.2.2 ((hid_get hit).trans w4.1) (by
            obtain ⟨vs, hv⟩ := hioF
            simpa using nf _ _ _ w4.1 hv)
          have NY := news_cons (restOf_news (xs := [aj]) hL23 (NX.get (by k_mem : (23, tabObj psx) ∈ _))) hay faj.1 faj.2.2
          have KK : ∀ h3 m3 n3 t, Fr (hid s.heap) s.heap.objs.size h3 m3 → News (hid s.heap) s.heap.objs.size h3 n3 → (∀ p ∈ restOf (hid s.heap) s.heap.objs.size (hid hx) [aj], p ∈ n3) → LineAt h3 aj t → Led s.heap s.heap.objs.size h3 na sa rows2 (setF f0 x t) := fun h3 m3 n3 t F3 N3 hs hl => by
            have := EX.set hjm (fun b o h1 h2 h4 e => staysOf F3 FX N3 hs b o h1 h2 (by simpa using h4) e) hl
            rw [setF_setF] at this
            exact this
          have hall : ∀ p ∈ ((23, tabObj psx) :: restOf (hid s.heap) s.heap.objs.size (hid hx) [aj]), p.1 ≠ aj := by
            intro p hp
            rcases List.mem_cons.mp hp with rfl | hp
            · exact Ne.symm faj.2.1
            · simpa using (of_restOf hp).2.2.2
          clear NX
          try k_fold
          k_steps
          rename Fr _ _ _ _ => F3
          rename News _ _ _ _ => N3
          show QQ _ _
          obtain ⟨u3, F4⟩ := fr_keep3 (a := Str.ofString "name") (b := Str.ofString "line") (c := Str.ofString "column") (m0 := fun y => if y = Str.ofString "light" then some (.ref la) else if y = Str.ofString "sums" then some (.ref sa) else if y = Str.ofString "names" then some (.ref na) else List.lookup y (List.reverse [(Str.ofString "lights", Value.ref l)])) F3 (fun y h1 h2 h3 => by simp only [if_neg h1, if_neg h2, if_neg h3])
          rw [bump_eq] at toQ
          refine toQ _ _ ⟨rfl, _, _, _, _, psx, rfl, F4, news_sub N3 ?_, tokx, ⟨⟨u3, rfl, KK _ _ _ _ F4 N3 (fun p hp => List.Mem.tail _ (List.Mem.tail _ hp)) ⟨_, _, _, _, _, N3.get (List.Mem.head _)⟩⟩, rfl⟩⟩
          intro p hp
          simp only [List.mem_cons, List.not_mem_nil, or_false] at hp
          rcases hp with rfl | rfl | rfl | rfl
          · exact List.Mem.tail _ (List.Mem.tail _ v2)
          · exact List.Mem.tail _ (List.Mem.head _)
          · exact List.Mem.tail _ (List.Mem.tail _ v3)
          · exact List.Mem.tail _ (List.Mem.tail _ v4)
        case step =>
          rintro c tc m₁ hx tkx gn it3 io3 psx hc ⟨⟨u2, rfl, EX⟩, rfl⟩ hf3 hit3 hkn3 FX NX tokx
          obtain ⟨y0, y1, y2, y3, ky, hay⟩ := EX.lines _ hjm
          rw [setF_at] at hay
          have w1 := NX _ (List.Mem.head _)
          have w2 := NX _ (List.Mem.tail _ (List.Mem.tail _ (List.Mem.head _)))
          have w3 := NX _ (List.Mem.tail _ (List.Mem.tail _ (List.Mem.tail _ (List.Mem.head _))))
          have w4 := NX _ (List.Mem.tail _ (List.Mem.tail _ (List.Mem.tail _ (List.Mem.tail _ (List.Mem.head _)))))
          have nf : ∀ b o vs, hx.get? b = some o → o.data = .fields vs → b ≠ aj := by
            rintro b o vs h1 h2 rfl
            rw [hay] at h1; cases h1; cases h2
          have v1 : (it3, io3) ∈ restOf (hid s.heap) s.heap.objs.size (hid hx) [aj] := mem_restOf w1.2.1 w1.2.2 ((hid_get hit3).trans w1.1) (by
            obtain ⟨vs, hv⟩ := hf3 _ w1.1
            simpa using nf _ _ _ w1.1 hv)
          have v2 : (it2, io2) ∈ restOf (hid s.heap) s.heap.objs.size (hid hx) [aj] := mem_restOf w2.2.1 w2.2.2 ((hid_get hit2).trans w2.1) (by
            obtain ⟨vs, hv⟩ := hf2 _ z1.1
            simpa using nf _ _ _ w2.1 hv)
          have v3 : (T0, { cls := Value.type "tuple", data := Data.seq #[Value.str (Str.ofString "all") tk2, Value.str e.2.p t3] }) ∈ restOf (hid s.heap) s.heap.objs.size (hid hx) [aj] := mem_restOf w3.2.1 w3.2.2 ((hid_get (@Nat.ne_of_gt T0 23 lt5.1)).trans w3.1) (by
            simp only [List.mem_singleton]
            rintro rfl
            have := w3.1.symm.trans hay
            simp at this)
          have v4 : (it, io) ∈ restOf (hid s.heap) s.heap.objs.size (hid hx) [aj] := mem_restOf w4.2.1 w4.2.2 ((hid_get hit).trans w4.1) (by
            obtain ⟨vs, hv⟩ := hioF
            simpa using nf _ _ _ w4.1 hv)
          have NY := news_cons (restOf_news (xs := [aj]) hL23 (NX.get (by k_mem : (23, tabObj psx) ∈ _))) hay faj.1 faj.2.2
          have KK : ∀ h3 m3 n3 t, Fr (hid s.heap) s.heap.objs.size h3 m3 → News (hid s.heap) s.heap.objs.size h3 n3 → (∀ p ∈ restOf (hid s.heap) s.heap.objs.size (hid hx) [aj], p ∈ n3) → LineAt h3 aj t → Led s.heap s.heap.objs.size h3 na sa rows2 (setF f0 x t) := fun h3 m3 n3 t F3 N3 hs hl => by
            have := EX.set hjm (fun b o h1 h2 h4 e => staysOf F3 FX N3 hs b o h1 h2 (by simpa using h4) e) hl
            rw [setF_setF] at this
            exact this
          have hall : ∀ p ∈ ((23, tabObj psx) :: restOf (hid s.heap) s.heap.objs.size (hid hx) [aj]), p.1 ≠ aj := by
            intro p hp
            rcases List.mem_cons.mp hp with rfl | hp
            · exact Ne.symm faj.2.1
            · simpa using (of_restOf hp).2.2.2
          clear NX
          refine hideQ fun QQ toQ => ?_
          obtain rfl | rfl | rfl : c = 0 ∨ c = 1 ∨ c = 2 := by omega
          all_goals
            try k_fold
            k_steps
            rename Fr _ _ _ _ => F3
            rename News _ _ _ _ => N3
            show QQ _ _
            obtain ⟨u3, F4⟩ := fr_keep1 (a := Str.ofString "column") (m0 := fun y => if y = Str.ofString "line" then some (.ref aj) else if y = Str.ofString "name" then some (.str x tx) else if y = Str.ofString "light" then some (.ref la) else if y = Str.ofString "sums" then some (.ref sa) else if y = Str.ofString "names" then some (.ref na) else List.lookup y (List.reverse [(Str.ofString "lights", Value.ref l)])) F3 (fun y h => by simp only [if_neg h])
            refine toQ _ _ ⟨rfl, _, _, _, _, psx, rfl, F4, news_sub N3 ?_, tokx, ⟨⟨u3, rfl, KK _ _ _ _ F4 N3 (fun p hp => List.Mem.tail _ (List.Mem.tail _ hp)) ⟨_, _, _, _, _, N3.get (List.Mem.head _)⟩⟩, rfl⟩⟩
            intro p hp
            simp only [List.mem_cons, List.not_mem_nil, or_false] at hp
            rcases hp with rfl | rfl | rfl | rfl | rfl
            · exact List.Mem.tail _ (List.Mem.tail _ v1)
            · exact List.Mem.tail _ (List.Mem.head _)
            · exact List.Mem.tail _ (List.Mem.tail _ v2)
            · exact List.Mem.tail _ (List.Mem.tail _ v3)
            · exact List.Mem.tail _ (List.Mem.tail _ v4)
  · rintro m' h9 tk9 gn9 ps9 ⟨⟨u, na, sa, rows, rfl, E1, hrow⟩, rfl⟩ F N tok9
    dsimp only
    obtain ⟨⟨vs, nn, hna, hvs⟩, ⟨sn, hsa⟩, hli, nd, nd1, fre⟩ := id E1
    have fna := fre na (by simp)
    have fsa := fre sa (by simp)
    have N1 := news_cons (news_cons (restOf_news (xs := []) hL23 (N.get (by k_mem : (23, tabObj ps9) ∈ _))) hsa fsa.1 fsa.2.2) hna fna.1 fna.2.2
    clear N
    have hsz : (es.map (·.1)).toArray.size = es.length := by simp
    rw [hsz, List.take_length] at hrow hli
    rw [hrow] at hvs
    obtain ⟨ta, vs', rfl, hvs'⟩ := StrsAre.cons_inv hvs
    have hvl : vs'.length ≤ 11 := by
      rw [StrsAre.length hvs']
      have := places_len (es.map (·.2))
      rw [List.length_map] at this
      omega
    have K9 : ∀ h3 m3 n3, Fr (hid s.heap) s.heap.objs.size h3 m3 → News (hid s.heap) s.heap.objs.size h3 n3 → (∀ p ∈ restOf (hid s.heap) s.heap.objs.size (hid h9) [], p ∈ n3) → ∀ b o, b ≠ s.heap.objs.size → b ≠ 23 → h9.get? b = some o → h3.get? b = some o := fun h3 m3 n3 F3 N3 hs b o h1 h2 e => staysOf F3 F N3 hs b o h1 h2 (by simp) e
    try k_fold
    k_steps
    rename Fr _ _ _ _ => F6
    rename News _ _ _ _ => N6
    show Q _ _
    rename_i D6 _ lt6
    have hpk : slicePick (List.toArray (Value.str (Str.ofString "all") ta :: vs')) (some 1) none none = vs'.toArray := by
      rw [kms_pick_eq]
      simp [kms_pick, kms_lo, kms_hi]
    rw [hpk] at N6
    have up := K9 _ _ _ F6 N6 (fun p hp => List.Mem.tail _ (List.Mem.tail _ (List.Mem.tail _ (List.Mem.tail _ (List.Mem.tail _ hp)))))
    have go : ∀ a its n, a ≠ s.heap.objs.size → a ≠ 23 → h9.get? a = some (W.listOf its n) → (hid _).IsList a its := fun a its n h1 h2 e => ⟨_, (hid_get h2).trans (up a _ h1 h2 e), rfl, _, rfl⟩
    refine ret D6 _ sa vs'.toArray (rows.map fun r => (r.2, totOf (es.map (·.2)) r.1)) _ _ (end_sees F6 N6 (List.Mem.tail _ (List.Mem.tail _ (List.Mem.tail _ (List.Mem.tail _ (List.Mem.head _))))) tok9 X T BM) (end_stays F6) (end_tup N6 (List.Mem.tail _ (List.Mem.tail _ (List.Mem.tail _ (List.Mem.tail _ (List.Mem.head _))))) (List.Mem.head _)) (end_list N6 (List.Mem.tail _ (List.Mem.tail _ (List.Mem.tail _ (List.Mem.tail _ (List.Mem.head _))))) (List.Mem.tail _ (List.Mem.head _))) hvs' ⟨?_, ?_⟩ ?_
    · rw [List.map_map]
      exact go _ _ _ fsa.1 fsa.2.1 hsa
    · intro e he
      obtain ⟨r, hr, rfl⟩ := List.mem_map.mp he
      obtain ⟨t0, t1, t2, t3, kk, eq⟩ := hli r hr
      have f3 := fre r.2 (List.Mem.tail _ (List.Mem.tail _ (List.mem_map.mpr ⟨r, hr, rfl⟩)))
      exact ⟨t0, t1, t2, t3, go _ _ _ f3.1 f3.2.1 eq⟩
    · rw [List.map_map]
      show rows.map (fun r => totOf (es.map (·.2)) r.1) = _
      have : rows.map (fun r => totOf (es.map (·.2)) r.1) = (rows.map (·.1)).map (totOf (es.map (·.2))) := by rw [List.map_map]; rfl
      rw [this, hrow, List.map_cons]
      unfold totals
      congr 1
      refine List.map_congr_left fun p hp => ?_
      unfold totOf
      rw [if_neg]
      rintro rfl
      obtain ⟨l0, hl0, hp0⟩ := mem_places.mp hp
      obtain ⟨e0, he0, rfl⟩ := List.mem_map.mp hl0
      rcases (HE e0 he0).2.2.2.2 with h | h | h <;> rw [h] at hp0 <;> exact absurd hp0 (by decide)
end Mine
end
section
open PySem PySem.W PySem.Calls PyProof.Rows
set_option maxRecDepth 100000
set_option maxHeartbeats 8000000
namespace Mine
section
variable {prog : Program} {w : World} {A : Around} {E : Value → Shared → Prop} {s : Shared} {h₀ : Heap} {L : Addr} {m : Str → Option Value} {news : List (Addr × Obj)}

theorem applied_upto4 {sl : Addr} {u : Tok} {Q : Int × Int × Nat → Shared → Prop} (hs : s.heap.IsSliceOf sl .none (.int 4 u) .none) (h : Q (0, 1, 4) s) :
    wpAny (model prog w) A (Builtin.Slice.sliceApplied (.ref sl) (pure (5 : Int))) Q E s := by
  obtain ⟨os, hos, hcs, hds⟩ := id hs
  unfold Builtin.Slice.sliceApplied Builtin.Slice.sliceFields
  refine wpAny_bind (wpAny_bind (wpAny_field hos hds (x := .none) rfl (wpAny_bind (wpAny_field hos hds (x := .int 4 u) rfl (wpAny_bind (wpAny_field hos hds (x := .none) rfl (wpAny_pure ?_)))))))
  refine wpAny_bind (slicePart_none ?_)
  show wpAny _ _ (if ((1 : Int) == 0) = true then _ else _) _ _ s
  rw [if_neg (by decide)]
  exact wpAny_bind (slicePart_none (wpAny_bind (slicePart_int (wpAny_bind (wpAny_pure (wpAny_pure h))))))

theorem item_upto4 {t sl : Addr} {c0 c1 c2 c3 c4 : Value} {u : Tok} {Q : Value → Shared → Prop} (ht : IsTup s.heap t #[c0, c1, c2, c3, c4]) (hs : s.heap.IsSliceOf sl .none (.int 4 u) .none)
    (h : Q (.ref s.heap.objs.size) { s with heap := s.heap.push { cls := .type "tuple", data := .seq #[c0, c1, c2, c3] } }) : wpAny (model prog w) A (getItem (.ref t) (.ref sl)) Q E s := by
  have hok : sizeOk (.seq #[c0, c1, c2, c3]) := by
    show (4 : Nat) ≤ sizeLine
    rw [PySem.sizeLine_eq]; omega
  obtain ⟨os, hos, hcs, hds⟩ := id hs
  have hTs : s.TypeIs (.ref sl) "slice" := ⟨os, hos, hcs⟩
  unfold getItem
  try with_reducible refine wpAny_holding ?_
  first | refine wpAny_bind (wpAny_pure ?_) | skip
  refine wpAny_bind (wpAny_sequenceKey ht.typeIs (by decide) ?_)
  refine wpAny_bind (wpAny_callSpecial?_slot (name := Str.ofString "__getitem__") ht.typeIs slot_tuple_getitem
    (wpAny_call_entry slot_tuple_getitem ht.typeIs entry_tuple_getitem ?_ (args_tuple_getitem _ _)))
  show wpAny _ _ (Builtin.Tuple.tupleItemsOf (.ref t) >>= _) _ _ s
  refine wpAny_bind (tupleItemsOf_ ht ?_)
  refine wpAny_bind (wpAny_typeOf hTs ?_)
  rw [if_pos (by decide)]
  refine wpAny_bind (applied_upto4 hs ?_)
  show wpAny _ _ (if ((0 : Int) == 0 && (1 : Int) == 1 && (4 : Nat) == 5) = true then _ else _) _ _ s
  rw [if_neg (by decide)]
  first
    | exact wpAny_bind (m := Builtin.Tuple.tupleExact _) (wpAny_newObj_type (wpAny_pure ⟨_, rfl, wpAny_pure h⟩) hok)
    | exact wpAny_bind (m := Builtin.Tuple.tupleExact _) (wpAny_newObj_type (wpAny_bind (wpAny_pure (wpAny_pure ⟨_, rfl, wpAny_pure h⟩))) hok)
    | exact wpAny_bind (wpAny_bind (m := Builtin.Tuple.tupleExact _) (wpAny_newObj_type (wpAny_pure (wpAny_pure ⟨_, rfl, wpAny_pure h⟩)) hok))
    | exact wpAny_bind (wpAny_bind (m := Builtin.Tuple.tupleExact _) (wpAny_newObj_type (wpAny_pure ⟨_, rfl, wpAny_pure h⟩) hok))
theorem slice_upto4 {value slice : Expr} {t : Addr} {c0 c1 c2 c3 c4 : Value} {u : Tok} {Q : Value → Shared → Prop}
    (F : Fr h₀ L s.heap m) (N : News h₀ L s.heap news) (ht : IsTup s.heap t #[c0, c1, c2, c3, c4])
    (h : ∀ D h', Fr h₀ L h' m → News h₀ L h' ((D, { cls := .type "tuple", data := .seq #[c0, c1, c2, c3] }) :: news) → (∀ p ∈ news, p.1 < D) → Q (.ref D) { s with heap := h' })
    (hs : subscripted slice false (.ref t) (.ref s.heap.objs.size) = operate [.ref s.heap.objs.size, .ref t] (getItem (.ref t) (.ref s.heap.objs.size)) := by with_unfolding_all rfl)
    (hg : ∀ r, letTemporaryGo value (.ref t) r = pure () := by intro _; with_unfolding_all rfl) :
    wpAny (model prog w) A (subscriptTail value slice (.ref t) (.ref s.heap.objs.size)) Q E { s with heap := s.heap.push { cls := .type "slice", data := .fields #[.none, .int 4 u, .none] } } := by
  have ht' : IsTup (s.heap.push { cls := .type "slice", data := .fields #[.none, .int 4 u, .none] }) t #[c0, c1, c2, c3, c4] := ht.keeps fun _ _ e => Heap.get?_push_of_some _ e
  refine subscriptTail_ops (s := { s with heap := s.heap.push { cls := .type "slice", data := .fields #[.none, .int 4 u, .none] } }) ht'.typeIs slot_tuple_getitem.lookup
    (item_upto4 ht' (Heap.IsSliceOf.new ..) ?_) hs hg
  have N1 := News.push (F.push { cls := .type "slice", data := .fields #[.none, .int 4 u, .none] }) (N.grown fun _ _ e => Heap.get?_push_of_some _ e) { cls := .type "tuple", data := .seq #[c0, c1, c2, c3] }
  rw [Heap.size_push] at N1
  show Q (.ref (s.heap.push _).objs.size) _
  rw [Heap.size_push]
  exact h _ _ ((F.push _).push _) N1 fun p hp => Nat.lt_succ_of_lt (Heap.lt_size (N p hp).1)
end
end Mine
end
section
open PySem PySem.W PySem.Calls PyProof.Rows
set_option maxRecDepth 100000
set_option maxHeartbeats 8000000
set_option pp.fieldNotation false
namespace Mine

def grp (ls : List Light) : List (List Light) := ls :: (places ls).map fun p => atP p ls
def RowsAre (Φ : Phi) (h : Heap) (vals : List Value) (lss : List (List Light)) : Prop := vals.length = lss.length ∧ ∀ (i : Nat) v l, vals[i]? = some v → lss[i]? = some l → RowIs Φ h v l

theorem lines_spec {w : World} {A : Around} {s : Shared} {Q E : Value → Shared → Prop} {mg mb : Str → Option Value} {Φ : Phi} {r : Value} {d : Addr} {ls : List Light}
   (S : Sees w mg mb s.heap) (R : Room A 2 16) (hne : ls ≠ []) (h11 : ls.length ≤ 11)
   (HE : EntryAt w Φ (hid s.heap) r d ls)
   (ret : ∀ q vals h' tk', Sees w mg mb h' → Stays (hid s.heap) (hid h') → (hid h').IsList q (List.toArray vals) → RowsAre Φ (hid h') vals (grp ls) → Q (.ref q) {s with heap := h', toks := tk'}) :
   wpAny (model Challenge.rw_mj0062_01.row.prog w) A (call (.ref 98) [r]) Q E s := by
  obtain ⟨a, c0, c1, c2, tn, rfl, HT, p0, p1, p2, nsm, kvs, HD, hkeys, hrows⟩ := HE
  obtain ⟨X, T, ⟨ps, tab, tok⟩, BM⟩ := S
  obtain ⟨dep, uni, han⟩ := R
  obtain ⟨hdl, dp, fr, gd, un⟩ := A
  dsimp only at dep uni han
  subst han
  revert X; k_fill; intro X
  k_dflt (refine' enter (binds := [(Str.ofString "total", .ref a)]) ?X ?T ?tab ?k6 ?k7 ?k8 ?k9 ?kB ?_ ?c2 ?c3 ?c4 ?c5; (case X => assumption); (case T => assumption); (case tab => assumption); (case k6 => k_is); (case k7 => k_is); (case k8 => (show dp < recursionLimit; omega)); (case k9 => exact BindsTo.of_eq rfl);  (case c5 => decide); (case kB => exact locs rfl); (case c2 => exact rfl); (case c3 => exact rfl); (case c4 => exact rfl); k_whole; intro h' F' N'; (try dsimp only); (try k_fold))
  k_steps
  k_dflt (refine' slice_upto4 F' N' (IsTup.keeps HT F'.keep) ?_ ?s ?t; (case s => with_unfolding_all rfl); (case t => kmk_pure))
  intro D5 h5 F5 N5 lt5
  clear F' N'
  k_lt lt5
  try k_fold
  k_steps
  rename Fr _ _ _ _ => F6
  rename News _ _ _ _ => N6
  rename_i l6 h6 lt6
  have hD6 : h6.DictOf (knd w) d kvs := HD.keep F6.keep
  refine getMethod_builtin hD6.typeIs PySem.F.plainAttrs_dict PySem.F.slot_dict_values PySem.F.type_dict_values hD6.mapOf.noDict ?_
  try k_fold
  k_steps
  refine call_meetsIn PySem.F.slot_dict_values hD6.typeIs PySem.F.entry_dict_values (PySem.F.args_dict_values_1 _) (meets_dict_values (knd w) d nsm) ⟨⟨kvs, hD6⟩, ?_⟩
  have F7 := F6.push { cls := .type "dict_values", data := .fields #[.ref d] }
  have N7 := News.push F6 N6 { cls := .type "dict_values", data := .fields #[.ref d] }
  have hD7 := hD6.keep (fun b o e => Heap.get?_push_of_some { cls := .type "dict_values", data := .fields #[.ref d] } e)
  have lt7 : AllLt h6.objs.size _ := allLt_of fun p hp => Heap.lt_size (N6 p hp).1
  generalize h6.push { cls := .type "dict_values", data := .fields #[.ref d] } = h7 at F7 N7 hD7 ⊢
  generalize h6.objs.size = V7 at N7 lt7 ⊢
  clear F6 N6
  try k_fold
  k_steps
  have hkl : kvs.length ≤ 11 := by
    have h1 : (kvs.map (·.1)).length = kvs.length := List.length_map ..
    rw [hkeys] at h1
    have := places_len ls
    omega
  obtain ⟨ep, hat⟩ := hD7.dictAt
  refine kdl_N (kdl_values (knd := knd w) (kvs := kvs) (ep := ep)) rfl F7 N7 ⟨⟨_, (N7 _ (List.Mem.head _)).1, rfl, rfl⟩, hat⟩ (kdl_size (by omega)) fun B c h8 tk8 vs F8 N8 lt8 hl hv => ?_
  have e8 := kdl_vals_eq vs hl hv
  subst e8
  clear F7 N7
  k_lt lt8
  dsimp only
  try k_fold
  k_steps
  rename Fr _ _ _ _ => F9
  rename News _ _ _ _ => N9
  show Q _ _
  have st9 := end_stays F9
  have z9 := end_tup N9 (List.Mem.tail _ (List.Mem.tail _ (List.Mem.tail _ (List.Mem.tail _ (List.Mem.tail _ (List.Mem.head _)))))) (List.Mem.tail _ (List.Mem.tail _ (List.Mem.tail _ (List.Mem.tail _ (List.Mem.head _)))))
  refine ret _ (Value.ref D5 :: kvs.map (·.2)) _ _ (end_sees F9 N9 (List.Mem.tail _ (List.Mem.tail _ (List.Mem.tail _ (List.Mem.tail _ (List.Mem.tail _ (List.Mem.head _)))))) tok X T BM) st9 (end_list N9 (List.Mem.tail _ (List.Mem.tail _ (List.Mem.tail _ (List.Mem.tail _ (List.Mem.tail _ (List.Mem.head _)))))) (List.Mem.head _)) ⟨?_, ?_⟩
  · unfold grp
    rw [← hkeys]
    simp
  · intro i v lx hv1 hv2
    unfold grp at hv2
    cases i with
    | zero =>
      cases hv1
      cases hv2
      obtain ⟨_, b0, t0, rfl, q0, z0⟩ := p0.resolve_left fun x => hne x.1
      obtain ⟨_, b1, t1, rfl, q1, z1⟩ := p1.resolve_left fun x => hne x.1
      obtain ⟨_, b2, t2, rfl, q2, z2⟩ := p2.resolve_left fun x => hne x.1
      exact ⟨D5, b0, b1, b2, t0, t1, t2, tn, rfl, z9, q0, q1, q2, z0, z1, z2⟩
    | succ i =>
      rw [List.getElem?_cons_succ, List.getElem?_map] at hv1 hv2
      obtain ⟨kv, hk1, rfl⟩ := Option.map_eq_some_iff.mp hv1
      rw [← hkeys, List.getElem?_map, hk1] at hv2
      cases hv2
      exact (hrows kv (List.mem_of_getElem? hk1)).keeps st9
end Mine
end
section
open PySem PySem.W PySem.Calls PyProof.Rows
set_option maxRecDepth 100000
set_option maxHeartbeats 800000
namespace Mine
section
variable {prog : Program} {w : World} {A : Around} {E : Value → Shared → Prop} {s : Shared}
theorem ne_strs {l b : Addr} {vs ws : List Value} {ys : List Str} {Q : Value → Shared → Prop} (hl : s.heap.IsList l vs.toArray) (hb : s.heap.IsList b ws.toArray) (h1 : StrsAre vs ys) (h2 : StrsAre ws ys) (hu : A.units < cLine) (h : Q (.bool false) s) :
    wpAny (model prog w) A (compareOp .NotEq (.ref l) (.ref b)) Q E s := by
  have e1 := h1.len_eq
  have e2 := h2.len_eq
  refine SeqAt.RcNeAt.lists (e := fun _ => true) hl hb (by simp; omega) hu (fun j j1 j2 => ?_) prog w E Q ?_
  · have hj : j < ys.length := by simp at j1; omega
    obtain ⟨t1, v1⟩ := h1.get j ys[j] (List.getElem?_eq_getElem hj)
    obtain ⟨t2, v2⟩ := h2.get j ys[j] (List.getElem?_eq_getElem hj)
    obtain ⟨_, w1⟩ := List.getElem?_eq_some_iff.mp v1
    obtain ⟨_, w2⟩ := List.getElem?_eq_some_iff.mp v2
    have q1 : vs.toArray[j] = .str ys[j] t1 := by simpa using w1
    have q2 : ws.toArray[j] = .str ys[j] t2 := by simpa using w2
    rw [q1, q2]
    have := SeqAt.EqAt.str_str (A := A.in1) (s := s) ys[j] t1 ys[j] t2
    rwa [beq_self_eq_true] at this
  · have : (List.range vs.toArray.size).all (fun _ => true) = true := by simp
    rw [this]; exact h
end
end Mine
end
section
open PySem PySem.W PySem.Calls PyProof.Rows
set_option maxRecDepth 100000
set_option maxHeartbeats 800000
namespace Mine
section
variable {prog : Program} {w : World} {A : Around} {s : Shared} {h₀ : Heap} {L : Addr} {m : Str → Option Value} {env : Env}
/-- the turns of a comprehension by an invariant over the ledger -/
theorem compRest_inv {elt : Expr} {x : Str} {scope : Scope} {cl : List (Str × Addr)} {S : List (Addr × Obj) → Prop} {P : Nat → Value → Prop} {Fin : List Value → List (Addr × Obj) → Prop} {n : Nat} (Inv : Nat → List Value → List (Addr × Obj) → Prop)
    (step : ∀ i ys news v I oI C oC D m₂ h tk (E' : Value → Shared → Prop), i < n → Inv i ys news → P i v → LCg.NsObj oC m₂ → m₂ x = some v → Fr h₀ L h m → News h₀ L h ((I, oI) :: (C, oC) :: (D, LCg.lst ys) :: news) → (∀ p ∈ news, p.1 ≠ I ∧ p.1 ≠ C ∧ p.1 ≠ D) → ((@Ne Nat I C) ∧ (@Ne Nat I D) ∧ (@Ne Nat C D)) →
      wpAny (model prog w) A (eval elt (compEnvC scope cl C env)) (LCg.CompEnd h₀ L m { s with heap := h, toks := tk } I oI C oC D (LCg.lst ys) S (fun y news' => Inv (i + 1) (ys ++ [y]) news')) E' { s with heap := h, toks := tk })
    (fin : ∀ ys news, Inv n ys news → Fin ys news) : ∀ (k i : Nat) (ys : List Value) (news : List (Addr × Obj)), i + k = n → Inv i ys news → LCg.CompRest prog w A h₀ L m env elt x scope cl s S P Fin k i ys news := by
  intro k
  induction k with
  | zero => intro i ys news hi hI; exact fin ys news (by have : i = n := by omega
                                                         exact this ▸ hI)
  | succ k ih =>
    intro i ys news hi hI
    refine LCg.CompRest.succ ?_
    intro v I oI C oC D m₂ h tk E' hP hC hx F N off ne
    refine wpAny_mono (step i ys news v I oI C oC D m₂ h tk E' (by omega) hI hP hC hx F N off.mem ne) (fun y s₂ h₂ => ?_) fun _ _ e => e
    obtain ⟨h', tk', news', rfl, F', N', off', hS, hI'⟩ := h₂
    exact ⟨h', tk', news', rfl, F', N', off', hS, ih (i + 1) (ys ++ [y]) news' (by omega) hI'⟩
end
end Mine
end
section
open PySem PySem.W PySem.Calls PyProof.Rows
set_option maxRecDepth 100000
set_option maxHeartbeats 800000
namespace Mine
def colOf (i : Nat) (l : Light) : Int := if i = 0 then l.r else if i = 1 then l.g else l.b
def col (i : Nat) (ls : List Light) : Int := (ls.map (colOf i)).sum
theorem col_nil (i : Nat) : col i [] = 0 := rfl
theorem col_cons (i : Nat) (l : Light) (ls : List Light) : col i (l :: ls) = colOf i l + col i ls := by unfold col; simp
theorem col_append (i : Nat) (a b : List Light) : col i (a ++ b) = col i a + col i b := by unfold col; simp
theorem col_one (i : Nat) (l : Light) : col i [l] = colOf i l := by unfold col; simp
def Goods (ls : List Light) : Prop := ∀ l ∈ ls, LGood l
theorem colOf_bounds {i : Nat} {l : Light} (h : LGood l) : 0 ≤ colOf i l ∧ colOf i l ≤ 15 := by
  obtain ⟨⟨a, b⟩, ⟨c, d⟩, ⟨e, f⟩, _⟩ := h
  unfold colOf
  split
  · omega
  · split <;> omega
theorem col_bounds {i : Nat} : ∀ {ls : List Light}, Goods ls → 0 ≤ col i ls ∧ col i ls ≤ 15 * (ls.length : Int) := by
  intro ls
  induction ls with
  | nil => intro _; rw [col_nil]; simp
  | cons l ls ih =>
    intro h
    have h1 := colOf_bounds (i := i) (h l (List.Mem.head _))
    have h2 := ih fun x hx => h x (List.Mem.tail _ hx)
    rw [col_cons, List.length_cons]
    omega
theorem tot_from (ls : List Light) : ∀ acc : Row4, ls.foldl (fun t l => (⟨t.r + l.r, t.g + l.g, t.b + l.b, t.n + 1⟩ : Row4)) acc = ⟨acc.r + col 0 ls, acc.g + col 1 ls, acc.b + col 2 ls, acc.n + ls.length⟩ := by
  induction ls with
  | nil => intro acc; simp [col_nil]
  | cons l ls ih =>
    intro acc
    rw [List.foldl_cons, ih, col_cons, col_cons, col_cons]
    simp only [colOf, List.length_cons, if_true, Row4.mk.injEq]
    refine ⟨by omega, by simp; omega, by simp; omega, by omega⟩
theorem tot_eq (ls : List Light) : tot ls = ⟨col 0 ls, col 1 ls, col 2 ls, ls.length⟩ := by
  unfold tot
  rw [tot_from]
  simp
theorem goods_atP {p : Str} {ls : List Light} (h : Goods ls) : Goods (atP p ls) := fun l hl => h l (List.mem_filter.mp hl).1
theorem totals_grp (ls : List Light) : totals ls = (grp ls).map tot := by
  unfold totals grp
  simp
theorem grp_goods {ls l : List Light} (h : Goods ls) (hl : l ∈ grp ls) : Goods l := by
  unfold grp at hl
  rcases List.mem_cons.mp hl with rfl | hl
  · exact h
  · obtain ⟨p, _, rfl⟩ := List.mem_map.mp hl
    exact goods_atP h
theorem grp_len {ls l : List Light} (hl : l ∈ grp ls) : l.length ≤ ls.length := by
  unfold grp at hl
  rcases List.mem_cons.mp hl with rfl | hl
  · exact Nat.le_refl _
  · obtain ⟨p, _, rfl⟩ := List.mem_map.mp hl
    exact List.length_filter_le ..
theorem grp_ne {ls l : List Light} (hne : ls ≠ []) (hl : l ∈ grp ls) : l ≠ [] := by
  unfold grp at hl
  rcases List.mem_cons.mp hl with rfl | hl
  · exact hne
  · obtain ⟨p, hp, rfl⟩ := List.mem_map.mp hl
    obtain ⟨x, hx, e⟩ := mem_places.mp hp
    intro h
    have : x ∈ atP p ls := List.mem_filter.mpr ⟨hx, by simpa using e⟩
    rw [h] at this; cases this
end Mine
end
section
open PySem PySem.W PySem.Calls PyProof.Rows
set_option maxRecDepth 100000
set_option maxHeartbeats 800000
namespace Mine
theorem untold_in (P : Params) : nsIn (Mine.hd.heap_39 P) cStatics sharingNotToldKey = some none := by with_unfolding_all rfl
section
variable {prog : Program} {w : World} {A : Around} {E : Value → Shared → Prop} {s : Shared}
theorem untold {M : Model} {P : Params} (X : (Mine.hd.heap_39 P).In s.heap) {t : Tok} {Q : Bool → Shared → Prop} (h : Q false s) : wpAny M A (sharingNotTold t) Q E s := by
  unfold sharingNotTold
  refine wpAny_bind ((looks_nsIn X (untold_in P)).at ?_)
  exact wpAny_pure h
theorem same_float {M : Model} {P : Params} (X : (Mine.hd.heap_39 P).In s.heap) {x y : UInt64} {t u : Tok} (ht : t ≠ 0) (hu : u ≠ 0) {Q : Bool → Shared → Prop} (h : ∀ b, Q b s) : wpAny M A (isSame (.float x t) (.float y u)) Q E s := by
  show wpAny M A (isSame.created (x == y && !Float64.isNaN x) t u) Q E s
  unfold isSame.created
  have h0 : (t == 0 || u == 0) = false := by simp [ht, hu]
  refine wpAny_ite ?_
  split
  · rename_i h; rw [h0] at h; exact absurd h Bool.false_ne_true
  refine wpAny_ite ?_
  split
  · exact wpAny_pure (h _)
  refine wpAny_ite ?_
  split
  · exact wpAny_pure (h _)
  refine wpAny_bind (untold X ?_)
  first | rw [if_neg Bool.false_ne_true] | simp only [Bool.false_eq_true, if_false]
  refine wpAny_bind (untold X ?_)
  first | rw [if_neg Bool.false_ne_true] | simp only [Bool.false_eq_true, if_false]
  exact wpAny_bind (wpAny_rule (wpAny_bind (wpAny_askSetting (wpAny_pure (h _)))))
theorem rc_float {x y : UInt64} {t u : Tok} : SeqAt.RcAt A s (.float x t) (.float y u) (Float64.cmp x y == some .eq) := fun prog w E Q h =>
  richCompare_gives (AutoFloatOps.typeIs_float s x t) (AutoFloatOps.typeIs_float s y u) F.slot_float_eq F.entry_float_eq (F.args_float_eq_2 _ _) (AutoFloatG5.float___eq___float_float_0 x t y u) (by simp [Made.takes]) h
theorem eq_float {P : Params} (X : (Mine.hd.heap_39 P).In s.heap) {x y : UInt64} {t u : Tok} (ht : t ≠ 0) (hu : u ≠ 0) (hc : Float64.cmp x y = some .eq) : SeqAt.EqAt A s (.float x t) (.float y u) true := fun prog w E Q hq => by
  unfold eqBool
  refine wpAny_holding ?_
  refine wpAny_ite_split (fun _ => wpAny_bind (wpAny_rule (wpAny_pure hq))) fun _ => ?_
  refine wpAny_bind (same_float X ht hu fun b => ?_)
  cases b
  · simp only [Bool.false_eq_true, if_false]
    refine wpAny_bind (rc_float prog w E _ ?_)
    rw [hc]
    exact wpAny_truthy_bool hq
  · simp only [if_true]
    exact wpAny_pure hq
theorem eq_row {P : Params} (X : (Mine.hd.heap_39 P).In s.heap) {a b : Addr} {x0 x1 x2 y0 y1 y2 : UInt64} {t0 t1 t2 t3 u0 u1 u2 u3 : Tok} {n : Int} (hu : A.units < cLine)
    (h1 : s.heap.IsTuple a #[.float x0 t0, .float x1 t1, .float x2 t2, .int n t3]) (h2 : s.heap.IsTuple b #[.float y0 u0, .float y1 u1, .float y2 u2, .int n u3])
    (z0 : t0 ≠ 0 ∧ t1 ≠ 0 ∧ t2 ≠ 0) (z1 : u0 ≠ 0 ∧ u1 ≠ 0 ∧ u2 ≠ 0) (c0 : Float64.cmp x0 y0 = some .eq) (c1 : Float64.cmp x1 y1 = some .eq) (c2 : Float64.cmp x2 y2 = some .eq) : SeqAt.EqAt A s (.ref a) (.ref b) true := by
  by_cases hab : a = b
  · subst hab; exact SeqAt.EqAt.same _
  refine SeqAt.EqAt.of_refs hab ?_
  have := SeqAt.RcAt.tuples (e := fun _ => true) h1 h2 hu fun j j1 j2 => by
    match j, j1, j2 with
    | 0, _, _ => exact eq_float X z0.1 z1.1 c0
    | 1, _, _ => exact eq_float X z0.2.1 z1.2.1 c1
    | 2, _, _ => exact eq_float X z0.2.2 z1.2.2 c2
    | 3, _, _ =>
      have := SeqAt.EqAt.int_int (A := A.in1) (s := s) n t3 n u3
      rwa [beq_self_eq_true] at this
  exact this
end
end Mine
end
section
open PySem PySem.W PySem.Calls PyProof.Rows
set_option maxRecDepth 100000
set_option maxHeartbeats 8000000
set_option pp.fieldNotation false
namespace Mine
set_option exponentiation.threshold 5000
theorem not_over {n : Int} (h0 : 0 ≤ n) (h1 : n < 166) : ¬ Flt.Over n := by
  unfold Flt.Over
  have h2 : (166 : Nat) < 2 ^ 1024 - 2 ^ 970 := by decide +kernel
  omega
theorem compEnd_one {h₀ : Heap} {L I C D : Addr} {m : Str → Option Value} {s₁ : Shared} {oI oC oD : Obj} {S : List (Addr × Obj) → Prop} {rest : Value → List (Addr × Obj) → Prop} {y : Value} {h' : Heap} {tk : Nat} {hd : Addr × Obj} {news : List (Addr × Obj)}
    (F : Fr h₀ L h' m) (N : News h₀ L h' (hd :: (I, oI) :: (C, oC) :: (D, oD) :: news)) (off : ∀ p ∈ news, p.1 ≠ I ∧ p.1 ≠ C ∧ p.1 ≠ D) (hne : hd.1 ≠ I ∧ hd.1 ≠ C ∧ hd.1 ≠ D) (hS : S (hd :: news)) (r : rest y (hd :: news)) :
    LCg.CompEnd h₀ L m s₁ I oI C oC D oD S rest y { s₁ with heap := h', toks := tk } := by
  refine LCg.CompEnd.intro F N (hd :: news) (fun p hp => ?_) (LCg.Off3.of fun p hp => ?_) hS r
  · rcases List.mem_cons.mp hp with rfl | hp
    · exact List.Mem.tail _ (List.Mem.head _)
    rcases List.mem_cons.mp hp with rfl | hp
    · exact List.Mem.tail _ (List.Mem.tail _ (List.Mem.head _))
    rcases List.mem_cons.mp hp with rfl | hp
    · exact List.Mem.tail _ (List.Mem.tail _ (List.Mem.tail _ (List.Mem.head _)))
    rcases List.mem_cons.mp hp with rfl | hp
    · exact List.Mem.head _
    · exact List.Mem.tail _ (List.Mem.tail _ (List.Mem.tail _ (List.Mem.tail _ hp)))
  · rcases List.mem_cons.mp hp with rfl | hp
    · exact hne
    · exact off p hp
theorem tup_of_hid {h : Heap} {a : Addr} {items : Array Value} (x : IsTup (hid h) a items) : h.IsTuple a items := let ⟨o, ho, r⟩ := x; ⟨o, of_hid ho, r⟩
theorem strs_of : ∀ {kvs : List (Str × Value)} (vs : List Value), vs.length = kvs.length → (∀ (j : Nat) (v : Value), vs[j]? = some v → ∃ k x, kvs[j]? = some (k, x) ∧ ∃ t, v = .str k t) → StrsAre vs (kvs.map (·.1)) := by
  intro kvs
  induction kvs with
  | nil =>
    intro vs hl _
    cases vs with
    | nil => exact .nil
    | cons v vs => cases hl
  | cons q r ih =>
    intro vs hl hv
    cases vs with
    | nil => cases hl
    | cons v vs =>
      obtain ⟨k, x, e, t, rfl⟩ := hv 0 v rfl
      cases e
      exact .cons _ _ (ih vs (by simpa using hl) fun j v e => by simpa using hv (j + 1) v (by simpa using e))
theorem colours_spec {w : World} {A : Around} {s : Shared} {Q E : Value → Shared → Prop} {mg mb : Str → Option Value} {Φ : Phi} {r : Value} {d na sa : Addr} {ls : List Light} {vs : List Value} {rows : List (Addr × Row4)}
   (S : Sees w mg mb s.heap) (R : Room A 4 32) (hne : ls ≠ []) (h11 : ls.length ≤ 11) (hgood : Goods ls) (hΦ : ∀ i l b, Φ i l b → Float64.cmp b (Float64.div (Float64.ofInt (col i l)) 4643211215818981376) = some .eq)
   (HE : EntryAt w Φ (hid s.heap) r d ls) (HN : (hid s.heap).IsList na (List.toArray vs)) (HS : StrsAre vs (places ls)) (HL : LinesAt (hid s.heap) sa rows) (hrw : rows.map (·.2) = totals ls)
   (ret : ∀ h' tk', Sees w mg mb h' → Stays (hid s.heap) (hid h') → Q (.bool true) {s with heap := h', toks := tk'}) :
   wpAny (model Challenge.rw_mj0062_01.row.prog w) A (call (.ref 103) [r, .ref na, .ref sa]) Q E s := by
  obtain ⟨a, c0, c1, c2, tn, rfl, HT, p0, p1, p2, nsm, kvs, HD, hkeys, hrows⟩ := id HE
  obtain ⟨X, T, ⟨ps, tab, tok⟩, BM⟩ := S
  obtain ⟨dep, uni, han⟩ := R
  obtain ⟨hdl, dp, fr, gd, un⟩ := A
  dsimp only at dep uni han
  subst han
  revert X; k_fill; intro X
  k_dflt (refine' enter (binds := [(Str.ofString "total", .ref a), (Str.ofString "names", .ref na), (Str.ofString "sums", .ref sa)]) ?X ?T ?tab ?k6 ?k7 ?k8 ?k9 ?kB ?_ ?c2 ?c3 ?c4 ?c5; (case X => assumption); (case T => assumption); (case tab => assumption); (case k6 => k_is); (case k7 => k_is); (case k8 => (show dp < recursionLimit; omega)); (case k9 => exact BindsTo.of_eq rfl);  (case c5 => decide); (case kB => exact locs rfl); (case c2 => exact rfl); (case c3 => exact rfl); (case c4 => exact rfl); k_whole; intro h' F' N'; (try dsimp only); (try k_fold))
  k_steps
  have hkl : kvs.length ≤ 11 := by
    have h1 : (kvs.map (·.1)).length = kvs.length := List.length_map ..
    rw [hkeys] at h1
    have := places_len ls
    omega
  obtain ⟨ep, hat⟩ := (HD.keep F'.keep).dictAt
  refine kdl_N (kdl_dict (knd := PySem.strKind _ w) (kvs := kvs) (ep := ep) nsm) rfl F' N' hat (kdl_size (by omega)) fun B c h8 tk8 vk F8 N8 lt8 hl hv => ?_
  have HK : StrsAre vk (places ls) := by
    rw [← hkeys]
    exact strs_of vk hl fun j v e => by
      obtain ⟨k, x, hx, hk⟩ := hv j v e
      exact ⟨k, x, hx, Value.isStrOf_shape hk⟩
  clear F' N' hat
  k_lt lt8
  try k_fold
  dsimp only
  refine hideQ fun QN toN => ?_
  k_steps
  refine toN _ _ ?_
  refine ne_strs (l := B) (b := na) ⟨_, (N8 _ (List.Mem.head _)).1, rfl, _, rfl⟩ (isList_keeps HN F8.keep) HK HS ?_ ?_
  · show un + 3 < cLine; omega
  have hL23 : s.heap.objs.size ≠ 23 := Ne.symm (N8 _ (by k_mem : (23, tabObj ps) ∈ _)).2.1
  try k_fold
  k_steps
  refine lines_spec (mg := mg) (mb := mb) (Φ := Φ) (d := d) (ls := ls) (end_sees F8 N8 (by k_mem) tok X T BM) ⟨?_, ?_, rfl⟩ hne h11 (HE.keeps (end_stays F8)) ?_
  · show dp + 1 + 2 < recursionLimit; omega
  · show un + 3 + 16 < cLine; omega
  intro q vals h9 tk9 S9 st9 HQ HR
  obtain ⟨ps9, tab9, tok9⟩ := S9.tab
  have F9 := back_fr F8 hL23 st9
  have N9 := back_news (g := s.heap) hL23 tab9
  clear F8 N8
  have hrl : rows.length ≤ 12 := by
    have h1 := congrArg List.length hrw
    have h2 := places_len ls
    unfold totals at h1
    simp only [List.length_map, List.length_cons] at h1
    omega
  k_dflt (refine LCg.ListComp_U (F₀ := F9) (by rfl) (by decide) (by rfl) (by decide) (by rfl) ?_)
  walk1
  refine LCg.CompSrc.base rfl F9 N9 HL.1 (by rw [sizeLine_eq]; simp; omega) fun g' => ?_
  refine compRest_inv (n := (rows.map fun a => Value.ref a.1).toArray.size) (fun i ys news => (∀ p ∈ (23, tabObj ps9) :: allNews (hid s.heap) s.heap.objs.size (hid h9), p ∈ news) ∧ ys.length = i ∧ ∀ (j : Nat) (y : Value), ys[j]? = some y → ∃ r T u0 u1 u2 u3, rows[j]? = some r ∧ y = Value.ref T ∧
    (T, tupO #[.float (Float64.div (Float64.ofInt r.2.r) 4643211215818981376) u0, .float (Float64.div (Float64.ofInt r.2.g) 4643211215818981376) u1, .float (Float64.div (Float64.ofInt r.2.b) 4643211215818981376) u2, .int r.2.n u3]) ∈ news ∧ (u0 ≠ 0 ∧ u1 ≠ 0 ∧ u2 ≠ 0)) ?step ?fin _ 0 [] _ (Nat.zero_add _) ⟨fun p hp => hp, rfl, by simp⟩
  case step =>
    rintro i ys news v I oI C oC D m₂ h tk E' hi ⟨hsub, hlen, hys⟩ hP hC hx F N off ne
    obtain ⟨⟨ea, ⟨er, eg, eb, en⟩⟩, he, rfl⟩ : ∃ e, rows[i]? = some e ∧ Value.ref e.1 = v := by
      have hP' : (rows.map fun a => Value.ref a.1)[i]? = some v := by simpa using hP
      rw [List.getElem?_map] at hP'
      exact Option.map_eq_some_iff.mp hP'
    obtain ⟨t0, t1, t2, t3, hl⟩ := HL.2 _ (List.mem_of_getElem? he)
    obtain ⟨hb0, hb1, hb2⟩ : (0 ≤ er ∧ er < 166) ∧ (0 ≤ eg ∧ eg < 166) ∧ (0 ≤ eb ∧ eb < 166) := by
      have hm : (⟨er, eg, eb, en⟩ : Row4) ∈ totals ls := by rw [← hrw]; exact List.mem_map.mpr ⟨_, List.mem_of_getElem? he, rfl⟩
      rw [totals_grp] at hm
      obtain ⟨l, hl1, hl2⟩ := List.mem_map.mp hm
      have b0 := col_bounds (i := 0) (grp_goods hgood hl1)
      have b1 := col_bounds (i := 1) (grp_goods hgood hl1)
      have b2 := col_bounds (i := 2) (grp_goods hgood hl1)
      have b3 := grp_len hl1
      rw [tot_eq] at hl2
      cases hl2
      omega
    dsimp only at hl ⊢
    clear F9 N9
    refine hideQ fun QQ toQ => ?_
    k_steps
    all_goals first
      | (exfalso; exact not_over hb0.1 hb0.2 (by assumption))
      | (exfalso; exact not_over hb1.1 hb1.2 (by assumption))
      | (exfalso; exact not_over hb2.1 hb2.2 (by assumption))
      | skip
    rename Fr _ _ _ _ => F1
    rename News _ _ _ _ => N1
    rename_i lt1
    show QQ _ _
    refine toQ _ _ (compEnd_one F1 N1 off ⟨Nat.ne_of_gt lt1.1, Nat.ne_of_gt lt1.2.1, Nat.ne_of_gt lt1.2.2.1⟩ (.inl HL.1) ⟨fun p hp => List.Mem.tail _ (hsub p hp), by simp [hlen], fun j y hj => ?inv⟩)
    case inv =>
      rw [List.getElem?_append] at hj
      split at hj
      · obtain ⟨r, T, u0, u1, u2, u3, g1, g2, g3, g4⟩ := hys j y hj
        exact ⟨r, T, u0, u1, u2, u3, g1, g2, List.Mem.tail _ g3, g4⟩
      · have hji : j = i := by
          have := (List.getElem?_eq_some_iff.mp hj).1
          simp at this
          omega
        subst hji
        rw [hlen, Nat.sub_self] at hj
        cases hj
        exact ⟨_, _, _, _, _, _, he, rfl, List.Mem.head _, Nat.succ_ne_zero _, Nat.succ_ne_zero _, Nat.succ_ne_zero _⟩
  case fin =>
    rintro ys news ⟨hsub, hlen, hys⟩
    intro D h tk F N off1
    dsimp only
    have hst := staysBut F F9 N (fun p hp => List.Mem.tail _ (hsub p (List.Mem.tail _ hp)))
    have Xh : (Mine.hd.heap_39 w.params).In h := X.keeps F.keep
    have hq : h.IsList q (List.toArray vals) := by
      obtain ⟨o, ho, r⟩ := id HQ
      exact ⟨o, of_hid (hst _ _ (fr_ne_list F9 HQ) ho), r⟩
    have hD : h.IsList D ys.toArray := ⟨_, (N _ (List.Mem.head _)).1, rfl, _, rfl⟩
    have hvl : vals.length = rows.length := by
      have h1 := congrArg List.length hrw
      rw [List.length_map, totals_grp, List.length_map] at h1
      rw [HR.1, h1]
    have hyl : ys.length = rows.length := by rw [hlen]; simp
    refine SeqAt.eq_listAt (e := fun _ => true) hq hD (by simp; omega) (by show un + 3 < cLine; omega) (fun j j1 j2 => ?_) ?_
    · have j1' : j < vals.length := by simpa using j1
      have hj1 : vals[j]? = some (List.toArray vals)[j] := by simp [j1']
      have j2' : j < ys.length := by simpa using j2
      have hj2 : ys[j]? = some ys.toArray[j] := by simp [j2']
      obtain ⟨r, T, u0, u1, u2, u3, g1, g2, g3, g4⟩ := hys j _ hj2
      have hg : (grp ls)[j]? = some (grp ls)[j]! := by
        have : j < (grp ls).length := by rw [← HR.1]; exact j1'
        simp [this]
      have hr2 : r.2 = tot (grp ls)[j]! := by
        have h1 : (rows.map (·.2))[j]? = some r.2 := by rw [List.getElem?_map, g1]; rfl
        rw [hrw, totals_grp, List.getElem?_map, hg] at h1
        exact (Option.some.inj h1).symm
      have hlg := HR.2 j _ _ hj1 hg
      obtain ⟨aa, x0, x1, x2, t0, t1, t2, t3, e1, e2, f0, f1, f2, z⟩ := RowIs.keepsBut (hx := h) hlg F9 hst
      rw [e1, g2]
      rw [hr2, tot_eq] at g3
      dsimp only at g3
      have hT : h.IsTuple T _ := ⟨_, (N _ (List.Mem.tail _ g3)).1, rfl, _, rfl⟩
      have ha := tup_of_hid e2
      exact eq_row Xh (by show un + 3 + 1 < cLine; omega) ha hT z g4 (hΦ 0 _ _ f0) (hΦ 1 _ _ f1) (hΦ 2 _ _ f2)
    · have : (List.range (List.toArray vals).size).all (fun _ => true) = true := by simp
      rw [this]
      show Q _ _
      exact ret _ _ (end_sees F N (List.Mem.tail _ (hsub _ (List.Mem.head _))) tok9 X T BM) (end_stays F)
end Mine
end
section
open PySem PySem.W PySem.Calls PyProof.Rows
open Sem (wp)
set_option maxRecDepth 100000
set_option maxHeartbeats 8000000
namespace Mine

/-- a call of a def with cells -/
theorem enterC {K : Frag} {prog : Program} {w : World} {A : Around} {s : Shared} {Q E : Value → Shared → Prop} {p : Program} {loose : List Str} {mg mb : Str → Option Value} {ps : Array Value}
    {name qual : Str} {params : Arguments} {body : List Stmt} {scope : Scope} {dV kV doc pm cdv ct oc : Value} {an od : Option Addr} {osl : Array (Option Value)} {f : Addr} {args : List Value} {binds : List (Str × Value)}
    (X : K.In (hid s.heap)) (T : TopRead p loose mg mb (hid s.heap)) (tab : s.heap.get? 23 = some (tabObj ps))
    (ho : K.lookup f = some ⟨oc, od, .func (fnOf name qual params body scope dV kV doc pm an cdv ct), osl⟩) (hcd : codeIn K cdv qual = true) (hroom : A.depth < recursionLimit)
    (hbind : BindsTo s (fnOf name qual params body scope dV kV doc pm an cdv ct) ⟨args, []⟩ binds) (hkind : (binds.all fun y => scope.names.lookup y.1 == some .local || scope.names.lookup y.1 == some .cell) = true)
    (hnd : ((cellsFrom 0 scope.names []).map (·.1)).Nodup)
    (h : ∀ h₁ tk cells, Fr (hid s.heap) s.heap.objs.size h₁ (bindL (envOfC qual scope s.heap.objs.size f cdv).kindOf binds fun _ => none) → News (hid s.heap) s.heap.objs.size h₁ (cells ++ [(23, tabObj ps)]) →
      CellsAre (bindC (envOfC qual scope s.heap.objs.size f cdv).kindOf binds fun _ => none) (cellsFrom (s.heap.objs.size + 1) scope.names []) cells →
      wpAny (model prog w) (A.deeper (envOfC qual scope s.heap.objs.size f cdv)) (execs body (envOfC qual scope s.heap.objs.size f cdv))
        (fun fl s' => Q (match fl with | .ret v => v | _ => .none) s') (fun _ _ => False)
        { s with heap := h₁, toks := tk })
    (hco : scope.isCoroutine = false := by rfl) (hgen : scope.isGenerator = false := by rfl) (hk : scope.kind = .function := by rfl) : wpAny (model prog w) A (call (.ref f) args) Q E s := by
  have up : Stays (hid s.heap) s.heap := fun b o e => of_hid e
  refine wpAny_call ?_
  refine codeAny_call_function hroom (up _ _ (X _ _ ho)) rfl hco hgen rfl (codeRec_of (X.keeps up) hcd) (hbind _ _ _ _ ?_)
  refine wpAny_newFunctionEnv_cells hk (kindsX hkind _) fun env' he s' x => ?_
  subst he
  refine ⟨(T.nolimit.keeps up).keeps x.toInCall.keep, codeAny_func ?_⟩
  obtain ⟨h₁, tk, rfl, _⟩ := x.done
  have hk₁ := x.toInCall.keep
  obtain ⟨cells, NC, Y⟩ := Cl.news (h₀ := s.heap) (Nat.le_refl _) fun n c hm => ⟨x.cell n c (lookup_of_mem_nodup (cellsFrom_names scope.names 0 (s.heap.objs.size + 1) [] [] rfl ▸ hnd) hm), x.above n c hm⟩
  refine wpAny_mono (h h₁ tk cells ⟨x.toInCall.ns, fun b o e => hk₁ b o (up b o e), Nat.le_of_eq (hid_size _)⟩ (fun p hp => ?_) Y) (fun fl s' hl => hl) fun _ _ y => y.elim
  rcases List.mem_append.mp hp with hp | hp
  · refine ⟨(NC p hp).1, (NC p hp).2.1, ?_⟩
    cases q : (hid s.heap).get? p.1 with
    | none => rfl
    | some o => have := up _ _ q; rw [(NC p hp).2.2] at this; cases this
  · rw [List.mem_singleton.mp hp]
    exact ⟨hk₁ _ _ tab, Nat.ne_of_lt (Heap.lt_size tab), hid_none _⟩

section
variable {prog : Program} {w : World} {A : Around} {s : Shared} {g : Heap} {L : Addr} {m : Str → Option Value}

/-- a for over pairs, the first name a cell, the second a local -/
theorem loop_cell {env : Env} {R : Result → Shared → Prop} {xa xb : Str} {pa pb pt : Pos} {kt : Nat} {body : List Stmt} {ps : Array Value} {z c : Addr} {fp wr : List Addr} {n : Nat} {Pt : Nat → Array Value → Prop} {St : Nat → Heap → Prop} {Mid : Nat → Addr → Heap → Prop} {oc : Obj} {vc : Option Value}
    (W : WalksU prog w A z fp wr n Pt St Mid) (h2 : ∀ i vals, Pt i vals → ∃ va vb, vals = #[va, vb]) (kn : List (Addr × Obj)) (hkn : ∀ p ∈ kn, p.1 ∉ wr ∧ p.1 ≠ c ∧ p.1 ≠ 23) (hN : News (hid g) L s.heap kn)
    (hwr : ∀ b ∈ wr, b ≠ L ∧ b ≠ 23 ∧ b ≠ c ∧ (hid g).get? b = none) (hfp : ∀ b ∈ fp, b ∈ wr ∨ (∃ o, (hid g).get? b = some o) ∨ ∃ o, (b, o) ∈ kn)
    (hwo : ∀ i h, St i h → ∀ b ∈ wr, ∃ o, h.get? b = some o)
    (hcL : c ≠ L) (hc23 : c ≠ 23) (hgc : (hid g).get? c = none) (hoc : s.heap.get? c = some oc) (hocd : oc.data = .cell vc)
    (hL : env.locals = L) (hL23 : L ≠ 23) (hh : A.handled = none) (hkind : env.scope.kind = .function) (hxa : env.kindOf xa = some .cell) (hca : env.cells.lookup xa = some c) (hxb : env.kindOf xb = some .local)
    (F : Fr (hid g) L s.heap m) (tab : s.heap.get? 23 = some (tabObj ps)) (tok : TabOk ps) (hst : St 0 s.heap)
    (step : ∀ (i : Nat) (va vb : Value) (m₁ : Str → Option Value) (h : Heap) (tk : Nat) (o : Obj) (ps : Array Value) (knw : List (Addr × Obj)), i < n → Pt i #[va, vb] → o.data = .cell (some va) → knw.map (·.1) = wr → TabOk ps →
      Fr (hid g) L h (fun y => if y = xb then some vb else m₁ y) → News (hid g) L h ((c, o) :: (23, tabObj ps) :: (knw ++ kn)) → (∀ p ∈ knw ++ kn, p.1 ≠ 23 ∧ p.1 ≠ c) →
      wpAny (model prog w) A (execs body env) (fun f s₂ => f = .next ∧ ∃ h' tk' m₂ ps' o' v', s₂ = { s with heap := h', toks := tk' } ∧ Fr (hid g) L h' m₂ ∧ News (hid g) L h' ((c, o') :: (23, tabObj ps') :: (knw ++ kn)) ∧ TabOk ps' ∧ o'.data = .cell v')
        (fun _ _ => False) { s with heap := h, toks := tk })
    (done : ∀ m' h' tk' ps', Fr (hid g) L h' m' → News (hid g) L h' ((23, tabObj ps') :: kn) → TabOk ps' → R (.ok .next) { s with heap := h', toks := tk' }) :
    codeAny (model prog w) A (.forLoop (.Tuple [.Name xa pa, .Name xb pb] kt pt) (.ref z) body [] env) R s := by
  subst hL
  have hp : (env.scope.kind == .class || (env.scope.kind == .module && env.locals != env.globals)) = false := by rw [hkind]; rfl
  have nwr : ∀ b, (b = env.locals ∨ b = 23 ∨ b = c ∨ ∃ o, (hid g).get? b = some o) → b ∉ wr := by
    intro b hb hm
    obtain ⟨a1, a2, a3, a4⟩ := hwr b hm
    rcases hb with rfl | rfl | rfl | ⟨o, ho⟩
    · exact a1 rfl
    · exact a2 rfl
    · exact a3 rfl
    · rw [a4] at ho; cases ho
  have near : ∀ {H h₁ : Heap} {m' : Str → Option Value}, Fr (hid g) env.locals H m' → (∀ b o, b ∉ wr → H.get? b = some o → h₁.get? b = some o) → Fr (hid g) env.locals h₁ m' := fun F' hk => by
    obtain ⟨oL, es, ep, ho, r⟩ := F'.ns
    exact ⟨⟨oL, es, ep, hk _ _ (nwr _ (.inl rfl)) ho, r⟩, fun b o e => hk b o (nwr _ (.inr (.inr (.inr ⟨o, e⟩)))) (F'.keep b o e), F'.above⟩
  refine codeAny_forLoop_any
    (fun k s' => ∃ h' tk m' ps' i oc' vc', s' = { s with heap := h', toks := tk } ∧ St i h' ∧ Fr (hid g) env.locals h' m' ∧ h'.get? 23 = some (tabObj ps') ∧ TabOk ps' ∧ News (hid g) env.locals h' kn ∧ h'.get? c = some oc' ∧ oc'.data = .cell vc' ∧ i ≤ n ∧ k = n + 1 - i) ?_ (n + 1)
    ⟨s.heap, s.toks, m, ps, 0, oc, vc, rfl, hst, F, tab, tok, hN, hoc, hocd, Nat.zero_le _, rfl⟩
  rintro k s' ⟨H, tk, m', ps', i, oc', vc', rfl, hst', F', tab', tok', hN', hoc', hocd', hi, rfl⟩
  by_cases hlt : i < n
  · refine W.item i _ _ _ hlt hst' fun T vals h₁ tk₁ hP hT hmid hk₁ => ?_
    obtain ⟨va, vb, rfl⟩ := h2 i vals hP
    refine W.go _ _ _ i T _ _ _ hmid fun h₂ hst₂ hk₂ => ?_
    have hT₂ : h₂.IsTuple T #[va, vb] := let ⟨o, e, r⟩ := hT; ⟨o, hk₂ _ o (W.apart i T _ hmid) e, r⟩
    have F₂ := near (near F' hk₁) hk₂
    refine wpAny_assign_Tuple hh hT₂ rfl rfl fun h₃ hx₃ => ?_
    replace hx₃ : Heap.ExtBut h₂.objs.size h₂ h₃ := hx₃
    have old₃ : ∀ b o, h₂.get? b = some o → h₃.get? b = some o := fun b o e => hx₃ b o (Nat.ne_of_lt (Heap.lt_size e)) e
    have up₃ : ∀ b o, b ∉ wr → H.get? b = some o → h₃.get? b = some o := fun b o hb e => old₃ b o (hk₂ b o hb (hk₁ b o hb e))
    have hoc₃ : h₃.get? c = some oc' := up₃ _ _ (nwr _ (.inr (.inr (.inl rfl)))) hoc'
    show wpAny _ _ (do holding [vb] (assign (.Name xa pa) env va); do holding [] (assign (.Name xb pb) env vb); pure ()) _ _ _
    refine wpAny_bind (wpAny_holding (wpAny_assign_Name (wpAny_storeName_cell hkind hxa hca ⟨oc', hoc₃, hocd'⟩ fun h₄ hv₄ hs₄ => ?_)))
    replace hs₄ : Heap.SameBut c h₃ h₄ := hs₄
    have F₄ : Fr (hid g) env.locals h₄ m' := by
      have F₃ : Fr (hid g) env.locals h₃ m' := F₂.keeps old₃
      obtain ⟨oL, es, ep, ho, r⟩ := F₃.ns
      exact ⟨⟨oL, es, ep, hs₄.extBut _ _ (Ne.symm hcL) ho, r⟩, fun b o e => hs₄.extBut b o (fun q => by rw [q, hgc] at e; cases e) (F₃.keep b o e), F₃.above⟩
    refine wpAny_bind (wpAny_holding (wpAny_assign_Name (wpAny_storeName_local hxb F₄.ns (fun h₅ hn₅ hs₅ => wpAny_pure ?_) hp)))
    replace hs₅ : Heap.SameBut env.locals h₄ h₅ := hs₅
    have F₅ : Fr (hid g) env.locals h₅ (fun y => if y = xb then some vb else m' y) := F₄.set hn₅ hs₅
    have up₅ : ∀ b o, b ≠ env.locals → b ≠ c → h₃.get? b = some o → h₅.get? b = some o := fun b o hb hb2 e => hs₅.extBut b o hb (hs₄.extBut b o hb2 e)
    obtain ⟨o₄, ho₄, hd₄⟩ := hv₄
    have hst₅ : St (i + 1) h₅ := W.frame _ _ _ hst₂ fun b hb o e => up₅ b o (by
        rcases hfp b hb with h | ⟨o', h⟩ | ⟨o', h⟩
        · exact (hwr b h).1
        · exact fun q => by subst q; exact absurd (Nat.lt_of_lt_of_le (Heap.lt_size h) F'.above) (Nat.lt_irrefl _)
        · exact (hN' _ h).2.1) (by
        rcases hfp b hb with h | ⟨o', h⟩ | ⟨o', h⟩
        · exact (hwr b h).2.2.1
        · exact fun q => by rw [q, hgc] at h; cases h
        · exact (hkn _ h).2.1) (old₃ b o e)
    obtain ⟨knw, hknw, hkh⟩ : ∃ knw : List (Addr × Obj), knw.map (·.1) = wr ∧ ∀ p ∈ knw, h₅.get? p.1 = some p.2 := by
      have := hwo _ _ hst₅
      clear hwo hwr hkn hfp nwr near W hk₁ hk₂ up₃ step
      induction wr with
      | nil => exact ⟨[], rfl, fun _ h => nomatch h⟩
      | cons b r ih =>
        obtain ⟨o, ho⟩ := this b (List.Mem.head _)
        obtain ⟨kr, h1, h2⟩ := ih fun b hb => this b (List.Mem.tail _ hb)
        refine ⟨(b, o) :: kr, by rw [List.map_cons, h1], fun p hp => ?_⟩
        rcases List.mem_cons.mp hp with rfl | hp
        · exact ho
        · exact h2 p hp
    have hkw : ∀ p ∈ knw, p.1 ∈ wr := fun p hp => by rw [← hknw]; exact List.mem_map.mpr ⟨p, hp, rfl⟩
    have N₅ : News (hid g) env.locals h₅ ((c, o₄) :: (23, tabObj ps') :: (knw ++ kn)) := fun p hp => by
      rcases List.mem_cons.mp hp with rfl | hp
      · exact ⟨hs₅.extBut _ _ hcL ho₄, hcL, hgc⟩
      rcases List.mem_cons.mp hp with rfl | hp
      · exact ⟨up₅ _ _ (Ne.symm hL23) (Ne.symm hc23) (up₃ _ _ (nwr _ (.inr (.inl rfl))) tab'), Ne.symm hL23, hid_none _⟩
      rcases List.mem_append.mp hp with hp | hp
      · obtain ⟨a1, a2, a3, a4⟩ := hwr _ (hkw p hp)
        exact ⟨hkh p hp, a1, a4⟩
      · exact ⟨up₅ _ _ (hN' p hp).2.1 (hkn p hp).2.1 (up₃ _ _ (hkn p hp).1 (hN' p hp).1), (hN' p hp).2⟩
    have hne : ∀ p ∈ knw ++ kn, p.1 ≠ 23 ∧ p.1 ≠ c := fun p hp => by
      rcases List.mem_append.mp hp with hp | hp
      · obtain ⟨a1, a2, a3, a4⟩ := hwr _ (hkw p hp)
        exact ⟨a2, a3⟩
      · exact ⟨(hkn p hp).2.2, (hkn p hp).2.1⟩
    refine wpAny_mono (step i va vb m' h₅ _ o₄ ps' knw hlt hP hd₄ hknw tok' F₅ N₅ hne) (fun f s₃ h₃ => ?_) fun _ _ x => x.elim
    obtain ⟨rfl, h₆, tk₆, m₆, ps₆, o₆, v₆, rfl, F₆, N₆, tok₆, hd₆⟩ := h₃
    refine ⟨n + 1 - (i + 1), by omega, h₆, tk₆, m₆, ps₆, i + 1, o₆, v₆, rfl, ?_, F₆, (N₆ _ (.tail _ (.head _))).1, tok₆, fun p hp => N₆ p (.tail _ (.tail _ (List.mem_append_right _ hp))), (N₆ _ (.head _)).1, hd₆, hlt, rfl⟩
    refine W.frame _ _ _ hst₅ fun b hb o e => ?_
    rcases hfp b hb with h | ⟨o', h⟩ | ⟨o', h⟩
    · obtain ⟨p, hp, rfl⟩ := List.mem_map.mp (hknw ▸ h)
      have := hkh p hp
      rw [e] at this; cases this
      exact (N₆ p (.tail _ (.tail _ (List.mem_append_left _ hp)))).1
    · have := F₅.keep b o' h
      rw [e] at this; cases this
      exact F₆.keep b o h
    · have := (N₅ _ (.tail _ (.tail _ (List.mem_append_right _ h)))).1
      rw [e] at this; cases this
      exact (N₆ _ (.tail _ (.tail _ (List.mem_append_right _ h)))).1
  · obtain rfl : i = n := by omega
    refine W.done _ _ _ hst' fun h₁ tk₁ hk₁ => wpAny_execs_nil ?_
    refine done m' h₁ tk₁ ps' (near F' hk₁) (fun p hp => ?_) tok'
    rcases List.mem_cons.mp hp with rfl | hp
    · exact ⟨hk₁ _ _ (nwr _ (.inr (.inl rfl))) tab', Ne.symm hL23, hid_none _⟩
    · exact ⟨hk₁ _ _ (hkn p hp).1 (hN' p hp).1, (hN' p hp).2⟩
end
end Mine
end
section
open PySem PySem.W PySem.Calls PyProof.Rows
open Sem (wp)
set_option maxRecDepth 100000
set_option maxHeartbeats 8000000
namespace Mine
section
variable {M : Model} {A : Around} {E : Value → Shared → Prop} {s : Shared} {K : Frag} {h₀ : Heap} {L C c : Addr} {m mg mb : Str → Option Value} {news : List (Addr × Obj)} {scope : Scope} {cl : List (Str × Addr)} {env : Env} {p : Program} {loose : List Str} {x : Str} {pos : Pos} {v : Value} {o : Obj} {Q : Value → Shared → Prop}
theorem blk_cell (N : News h₀ L s.heap news) (hc : cl.lookup x = some c) (hm : (c, o) ∈ news) (hd : o.data = .cell (some v)) (h : Q v s)
    (hk : (compEnvC scope cl C env).scope.kind = .function := by rfl) (hx : (compEnvC scope cl C env).kindOf x = some .cell := by rfl) (hb : (x == ("__debug__" : Str)) = false := by decide) :
    wpAny M A (eval (.Name x pos) (compEnvC scope cl C env)) Q E s := wpAny_Name (wpAny_loadName_cell hk hx hc ⟨o, N.get hm, hd⟩ h) hb
theorem blk_built (F : Fr h₀ L s.heap m) (X : K.In h₀) (T : TopRead p loose mg mb h₀) (e : nsIn K mainGlobals x = some none) (hv : bootBuiltins x = some v) (hn : x ≠ "__name__") (h : Q v s) (hg : env.globals = mainGlobals := by rfl) (hb : env.builtins = builtinsNs := by rfl)
    (hk : (compEnvC scope cl C env).scope.kind = .function := by rfl) (hx : (compEnvC scope cl C env).kindOf x = some .globalImplicit := by rfl) (hd : (x == ("__debug__" : Str)) = false := by decide) :
    wpAny M A (eval (.Name x pos) (compEnvC scope cl C env)) Q E s :=
  Name_function_global hk hx (loadGlobal_builtin (env := compEnvC scope cl C env) (show s.heap.Ns env.globals mg from hg ▸ (T.g.keeps F.keep)) (mg_none_of X T.g e) (show s.heap.Ns env.builtins mb from hb ▸ (T.b.keeps F.keep)) ((T.builtins x hn).trans hv) h) hd
end
section
variable {prog : Program} {w : World} {A : Around} {E : Value → Shared → Prop} {s : Shared} {h₀ : Heap} {L : Addr} {m : Str → Option Value} {env : Env}
def TupSrc (h₀ : Heap) (ax : Addr) (its : Array Value) (news : List (Addr × Obj)) : Prop := IsTup h₀ ax its ∨ ∃ o, (ax, o) ∈ news ∧ o.cls = .type "tuple" ∧ ∃ n, o.data = .seq its n
theorem TupSrc.tup {h : Heap} {ax : Addr} {its : Array Value} {news : List (Addr × Obj)} (x : TupSrc h₀ ax its news) (k : ∀ b o, h₀.get? b = some o → h.get? b = some o) (N : News h₀ L h news) : h.IsTuple ax its := by
  rcases x with ⟨o, e, r⟩ | ⟨o, hm, r⟩
  · exact ⟨o, k _ _ e, r⟩
  · exact ⟨o, (N _ hm).1, r⟩
def SrcT (prog : Program) (w : World) (A : Around) (h₀ : Heap) (L : Addr) (m : Str → Option Value) (env : Env) (elt : Expr) (x : Str) (scope : Scope) (cl : List (Str × Addr)) (Fin : Shared → List Value → List (Addr × Obj) → Prop) (xv : Value) (s₁ : Shared) : Prop :=
  ∃ ax its news, xv = .ref ax ∧ A.handled = none ∧ Fr h₀ L s₁.heap m ∧ News h₀ L s₁.heap news ∧ TupSrc h₀ ax its news ∧ its.size ≤ sizeLine ∧
    ∀ s₂ : Shared, (∃ h, s₂ = { s₁ with heap := h }) → LCg.CompRest prog w A h₀ L m env elt x scope cl s₂ (TupSrc h₀ ax its) (fun i v => its[i]? = some v) (Fin s₂) its.size 0 [] news
theorem comp_tuple {elt iter : Expr} {x : Str} {px : Pos} {scope : Scope} {cl : List (Str × Addr)} {pos : Pos} {Q : Value → Shared → Prop} (hF₀ : Fr h₀ L s.heap m)
    (hclos : closureFor scope env = pure cl) (hcell : ∀ y ∈ scope.names, y.2 ≠ .cell) (hkind : scope.kind = .function)
    (hnames : ∀ y ∈ scope.names, y.2 = .local → scope.names.lookup y.1 = some .local) (hx : scope.names.lookup x = some .local)
    (h : wpAny (model prog w) A (eval iter env) (SrcT prog w A h₀ L m env elt x scope cl (fun s₂ => LCg.FinE h₀ L m s₂ Q)) E s)
    (hs : ∀ x, foldedSetIterable iter env x = pure x := by intro _; rfl) :
    wpAny (model prog w) A (eval (.ListComp elt [⟨.Name x px, iter, [], 0⟩] scope pos) env) Q E s := by
  rw [eval_ListComp]
  refine wpAny_comprehension_free (use := none) rfl hs hclos hkind hnames (wpAny_mono h (fun xv s₁ h₁ => ?_) fun _ _ e => e)
  obtain ⟨ax, its, news, rfl, hh, F, N, S, hsz, R⟩ := h₁
  have ht := S.tup F.keep N
  have hlt : ax < s₁.heap.objs.size := by obtain ⟨_, e, _⟩ := ht; exact Heap.lt_size e
  refine wpAny_pyIter_tuple ht ?_
  have up : ∀ b o, s₁.heap.get? b = some o → (s₁.heap.push { cls := .type "tuple_iterator", data := .fields #[.ref ax, .int 0 0] }).get? b = some o := fun b o e => Heap.get?_push_of_some _ e
  refine LCg.block_U (Walks.tuple hh s₁.heap.objs.size ax (Nat.ne_of_lt hlt) its) hsz (fun i h st => by obtain ⟨o, e, _⟩ := st.1; exact ⟨o, e⟩)
    (fun i h h' oi nw st e e' k N' S => ⟨by obtain ⟨o', q, r⟩ := st.1; rw [e] at q; cases q; exact ⟨oi, e', r⟩, S.tup k N'⟩) hcell hkind hx
    ⟨⟨_, Heap.get?_push_size _ rfl, rfl, rfl⟩, ht.at fun o e => up _ o e⟩ (fun b hb => ?_)
    (F.keeps up) (N.grown up) (Nat.ne_of_lt F.ns.lt) (next_is_new F) (fun p hp => Nat.ne_of_lt (Heap.lt_size (N p hp).1)) S (R _ ⟨_, rfl⟩) ?_
  · show b < (s₁.heap.push _).objs.size
    rw [Heap.size_push]
    rcases List.mem_cons.mp hb with rfl | hb
    · exact Nat.lt_succ_self _
    · rw [List.mem_singleton.mp hb]; exact Nat.lt_succ_of_lt hlt
  · intro D C h tk m' ys news' F' N' o1 hn hC₀ hD₀ hCL hDL hCD offC fin
    refine ⟨m', hn, fun h'' hs'' => fin D h'' tk (F'.change hs'' hCL hC₀) (fun p hp => ?_) o1⟩
    refine ⟨hs''.extBut _ _ ?_ (N' p hp).1, (N' p hp).2⟩
    rcases List.mem_cons.mp hp with rfl | hp
    · exact Ne.symm hCD
    · exact offC p hp
/-- != of two lists of the same three ints -/
theorem ne_ints3 {l b : Addr} {n0 n1 n2 : Int} {t0 t1 t2 u0 u1 u2 : Tok} {Q : Value → Shared → Prop} (hl : s.heap.IsList l #[.int n0 t0, .int n1 t1, .int n2 t2]) (hb : s.heap.IsList b #[.int n0 u0, .int n1 u1, .int n2 u2]) (hu : A.units < cLine) (h : Q (.bool false) s) :
    wpAny (model prog w) A (compareOp .NotEq (.ref l) (.ref b)) Q E s := by
  refine SeqAt.RcNeAt.lists (e := fun _ => true) hl hb rfl hu (fun j j1 j2 => ?_) prog w E Q h
  match j, j1, j2 with
  | 0, _, _ =>
    have := SeqAt.EqAt.int_int (A := A.in1) (s := s) n0 t0 n0 u0
    rwa [beq_self_eq_true] at this
  | 1, _, _ =>
    have := SeqAt.EqAt.int_int (A := A.in1) (s := s) n1 t1 n1 u1
    rwa [beq_self_eq_true] at this
  | 2, _, _ =>
    have := SeqAt.EqAt.int_int (A := A.in1) (s := s) n2 t2 n2 u2
    rwa [beq_self_eq_true] at this
end
end Mine
end
section
open PySem PySem.W PySem.Calls PyProof.Rows
set_option maxRecDepth 100000
set_option maxHeartbeats 8000000
namespace Mine
section
variable {prog : Program} {w : World} {A : Around} {s : Shared} {h₀ : Heap} {L : Addr} {m : Str → Option Value} {env : Env}
theorem compRest_fix {elt : Expr} {x : Str} {scope : Scope} {cl : List (Str × Addr)} {S : List (Addr × Obj) → Prop} {P : Nat → Value → Prop} {Fin : List Value → List (Addr × Obj) → Prop} {n : Nat} {nn : List (Addr × Obj)} (V : Nat → Value → Prop) (hS : S nn)
    (step : ∀ (i : Nat) (ys : List Value) (v : Value) (I : Addr) (oI : Obj) (C : Addr) (oC : Obj) (D : Addr) (m₂ : Str → Option Value) (h : Heap) (tk : Nat) (E' : Value → Shared → Prop), i < n → P i v → LCg.NsObj oC m₂ → m₂ x = some v → Fr h₀ L h m → News h₀ L h ((I, oI) :: (C, oC) :: (D, LCg.lst ys) :: nn) →
      wpAny (model prog w) A (eval elt (compEnvC scope cl C env)) (fun y s₂ => V i y ∧ ∃ h' tk', s₂ = { s with heap := h', toks := tk' } ∧ Fr h₀ L h' m ∧ News h₀ L h' ((I, oI) :: (C, oC) :: (D, LCg.lst ys) :: nn)) E' { s with heap := h, toks := tk })
    (fin : ∀ ys : List Value, ys.length = n → (∀ (j : Nat) (y : Value), ys[j]? = some y → V j y) → Fin ys nn) : LCg.CompRest prog w A h₀ L m env elt x scope cl s S P Fin n 0 [] nn := by
  refine compRest_inv (fun i ys news => news = nn ∧ ys.length = i ∧ ∀ (j : Nat) (y : Value), ys[j]? = some y → V j y) ?_ ?_ n 0 [] nn (Nat.zero_add _) ⟨rfl, rfl, by simp⟩
  · rintro i ys news v I oI C oC D m₂ h tk E' hi ⟨rfl, hlen, hV⟩ hP hC hx F N off ne
    refine wpAny_mono (step i ys v I oI C oC D m₂ h tk E' hi hP hC hx F N) (fun y s₂ h₂ => ?_) fun _ _ e => e
    obtain ⟨hy, h', tk', rfl, F', N'⟩ := h₂
    refine ⟨h', tk', _, rfl, F', N', LCg.Off3.of off, hS, rfl, by rw [List.length_append, hlen]; rfl, fun j y' hj => ?_⟩
    rw [List.getElem?_append] at hj
    split at hj
    · exact hV j y' hj
    · have hji : j = i := by
        have := (List.getElem?_eq_some_iff.mp hj).1
        simp at this
        omega
      subst hji
      rw [hlen, Nat.sub_self] at hj
      cases hj
      exact hy
  · rintro ys news ⟨rfl, hlen, hV⟩
    exact fin ys hlen hV
theorem ints3 {ys : List Value} {V : Nat → Value → Prop} {f : Nat → Int} (hlen : ys.length = 3) (hV : ∀ (j : Nat) (y : Value), ys[j]? = some y → V j y) (hf : ∀ j y, V j y → ∃ t, y = .int (f j) t) : ∃ t0 t1 t2, ys = [.int (f 0) t0, .int (f 1) t1, .int (f 2) t2] := by
  match ys, hlen with
  | [a, b, c], _ =>
    obtain ⟨t0, rfl⟩ := hf 0 a (hV 0 a rfl)
    obtain ⟨t1, rfl⟩ := hf 1 b (hV 1 b rfl)
    obtain ⟨t2, rfl⟩ := hf 2 c (hV 2 c rfl)
    exact ⟨t0, t1, t2, rfl⟩
end
end Mine
end
section
open PySem PySem.W PySem.Calls PyProof.Rows
set_option maxRecDepth 100000
set_option maxHeartbeats 8000000
set_option pp.fieldNotation false
namespace Mine

def yr (b0 b1 b2 : UInt64) : UInt64 := Float64.add (Float64.add b0 (Float64.mul 4606703976345377586 b1)) (Float64.mul 4603791717925830846 b2)
def yg (b0 b1 b2 : UInt64) : UInt64 := Float64.sub (Float64.sub b0 (Float64.mul 4598621754083818298 b1)) (Float64.mul 4603901015759978483 b2)
def yb (b0 b1 b2 : UInt64) : UInt64 := Float64.add (Float64.sub b0 (Float64.mul 4607671262177584182 b1)) (Float64.mul 4610375502138591871 b2)
def RndOk (c x : UInt64) (n : Int) : Prop := Float64.isFinite (Float64.mul c x) = true ∧ Flt.toInt Float64.nearestOf (Float64.mul c x) = n
def NotOver (x : UInt64) : Prop := (Float64.cmp x 4607182418800017408 == some Ordering.gt) = false
structure NumOk (R G B : Int) (b0 b1 b2 : UInt64) : Prop where
  r0 : RndOk 4702751969486307328 b0 (3000 * R + 5900 * G + 1100 * B)
  r1 : RndOk 4702751969486307328 b1 (5990 * R - 2773 * G - 3217 * B)
  r2 : RndOk 4702751969486307328 b2 (2130 * R - 5251 * G + 3121 * B)
  o0 : NotOver (yr b0 b1 b2)
  o1 : NotOver (yg b0 b1 b2)
  o2 : NotOver (yb b0 b1 b2)
  k0 : RndOk 4643211215818981376 (clamp0 (yr b0 b1 b2)) R
  k1 : RndOk 4643211215818981376 (clamp0 (yg b0 b1 b2)) G
  k2 : RndOk 4643211215818981376 (clamp0 (yb b0 b1 b2)) B
local macro_rules | `(tactic| walk_at "eval Name") => `(tactic| (k_here; (with_reducible show wpAny _ _ (eval (Expr.Name _ _) (compEnvC _ _ _ _)) _ _ _); k_dflt (first
  | refine blk_cell (by k_asm) (by rfl) (by k_mem) (by k_asm) ?_
  | refine blk_built (by k_asm) (by k_asm) (by k_asm) (by k_is) (by boot_fast) (by decide) ?_)))
theorem TupSrc.isTup {h₀ h : Heap} {L ax : Addr} {its : Array Value} {m : Str → Option Value} {nn news : List (Addr × Obj)} (x : TupSrc h₀ ax its nn) (F : Fr h₀ L h m) (N : News h₀ L h news) (hs : ∀ p ∈ nn, p ∈ news) : IsTup h ax its :=
  x.tup F.keep (fun p hp => N p (hs p hp))
local macro_rules | `(tactic| walk_at "subscriptTail") => `(tactic| (k_here; (with_reducible show wpAny _ _ (subscriptTail _ _ (Value.ref _) (Value.int _ _)) _ _ _); k_dflt (refine' item_tupleT ?t ?a ?b ?c ?d ?_; (case t => exact TupSrc.isTup (by assumption) (by k_asm) (by k_asm) (fun p hp => by repeat (first | exact hp | refine List.Mem.tail _ ?_))); (case a => decide); (case b => decide); (case c => rfl); (case d => rfl); k_whole)))
local macro_rules | `(tactic| walk_at "call builtin:len") => `(tactic| (k_here; (with_reducible show wpAny _ _ (call (Value.builtin "len") [Value.ref _]) _ _ _); k_dflt (refine' len_tuple ?t ?a ?_; (case t => exact TupSrc.isTup (by assumption) (by k_asm) (by k_asm) (fun p hp => by repeat (first | exact hp | refine List.Mem.tail _ ?_))); (case a => exact (by decide : ((4 : Nat) : Int) < 2 ^ 63)); k_whole)))
theorem lst_of_hid {h : Heap} {a : Addr} {items : Array Value} (x : (hid h).IsList a items) : h.IsList a items := let ⟨o, ho, r⟩ := x; ⟨o, of_hid ho, r⟩
theorem numbers_spec {w : World} {A : Around} {s : Shared} {Q E : Value → Shared → Prop} {mg mb : Str → Option Value} {Φ : Phi} {r : Value} {d na sa : Addr} {ls : List Light} {vs : List Value} {rows : List (Addr × Row4)}
   (S : Sees w mg mb s.heap) (R : Room A 4 40) (hne : ls ≠ []) (h11 : ls.length ≤ 11) (hΦ : ∀ l b0 b1 b2, l ∈ grp ls → Φ 0 l b0 → Φ 1 l b1 → Φ 2 l b2 → NumOk (col 0 l) (col 1 l) (col 2 l) b0 b1 b2)
   (HE : EntryAt w Φ (hid s.heap) r d ls) (HN : (hid s.heap).IsList na (List.toArray vs)) (HS : StrsAre vs (places ls)) (HL : LinesAt (hid s.heap) sa rows) (hrw : rows.map (·.2) = totals ls)
   (ret : ∀ h' tk', Sees w mg mb h' → Stays (hid s.heap) (hid h') → Q (.bool true) {s with heap := h', toks := tk'}) :
   wpAny (model Challenge.rw_mj0062_01.row.prog w) A (call (.ref 108) [r, .ref na, .ref sa]) Q E s := by
  obtain ⟨a, c0, c1, c2, tn, rfl, HT, p0, p1, p2, nsm, kvs, HD, hkeys, hrows⟩ := id HE
  obtain ⟨X, T, ⟨ps, tab, tok⟩, BM⟩ := S
  obtain ⟨dep, uni, han⟩ := R
  obtain ⟨hdl, dp, fr, gd, un⟩ := A
  dsimp only at dep uni han
  subst han
  revert X; k_fill; intro X
  k_dflt (refine' enterC (binds := [(Str.ofString "total", .ref a), (Str.ofString "names", .ref na), (Str.ofString "sums", .ref sa)]) ?X ?T ?tab ?k6 ?k7 ?k8 ?k9 ?kB ?kN ?_ ?c2 ?c3 ?c4; (case X => assumption); (case T => assumption); (case tab => assumption); (case k6 => k_is); (case k7 => k_is); (case k8 => (show dp < recursionLimit; omega)); (case k9 => exact BindsTo.of_eq rfl); (case kB => rfl); (case kN => decide); (case c2 => exact rfl); (case c3 => exact rfl); (case c4 => exact rfl); k_whole; intro h' tk' cells' F' N' Y'; (try dsimp only); (try k_fold))
  have hY := CellsAre.one Y'
  obtain ⟨oc, hE, hd0⟩ := hY
  subst hE
  clear Y'
  have F0 : Fr (hid s.heap) s.heap.objs.size h' (fun y => if y = Str.ofString "sums" then some (.ref sa) else if y = Str.ofString "names" then some (.ref na) else if y = Str.ofString "total" then some (.ref a) else none) := F'
  have N0 : News (hid s.heap) s.heap.objs.size h' [(s.heap.objs.size + 1, oc), (23, tabObj ps)] := N'
  clear F' N'
  have hL23 : s.heap.objs.size ≠ 23 := Ne.symm (N0 _ (by k_mem : (23, tabObj ps) ∈ _)).2.1
  obtain ⟨cc, hcc⟩ : ∃ cc : Addr, cc = s.heap.objs.size + 1 := ⟨_, rfl⟩
  have hcL : cc ≠ s.heap.objs.size := by rw [hcc]; exact Nat.succ_ne_self _
  rw [← hcc] at N0
  k_steps
  have hkl : kvs.length ≤ 11 := by
    have h1 : (kvs.map (·.1)).length = kvs.length := List.length_map ..
    rw [hkeys] at h1
    have := places_len ls
    omega
  obtain ⟨ep, hat⟩ := (HD.keep F0.keep).dictAt
  refine kdl_N (kdl_dict (knd := PySem.strKind _ w) (kvs := kvs) (ep := ep) nsm) rfl F0 N0 hat (kdl_size (by omega)) fun B c h8 tk8 vk F8 N8 lt8 hl hv => ?_
  have HK : StrsAre vk (places ls) := by
    rw [← hkeys]
    exact strs_of vk hl fun j v e => by
      obtain ⟨k, x, hx, hk⟩ := hv j v e
      exact ⟨k, x, hx, Value.isStrOf_shape hk⟩
  clear F0 N0 hat
  k_lt lt8
  try k_fold
  dsimp only
  refine hideQ fun QN toN => ?_
  k_steps
  refine toN _ _ ?_
  refine ne_strs (l := B) (b := na) ⟨_, (N8 _ (List.Mem.head _)).1, rfl, _, rfl⟩ (isList_keeps HN F8.keep) HK HS ?_ ?_
  · show un + 3 < cLine; omega
  try k_fold
  k_steps
  k_dflt (refine wpAny_For ?_ (by intro _; rfl))
  k_steps
  refine lines_spec (mg := mg) (mb := mb) (Φ := Φ) (d := d) (ls := ls) (end_sees F8 N8 (by k_mem) tok X T BM) ⟨?_, ?_, rfl⟩ hne h11 (HE.keeps (end_stays F8)) ?_
  · show dp + 1 + 2 < recursionLimit; omega
  · show un + 3 + 16 < cLine; omega
  intro q vals h9 tk9 S9 st9 HQ HR
  obtain ⟨ps9, tab9, tok9⟩ := S9.tab
  have F9 := back_fr F8 hL23 st9
  have N9 := back_news (g := s.heap) hL23 tab9
  have hc0 := N8 _ (by k_mem : (cc, oc) ∈ _)
  have hc23 : cc ≠ 23 := by rw [hcc]; exact Nat.ne_of_gt (Nat.lt_succ_of_lt (Heap.lt_size tab))
  have hoc9 : h9.get? cc = some oc := of_hid (st9 _ _ ((hid_get hc23).trans hc0.1))
  clear F8 N8
  try k_fold
  k_steps
  have hl1 := lst_of_hid HQ
  have hl2 := isList_keeps HL.1 F9.keep
  have hq9 : q ≠ s.heap.objs.size := fr_ne_list F9 HQ
  have hLh9 : s.heap.objs.size < h9.objs.size := F9.ns.lt
  have h23h9 : 23 < h9.objs.size := Heap.lt_size tab9
  have hch9 : cc < h9.objs.size := Heap.lt_size hoc9
  have hgnone : ∀ b, s.heap.objs.size ≤ b → (hid s.heap).get? b = none := fun b hb => Heap.get?_none_of_le (by rw [hid_size]; exact hb)
  refine zip_rows F9 hl1 hl2 fun hz z TI TO i1 i2 D hst Fz up z1 z2 z3 z4 hlt => ?_
  have WT := fun (A' : Around) (hA : A'.handled = none) => (WalksT.zip2 (prog := Challenge.rw_mj0062_01.row.prog) (w := w) (A := A') hA z TI TO i1 i2 q sa D (List.toArray vals) (rows.map fun a => Value.ref a.1).toArray).toU
  refine (WT _ ?hA).self 0 _ _ _ hst ?_
  case hA => rfl
  have hTI0 : ∃ o, hz.get? TI = some o ∧ o.cls = .type "tuple" ∧ ∃ n, o.data = .seq #[.ref i1, .ref i2] n := ⟨_, hst.2.1, rfl, _, rfl⟩
  refine loop_cell (g := s.heap) (c := cc) (oc := oc) (ps := ps9) (WT _ rfl) (fun i vals hv => by obtain ⟨x, y, _, _, e⟩ := hv; exact ⟨x, y, e⟩) (restOf (hid s.heap) s.heap.objs.size (hid hz) [cc, z, TO, i1, i2]) ?hkn ?hN ?hwr ?hfp ?hwo hcL hc23 hc0.2.2 (up _ _ hoc9) hd0 rfl hL23 rfl rfl rfl (by rw [hcc]; rfl) rfl Fz (up _ _ tab9) tok9 hst ?step ?done
  case hkn =>
    intro p hp
    obtain ⟨b1, b2, b3, b4⟩ := of_restOf hp
    exact ⟨fun h => b4 (List.Mem.tail _ h), fun h => b4 (h ▸ List.Mem.head _), hid_ne b3⟩
  case hN =>
    intro p hp
    obtain ⟨b1, b2, b3, b4⟩ := of_restOf hp
    exact ⟨of_hid b3, b1, b2⟩
  case hwr =>
    intro b hb
    have hb9 : h9.objs.size ≤ b := by
      simp only [List.mem_cons, List.not_mem_nil, or_false] at hb
      rcases hb with rfl | rfl | rfl | rfl <;> assumption
    exact ⟨Nat.ne_of_gt (Nat.lt_of_lt_of_le hLh9 hb9), Nat.ne_of_gt (Nat.lt_of_lt_of_le h23h9 hb9), Nat.ne_of_gt (Nat.lt_of_lt_of_le hch9 hb9), hgnone _ (Nat.le_of_lt (Nat.lt_of_lt_of_le hLh9 hb9))⟩
  case hfp =>
    intro b hb
    simp only [List.mem_cons, List.not_mem_nil, or_false] at hb
    rcases hb with rfl | rfl | rfl | rfl | rfl | rfl | rfl
    · exact .inl (List.Mem.head _)
    · cases qb : (hid s.heap).get? b with
      | some o => exact .inr (.inl ⟨o, rfl⟩)
      | none =>
      obtain ⟨oT, hoT, hcT, nT, hdT⟩ := hTI0
      have n23 : b ≠ 23 := by
        rintro rfl
        rw [up _ _ tab9] at hoT; cases hoT; cases hcT
      have ncc : b ≠ cc := by
        rintro rfl
        rw [up _ _ hoc9] at hoT; cases hoT; rw [hd0] at hdT; cases hdT
      have nL : b ≠ s.heap.objs.size := fr_ne_tup Fz (⟨oT, (hid_get n23).trans hoT, hcT, nT, hdT⟩ : IsTup (hid hz) b _)
      refine .inr (.inr ⟨oT, mem_restOf nL qb ((hid_get n23).trans hoT) ?_⟩)
      intro hm
      simp only [List.mem_cons, List.not_mem_nil, or_false] at hm
      rcases hm with e | e | e | e | e
      · exact ncc e
      · exact D.TIz e
      · exact D.TITO e
      · exact D.TIi1 e
      · exact D.TIi2 e
    · exact .inl (List.Mem.tail _ (List.Mem.head _))
    · exact .inl (List.Mem.tail _ (List.Mem.tail _ (List.Mem.head _)))
    · exact .inl (List.Mem.tail _ (List.Mem.tail _ (List.Mem.tail _ (List.Mem.head _))))
    · cases qb : (hid s.heap).get? b with
      | some o => exact .inr (.inl ⟨o, rfl⟩)
      | none =>
        obtain ⟨oq, hoq, hcq, nq, hdq⟩ := HQ
        have n23 : b ≠ 23 := hid_ne hoq
        have ncc : b ≠ cc := by
          rintro rfl
          rw [of_hid hoq] at hoc9; cases hoc9; rw [hd0] at hdq; cases hdq
        refine .inr (.inr ⟨oq, mem_restOf hq9 qb ((hid_get n23).trans (up _ _ (of_hid hoq))) ?_⟩)
        intro hm
        simp only [List.mem_cons, List.not_mem_nil, or_false] at hm
        rcases hm with e | e | e | e | e
        · exact ncc e
        · exact D.l1z e
        · exact D.l1TO e
        · exact D.l1i1 e
        · exact D.l1i2 e
    · obtain ⟨o, ho, _⟩ := HL.1
      exact .inr (.inl ⟨o, ho⟩)
  case hwo =>
    rintro i h ⟨e1, e2, ⟨x, y, e3⟩, ⟨o4, e4, _⟩, ⟨o5, e5, _⟩, _⟩ b hb
    simp only [List.mem_cons, List.not_mem_nil, or_false] at hb
    rcases hb with rfl | rfl | rfl | rfl
    · exact ⟨_, e1⟩
    · exact ⟨_, e3⟩
    · exact ⟨_, e4⟩
    · exact ⟨_, e5⟩
  case done =>
    intro m' h' tk' ps' F N tok'
    dsimp only
    try k_fold
    k_steps
    show Q _ _
    exact ret _ _ (end_sees F N (List.Mem.head _) tok' X T BM) (end_stays F)
  case step =>
    intro i va vb m₁ h tk o ps1 knw hi hPt hod hknw tok1 F N hne1
    refine hideP fun G toG => ?_
    obtain ⟨x, y, hx, hy, hxy⟩ := hPt
    obtain ⟨e1, e2⟩ : va = x ∧ vb = y := by simpa using congrArg Array.toList hxy
    subst e1 e2
    clear hxy
    have hx' : vals[i]? = some va := by simpa using hx
    obtain ⟨⟨la, ⟨er, eg, eb, en⟩⟩, he, rfl⟩ : ∃ e, rows[i]? = some e ∧ Value.ref e.1 = vb := by
      have hy' : (rows.map fun a => Value.ref a.1)[i]? = some vb := by simpa using hy
      rw [List.getElem?_map] at hy'
      exact Option.map_eq_some_iff.mp hy'
    obtain ⟨t0, t1, t2, t3, hl⟩ := HL.2 _ (List.mem_of_getElem? he)
    obtain ⟨l, hg, hr⟩ : ∃ l, (grp ls)[i]? = some l ∧ tot l = ⟨er, eg, eb, en⟩ := by
      have h1 : (rows.map (·.2))[i]? = some ⟨er, eg, eb, en⟩ := by rw [List.getElem?_map, he]; rfl
      rw [hrw, totals_grp, List.getElem?_map] at h1
      exact Option.map_eq_some_iff.mp h1
    obtain ⟨aa, b0, b1, b2, u0, u1, u2, u3, rfl, ht, f0, f1, f2, _⟩ := HR.2 i va l hx' hg
    have hnum := hΦ l b0 b1 b2 (List.mem_of_getElem? hg) f0 f1 f2
    rw [tot_eq] at hr
    obtain ⟨e0, e1, e2, e3⟩ := Row4.mk.inj hr
    rw [e0, e1, e2] at hnum
    rw [e3] at ht
    obtain ⟨⟨g0, n0⟩, ⟨g1, n1⟩, ⟨g2, n2⟩, o0, o1, o2, k0, k1, k2⟩ := hnum
    clear hx hx' hy f0 f1 f2 hr e0 e1 e2 e3 hg
    dsimp only at hl
    have haL : aa ≠ s.heap.objs.size := fr_ne_tup F9 ht
    have hk9 := F9.keep
    obtain ⟨oo, hoo, hco, no, hdo⟩ := ht
    have haN : (hid s.heap).get? aa = none → (aa, oo) ∈ restOf (hid s.heap) s.heap.objs.size (hid hz) [cc, z, TO, i1, i2] := fun qb => by
      refine mem_restOf haL qb ((hid_get (hid_ne hoo)).trans (up _ _ (of_hid hoo))) ?_
      have hlt9 : aa < h9.objs.size := Heap.lt_size (of_hid hoo)
      intro hm
      simp only [List.mem_cons, List.not_mem_nil, or_false] at hm
      rcases hm with e | e | e | e | e
      · subst e
        rw [of_hid hoo] at hoc9; cases hoc9; rw [hd0] at hdo; cases hdo
      · subst e; exact absurd hlt9 (Nat.not_lt.mpr z1)
      · subst e; exact absurd hlt9 (Nat.not_lt.mpr z2)
      · subst e; exact absurd hlt9 (Nat.not_lt.mpr z3)
      · subst e; exact absurd hlt9 (Nat.not_lt.mpr z4)
    clear F9 N9 Fz hst WT HR HQ HK hl1 hl2
    subst hcc
    have hTS : TupSrc (hid s.heap) aa #[.float b0 u0, .float b1 u1, .float b2 u2, .int en u3] (knw ++ restOf (hid s.heap) s.heap.objs.size (hid hz) [s.heap.objs.size + 1, z, TO, i1, i2]) := by
      cases qb : (hid s.heap).get? aa with
      | some o' =>
        have := hk9 _ _ qb
        rw [of_hid hoo] at this; cases this
        exact .inl ⟨oo, qb, hco, no, hdo⟩
      | none => exact .inr ⟨oo, List.mem_append_right _ (haN qb), hco, no, hdo⟩
    clear hoo hco hdo haN hk9
    refine toG ?_
    clear toG
    have hlh := isList_keeps hl F.keep
    refine wpAny_execs_cons ?_
    refine hideQ fun Q1 to1 => ?_
    k_steps
    refine to1 _ _ ?_
    clear to1
    dsimp only
    refine wpAny_execs_cons ?_
    refine hideQ fun Q2 to2 => ?_
    try k_fold
    refine wpAny_If ?_
    k_steps
    all_goals first
      | (rename_i hq; exfalso; revert hq; simp; done)
      | skip
    refine to2 _ _ ?_
    clear to2
    dsimp only
    refine wpAny_execs_cons ?_
    refine hideQ fun Q3 to3 => ?_
    try k_fold
    k_steps
    refine to3 _ _ ?_
    clear to3
    dsimp only
    refine wpAny_execs_cons ?_
    refine hideQ fun Q4 to4 => ?_
    try k_fold
    refine wpAny_If ?_
    walk1
    rename Fr _ _ _ _ => F4
    k_dflt (refine LCg.ListComp_U (F₀ := F4) (by rfl) (by decide) (by rfl) (by decide) (by rfl) ?_)
    refine hideQ fun QS toS => ?_
    k_steps
    refine toS _ _ ?_
    clear toS
    rename Fr _ _ _ _ => F5
    rename News _ _ _ _ => N5
    rename IsRange _ _ _ _ _ _ _ _ => R5
    refine LCg.CompSrc.range rfl F5 N5 R5 (by decide) (n := 3) (by rfl) (by rw [sizeLine_eq]; decide) fun g' => ?_
    refine compRest_fix (fun j y => ∃ t, y = .int (if j = 0 then 3000 * er + 5900 * eg + 1100 * eb else if j = 1 then 5990 * er - 2773 * eg - 3217 * eb else 2130 * er - 5251 * eg + 3121 * eb) t) trivial ?cstep ?cfin
    case cstep =>
      rintro j ys v I oI C oC D m₂ h6 tk6 E' hj ⟨tv, rfl⟩ hC hx6 F6 N6
      clear F5 N5 R5
      refine hideQ fun QQ toQ => ?_
      rcases (by omega : j = 0 ∨ j = 1 ∨ j = 2) with rfl | rfl | rfl
      all_goals
        k_steps
      · exact toQ _ _ ⟨⟨_, by rw [n0]; rfl⟩, h6, _, rfl, F6, N6⟩
      · exact toQ _ _ ⟨⟨_, by rw [n1]; rfl⟩, h6, _, rfl, F6, N6⟩
      · exact toQ _ _ ⟨⟨_, by rw [n2]; rfl⟩, h6, _, rfl, F6, N6⟩
    case cfin =>
      intro ys hlen hV
      obtain ⟨tt0, tt1, tt2, rfl⟩ := ints3 (f := fun j => if j = 0 then 3000 * er + 5900 * eg + 1100 * eb else if j = 1 then 5990 * er - 2773 * eg - 3217 * eb else 2130 * er - 5251 * eg + 3121 * eb) hlen hV (fun _ _ h => h)
      clear hlen hV
      clear F5 N5 R5
      intro D7 h7 tk7 F7 N7 o7
      clear o7
      dsimp only
      try k_fold
      refine hideQ fun QN toN => ?_
      k_steps
      refine toN _ _ ?_
      clear toN
      refine ne_ints3 (n0 := 3000 * er + 5900 * eg + 1100 * eb) (n1 := 5990 * er - 2773 * eg - 3217 * eb) (n2 := 2130 * er - 5251 * eg + 3121 * eb) ⟨_, (N7 _ (List.Mem.head _)).1, rfl, _, rfl⟩ (News.isList N7 (by k_mem)) (by show un + 3 < cLine; omega) ?_
      try k_fold
      k_steps
      refine to4 _ _ ?_
      clear to4
      dsimp only
      refine wpAny_execs_cons ?_
      refine hideQ fun Q5 to5 => ?_
      try k_fold
      k_steps
      rename Fr _ _ _ _ => F8
      rename News _ _ _ _ => N8
      refine yiq_spec (mg := mg) (mb := mb) (end_sees F8 N8 (by k_mem) tok1 X T BM) ⟨?_, ?_, rfl⟩ o0 o1 o2 ?_
      · show dp + 1 + 1 < recursionLimit; omega
      · show un + 3 + 8 < cLine; omega
      intro e xr xg xb w0 w1 w2 h9b tk9b S9 st9b H9 er' eg' eb'
      obtain ⟨ps2, tab2, tok2⟩ := S9.tab
      have F9 := back_fr F8 hL23 st9b
      have N9 := back_news (g := s.heap) hL23 tab2
      have KK : ∀ p ∈ (s.heap.objs.size + 1, o) :: (knw ++ restOf (hid s.heap) s.heap.objs.size (hid hz) [s.heap.objs.size + 1, z, TO, i1, i2]), p ∈ allNews (hid s.heap) s.heap.objs.size (hid h9b) := by
        intro p hp
        have h23 : p.1 ≠ 23 := by
          rcases List.mem_cons.mp hp with rfl | hp
          · exact hc23
          · exact (hne1 p hp).1
        have hp8 := N8 p (by
          rcases List.mem_cons.mp hp with rfl | hp
          · k_mem
          · repeat (first | exact hp | refine List.Mem.tail _ ?_))
        exact mem_all hp8.2.1 hp8.2.2 (st9b _ _ ((hid_get h23).trans hp8.1))
      have H9s : ∀ nn, (∀ p ∈ allNews (hid s.heap) s.heap.objs.size (hid h9b), p ∈ nn) → TupSrc (hid s.heap) e #[.float xr w0, .float xg w1, .float xb w2] nn := by
        intro nn hnn
        obtain ⟨o9, ho9, hc9, n9, hd9⟩ := H9
        cases q9 : (hid s.heap).get? e with
        | some o8 =>
          have := F9.keep _ _ q9
          rw [of_hid ho9] at this; cases this
          exact .inl ⟨o9, q9, hc9, n9, hd9⟩
        | none => exact .inr ⟨o9, hnn _ (mem_all (fr_ne_tup F9 (⟨o9, ho9, hc9, n9, hd9⟩ : IsTup (hid h9b) e _)) q9 ho9), hc9, n9, hd9⟩
      have k0' : RndOk 4643211215818981376 xr er := by rw [er']; exact k0
      have k1' : RndOk 4643211215818981376 xg eg := by rw [eg']; exact k1
      have k2' : RndOk 4643211215818981376 xb eb := by rw [eb']; exact k2
      obtain ⟨j0, v0⟩ := k0'
      obtain ⟨j1, v1⟩ := k1'
      obtain ⟨j2, v2⟩ := k2'
      clear F8 N8 er' eg' eb' k0 k1 k2 o0 o1 o2 H9
      try k_fold
      k_steps
      refine to5 _ _ ?_
      clear to5
      dsimp only
      refine wpAny_execs_cons ?_
      refine hideQ fun Q6 to6 => ?_
      try k_fold
      refine wpAny_If ?_
      walk1
      rename Fr _ _ _ _ => F10
      rename News _ _ _ _ => N10
      k_dflt (refine comp_tuple F10 (by rfl) (by decide) (by rfl) (by decide) (by rfl) ?_)
      walk1
      refine ⟨e, _, _, rfl, rfl, F10, N10, H9s _ (fun p hp => List.Mem.tail _ hp), by rw [sizeLine_eq]; exact Nat.le_of_ble_eq_true rfl, fun s₂ hs₂ => ?_⟩
      obtain ⟨g2', rfl⟩ := hs₂
      refine compRest_fix (fun j y => ∃ t, y = .int (if j = 0 then er else if j = 1 then eg else eb) t) (H9s _ (fun p hp => List.Mem.tail _ hp)) ?dstep ?dfin
      case dstep =>
        rintro j ys v I oI C oC D m₂ h6 tk6 E' hj hv hC hx6 F6 N6
        clear F10 N10
        refine hideQ fun QQ toQ => ?_
        have hj3 : j < 3 := hj
        rcases (by omega : j = 0 ∨ j = 1 ∨ j = 2) with rfl | rfl | rfl
        · have hv' : some (Value.float xr w0) = some v := hv
          cases hv'
          k_steps
          exact toQ _ _ ⟨⟨_, by rw [v0]; rfl⟩, h6, _, rfl, F6, N6⟩
        · have hv' : some (Value.float xg w1) = some v := hv
          cases hv'
          k_steps
          exact toQ _ _ ⟨⟨_, by rw [v1]; rfl⟩, h6, _, rfl, F6, N6⟩
        · have hv' : some (Value.float xb w2) = some v := hv
          cases hv'
          k_steps
          exact toQ _ _ ⟨⟨_, by rw [v2]; rfl⟩, h6, _, rfl, F6, N6⟩
      case dfin =>
        intro ys hlen hV
        obtain ⟨s0, s1, s2, rfl⟩ := ints3 (f := fun j => if j = 0 then er else if j = 1 then eg else eb) hlen hV (fun _ _ h => h)
        clear hlen hV
        clear F10 N10
        intro D11 h11' tk11 F11 N11 o11
        clear o11
        dsimp only
        try k_fold
        refine hideQ fun QN toN => ?_
        k_steps
        refine toN _ _ ?_
        clear toN
        rename Fr _ _ _ _ => F12
        rename News _ _ _ _ => N12
        refine ne_ints3 (n0 := er) (n1 := eg) (n2 := eb) (News.isList N12 (List.Mem.tail _ (List.Mem.head _))) (News.isList N12 (List.Mem.head _)) (by show un + 3 < cLine; omega) ?_
        try k_fold
        k_steps
        refine to6 _ _ ?_
        clear to6
        dsimp only
        refine wpAny_execs_nil ?_
        refine ⟨rfl, _, _, _, ps2, o, _, rfl, F12, fun p hp => ?_, tok2, hod⟩
        rcases List.mem_cons.mp hp with rfl | hp
        · exact N12 _ (List.Mem.tail _ (List.Mem.tail _ (List.Mem.tail _ (KK _ (List.Mem.head _)))))
        rcases List.mem_cons.mp hp with rfl | hp
        · exact N12 _ (List.Mem.tail _ (List.Mem.tail _ (List.Mem.head _)))
        · exact N12 _ (List.Mem.tail _ (List.Mem.tail _ (List.Mem.tail _ (KK _ (List.Mem.tail _ hp)))))
end Mine
end
section
open PySem PySem.W PySem.Calls PyProof.Rows
set_option maxRecDepth 100000
set_option maxHeartbeats 8000000
namespace Mine

def TupO (o : Obj) (items : Array Value) : Prop := o.cls = .type "tuple" ∧ ∃ n, o.data = .seq items n
def EntIn (w : World) (Φ : Phi) (news : List (Addr × Obj)) (x : Ent) : Prop :=
  ∃ e row oe od orow b0 b1 b2 u0 u1 u2 tn tn', x.1 = .ref e ∧ ((e, oe) ∈ news ∧ (x.2.1, od) ∈ news ∧ (row, orow) ∈ news) ∧ TupO oe #[.float b0 u0, .float b1 u1, .float b2 u2, .int 1 tn, .ref x.2.1] ∧ TupO orow #[.float b0 u0, .float b1 u1, .float b2 u2, .int 1 tn'] ∧
    od.IsDictOf (knd w) [(x.2.2.p, .ref row)] ∧ (x.2.1 == sysModules) = false ∧ (Φ 0 [x.2.2] b0 ∧ Φ 1 [x.2.2] b1 ∧ Φ 2 [x.2.2] b2) ∧ (u0 ≠ 0 ∧ u1 ≠ 0 ∧ u2 ≠ 0) ∧ (e ≠ 23 ∧ x.2.1 ≠ 23 ∧ row ≠ 23)
theorem places_one (l : Light) : places [l] = [l.p] := by simp [places, addP]
theorem atP_one (l : Light) : atP l.p [l] = [l] := by simp [atP]
theorem EntIn.at {w : World} {Φ : Phi} {news : List (Addr × Obj)} {x : Ent} {h₀ h : Heap} {L : Addr} (y : EntIn w Φ news x) (N : News h₀ L h news) : EntryAt w Φ (hid h) x.1 x.2.1 [x.2.2] := by
  obtain ⟨e, row, oe, od, orow, b0, b1, b2, u0, u1, u2, tn, tn', e1, ⟨m1, m2, m3⟩, t1, t2, hd, hs, ⟨p0, p1, p2⟩, ⟨z0, z1, z2⟩, n1, n2, n3⟩ := y
  have g1 := (hid_get n1).trans (N _ m1).1
  have g2 := (hid_get n2).trans (N _ m2).1
  have g3 := (hid_get n3).trans (N _ m3).1
  refine ⟨e, _, _, _, tn, e1, ⟨oe, g1, t1⟩, .inr ⟨by simp, b0, u0, rfl, p0, z0⟩, .inr ⟨by simp, b1, u1, rfl, p1, z1⟩, .inr ⟨by simp, b2, u2, rfl, p2, z2⟩, hs, _, Heap.dictOf_iff.mpr ⟨od, g2, hd⟩, (places_one _).symm, ?_⟩
  intro kv hm
  rw [List.mem_singleton.mp hm]
  dsimp only
  rw [atP_one]
  exact ⟨row, b0, b1, b2, u0, u1, u2, tn', rfl, ⟨orow, g3, t2⟩, p0, p1, p2, z0, z1, z2⟩
theorem EntIn.mono {w : World} {Φ : Phi} {news news' : List (Addr × Obj)} {x : Ent} (y : EntIn w Φ news x) (hs : ∀ p ∈ news, p.1 ≠ 23 → p ∈ news') : EntIn w Φ news' x := by
  obtain ⟨e, row, oe, od, orow, b0, b1, b2, u0, u1, u2, tn, tn', e1, ⟨m1, m2, m3⟩, t1, t2, hd, hsm, p, z, n1, n2, n3⟩ := y
  exact ⟨e, row, oe, od, orow, b0, b1, b2, u0, u1, u2, tn, tn', e1, ⟨hs _ m1 n1, hs _ m2 n2, hs _ m3 n3⟩, t1, t2, hd, hsm, p, z, n1, n2, n3⟩

structure CInv (w : World) (Φ : Phi) (g H0 : Heap) (L : Addr) (lights : List Light) (i : Nat) (ys : List Value) (news : List (Addr × Obj)) : Prop where
  tab : ∃ ps, (23, tabObj ps) ∈ news ∧ TabOk ps
  old : ∀ p ∈ allNews (hid g) L (hid H0), p ∈ news
  ents : ∃ es : List Ent, es.map (·.1) = ys ∧ es.map (·.2.2) = lights.take i ∧ ∀ x ∈ es, EntIn w Φ news x

theorem comp_entry {w : World} {Φ : Phi} {g H0 h h2 : Heap} {L I C D e d row : Addr} {m mg mb : Str → Option Value} {oI oC oD : Obj} {news : List (Addr × Obj)} {s : Shared} {lights : List Light} {l : Light} {i tk tk2 : Nat} {ys : List Value} {b0 b1 b2 : UInt64} {u0 u1 u2 tn tn' : Tok} {S : List (Addr × Obj) → Prop}
    (F : Fr (hid g) L h m) (hL : L ≠ 23) (N : News (hid g) L h ((I, oI) :: (C, oC) :: (D, oD) :: news)) (off : ∀ p ∈ news, p.1 ≠ I ∧ p.1 ≠ C ∧ p.1 ≠ D) (inv : CInv w Φ g H0 L lights i ys news) (hl : lights[i]? = some l)
    (hS : ∀ nn, (∀ p ∈ allNews (hid g) L (hid H0), p ∈ nn) → S nn)
    (S2 : Sees w mg mb h2) (st : Stays (hid h) (hid h2)) (H1 : IsTup (hid h2) e #[.float b0 u0, .float b1 u1, .float b2 u2, .int 1 tn, .ref d]) (nsm : (d == sysModules) = false) (fd : (hid h).get? d = none)
    (HD : (hid h2).DictOf (knd w) d [(l.p, .ref row)]) (H4 : IsTup (hid h2) row #[.float b0 u0, .float b1 u1, .float b2 u2, .int 1 tn']) (z : u0 ≠ 0 ∧ u1 ≠ 0 ∧ u2 ≠ 0) (fr : (hid h).get? e = none ∧ (hid h).get? row = none)
    (hp : Φ 0 [l] b0 ∧ Φ 1 [l] b1 ∧ Φ 2 [l] b2) :
    LCg.CompEnd (hid g) L m { s with heap := h, toks := tk } I oI C oC D oD S (fun y news' => CInv w Φ g H0 L lights (i + 1) (ys ++ [y]) news') (.ref e) { s with heap := h2, toks := tk2 } := by
  obtain ⟨X2, T2, ⟨ps2, tab2, tok2⟩, BM2⟩ := S2
  obtain ⟨⟨ps, hps, _⟩, hold, es, he1, he2, hes⟩ := inv
  have n23 := off _ hps
  have F2 := back_fr F hL st
  have hI : (hid h2).get? I = some oI := st _ _ ((hid_get (Ne.symm n23.1)).trans (N _ (List.Mem.head _)).1)
  have hC : (hid h2).get? C = some oC := st _ _ ((hid_get (Ne.symm n23.2.1)).trans (N _ (List.Mem.tail _ (List.Mem.head _))).1)
  have hD : (hid h2).get? D = some oD := st _ _ ((hid_get (Ne.symm n23.2.2)).trans (N _ (List.Mem.tail _ (List.Mem.tail _ (List.Mem.head _)))).1)
  have away : ∀ b, (hid h).get? b = none → b ≠ L ∧ b ∉ [I, C, D] := fun b hb => by
    refine ⟨ne_of_fresh F hL hb, ?_⟩
    intro hm
    simp only [List.mem_cons, List.not_mem_nil, or_false] at hm
    rcases hm with q | q | q
    · rw [q, hid_get (Ne.symm n23.1), (N _ (List.Mem.head _)).1] at hb; cases hb
    · rw [q, hid_get (Ne.symm n23.2.1), (N _ (List.Mem.tail _ (List.Mem.head _))).1] at hb; cases hb
    · rw [q, hid_get (Ne.symm n23.2.2), (N _ (List.Mem.tail _ (List.Mem.tail _ (List.Mem.head _)))).1] at hb; cases hb
  have gfresh : ∀ b, (hid h).get? b = none → (hid g).get? b = none := fun b hb => by
    cases q : (hid g).get? b with
    | none => rfl
    | some o => rw [(hid_get (hid_ne q)).trans (F.keep b o q)] at hb; cases hb
  have keep : ∀ p ∈ news, p.1 ≠ 23 → p ∈ (23, tabObj ps2) :: restOf (hid g) L (hid h2) [I, C, D] := fun p hp h23 => by
    have q := N p (List.Mem.tail _ (List.Mem.tail _ (List.Mem.tail _ hp)))
    refine List.Mem.tail _ (mem_restOf q.2.1 q.2.2 (st _ _ ((hid_get h23).trans q.1)) ?_)
    have := off p hp
    simp only [List.mem_cons, List.not_mem_nil, or_false, not_or]
    exact this
  obtain ⟨oe, ge, te⟩ := H1
  obtain ⟨orow, grow, trow⟩ := H4
  obtain ⟨od, gd, td⟩ := Heap.dictOf_iff.mp HD
  have new : ∀ b o, (hid h).get? b = none → (hid h2).get? b = some o → (b, o) ∈ (23, tabObj ps2) :: restOf (hid g) L (hid h2) [I, C, D] := fun b o hb ho =>
    List.Mem.tail _ (mem_restOf (away b hb).1 (gfresh b hb) ho (away b hb).2)
  have hold' : ∀ p ∈ allNews (hid g) L (hid H0), p ∈ (23, tabObj ps2) :: restOf (hid g) L (hid h2) [I, C, D] := fun p hp => keep p (hold p hp) (hid_ne (of_mem_all hp).2.2)
  refine ⟨h2, tk2, (23, tabObj ps2) :: restOf (hid g) L (hid h2) [I, C, D], rfl, F2, fun p hp => ?_, LCg.Off3.of fun p hp => ?_, hS _ hold', ⟨ps2, List.Mem.head _, tok2⟩, hold', es ++ [(.ref e, d, l)], ?_, ?_, ?_⟩
  · rcases List.mem_cons.mp hp with rfl | hp
    · exact ⟨of_hid hI, (N _ (List.Mem.head _)).2⟩
    rcases List.mem_cons.mp hp with rfl | hp
    · exact ⟨of_hid hC, (N _ (List.Mem.tail _ (List.Mem.head _))).2⟩
    rcases List.mem_cons.mp hp with rfl | hp
    · exact ⟨of_hid hD, (N _ (List.Mem.tail _ (List.Mem.tail _ (List.Mem.head _)))).2⟩
    rcases List.mem_cons.mp hp with rfl | hp
    · exact ⟨tab2, Ne.symm hL, hid_none _⟩
    · obtain ⟨a, b, c, _⟩ := of_restOf hp
      exact ⟨of_hid c, a, b⟩
  · rcases List.mem_cons.mp hp with rfl | hp
    · exact n23
    · obtain ⟨_, _, _, q⟩ := of_restOf hp
      simpa using q
  · rw [List.map_append, he1]; rfl
  · rw [List.map_append, he2, List.take_add_one, hl]; rfl
  · intro x hx
    rcases List.mem_append.mp hx with hx | hx
    · exact (hes x hx).mono keep
    · rw [List.mem_singleton.mp hx]
      exact ⟨e, row, oe, od, orow, b0, b1, b2, u0, u1, u2, tn, tn', rfl, ⟨new _ _ fr.1 ge, new _ _ fd gd, new _ _ fr.2 grow⟩, te, trow, td, nsm, hp, z, hid_ne ge, hid_ne gd, hid_ne grow⟩
end Mine
end
section
open PySem PySem.W PySem.Calls PyProof.Rows
set_option maxRecDepth 100000
set_option maxHeartbeats 8000000
set_option pp.fieldNotation false
namespace Mine

structure FF (Φs Φt : Phi) : Prop where
  cs : Closed Φs
  ct : Closed Φt
  s1 : ∀ l, LGood l → Φs 0 [l] (Float64.div (Float64.ofInt l.r) 4643211215818981376) ∧ Φs 1 [l] (Float64.div (Float64.ofInt l.g) 4643211215818981376) ∧ Φs 2 [l] (Float64.div (Float64.ofInt l.b) 4643211215818981376)
  s2 : ∀ i l b, Φs i l b → Float64.cmp b (Float64.div (Float64.ofInt (col i l)) 4643211215818981376) = some .eq
  t1 : ∀ (l : Light) (fr fg fb y i q : UInt64), LGood l → fr = Float64.div (Float64.ofInt l.r) 4643211215818981376 → fg = Float64.div (Float64.ofInt l.g) 4643211215818981376 → fb = Float64.div (Float64.ofInt l.b) 4643211215818981376 →
      y = Float64.add (Float64.add (Float64.mul 4599075939470750515 fr) (Float64.mul 4603489467105573601 fg)) (Float64.mul 4592590756007337001 fb) →
      i = Float64.sub (Float64.mul 4604840546993784750 (Float64.sub fr y)) (Float64.mul 4598535507515466056 (Float64.sub fb y)) →
      q = Float64.add (Float64.mul 4602318531202457272 (Float64.sub fr y)) (Float64.mul 4601057523306793533 (Float64.sub fb y)) → Φt 0 [l] y ∧ Φt 1 [l] i ∧ Φt 2 [l] q
  t2 : ∀ l b0 b1 b2, l.length ≤ 11 → Φt 0 l b0 → Φt 1 l b1 → Φt 2 l b2 → NumOk (col 0 l) (col 1 l) (col 2 l) b0 b1 b2
theorem isList_but {h h' : Heap} {L a : Addr} {items : Array Value} (x : (hid h).IsList a items) (ha : a ≠ L) (k : ∀ b o, b ≠ L → (hid h).get? b = some o → (hid h').get? b = some o) : (hid h').IsList a items := let ⟨o, ho, r⟩ := x; ⟨o, k _ _ ha ho, r⟩
theorem lents_but {h h' h₀ : Heap} {L : Addr} {m : Str → Option Value} {es : List LEnt} (x : LEnts (hid h) es) (F : Fr h₀ L h m) (k : ∀ b o, b ≠ L → (hid h).get? b = some o → (hid h').get? b = some o) : LEnts (hid h') es := fun e he => by
  obtain ⟨⟨a, t0, t1, t2, t3, e1, ht⟩, hg⟩ := x e he
  exact ⟨⟨a, t0, t1, t2, t3, e1, IsTup.keepsBut ht k (fr_ne_tup F ht)⟩, hg⟩
theorem lines_but {h h' h₀ : Heap} {L sa : Addr} {m : Str → Option Value} {rows : List (Addr × Row4)} (x : LinesAt (hid h) sa rows) (F : Fr h₀ L h m) (k : ∀ b o, b ≠ L → (hid h).get? b = some o → (hid h').get? b = some o) : LinesAt (hid h') sa rows :=
  ⟨isList_but x.1 (fr_ne_list F x.1) k, fun e he => by
    obtain ⟨t0, t1, t2, t3, hl⟩ := x.2 e he
    exact ⟨t0, t1, t2, t3, isList_but hl (fr_ne_list F hl) k⟩⟩
def PF (la na sa : Addr) (es : List LEnt) (vs : List Value) (rows : List (Addr × Row4)) (h : Heap) : Prop := (hid h).IsList la (es.map (·.1)).toArray ∧ LEnts (hid h) es ∧ (hid h).IsList na (List.toArray vs) ∧ LinesAt (hid h) sa rows
theorem PF.but {la na sa : Addr} {es : List LEnt} {vs : List Value} {rows : List (Addr × Row4)} {h h' h₀ : Heap} {L : Addr} {m : Str → Option Value} (x : PF la na sa es vs rows h) (F : Fr h₀ L h m) (k : ∀ b o, b ≠ L → (hid h).get? b = some o → (hid h').get? b = some o) : PF la na sa es vs rows h' :=
  ⟨isList_but x.1 (fr_ne_list F x.1) k, lents_but x.2.1 F k, isList_but x.2.2.1 (fr_ne_list F x.2.2.1) k, lines_but x.2.2.2 F k⟩
theorem PF.keeps {la na sa : Addr} {es : List LEnt} {vs : List Value} {rows : List (Addr × Row4)} {h h' : Heap} (x : PF la na sa es vs rows h) (k : Stays (hid h) (hid h')) : PF la na sa es vs rows h' :=
  ⟨isList_keeps x.1 k, fun e he => ⟨(x.2.1 e he).1.keeps k, (x.2.1 e he).2⟩, isList_keeps x.2.2.1 k, isList_keeps x.2.2.2.1 k, fun e he => by
    obtain ⟨t0, t1, t2, t3, hl⟩ := x.2.2.2.2 e he
    exact ⟨t0, t1, t2, t3, isList_keeps hl k⟩⟩
def EF (w : World) (Φ : Phi) (L D : Addr) (es : List Ent) (h : Heap) : Prop := (hid h).IsList D (es.map (·.1)).toArray ∧ Ents w Φ (hid h) es ∧ ∀ x ∈ es, x.2.1 ≠ L
theorem EF.but {w : World} {Φ : Phi} {D : Addr} {es : List Ent} {h h' h₀ : Heap} {L : Addr} {m : Str → Option Value} (x : EF w Φ L D es h) (F : Fr h₀ L h m) (k : ∀ b o, b ≠ L → (hid h).get? b = some o → (hid h').get? b = some o) : EF w Φ L D es h' :=
  ⟨isList_but x.1 (fr_ne_list F x.1) k, fun e he => (x.2.1 e he).keepsBut (x.2.2 e he) F k, x.2.2⟩
theorem EF.keeps {w : World} {Φ : Phi} {L D : Addr} {es : List Ent} {h h' : Heap} (x : EF w Φ L D es h) (k : Stays (hid h) (hid h')) : EF w Φ L D es h' :=
  ⟨isList_keeps x.1 k, fun e he => (x.2.1 e he).keeps k, x.2.2⟩
theorem ef_of {w : World} {Φ : Phi} {g h H0 : Heap} {L D : Addr} {lights : List Light} {n : Nat} {ys : List Value} {news : List (Addr × Obj)} (inv : CInv w Φ g H0 L lights n ys news) (hn : lights.length = n) (N : News (hid g) L h ((D, LCg.lst ys) :: news)) (hD : D ≠ 23) : ∃ es : List Ent, es.map (·.2.2) = lights ∧ EF w Φ L D es h := by
  obtain ⟨es, e1, e2, e3⟩ := inv.ents
  refine ⟨es, by rw [e2, ← hn, List.take_length], ⟨_, (hid_get hD).trans (N _ (List.Mem.head _)).1, rfl, _, by rw [← e1]⟩, fun x hx => (e3 x hx).at (fun p hp => N p (List.Mem.tail _ hp)), fun x hx => ?_⟩
  obtain ⟨e, row, oe, od, orow, b0, b1, b2, u0, u1, u2, tn, tn', _, ⟨_, m2, _⟩, _⟩ := e3 x hx
  exact (N _ (List.Mem.tail _ m2)).2.1
theorem src_of {g H0 : Heap} {L la : Addr} {its : Array Value} {m : Str → Option Value} (x : (hid H0).IsList la its) (F : Fr (hid g) L H0 m) : ∀ nn, (∀ p ∈ allNews (hid g) L (hid H0), p ∈ nn) → LCg.SrcAt (hid g) la its nn := by
  intro nn hnn
  have hla := fr_ne_list F x
  obtain ⟨o, ho, hc, n, hd⟩ := x
  cases q : (hid g).get? la with
  | some o' =>
    have := F.keep _ _ q
    rw [of_hid ho] at this; cases this
    exact .inl ⟨o, q, hc, n, hd⟩
  | none => exact .inr ⟨o, hnn _ (mem_all hla q ho), hc, n, hd⟩
theorem law_spec {w : World} {A : Around} {s : Shared} {Q E : Value → Shared → Prop} {mg mb : Str → Option Value} {Φs Φt : Phi} {l : Addr} {items : Array Value} (ff : FF Φs Φt)
   (S : Sees w mg mb s.heap) (R : Room A 20 160) (G : AllBare s.gens) (HL : (hid s.heap).IsList l items) (HI : ∀ (i : Nat) (v : Value), items[i]? = some v → ∃ n t, v = Value.int n t) (hsz : items.size ≤ 63)
   (ret : ∀ h' tk' gn', Sees w mg mb h' → Stays (hid s.heap) (hid h') → AllBare gn' → Q (.bool true) {s with heap := h', toks := tk', gens := gn'}) :
   wpAny (model Challenge.rw_mj0062_01.row.prog w) A (call (.ref 113) [.ref l]) Q E s := by
  obtain ⟨X, T, ⟨ps, tab, tok⟩, BM⟩ := S
  obtain ⟨dep, uni, han⟩ := R
  obtain ⟨hdl, dp, fr, gd, un⟩ := A
  dsimp only at dep uni han
  subst han
  revert X; k_fill; intro X
  k_dflt (refine' enter (binds := [(Str.ofString "script", .ref l)]) ?X ?T ?tab ?k6 ?k7 ?k8 ?k9 ?kB ?_ ?c2 ?c3 ?c4 ?c5; (case X => assumption); (case T => assumption); (case tab => assumption); (case k6 => k_is); (case k7 => k_is); (case k8 => (show dp < recursionLimit; omega)); (case k9 => exact BindsTo.of_eq rfl);  (case c5 => decide); (case kB => exact locs rfl); (case c2 => exact rfl); (case c3 => exact rfl); (case c4 => exact rfl); k_whole; intro h' F' N'; (try dsimp only); (try k_fold))
  refine wpAny_execs_cons ?_
  refine hideQ fun Q1 to1 => ?_
  k_steps
  rename Fr _ _ _ _ => F1
  rename News _ _ _ _ => N1
  have hL23 : s.heap.objs.size ≠ 23 := Ne.symm (N1 _ (List.Mem.tail _ (List.Mem.head _))).2.1
  have HL1 := end_list N1 (List.Mem.tail _ (List.Mem.head _)) (List.Mem.head _)
  rw [show (some 8 : Option Int) = some ((8 : Nat) : Int) from rfl, slicePick_upto'] at HL1
  refine lights_spec (mg := mg) (mb := mb) (end_sees F1 N1 (List.Mem.tail _ (List.Mem.head _)) tok X T BM) ⟨?_, ?_, rfl⟩ ?_ HL1 ?_ ?_
  · show dp + 1 + 2 < recursionLimit; omega
  · show un + 3 + 16 < cLine; omega
  · simp; omega
  · intro i v hv
    have hv' : (items.toList.take 8)[i]? = some v := by simpa using hv
    rw [List.getElem?_take] at hv'
    split at hv'
    · exact HI i v (by simpa using hv')
    · cases hv'
  intro la es h2 tk2 S2 st2 L2 E2 len2
  have hes11 : es.length ≤ 11 := by
    rw [len2]
    have : (items.toList.take 8).toArray.size ≤ 8 := by simp; omega
    omega
  have hes0 : es.length ≠ 0 := by omega
  clear len2
  obtain ⟨ps2, tab2, tok2⟩ := S2.tab
  have F2 := back_fr F1 hL23 st2
  have N2 := back_news (g := s.heap) hL23 tab2
  have P2 : ∀ h3 m3 n3, Fr (hid s.heap) s.heap.objs.size h3 m3 → News (hid s.heap) s.heap.objs.size h3 n3 → (∀ p ∈ allNews (hid s.heap) s.heap.objs.size (hid h2), p ∈ n3) → (hid h3).IsList la (es.map (·.1)).toArray ∧ LEnts (hid h3) es := fun h3 m3 n3 F3 N3 hs =>
    have k := staysBut F3 F2 N3 hs
    ⟨isList_but L2 (fr_ne_list F2 L2) k, lents_but E2 F2 k⟩
  clear F1 N1 HL1 L2 E2
  try k_fold
  k_steps
  refine to1 _ _ ?_
  clear to1
  rename Fr _ _ _ _ => F3
  rename News _ _ _ _ => N3
  obtain ⟨L2, E2⟩ := P2 _ _ _ F3 N3 (fun p hp => List.Mem.tail _ hp)
  clear P2
  dsimp only
  refine wpAny_execs_cons ?_
  refine hideQ fun Q2 to2 => ?_
  try k_fold
  k_steps
  refine ledger_spec (mg := mg) (mb := mb) (es := es) (end_sees F3 N3 (List.Mem.head _) tok2 X T BM) ⟨?_, ?_, rfl⟩ hes11 L2 E2 ?_
  · show dp + 1 + 2 < recursionLimit; omega
  · show un + 3 + 16 < cLine; omega
  intro r na sa vs rows h4 tk4 S4 st4 HR HNa HVs HLn hrw
  obtain ⟨ps4, tab4, tok4⟩ := S4.tab
  replace L2 := isList_keeps L2 st4
  replace E2 : LEnts (hid h4) es := fun e he => ⟨(E2 e he).1.keeps st4, (E2 e he).2⟩
  have F4 := back_fr F3 hL23 st4
  have N4 := back_news (g := s.heap) hL23 tab4
  have HNa' : (hid h4).IsList na (List.toArray vs.toList) := by simpa using HNa
  have pf4 : PF la na sa es vs.toList rows h4 := ⟨L2, E2, HNa', HLn⟩
  have P4 : ∀ h3 m3 n3, Fr (hid s.heap) s.heap.objs.size h3 m3 → News (hid s.heap) s.heap.objs.size h3 n3 → (∀ p ∈ allNews (hid s.heap) s.heap.objs.size (hid h4), p ∈ n3) → PF la na sa es vs.toList rows h3 := fun h3 m3 n3 F3 N3 hs => pf4.but F4 (staysBut F3 F4 N3 hs)
  have src4 := src_of L2 F4
  have hgood : Goods (es.map (·.2)) := fun l hl => by
    obtain ⟨e, he, rfl⟩ := List.mem_map.mp hl
    exact (E2 e he).2
  have hr4 : IsTup h4 r #[.ref na, .ref sa] := tup_of_hid HR
  clear F3 N3 HR HNa HNa' HLn L2 E2 pf4
  try k_fold
  k_steps
  refine to2 _ _ ?_
  clear to2
  rename Fr _ _ _ _ => F5
  rename News _ _ _ _ => N5
  dsimp only
  refine wpAny_execs_cons ?_
  refine hideQ fun Q3 to3 => ?_
  try k_fold
  have hesz : (es.map (·.1)).toArray.size ≤ sizeLine := by rw [sizeLine_eq]; simp; omega
  k_dflt (refine LCg.Assign_ListComp_U F5 rfl (by with_unfolding_all rfl) (by rfl) (by decide) (by rfl) (by decide) (by rfl) (by rfl) (by rfl) ?_)
  walk1
  refine .inl ⟨la, (es.map (·.1)).toArray, _, rfl, rfl, F5, N5, src4 _ (fun p hp => List.Mem.tail _ hp), hesz, fun s₂ hs₂ => ?_⟩
  obtain ⟨g5, rfl⟩ := hs₂
  refine compRest_inv (n := (es.map (·.1)).toArray.size) (CInv w Φs s.heap h4 s.heap.objs.size (es.map (·.2))) ?step ?fin _ 0 [] _ (Nat.zero_add _) ⟨⟨ps4, List.Mem.head _, tok4⟩, fun p hp => List.Mem.tail _ hp, [], rfl, rfl, by simp⟩
  case step =>
    clear to3
    rintro i ys news v I oI C oC D m₂ h tk E' hi inv hP hC hx F N off ne
    clear F5 N5
    obtain ⟨⟨v', l'⟩, he, rfl⟩ : ∃ e, es[i]? = some e ∧ e.1 = v := by
      have hP' : (es.map (·.1))[i]? = some v := by simpa using hP
      rw [List.getElem?_map] at hP'
      exact Option.map_eq_some_iff.mp hP'
    have hl' : (es.map (·.2))[i]? = some l' := by rw [List.getElem?_map, he]; rfl
    obtain ⟨⟨a, t0, t1, t2, t3, rfl, ht⟩, hg⟩ := (P4 h _ _ F N (fun p hp => List.Mem.tail _ (List.Mem.tail _ (List.Mem.tail _ (inv.old p hp))))).2.1 _ (List.mem_of_getElem? he)
    obtain ⟨ps6, hm6, tok6⟩ := inv.tab
    have S6 : Sees w mg mb h := end_sees F N (List.Mem.tail _ (List.Mem.tail _ (List.Mem.tail _ hm6))) tok6 X T BM
    have FN := And.intro F N
    refine hideQ fun QQ toQ => ?_
    dsimp only at ht hg
    k_steps
    refine shown_spec (mg := mg) (mb := mb) S6 ⟨?_, ?_, rfl⟩ ht hg.1 hg.2.1 hg.2.2.1 ?_
    · show dp + 1 + 2 < recursionLimit; omega
    · show un + 3 + 16 < cLine; omega
    intro e d row u0 u1 u2 tn tn' h6 tk6 S' st H1 H2 H2' H3 H4 hz hfr
    exact toQ _ _ (comp_entry FN.1 hL23 FN.2 off inv hl' src4 S' st H1 H2 H2' H3 H4 hz hfr (ff.s1 l' hg))
  case fin =>
    rintro ys news inv
    intro D1 h6 tk6 F6 N6 o6
    clear o6 F5 N5
    dsimp only
    refine to3 _ _ ?_
    clear to3
    obtain ⟨ps6, hm6, tok6⟩ := inv.tab
    have tab6 : h6.get? 23 = some (tabObj ps6) := (N6 _ (List.Mem.tail _ hm6)).1
    have hD23 : D1 ≠ 23 := by
      rintro rfl
      have := (N6 _ (List.Mem.head _)).1
      rw [tab6] at this; cases this
    have hnl : (es.map (·.2)).length = (es.map (·.1)).toArray.size := by simp
    obtain ⟨es1, hl1, ef1⟩ := ef_of inv hnl N6 hD23
    have pf6 := P4 h6 _ _ F6 N6 (fun p hp => List.Mem.tail _ (inv.old p hp))
    have N6' := back_news (g := s.heap) hL23 tab6
    have P6 : ∀ h3 m3 n3, Fr (hid s.heap) s.heap.objs.size h3 m3 → News (hid s.heap) s.heap.objs.size h3 n3 → (∀ p ∈ allNews (hid s.heap) s.heap.objs.size (hid h6), p ∈ n3) → PF la na sa es vs.toList rows h3 ∧ EF w Φs s.heap.objs.size D1 es1 h3 := fun h3 m3 n3 F3 N3 hs =>
      have k := staysBut F3 F6 N3 hs
      ⟨pf6.but F6 k, ef1.but F6 k⟩
    have src6 := src_of pf6.1 F6
    clear N6 inv hm6 P4 src4 hD23 pf6 ef1
    dsimp only
    refine wpAny_execs_cons ?_
    refine hideQ fun Q4 to4 => ?_
    try k_fold
    k_dflt (refine LCg.Assign_ListComp_U F6 rfl (by with_unfolding_all rfl) (by rfl) (by decide) (by rfl) (by decide) (by rfl) (by rfl) (by rfl) ?_)
    walk1
    refine .inl ⟨la, (es.map (·.1)).toArray, _, rfl, rfl, F6, N6', src6 _ (fun p hp => List.Mem.tail _ hp), hesz, fun s₂ hs₂ => ?_⟩
    obtain ⟨g6, rfl⟩ := hs₂
    refine compRest_inv (n := (es.map (·.1)).toArray.size) (CInv w Φt s.heap h6 s.heap.objs.size (es.map (·.2))) ?step2 ?fin2 _ 0 [] _ (Nat.zero_add _) ⟨⟨ps6, List.Mem.head _, tok6⟩, fun p hp => List.Mem.tail _ hp, [], rfl, rfl, by simp⟩
    case step2 =>
      clear to4
      rintro i ys news v I oI C oC D m₂ h tk E' hi inv hP hC hx F N off ne
      clear F6 N6'
      obtain ⟨⟨v', l'⟩, he, rfl⟩ : ∃ e, es[i]? = some e ∧ e.1 = v := by
        have hP' : (es.map (·.1))[i]? = some v := by simpa using hP
        rw [List.getElem?_map] at hP'
        exact Option.map_eq_some_iff.mp hP'
      have hl' : (es.map (·.2))[i]? = some l' := by rw [List.getElem?_map, he]; rfl
      obtain ⟨⟨a, t0, t1, t2, t3, rfl, ht⟩, hg⟩ := (P6 h _ _ F N (fun p hp => List.Mem.tail _ (List.Mem.tail _ (List.Mem.tail _ (inv.old p hp))))).1.2.1 _ (List.mem_of_getElem? he)
      obtain ⟨ps7, hm7, tok7⟩ := inv.tab
      have S7 : Sees w mg mb h := end_sees F N (List.Mem.tail _ (List.Mem.tail _ (List.Mem.tail _ hm7))) tok7 X T BM
      have FN := And.intro F N
      refine hideQ fun QQ toQ => ?_
      dsimp only at ht hg
      k_steps
      refine told_spec (mg := mg) (mb := mb) S7 ⟨?_, ?_, rfl⟩ ht hg.1 hg.2.1 hg.2.2.1 rfl rfl rfl ?_
      · show dp + 1 + 2 < recursionLimit; omega
      · show un + 3 + 16 < cLine; omega
      intro e d row y1 i1 q1 u0 u1 u2 tn tn' h7 tk7 S' st ey ei eq H1 H2 H2' H3 H4 hz hfr
      exact toQ _ _ (comp_entry FN.1 hL23 FN.2 off inv hl' src6 S' st H1 H2 H2' H3 H4 hz hfr (ff.t1 l' _ _ _ _ _ _ hg rfl rfl rfl ey ei eq))
    case fin2 =>
      rintro ys news inv
      intro D2 h8 tk8 F8 N8 o8
      clear o8 F6 N6'
      dsimp only
      refine to4 _ _ ?_
      clear to4
      obtain ⟨ps8, hm8, tok8⟩ := inv.tab
      have tab8 : h8.get? 23 = some (tabObj ps8) := (N8 _ (List.Mem.tail _ hm8)).1
      have hD23 : D2 ≠ 23 := by
        rintro rfl
        have := (N8 _ (List.Mem.head _)).1
        rw [tab8] at this; cases this
      obtain ⟨es2, hl2, ef2⟩ := ef_of inv hnl N8 hD23
      obtain ⟨pf8, ef1⟩ := P6 h8 _ _ F8 N8 (fun p hp => List.Mem.tail _ (inv.old p hp))
      replace N8 := back_news (g := s.heap) hL23 tab8
      clear inv hm8 P6 src6 hD23
      have hne : es.map (·.2) ≠ [] := fun e => hes0 (by have := congrArg List.length e; simpa using this)
      have hlen : (es.map (·.2)).length ≤ 11 := by simpa using hes11
      have hn1 : es1.length = es.length := by have := congrArg List.length hl1; simpa using this
      have hn2 : es2.length = es.length := by have := congrArg List.length hl2; simpa using this
      have hΦt : ∀ l b0 b1 b2, l ∈ grp (es.map (·.2)) → Φt 0 l b0 → Φt 1 l b1 → Φt 2 l b2 → NumOk (col 0 l) (col 1 l) (col 2 l) b0 b1 b2 := fun l b0 b1 b2 hl => ff.t2 l b0 b1 b2 (Nat.le_trans (grp_len hl) hlen)
      dsimp only
      refine wpAny_execs_cons ?_
      refine hideQ fun QC toC => ?_
      try k_fold
      refine wpAny_If ?_
      k_steps
      refine halves_spec (mg := mg) (mb := mb) ff.cs _ (es := es1) rfl (by omega) (by omega) (end_sees F8 N8 (List.Mem.head _) tok8 X T BM) ⟨?_, ?_, rfl⟩ G ef1.1 ef1.2.1 ?_
      · show dp + 1 + (es1.length + 4) < recursionLimit; omega
      · show un + 3 + (8 * es1.length + 24) < cLine; omega
      intro r0 d0 h9 tk9 gn9 S9 st9 G9 dd0 E9
      rw [hl1] at E9
      obtain ⟨ps9, tab9, tok9⟩ := S9.tab
      have F9 := back_fr F8 hL23 st9
      have N9 := back_news (g := s.heap) hL23 tab9
      replace pf8 := pf8.keeps st9
      replace ef1 := ef1.keeps st9
      replace ef2 := ef2.keeps st9
      clear F8 N8
      try k_fold
      k_steps
      refine colours_spec (mg := mg) (mb := mb) (Φ := Φs) (d := d0) (ls := es.map (·.2)) (end_sees F9 N9 (List.Mem.head _) tok9 X T BM) ⟨?_, ?_, rfl⟩ hne hlen hgood ff.s2 E9 pf8.2.2.1 HVs pf8.2.2.2 hrw ?_
      · show dp + 1 + 4 < recursionLimit; omega
      · show un + 3 + 32 < cLine; omega
      intro h10 tk10 S10 st10
      obtain ⟨ps10, tab10, tok10⟩ := S10.tab
      have F10 := back_fr F9 hL23 st10
      have N10 := back_news (g := s.heap) hL23 tab10
      replace pf8 := pf8.keeps st10
      replace ef1 := ef1.keeps st10
      replace ef2 := ef2.keeps st10
      clear F9 N9 E9
      try k_fold
      k_steps
      refine toC _ _ ?_
      clear toC
      dsimp only
      refine wpAny_execs_cons ?_
      refine hideQ fun QC toC => ?_
      try k_fold
      refine wpAny_If ?_
      k_steps
      refine onward_spec (mg := mg) (mb := mb) (es := es1) (end_sees F10 N10 (List.Mem.head _) tok10 X T BM) ⟨?_, ?_, rfl⟩ G9 ff.cs (by omega) ef1.1 ef1.2.1 ?_
      · show dp + 1 + 4 < recursionLimit; omega
      · show un + 3 + 32 < cLine; omega
      intro r1 d1 h11 tk11 gn11 S11 st11 G11 dd1 E11
      rw [hl1] at E11
      obtain ⟨ps11, tab11, tok11⟩ := S11.tab
      have F11 := back_fr F10 hL23 st11
      have N11 := back_news (g := s.heap) hL23 tab11
      replace pf8 := pf8.keeps st11
      replace ef1 := ef1.keeps st11
      replace ef2 := ef2.keeps st11
      clear F10 N10
      try k_fold
      k_steps
      refine colours_spec (mg := mg) (mb := mb) (Φ := Φs) (d := d1) (ls := es.map (·.2)) (end_sees F11 N11 (List.Mem.head _) tok11 X T BM) ⟨?_, ?_, rfl⟩ hne hlen hgood ff.s2 E11 pf8.2.2.1 HVs pf8.2.2.2 hrw ?_
      · show dp + 1 + 4 < recursionLimit; omega
      · show un + 3 + 32 < cLine; omega
      intro h12 tk12 S12 st12
      obtain ⟨ps12, tab12, tok12⟩ := S12.tab
      have F12 := back_fr F11 hL23 st12
      have N12 := back_news (g := s.heap) hL23 tab12
      replace pf8 := pf8.keeps st12
      replace ef1 := ef1.keeps st12
      replace ef2 := ef2.keeps st12
      clear F11 N11 E11
      try k_fold
      k_steps
      refine toC _ _ ?_
      clear toC
      dsimp only
      refine wpAny_execs_cons ?_
      refine hideQ fun QC toC => ?_
      try k_fold
      refine wpAny_If ?_
      k_steps
      refine halves_spec (mg := mg) (mb := mb) ff.ct _ (es := es2) rfl (by omega) (by omega) (end_sees F12 N12 (List.Mem.head _) tok12 X T BM) ⟨?_, ?_, rfl⟩ G11 ef2.1 ef2.2.1 ?_
      · show dp + 1 + (es2.length + 4) < recursionLimit; omega
      · show un + 3 + (8 * es2.length + 24) < cLine; omega
      intro r2 d2 h13 tk13 gn13 S13 st13 G13 dd2 E13
      rw [hl2] at E13
      obtain ⟨ps13, tab13, tok13⟩ := S13.tab
      have F13 := back_fr F12 hL23 st13
      have N13 := back_news (g := s.heap) hL23 tab13
      replace pf8 := pf8.keeps st13
      replace ef1 := ef1.keeps st13
      replace ef2 := ef2.keeps st13
      clear F12 N12
      try k_fold
      k_steps
      refine numbers_spec (mg := mg) (mb := mb) (Φ := Φt) (d := d2) (ls := es.map (·.2)) (end_sees F13 N13 (List.Mem.head _) tok13 X T BM) ⟨?_, ?_, rfl⟩ hne hlen hΦt E13 pf8.2.2.1 HVs pf8.2.2.2 hrw ?_
      · show dp + 1 + 4 < recursionLimit; omega
      · show un + 3 + 40 < cLine; omega
      intro h14 tk14 S14 st14
      obtain ⟨ps14, tab14, tok14⟩ := S14.tab
      have F14 := back_fr F13 hL23 st14
      have N14 := back_news (g := s.heap) hL23 tab14
      replace pf8 := pf8.keeps st14
      replace ef1 := ef1.keeps st14
      replace ef2 := ef2.keeps st14
      clear F13 N13 E13
      try k_fold
      k_steps
      refine toC _ _ ?_
      clear toC
      dsimp only
      try k_fold
      k_steps
      refine onward_spec (mg := mg) (mb := mb) (es := es2) (end_sees F14 N14 (List.Mem.head _) tok14 X T BM) ⟨?_, ?_, rfl⟩ G13 ff.ct (by omega) ef2.1 ef2.2.1 ?_
      · show dp + 1 + 4 < recursionLimit; omega
      · show un + 3 + 32 < cLine; omega
      intro r3 d3 h15 tk15 gn15 S15 st15 G15 dd3 E15
      rw [hl2] at E15
      obtain ⟨ps15, tab15, tok15⟩ := S15.tab
      have F15 := back_fr F14 hL23 st15
      have N15 := back_news (g := s.heap) hL23 tab15
      replace pf8 := pf8.keeps st15
      replace ef1 := ef1.keeps st15
      replace ef2 := ef2.keeps st15
      clear F14 N14
      try k_fold
      k_steps
      refine numbers_spec (mg := mg) (mb := mb) (Φ := Φt) (d := d3) (ls := es.map (·.2)) (end_sees F15 N15 (List.Mem.head _) tok15 X T BM) ⟨?_, ?_, rfl⟩ hne hlen hΦt E15 pf8.2.2.1 HVs pf8.2.2.2 hrw ?_
      · show dp + 1 + 4 < recursionLimit; omega
      · show un + 3 + 40 < cLine; omega
      intro h16 tk16 S16 st16
      obtain ⟨ps16, tab16, tok16⟩ := S16.tab
      have F16 := back_fr F15 hL23 st16
      have N16 := back_news (g := s.heap) hL23 tab16
      replace pf8 := pf8.keeps st16
      replace ef1 := ef1.keeps st16
      replace ef2 := ef2.keeps st16
      clear F15 N15 E15
      try k_fold
      k_steps
      show Q _ _
      exact ret _ _ _ (end_sees F16 N16 (List.Mem.head _) tok16 X T BM) (end_stays F16) G15
end Mine
end
section
open PySem PySem.W PySem.Calls PyProof.Rows
set_option maxRecDepth 100000
set_option maxHeartbeats 8000000
namespace Mine
theorem lookup23 (P : Params) : (Mine.hd.heap_39 P).lookup 23 = none := by with_unfolding_all rfl
theorem in_hid {P : Params} {h : Heap} (X : (Mine.hd.heap_39 P).In h) : (Mine.hd.heap_39 P).In (hid h) := fun a o e => (hid_get (by rintro rfl; rw [lookup23] at e; cases e)).trans (X a o e)
theorem ns_hid {h : Heap} {a : Addr} {m : Str → Option Value} (x : h.Ns a m) (ha : a ≠ 23) : (hid h).Ns a m := let ⟨o, es, ep, ho, r⟩ := x; ⟨o, es, ep, (hid_get ha).trans ho, r⟩
theorem top_hid {h : Heap} {mg mb : Str → Option Value} (T : TopAt mg mb h) : TopAt mg mb (hid h) :=
  ⟨ns_hid T.g (by decide), ns_hid T.b (by decide), let ⟨mc, hn, r⟩ := T.nolimit; ⟨mc, ns_hid hn (by decide), r⟩, T.builtins, T.free⟩
theorem tab23 {P : Params} {mean : ExcName → Option Value} {mg mb : Str → Option Value} {h : Heap} (X : (Mine.hd.heap_39 P).In h) (T : Top Mine.hd.view_39 (looseW Mine.hd.view_39 []) mean mg mb h) : h.get? 23 = some (tabObj #[]) := by
  have hm : mg (Str.ofString "add_callers") = some (.ref 28) := mg_of X T.g (by with_unfolding_all rfl)
  have h28 := X 28 _ (by with_unfolding_all rfl)
  obtain ⟨c, P', e1, B⟩ := based_of_top T (name := Str.ofString "add_callers") (by with_unfolding_all rfl) hm h28 rfl
  cases e1
  obtain ⟨⟨o, vs, g1, g2, g3, g4⟩, g5⟩ := B.tab
  have h27 := X 27 _ (by with_unfolding_all rfl)
  rw [h27] at g1
  cases g1
  cases g3
  cases g4
  exact g5
theorem bmod_hid {h : Heap} {mg : Str → Option Value} (x : ∃ bm ob, BMod h mainGlobals mg bm ob) (tab : h.get? 23 = some (tabObj #[])) : ∃ bm ob, BMod (hid h) mainGlobals mg bm ob := by
  obtain ⟨bm, ob, M⟩ := x
  have hb : bm ≠ 23 := by
    rintro rfl
    have h1 := M.obj
    have h2 := M.cls
    rw [tab] at h1; cases h1; cases h2
  exact ⟨bm, ob, { M with ns := ns_hid M.ns (by decide), obj := (hid_get hb).trans M.obj }⟩
theorem ints_at {vs : List Value} {ns : List Int} (h : IntsAre vs ns) : ∀ (i : Nat) (v : Value), vs.toArray[i]? = some v → ∃ n t, v = Value.int n t := by
  intro i v hv
  have hv' : vs[i]? = some v := by simpa using hv
  clear hv
  induction h generalizing i with
  | nil => cases hv'
  | cons n t _ ih =>
    cases i with
    | zero => cases hv'; exact ⟨_, _, rfl⟩
    | succ i => exact ih i hv'

theorem holds_of {Φs Φt : Phi} (ff : FF Φs Φt) : PySem.Challenge.rw_mj0062_01.Holds := hd (by
  k_fill
  intro w s₀ s₁ mg mb G Y fa o pm cd doc dV kV ho hd hcd hD hmg hg args vals as hpre hlay hrd hwl hlo
  have KX := kIn_of Y
  refine Ground.open G ?_
  intro T B D TE TW
  have hm : mg (Str.ofString "law") = some (.ref 113) := mg_of KX T.g (by with_unfolding_all rfl)
  have hfa : fa = 113 := by
    rw [show mg (Str.ofString "law") = some (.ref fa) from hmg] at hm
    cases hm; rfl
  subst hfa
  have tab := tab23 KX T
  have S : Sees w mg mb s₁.heap := ⟨in_hid KX, top_hid (topRead_of T), ⟨#[], tab, .inl rfl⟩, bmod_hid (bmod_of_top T) tab⟩
  wrow_args hpre hlay hrd hwl hlo
  rename Heap.IsList _ _ _ => hL
  rename IntsAre _ _ => hI
  rename ¬ _ < _ => hsz
  have hlen := hI.length
  refine law_spec (mg := mg) (mb := mb) ff S ⟨by decide, by decide, rfl⟩ (.of_eq hg) ?_ (ints_at hI) ?_ ?_
  · obtain ⟨o, ho, r⟩ := hL
    refine ⟨o, (hid_get ?_).trans ho, r⟩
    rintro rfl
    rw [tab] at ho; cases ho; cases r.1
  · simp; omega
  · intro h' tk' gn' S' st' G'
    obtain ⟨X', T', ⟨ps', tab', tok'⟩, BM'⟩ := S'
    refine ⟨.inl ⟨_, _, [], rfl, fun _ => rfl, ReadsW.bool true, ?_, fun _ => ⟨List.nodup_nil, fun _ hm => (nomatch hm)⟩⟩, ?_, rfl, G'⟩
    · first | rfl | wrow_post
    · refine OldK.step_table (OldK.refl _) (table27 KX tab) (table27 KX tab) (h' := h') (more := ps') ?_ (fun b o hb e => of_hid (st' b o ((hid_get hb).trans e))) (by decide)
      rw [Array.empty_append]
      exact table27 (X'.keeps fun b o e => of_hid e) tab')
end Mine
end
section
open PySem PySem.Float64
set_option maxRecDepth 100000
set_option exponentiation.threshold 5000
namespace Mine

def Fl (x : UInt64) : Prop := ∃ a m e, decode x = .fin a m e

theorem rep_V : ∀ (k j : Nat), j ≤ 2 ^ 53 → ∃ t, V t = j * 2 ^ k := by
  intro k
  induction k with
  | zero => intro j hj; exact ⟨0 * 2 ^ 52 + j, V_at hj (.inr rfl)⟩
  | succ k ih =>
    intro j hj
    by_cases h : 2 ^ 52 ≤ j
    · exact ⟨(k + 1) * 2 ^ 52 + j, V_at hj (.inl h)⟩
    · obtain ⟨t, ht⟩ := ih (2 * j) (by first | lia | omega)
      exact ⟨t, by rw [ht, Nat.pow_succ, Nat.mul_comm 2 j, Nat.mul_assoc, Nat.mul_comm 2]⟩

theorem fl_V {x : UInt64} (h : Fl x) : ∃ t, V t = (val x).natAbs := by
  obtain ⟨a, m, e, hd⟩ := h
  obtain ⟨h1, _⟩ := decode_le hd
  obtain ⟨t, ht⟩ := rep_V (e + 1074).toNat m (by first | lia | omega)
  exact ⟨t, by rw [ht, val_natAbs hd]⟩

theorem pack_fl {neg : Bool} {t : Nat} (h : t < infMag) : Fl (pack neg t) := by
  obtain ⟨m, e, hd, _⟩ := decode_pack neg h
  exact ⟨_, _, _, hd⟩

/-- not over -/
theorem right_under {r : UInt64} {neg : Bool} {W D c : Nat} (R : Right r neg W D) (hD : 0 < D) (hW : W ≤ D * (2 ^ 53 * 2 ^ c)) (hc : c ≤ 1500) :
    ∃ t, t < infMag ∧ Fl r ∧ val r = sgn neg (V t) ∧ ∀ t', dist W (D * V t) ≤ dist W (D * V t') := by
  obtain ⟨t, hr, hle, hov, hn⟩ := R
  have hlt : t < infMag := by
    refine Nat.lt_of_le_of_ne hle fun e => ?_
    have h1 := hov.mp e
    have h2 : (2 : Nat) ^ 53 * 2 ^ c ≤ 2 ^ 53 * 2 ^ 1500 := Nat.mul_le_mul_left _ (Nat.pow_le_pow_right (by decide) hc)
    have h3 : W ≤ D * (2 ^ 53 * 2 ^ 1500) := Nat.le_trans hW (Nat.mul_le_mul_left _ h2)
    have h4 : D * ((2 ^ 54 - 1) * 2 ^ 2045) ≤ D * (2 * (2 ^ 53 * 2 ^ 1500)) := by
      refine Nat.le_trans h1 ?_
      rw [Nat.mul_left_comm D 2]
      exact Nat.mul_le_mul_left _ h3
    have h5 := Nat.le_of_mul_le_mul_left h4 hD
    exact absurd h5 (by decide +kernel)
  exact ⟨t, hlt, hr ▸ pack_fl hlt, by rw [hr, val_pack neg hlt], fun t' => (hn hlt t').1⟩

theorem near_of {W D c t : Nat} (hD : 0 < D) (hW : W ≤ D * (2 ^ 53 * 2 ^ c)) (hn : ∀ t', dist W (D * V t) ≤ dist W (D * V t')) : 2 * dist W (D * V t) ≤ D * 2 ^ c := by
  have hM : 0 < D * 2 ^ c := Nat.mul_pos hD (Nat.two_pow_pos _)
  have hW' : W ≤ (D * 2 ^ c) * 2 ^ 53 := by
    rw [Nat.mul_assoc, Nat.mul_comm (2 ^ c)]; exact hW
  have hdm := Nat.div_add_mod (2 * W + D * 2 ^ c) (2 * (D * 2 ^ c))
  have hml := Nat.mod_lt (2 * W + D * 2 ^ c) (y := 2 * (D * 2 ^ c)) (by first | lia | omega)
  generalize (2 * W + D * 2 ^ c) / (2 * (D * 2 ^ c)) = j at hdm
  generalize (2 * W + D * 2 ^ c) % (2 * (D * 2 ^ c)) = u at hdm hml
  have hj : j ≤ 2 ^ 53 := by
    by_cases h : j ≤ 2 ^ 53
    · exact h
    · have : 2 * (D * 2 ^ c) * (2 ^ 53 + 1) ≤ 2 * (D * 2 ^ c) * j := Nat.mul_le_mul_left _ (by first | lia | omega)
      rw [Nat.mul_add, Nat.mul_one] at this
      have e : 2 * (D * 2 ^ c) * 2 ^ 53 = 2 * (D * 2 ^ c * 2 ^ 53) := Nat.mul_assoc ..
      (first | lia | omega)
  obtain ⟨t', ht'⟩ := rep_V c j hj
  have h1 := hn t'
  rw [ht'] at h1
  have e2 : D * (j * 2 ^ c) = D * 2 ^ c * j := by rw [Nat.mul_comm j, Nat.mul_assoc]
  rw [e2] at h1
  have e3 : 2 * (D * 2 ^ c) * j = 2 * (D * 2 ^ c * j) := Nat.mul_assoc ..
  generalize D * 2 ^ c * j = z at *
  generalize D * 2 ^ c = M at *
  unfold dist at *
  (first | lia | omega)

theorem val_zero (b : Bool) : val (zero b) = 0 ∧ Fl (zero b) := by
  refine ⟨by cases b <;> decide +kernel, ?_⟩
  unfold zero
  exact pack_fl (by decide)

theorem int_near {x : Int} {v c : Nat} (h : 2 * dist x.natAbs (1 * v) ≤ 1 * 2 ^ c) : 2 * (sgn (decide (x < 0)) v - x) ≤ 2 ^ c ∧ 2 * (x - sgn (decide (x < 0)) v) ≤ 2 ^ c := by
  have e : ((2 ^ c : Nat) : Int) = (2 : Int) ^ c := by simp
  rw [← e]
  generalize (2 : Nat) ^ c = K at *
  unfold dist at h
  unfold sgn
  by_cases hx : x < 0
  · simp only [hx, decide_true, if_true]; (first | lia | omega)
  · simp only [hx, decide_false, Bool.false_eq_true, if_false]; (first | lia | omega)

theorem add_near {x y : UInt64} {c : Nat} (hx : Fl x) (hy : Fl y) (hc : c ≤ 1500) (hb : (val x + val y).natAbs ≤ 2 ^ 53 * 2 ^ c) :
    Fl (add x y) ∧ 2 * (val (add x y) - (val x + val y)) ≤ 2 ^ c ∧ 2 * (val x + val y - val (add x y)) ≤ 2 ^ c := by
  obtain ⟨a, m, e, hx⟩ := hx
  obtain ⟨b, k, f, hy⟩ := hy
  obtain ⟨h0, h1⟩ := add_right hx hy
  by_cases hz : val x + val y = 0
  · have hp : (0 : Int) < 2 ^ c := Int.pow_pos (by decide)
    rw [h0 hz, (val_zero _).1, hz]
    exact ⟨(val_zero _).2, by first | lia | omega, by (first | lia | omega)⟩
  · obtain ⟨t, ht, hf, hv, hn⟩ := right_under (h1 hz) (by decide) (by rw [Nat.one_mul]; exact hb) hc
    have hq := near_of (by decide) (by rw [Nat.one_mul]; exact hb) hn
    rw [hv]
    exact ⟨hf, int_near hq⟩

theorem add_exact {x y : UInt64} {u : Nat} (hx : Fl x) (hy : Fl y) (hb : (val x + val y).natAbs ≤ 2 ^ 53 * 2 ^ 1500) (hu : V u = (val x + val y).natAbs) :
    Fl (add x y) ∧ val (add x y) = val x + val y := by
  obtain ⟨a, m, e, hx⟩ := hx
  obtain ⟨b, k, f, hy⟩ := hy
  obtain ⟨h0, h1⟩ := add_right hx hy
  by_cases hz : val x + val y = 0
  · rw [h0 hz, (val_zero _).1, hz]
    exact ⟨(val_zero _).2, rfl⟩
  · obtain ⟨t, ht, hf, hv, hn⟩ := right_under (h1 hz) (by decide) (by rw [Nat.one_mul]; exact hb) (Nat.le_refl 1500)
    have h2 := hn u
    rw [hu] at h2
    rw [hv]
    refine ⟨hf, ?_⟩
    unfold dist at h2
    unfold sgn
    by_cases hx : val x + val y < 0
    · simp only [hx, decide_true, if_true]; (first | lia | omega)
    · simp only [hx, decide_false, Bool.false_eq_true, if_false]; (first | lia | omega)

theorem fl_neg {y : UInt64} (hy : Fl y) : Fl (neg y) ∧ val (neg y) = - val y := by
  obtain ⟨b, k, f, hy⟩ := hy
  exact ⟨⟨_, _, _, neg_decode hy⟩, neg_val hy⟩
theorem sub_near {x y : UInt64} {c : Nat} (hx : Fl x) (hy : Fl y) (hc : c ≤ 1500) (hb : (val x - val y).natAbs ≤ 2 ^ 53 * 2 ^ c) :
    Fl (sub x y) ∧ 2 * (val (sub x y) - (val x - val y)) ≤ 2 ^ c ∧ 2 * (val x - val y - val (sub x y)) ≤ 2 ^ c := by
  obtain ⟨h1, h2⟩ := fl_neg hy
  have e : val x - val y = val x + val (neg y) := by rw [h2]; rfl
  rw [e] at hb ⊢
  unfold sub
  exact add_near hx h1 hc hb

theorem sgn_prod (a b : Bool) (m k : Nat) : sgn a m * sgn b k = sgn (a != b) (m * k) := by
  unfold sgn; cases a <;> cases b <;> simp [Int.neg_mul, Int.mul_neg]
theorem mul_near {x y : UInt64} {c : Nat} (hx : Fl x) (hy : Fl y) (hc : c ≤ 1500) (hb : (val x * val y).natAbs ≤ 2 ^ 1074 * (2 ^ 53 * 2 ^ c)) :
    Fl (mul x y) ∧ 2 * (2 ^ 1074 * val (mul x y) - val x * val y) ≤ 2 ^ 1074 * 2 ^ c ∧ 2 * (val x * val y - 2 ^ 1074 * val (mul x y)) ≤ 2 ^ 1074 * 2 ^ c := by
  obtain ⟨a, m, e, hx⟩ := hx
  obtain ⟨b, k, f, hy⟩ := hy
  have R := mul_right hx hy
  have hW : (val x).natAbs * (val y).natAbs = (val x * val y).natAbs := (Int.natAbs_mul ..).symm
  obtain ⟨t, ht, hf, hv, hn⟩ := right_under R (Nat.two_pow_pos _) (by rw [hW]; exact hb) hc
  have hq := near_of (Nat.two_pow_pos _) (by rw [hW]; exact hb) hn
  rw [hv]
  refine ⟨hf, ?_⟩
  have hp : val x * val y = sgn (a != b) ((val x).natAbs * (val y).natAbs) := by
    rw [← sgn_prod, val_natAbs hx, val_natAbs hy, ← val_eq hx, ← val_eq hy]
  rw [hp]
  generalize (val x).natAbs * (val y).natAbs = W at *
  have e : ((2 ^ c : Nat) : Int) = (2 : Int) ^ c := by simp
  have e2 : ((2 ^ 1074 : Nat) : Int) = (2 : Int) ^ 1074 := by simp
  rw [← e, ← e2]
  generalize (2 : Nat) ^ c = K at *
  generalize (2 : Nat) ^ 1074 = D at *
  have e4 : (D : Int) * (K : Int) = ((D * K : Nat) : Int) := by simp
  have e3 : (D : Int) * sgn (a != b) (V t) = sgn (a != b) (D * V t) := by
    unfold sgn; cases (a != b) <;> simp [Int.mul_neg]
  rw [e3, e4]
  generalize D * V t = z at *
  generalize D * K = M at *
  unfold dist at hq
  unfold sgn
  cases (a != b)
  · simp only [Bool.false_eq_true, if_false]; (first | lia | omega)
  · simp only [if_true]; (first | lia | omega)

/-- rounding to an int -/
theorem nearest_int {x : UInt64} {k : Int} (hx : Fl x) (h1 : 2 * (val x - k * 2 ^ 1074) < 2 ^ 1074) (h2 : 2 * (k * 2 ^ 1074 - val x) < 2 ^ 1074) : PySem.Flt.toInt nearestOf x = k := by
  obtain ⟨a, m, e, hd⟩ := hx
  unfold PySem.Flt.toInt
  rw [hd]
  simp only
  unfold nearestOf
  have hs := shift_one m e 1074 (decode_ge hd)
  have hpos := shift_pos m 1 e (by decide)
  simp only
  generalize (shift m 1 e).1 = n at *
  generalize (shift m 1 e).2 = d at *
  have hv := val_eq hd
  have hn := halfEven_nearest n d hpos k.natAbs
  have e2 : ((2 ^ 1074 : Nat) : Int) = (2 : Int) ^ 1074 := by simp
  have hD : 0 < (2 : Nat) ^ 1074 := Nat.two_pow_pos _
  have e3 : (e + (1074 : Nat)).toNat = (e + 1074).toNat := rfl
  rw [e3] at hs
  rw [hv, ← e2] at h1 h2
  generalize m * 2 ^ (e + 1074).toNat = W at *
  generalize (2 : Nat) ^ 1074 = D at *
  generalize halfEven n d = q at *
  clear e2 e3 hv hd
  have hk : k = sgn a k.natAbs ∧ 2 * dist W (k.natAbs * D) < D := by
    have hDi : (0 : Int) < (D : Int) := by first | lia | omega
    unfold sgn at h1 h2 ⊢
    unfold dist
    rcases Int.lt_trichotomy k 0 with hk | hk | hk
    · have e5 : k = -((k.natAbs : Nat) : Int) := by first | lia | omega
      generalize k.natAbs = K at e5 ⊢
      subst e5
      rw [Int.neg_mul] at h1 h2
      have e6 : (K : Int) * (D : Int) = ((K * D : Nat) : Int) := by simp
      rw [e6] at h1 h2
      have e7 : D ≤ K * D := Nat.le_mul_of_pos_left _ (by first | lia | omega)
      generalize K * D = Z at *
      cases a
      · simp only [Bool.false_eq_true, if_false] at h1 h2 ⊢; first | (first | lia | omega) | exact ⟨trivial, by first | lia | omega⟩
      · simp only [if_true] at h1 h2 ⊢; first | (first | lia | omega) | exact ⟨trivial, by first | lia | omega⟩
    · subst hk
      simp only [Int.zero_mul, Int.natAbs_zero, Nat.zero_mul] at h1 h2 ⊢
      cases a
      · simp only [Bool.false_eq_true, if_false] at h1 h2 ⊢; first | (first | lia | omega) | exact ⟨trivial, by first | lia | omega⟩
      · simp only [if_true] at h1 h2 ⊢; first | (first | lia | omega) | exact ⟨trivial, by first | lia | omega⟩
    · have e5 : k = ((k.natAbs : Nat) : Int) := by first | lia | omega
      generalize k.natAbs = K at e5 ⊢
      subst e5
      have e6 : (K : Int) * (D : Int) = ((K * D : Nat) : Int) := by simp
      rw [e6] at h1 h2
      have e7 : D ≤ K * D := Nat.le_mul_of_pos_left _ (by first | lia | omega)
      generalize K * D = Z at *
      cases a
      · simp only [Bool.false_eq_true, if_false] at h1 h2 ⊢; first | (first | lia | omega) | exact ⟨trivial, by first | lia | omega⟩
      · simp only [if_true] at h1 h2 ⊢; first | (first | lia | omega) | exact ⟨trivial, by first | lia | omega⟩
  obtain ⟨hk, hdist⟩ := hk
  generalize k.natAbs = K at *
  have h5 : D * (2 * dist n (d * K)) < D * d := by
    have a1 : D * (2 * dist n (d * K)) = 2 * dist (D * n) (D * (d * K)) := by rw [dist_mul, Nat.mul_left_comm]
    have a2 : D * n = d * W := by rw [Nat.mul_comm D, hs, Nat.mul_comm]
    have a3 : D * (d * K) = d * (K * D) := by rw [Nat.mul_left_comm, Nat.mul_comm D]
    rw [a1, a2, a3, dist_mul, Nat.mul_left_comm, Nat.mul_comm D d]
    exact Nat.mul_lt_mul_of_pos_left hdist hpos
  have h6 := Nat.lt_of_mul_lt_mul_left h5
  have h7 : dist (d * q) (d * K) < d := by
    unfold dist at *
    (first | lia | omega)
  rw [dist_mul] at h7
  have h8 : dist q K = 0 := by
    by_cases hz : dist q K = 0
    · exact hz
    · have := Nat.le_mul_of_pos_right d (Nat.pos_of_ne_zero hz)
      (first | lia | omega)
  have h9 : q = K := by unfold dist at h8; (first | lia | omega)
  rw [h9]
  exact hk.symm
end Mine
end
section
open PySem PySem.Float64
set_option maxRecDepth 100000
set_option exponentiation.threshold 5000
namespace Mine

/-- 2^-53 in the scale of val -/
@[irreducible] def TT : Int := 2 ^ 1021
theorem TT_eq : TT = 2 ^ 1021 := by unfold TT; rfl
theorem TT_pos : 0 < TT := by rw [TT_eq]; exact Int.pow_pos (by decide)
theorem p1022 : (2 : Int) ^ 1022 = 2 * TT := by rw [TT_eq]; decide +kernel
theorem p1074 : (2 : Int) ^ 1074 = 9007199254740992 * TT := by rw [TT_eq]; decide +kernel
theorem p1066 : (2 : Int) ^ 1066 = 35184372088832 * TT := by rw [TT_eq]; decide +kernel
theorem nabs {x : Int} {n : Nat} (h1 : x ≤ n) (h2 : -x ≤ n) : x.natAbs ≤ n := by first | lia | omega

theorem addT {x y : UInt64} (hx : Fl x) (hy : Fl y) (h1 : val x + val y ≤ 18014398509481984 * TT) (h2 : -(val x + val y) ≤ 18014398509481984 * TT) :
    Fl (add x y) ∧ val (add x y) - (val x + val y) ≤ TT ∧ val x + val y - val (add x y) ≤ TT := by
  have e : ((2 ^ 53 * 2 ^ 1022 : Nat) : Int) = 18014398509481984 * TT := by rw [TT_eq]; decide +kernel
  obtain ⟨a, b, c⟩ := add_near hx hy (c := 1022) (by decide) (nabs (by rw [e]; exact h1) (by rw [e]; exact h2))
  rw [p1022] at b c
  exact ⟨a, by first | lia | omega, by (first | lia | omega)⟩
theorem subT {x y : UInt64} (hx : Fl x) (hy : Fl y) (h1 : val x - val y ≤ 18014398509481984 * TT) (h2 : -(val x - val y) ≤ 18014398509481984 * TT) :
    Fl (sub x y) ∧ val (sub x y) - (val x - val y) ≤ TT ∧ val x - val y - val (sub x y) ≤ TT := by
  have e : ((2 ^ 53 * 2 ^ 1022 : Nat) : Int) = 18014398509481984 * TT := by rw [TT_eq]; decide +kernel
  obtain ⟨a, b, c⟩ := sub_near hx hy (c := 1022) (by decide) (nabs (by rw [e]; exact h1) (by rw [e]; exact h2))
  rw [p1022] at b c
  exact ⟨a, by first | lia | omega, by (first | lia | omega)⟩

theorem scale_le {K a b : Int} (hK : 0 < K) (h : K * a ≤ K * b) : a ≤ b := Int.le_of_mul_le_mul_left h hK
/-- a constant k / 2^j times a float -/
theorem mulC {x y : UInt64} {k : Int} {j c : Nat} {M : Int} (hj : j ≤ 1074) (hx : Fl x) (hv : val x = k * 2 ^ (1074 - j)) (hy : Fl y) (hc : c ≤ 1500) (hM : M = 2 ^ c)
    (h1 : k * val y ≤ 2 ^ j * (9007199254740992 * M)) (h2 : -(k * val y) ≤ 2 ^ j * (9007199254740992 * M)) :
    Fl (mul x y) ∧ 2 * (2 ^ j * val (mul x y) - k * val y) ≤ 2 ^ j * M ∧ 2 * (k * val y - 2 ^ j * val (mul x y)) ≤ 2 ^ j * M := by
  have hp : (2 : Int) ^ 1074 = 2 ^ (1074 - j) * 2 ^ j := by rw [← Int.pow_add]; congr 1; (first | lia | omega)
  have hK : (0 : Int) < 2 ^ (1074 - j) := Int.pow_pos (by decide)
  have hxy : val x * val y = 2 ^ (1074 - j) * (k * val y) := by rw [hv, Int.mul_comm k, Int.mul_assoc]
  have e53 : ((2 ^ 1074 * (2 ^ 53 * 2 ^ c) : Nat) : Int) = 2 ^ (1074 - j) * (2 ^ j * (9007199254740992 * M)) := by
    rw [hM, ← Int.mul_assoc (2 ^ (1074 - j)), ← hp]
    simp
  obtain ⟨a, b, d⟩ := mul_near hx hy (c := c) hc (by
    refine nabs ?_ ?_
    · rw [e53, hxy]; exact Int.mul_le_mul_of_nonneg_left h1 (Int.le_of_lt hK)
    · rw [e53, hxy, ← Int.mul_neg]; exact Int.mul_le_mul_of_nonneg_left h2 (Int.le_of_lt hK))
  rw [hxy, hp, ← hM] at b d
  refine ⟨a, scale_le hK ?_, scale_le hK ?_⟩
  · have e1 : 2 ^ (1074 - j) * (2 * (2 ^ j * val (mul x y) - k * val y)) = 2 * (2 ^ (1074 - j) * 2 ^ j * val (mul x y) - 2 ^ (1074 - j) * (k * val y)) := by
      rw [Int.mul_left_comm, Int.mul_sub, ← Int.mul_assoc (2 ^ (1074 - j)) (2 ^ j)]
    rw [e1, ← Int.mul_assoc _ (2 ^ j) M]; exact b
  · have e1 : 2 ^ (1074 - j) * (2 * (k * val y - 2 ^ j * val (mul x y))) = 2 * (2 ^ (1074 - j) * (k * val y) - 2 ^ (1074 - j) * 2 ^ j * val (mul x y)) := by
      rw [Int.mul_left_comm, Int.mul_sub, ← Int.mul_assoc (2 ^ (1074 - j)) (2 ^ j)]
    rw [e1, ← Int.mul_assoc _ (2 ^ j) M]; exact d
theorem fl_of {x : UInt64} (h : isFinite x = true) : Fl x := by
  unfold isFinite at h
  cases hd : decode x with
  | nan => rw [hd] at h; cases h
  | inf _ => rw [hd] at h; cases h
  | fin a m e => exact ⟨_, _, _, hd⟩
/-- the same, at magnitudes up to 2, the power written out -/
theorem mulT {x y : UInt64} {k J : Int} {j : Nat} (hx : isFinite x = true) (hv : val x = k * 2 ^ (1074 - j)) (hJ : J = 2 ^ j) (hj : j ≤ 1074) (hy : Fl y)
    (h1 : k * val y ≤ J * (18014398509481984 * TT)) (h2 : -(k * val y) ≤ J * (18014398509481984 * TT)) :
    Fl (mul x y) ∧ J * val (mul x y) - k * val y ≤ J * TT ∧ k * val y - J * val (mul x y) ≤ J * TT := by
  subst hJ
  obtain ⟨a, b, c⟩ := mulC (c := 1022) (M := 2 * TT) hj (fl_of hx) hv hy (by decide) p1022.symm (by rw [← Int.mul_assoc 9007199254740992]; exact h1) (by rw [← Int.mul_assoc 9007199254740992]; exact h2)
  rw [Int.mul_left_comm (2 ^ j) 2] at b c
  exact ⟨a, by first | lia | omega, by (first | lia | omega)⟩
end Mine
end
section
open PySem PySem.Float64
set_option maxRecDepth 100000
set_option exponentiation.threshold 5000
namespace Mine
theorem abs_mul_le {c d y m : Int} (h1 : c ≤ d) (h2 : -c ≤ d) (y1 : y ≤ m) (y2 : -y ≤ m) (hd : 0 ≤ d) : c * y ≤ d * m := by
  rcases Int.le_total 0 y with hy | hy
  · exact Int.le_trans (Int.mul_le_mul_of_nonneg_right h1 hy) (Int.mul_le_mul_of_nonneg_left y1 hd)
  · have e : c * y = (-c) * (-y) := by rw [Int.neg_mul_neg]
    rw [e]
    exact Int.le_trans (Int.mul_le_mul_of_nonneg_right h2 (by omega)) (Int.mul_le_mul_of_nonneg_left y2 hd)
theorem lin_core {J q p k d M f w y T : Int} (hJ0 : 0 < J) (hq : 0 ≤ q) (hT : 0 ≤ T) (hd : 0 ≤ d) (a : J * w - k * y ≤ J * T) (y1 : y ≤ M * T) (y2 : -y ≤ M * T) (c2 : q * k - p * J ≤ d) (c3 : -(q * k - p * J) ≤ d) (c4 : d * M ≤ J * f) : q * w - p * y ≤ (q + f) * T := by
  refine Int.le_of_mul_le_mul_left (a := J) ?_ hJ0
  have h1 := Int.mul_le_mul_of_nonneg_left a hq
  have h2 := abs_mul_le c2 c3 y1 y2 hd
  have h3 := Int.mul_le_mul_of_nonneg_right c4 hT
  grind
/-- a constant near p / q times a float -/
theorem constT {x y : UInt64} {k J p q M d f e : Int} {j : Nat} (hx : isFinite x = true) (hv : val x = k * 2 ^ (1074 - j)) (hJ : J = 2 ^ j) (hj : j ≤ 1074) (hy : Fl y) (y1 : val y ≤ M * TT) (y2 : -val y ≤ M * TT)
    (hk : 0 ≤ k ∧ k * M ≤ J * 18014398509481984 ∧ 0 < J ∧ 0 ≤ q ∧ 0 ≤ d ∧ q * k - p * J ≤ d ∧ -(q * k - p * J) ≤ d ∧ d * M ≤ J * f ∧ q + f = e) :
    Fl (mul x y) ∧ q * val (mul x y) - p * val y ≤ e * TT ∧ p * val y - q * val (mul x y) ≤ e * TT := by
  obtain ⟨k0, c1, J0, q0, d0, c2, c3, c4, rfl⟩ := hk
  have hT := Int.le_of_lt TT_pos
  have b : ∀ v : Int, v ≤ M * TT → k * v ≤ J * (18014398509481984 * TT) := fun v hv => by
    have h1 := Int.mul_le_mul_of_nonneg_left hv k0
    have h2 := Int.mul_le_mul_of_nonneg_right c1 hT
    rw [Int.mul_assoc, Int.mul_assoc] at h2
    exact Int.le_trans h1 h2
  obtain ⟨f1, a, a'⟩ := mulT hx hv hJ hj hy (b _ y1) (by rw [← Int.mul_neg]; exact b _ y2)
  refine ⟨f1, lin_core J0 q0 hT d0 a y1 y2 c2 c3 c4, ?_⟩
  have := lin_core (w := -val (mul x y)) (y := -val y) J0 q0 hT d0 (by grind) y2 (by grind) c2 c3 c4
  grind
end Mine
end
section
open PySem PySem.Float64
set_option maxRecDepth 100000
set_option exponentiation.threshold 5000
namespace Mine

theorem v03 : val 4599075939470750515 = 5404319552844595 * 2 ^ (1074 - 54) := by decide +kernel
theorem v059 : val 4603489467105573601 = 5314247560297185 * 2 ^ (1074 - 53) := by decide +kernel
theorem v011 : val 4592590756007337001 = 7926335344172073 * 2 ^ (1074 - 56) := by decide +kernel
theorem v074 : val 4604840546993784750 = 3332663724254167 * 2 ^ (1074 - 52) := by decide +kernel
theorem v027 : val 4598535507515466056 = 607985949695017 * 2 ^ (1074 - 51) := by decide +kernel
theorem v048 : val 4602318531202457272 = 1080863910568919 * 2 ^ (1074 - 51) := by decide +kernel
theorem v041 : val 4601057523306793533 = 7385903388887613 * 2 ^ (1074 - 54) := by decide +kernel

theorem m03 {x : UInt64} (hx : Fl x) (h1 : val x ≤ 600000000000000 * TT) (h2 : -val x ≤ 600000000000000 * TT) : Fl (mul 4599075939470750515 x) ∧ 10 * val (mul 4599075939470750515 x) - 3 * val x ≤ 11 * TT ∧ 3 * val x - 10 * val (mul 4599075939470750515 x) ≤ 11 * TT :=
  constT (k := 5404319552844595) (J := 18014398509481984) (j := 54) (p := 3) (q := 10) (M := 600000000000000) (d := 2) (f := 1) (by decide +kernel) v03 (by decide) (by decide) hx h1 h2 (by decide +kernel)
theorem m059 {x : UInt64} (hx : Fl x) (h1 : val x ≤ 600000000000000 * TT) (h2 : -val x ≤ 600000000000000 * TT) : Fl (mul 4603489467105573601 x) ∧ 100 * val (mul 4603489467105573601 x) - 59 * val x ≤ 102 * TT ∧ 59 * val x - 100 * val (mul 4603489467105573601 x) ≤ 102 * TT :=
  constT (k := 5314247560297185) (J := 9007199254740992) (j := 53) (p := 59) (q := 100) (M := 600000000000000) (d := 28) (f := 2) (by decide +kernel) v059 (by decide) (by decide) hx h1 h2 (by decide +kernel)
theorem m011 {x : UInt64} (hx : Fl x) (h1 : val x ≤ 600000000000000 * TT) (h2 : -val x ≤ 600000000000000 * TT) : Fl (mul 4592590756007337001 x) ∧ 100 * val (mul 4592590756007337001 x) - 11 * val x ≤ 102 * TT ∧ 11 * val x - 100 * val (mul 4592590756007337001 x) ≤ 102 * TT :=
  constT (k := 7926335344172073) (J := 72057594037927936) (j := 56) (p := 11) (q := 100) (M := 600000000000000) (d := 4) (f := 2) (by decide +kernel) v011 (by decide) (by decide) hx h1 h2 (by decide +kernel)
theorem m074 {x : UInt64} (hx : Fl x) (h1 : val x ≤ 600000000000000 * TT) (h2 : -val x ≤ 600000000000000 * TT) : Fl (mul 4604840546993784750 x) ∧ 100 * val (mul 4604840546993784750 x) - 74 * val x ≤ 102 * TT ∧ 74 * val x - 100 * val (mul 4604840546993784750 x) ≤ 102 * TT :=
  constT (k := 3332663724254167) (J := 4503599627370496) (j := 52) (p := 74) (q := 100) (M := 600000000000000) (d := 4) (f := 2) (by decide +kernel) v074 (by decide) (by decide) hx h1 h2 (by decide +kernel)
theorem m027 {x : UInt64} (hx : Fl x) (h1 : val x ≤ 600000000000000 * TT) (h2 : -val x ≤ 600000000000000 * TT) : Fl (mul 4598535507515466056 x) ∧ 100 * val (mul 4598535507515466056 x) - 27 * val x ≤ 102 * TT ∧ 27 * val x - 100 * val (mul 4598535507515466056 x) ≤ 102 * TT :=
  constT (k := 607985949695017) (J := 2251799813685248) (j := 51) (p := 27) (q := 100) (M := 600000000000000) (d := 4) (f := 2) (by decide +kernel) v027 (by decide) (by decide) hx h1 h2 (by decide +kernel)
theorem m048 {x : UInt64} (hx : Fl x) (h1 : val x ≤ 600000000000000 * TT) (h2 : -val x ≤ 600000000000000 * TT) : Fl (mul 4602318531202457272 x) ∧ 100 * val (mul 4602318531202457272 x) - 48 * val x ≤ 103 * TT ∧ 48 * val x - 100 * val (mul 4602318531202457272 x) ≤ 103 * TT :=
  constT (k := 1080863910568919) (J := 2251799813685248) (j := 51) (p := 48) (q := 100) (M := 600000000000000) (d := 4) (f := 3) (by decide +kernel) v048 (by decide) (by decide) hx h1 h2 (by decide +kernel)
theorem m041 {x : UInt64} (hx : Fl x) (h1 : val x ≤ 600000000000000 * TT) (h2 : -val x ≤ 600000000000000 * TT) : Fl (mul 4601057523306793533 x) ∧ 100 * val (mul 4601057523306793533 x) - 41 * val x ≤ 103 * TT ∧ 41 * val x - 100 * val (mul 4601057523306793533 x) ≤ 103 * TT :=
  constT (k := 7385903388887613) (J := 18014398509481984) (j := 54) (p := 41) (q := 100) (M := 600000000000000) (d := 44) (f := 3) (by decide +kernel) v041 (by decide) (by decide) hx h1 h2 (by decide +kernel)

theorem rgb_near {r g b y i q : UInt64} (hr : Fl r) (hg : Fl g) (hb : Fl b) (r0 : 0 ≤ val r) (r1 : val r ≤ 527765581332480 * TT) (g0 : 0 ≤ val g) (g1 : val g ≤ 527765581332480 * TT) (b0 : 0 ≤ val b) (b1 : val b ≤ 527765581332480 * TT)
    (ey : y = add (add (mul 4599075939470750515 r) (mul 4603489467105573601 g)) (mul 4592590756007337001 b))
    (ei : i = sub (mul 4604840546993784750 (sub r y)) (mul 4598535507515466056 (sub b y)))
    (eq : q = add (mul 4602318531202457272 (sub r y)) (mul 4601057523306793533 (sub b y))) :
    (Fl y ∧ 10000 * val y - (3000 * val r + 5900 * val g + 1100 * val b) ≤ 90000 * TT ∧ 3000 * val r + 5900 * val g + 1100 * val b - 10000 * val y ≤ 90000 * TT) ∧
    (Fl i ∧ 10000 * val i - (5990 * val r - 2773 * val g - 3217 * val b) ≤ 90000 * TT ∧ 5990 * val r - 2773 * val g - 3217 * val b - 10000 * val i ≤ 90000 * TT) ∧
    (Fl q ∧ 10000 * val q - (2130 * val r - 5251 * val g + 3121 * val b) ≤ 90000 * TT ∧ 2130 * val r - 5251 * val g + 3121 * val b - 10000 * val q ≤ 90000 * TT) := by
  have hT := TT_pos
  obtain ⟨f1, a1, c1⟩ := m03 hr (by lia) (by lia)
  obtain ⟨f2, a2, c2⟩ := m059 hg (by lia) (by lia)
  obtain ⟨f3, a3, c3⟩ := m011 hb (by lia) (by lia)
  generalize mul 4599075939470750515 r = y1 at *
  generalize mul 4603489467105573601 g = y2 at *
  generalize mul 4592590756007337001 b = y3 at *
  obtain ⟨f4, a4, c4⟩ := addT f1 f2 (by lia) (by lia)
  generalize add y1 y2 = y4 at *
  obtain ⟨f5, a5, c5⟩ := addT f4 f3 (by lia) (by lia)
  rw [← ey] at f5 a5 c5
  have k1 : 100 * val y - (30 * val r + 59 * val g + 11 * val b) ≤ 520 * TT := by lia
  have k2 : 30 * val r + 59 * val g + 11 * val b - 100 * val y ≤ 520 * TT := by lia
  clear a1 c1 a2 c2 a3 c3 a4 c4 a5 c5 f1 f2 f3 f4 ey
  obtain ⟨f6, a6, c6⟩ := subT hr f5 (by lia) (by lia)
  obtain ⟨f7, a7, c7⟩ := subT hb f5 (by lia) (by lia)
  generalize sub r y = u at *
  generalize sub b y = v at *
  have u1 : val u ≤ 600000000000000 * TT := by lia
  have u2 : -val u ≤ 600000000000000 * TT := by lia
  have v1 : val v ≤ 600000000000000 * TT := by lia
  have v2 : -val v ≤ 600000000000000 * TT := by lia
  refine ⟨⟨f5, by lia, by lia⟩, ?_, ?_⟩
  · obtain ⟨f8, a8, c8⟩ := m074 f6 u1 u2
    obtain ⟨f9, a9, c9⟩ := m027 f7 v1 v2
    generalize mul 4604840546993784750 u = i1 at *
    generalize mul 4598535507515466056 v = i2 at *
    obtain ⟨fa, aa, ca⟩ := subT f8 f9 (by lia) (by lia)
    rw [← ei] at fa aa ca
    have l1 : 100 * val i - (74 * val u - 27 * val v) ≤ 304 * TT := by lia
    have l2 : 74 * val u - 27 * val v - 100 * val i ≤ 304 * TT := by lia
    clear a8 c8 a9 c9 aa ca u1 u2 v1 v2
    have l3 : 100 * val i - (74 * val r - 27 * val b - 47 * val y) ≤ 405 * TT := by lia
    have l4 : 74 * val r - 27 * val b - 47 * val y - 100 * val i ≤ 405 * TT := by lia
    clear l1 l2 a6 c6 a7 c7
    exact ⟨fa, by lia, by lia⟩
  · obtain ⟨f8, a8, c8⟩ := m048 f6 u1 u2
    obtain ⟨f9, a9, c9⟩ := m041 f7 v1 v2
    generalize mul 4602318531202457272 u = i1 at *
    generalize mul 4601057523306793533 v = i2 at *
    obtain ⟨fa, aa, ca⟩ := addT f8 f9 (by lia) (by lia)
    rw [← eq] at fa aa ca
    have l1 : 100 * val q - (48 * val u + 41 * val v) ≤ 306 * TT := by lia
    have l2 : 48 * val u + 41 * val v - 100 * val q ≤ 306 * TT := by lia
    clear a8 c8 a9 c9 aa ca u1 u2 v1 v2
    have l3 : 100 * val q - (48 * val r + 41 * val b - 89 * val y) ≤ 395 * TT := by lia
    have l4 : 48 * val r + 41 * val b - 89 * val y - 100 * val q ≤ 395 * TT := by lia
    clear l1 l2 a6 c6 a7 c7
    exact ⟨fa, by lia, by lia⟩
end Mine
end
section
open PySem PySem.Float64
set_option maxRecDepth 100000
set_option exponentiation.threshold 5000
namespace Mine

theorem fin_of {x : UInt64} (h : Fl x) : isFinite x = true := by
  obtain ⟨a, m, e, hd⟩ := h
  unfold isFinite; rw [hd]
/-- a whole number times a float -/
theorem mulN {x y : UInt64} {k M : Int} {c : Nat} (hx : isFinite x = true) (hv : val x = k * 2 ^ (1074 - 0)) (hy : Fl y) (hc : c ≤ 1500) (hM : M = 2 ^ c) (h1 : k * val y ≤ 9007199254740992 * M) (h2 : -(k * val y) ≤ 9007199254740992 * M) :
    Fl (mul x y) ∧ 2 * (val (mul x y) - k * val y) ≤ M ∧ 2 * (k * val y - val (mul x y)) ≤ M := by
  have := mulC (j := 0) (by decide) (fl_of hx) hv hy hc hM (by simpa using h1) (by simpa using h2)
  simpa using this
theorem v2560000 : val 4702751969486307328 = 2560000 * 2 ^ (1074 - 0) := by decide +kernel
theorem v256 : val 4643211215818981376 = 256 * 2 ^ (1074 - 0) := by decide +kernel
theorem p1043 : 4194304 * TT = 2 ^ 1043 := by rw [TT_eq]; decide +kernel
theorem p1030 : 512 * TT = 2 ^ 1030 := by rw [TT_eq]; decide +kernel
theorem p1074' : (2 : Int) ^ 1074 = 256 * 2 ^ 1066 := by decide +kernel
theorem round_to {x : UInt64} {k X : Int} (hx : Fl x) (hX : X = k * 2 ^ 1066) (h1 : val x - 256 * X ≤ 1000000000000000 * TT) (h2 : 256 * X - val x ≤ 1000000000000000 * TT) : PySem.Flt.toInt nearestOf x = k := by
  have hT := TT_pos
  have e : k * 2 ^ 1074 = 256 * X := by rw [p1074', hX, Int.mul_left_comm]
  refine nearest_int hx ?_ ?_
  · rw [e, p1074]; lia
  · rw [e, p1074]; lia
theorem round_a {b : UInt64} {k X : Int} (hb : Fl b) (hX : X = k * 2 ^ 1066) (u1 : val b ≤ 6000000000000000 * TT) (u2 : -val b ≤ 6000000000000000 * TT) (h1 : 10000 * val b - X ≤ 1100000 * TT) (h2 : X - 10000 * val b ≤ 1100000 * TT) :
    isFinite (mul 4702751969486307328 b) = true ∧ PySem.Flt.toInt nearestOf (mul 4702751969486307328 b) = k := by
  have hT := TT_pos
  obtain ⟨f, a1, a2⟩ := mulN (c := 1043) (by decide +kernel) v2560000 hb (by decide) p1043 (by lia) (by lia)
  exact ⟨fin_of f, round_to f hX (by lia) (by lia)⟩

theorem w1 : val 4606703976345377586 = 4264378400050585 * 2 ^ (1074 - 52) := by decide +kernel
theorem w2 : val 4603791717925830846 = 2808249190277215 * 2 ^ (1074 - 52) := by decide +kernel
theorem w3 : val 4598621754083818298 = 2475067082956189 * 2 ^ (1074 - 53) := by decide +kernel
theorem w4 : val 4603901015759978483 = 5725796214702067 * 2 ^ (1074 - 53) := by decide +kernel
theorem w5 : val 4607671262177584182 = 2496221502468635 * 2 ^ (1074 - 51) := by decide +kernel
theorem w6 : val 4610375502138591871 = 7696682965944959 * 2 ^ (1074 - 52) := by decide +kernel
theorem n1 {x : UInt64} (hx : Fl x) (h1 : val x ≤ 3600000000000000 * TT) (h2 : -val x ≤ 3600000000000000 * TT) : Fl (mul 4606703976345377586 x) ∧ 433 * val (mul 4606703976345377586 x) - 410 * val x ≤ 700 * TT ∧ 410 * val x - 433 * val (mul 4606703976345377586 x) ≤ 700 * TT :=
  constT (k := 4264378400050585) (J := 4503599627370496) (j := 52) (p := 410) (q := 433) (M := 3600000000000000) (d := 55) (f := 267) (by decide +kernel) w1 (by decide) (by decide) hx h1 h2 (by decide +kernel)
theorem n2 {x : UInt64} (hx : Fl x) (h1 : val x ≤ 3600000000000000 * TT) (h2 : -val x ≤ 3600000000000000 * TT) : Fl (mul 4603791717925830846 x) ∧ 433 * val (mul 4603791717925830846 x) - 270 * val x ≤ 700 * TT ∧ 270 * val x - 433 * val (mul 4603791717925830846 x) ≤ 700 * TT :=
  constT (k := 2808249190277215) (J := 4503599627370496) (j := 52) (p := 270) (q := 433) (M := 3600000000000000) (d := 175) (f := 267) (by decide +kernel) w2 (by decide) (by decide) hx h1 h2 (by decide +kernel)
theorem n3 {x : UInt64} (hx : Fl x) (h1 : val x ≤ 3600000000000000 * TT) (h2 : -val x ≤ 3600000000000000 * TT) : Fl (mul 4598621754083818298 x) ∧ 25547 * val (mul 4598621754083818298 x) - 7020 * val x ≤ 30000 * TT ∧ 7020 * val x - 25547 * val (mul 4598621754083818298 x) ≤ 30000 * TT :=
  constT (k := 2475067082956189) (J := 9007199254740992) (j := 53) (p := 7020) (q := 25547) (M := 3600000000000000) (d := 3457) (f := 4453) (by decide +kernel) w3 (by decide) (by decide) hx h1 h2 (by decide +kernel)
theorem n4 {x : UInt64} (hx : Fl x) (h1 : val x ≤ 3600000000000000 * TT) (h2 : -val x ≤ 3600000000000000 * TT) : Fl (mul 4603901015759978483 x) ∧ 25547 * val (mul 4603901015759978483 x) - 16240 * val x ≤ 30000 * TT ∧ 16240 * val x - 25547 * val (mul 4603901015759978483 x) ≤ 30000 * TT :=
  constT (k := 5725796214702067) (J := 9007199254740992) (j := 53) (p := 16240) (q := 25547) (M := 3600000000000000) (d := 4431) (f := 4453) (by decide +kernel) w4 (by decide) (by decide) hx h1 h2 (by decide +kernel)
theorem n5 {x : UInt64} (hx : Fl x) (h1 : val x ≤ 3600000000000000 * TT) (h2 : -val x ≤ 3600000000000000 * TT) : Fl (mul 4607671262177584182 x) ∧ 433 * val (mul 4607671262177584182 x) - 480 * val x ≤ 700 * TT ∧ 480 * val x - 433 * val (mul 4607671262177584182 x) ≤ 700 * TT :=
  constT (k := 2496221502468635) (J := 2251799813685248) (j := 51) (p := 480) (q := 433) (M := 3600000000000000) (d := 85) (f := 267) (by decide +kernel) w5 (by decide) (by decide) hx h1 h2 (by decide +kernel)
theorem n6 {x : UInt64} (hx : Fl x) (h1 : val x ≤ 3600000000000000 * TT) (h2 : -val x ≤ 3600000000000000 * TT) : Fl (mul 4610375502138591871 x) ∧ 433 * val (mul 4610375502138591871 x) - 740 * val x ≤ 700 * TT ∧ 740 * val x - 433 * val (mul 4610375502138591871 x) ≤ 700 * TT :=
  constT (k := 7696682965944959) (J := 4503599627370496) (j := 52) (p := 740) (q := 433) (M := 3600000000000000) (d := 207) (f := 267) (by decide +kernel) w6 (by decide) (by decide) hx h1 h2 (by decide +kernel)

theorem cmp_not_over {x : UInt64} {X : Int} (hx : Fl x) (x1 : X ≤ 5805421394657280 * TT) (h1 : val x - X ≤ 500 * TT) : (cmp x 4607182418800017408 == some Ordering.gt) = false := by
  have hT := TT_pos
  have h1' : val 4607182418800017408 = 9007199254740992 * TT := by rw [TT_eq]; decide +kernel
  obtain ⟨a, m, e, hd⟩ := hx
  obtain ⟨a1, m1, e1, hd1⟩ : Fl 4607182418800017408 := fl_of (by decide +kernel)
  rw [cmp_right hd hd1, h1']
  have : compare (val x) (9007199254740992 * TT) = .lt := Int.compare_eq_lt.mpr (by lia)
  rw [this]; rfl
theorem clamp_near {x : UInt64} {X : Int} (hx : Fl x) (x0 : 0 ≤ X) (h1 : val x - X ≤ 500 * TT) (h2 : X - val x ≤ 500 * TT) (c : UInt64) (hc : c = if (cmp x 0 == some Ordering.lt) = true then 0 else x) : Fl c ∧ val c - X ≤ 500 * TT ∧ X - val c ≤ 500 * TT := by
  have hT := TT_pos
  have hz : val 0 = 0 := by decide +kernel
  obtain ⟨a0, m0, e0, hd0⟩ : Fl 0 := fl_of (by decide +kernel)
  by_cases h : (cmp x 0 == some Ordering.lt) = true
  · rw [if_pos h] at hc
    subst hc
    have hlt : val x < 0 := by
      obtain ⟨a, m, e, hd⟩ := hx
      rw [cmp_right hd hd0, hz] at h
      have h' : compare (val x) 0 = .lt := by simpa using h
      exact Int.compare_eq_lt.mp h'
    rw [hz]
    exact ⟨⟨_, _, _, hd0⟩, by lia, by lia⟩
  · rw [if_neg h] at hc
    subst hc
    exact ⟨hx, h1, h2⟩
theorem round_b {c : UInt64} {k X : Int} (hb : Fl c) (hX : X = k * 2 ^ 1066) (x0 : 0 ≤ X) (x1 : X ≤ 5805421394657280 * TT) (h1 : val c - X ≤ 500 * TT) (h2 : X - val c ≤ 500 * TT) :
    isFinite (mul 4643211215818981376 c) = true ∧ PySem.Flt.toInt nearestOf (mul 4643211215818981376 c) = k := by
  have hT := TT_pos
  obtain ⟨f, a1, a2⟩ := mulN (c := 1030) (by decide +kernel) v256 hb (by decide) p1030 (by lia) (by lia)
  exact ⟨fin_of f, round_to f hX (by lia) (by lia)⟩

theorem yiq_near {b0 b1 b2 : UInt64} {xr xg xb : Int} (f0 : Fl b0) (f1 : Fl b1) (f2 : Fl b2)
    (r0 : 0 ≤ xr) (r1 : xr ≤ 5805421394657280 * TT) (g0 : 0 ≤ xg) (g1 : xg ≤ 5805421394657280 * TT) (e0 : 0 ≤ xb) (e1 : xb ≤ 5805421394657280 * TT)
    (a0 : 10000 * val b0 - (3000 * xr + 5900 * xg + 1100 * xb) ≤ 1100000 * TT) (a0' : 3000 * xr + 5900 * xg + 1100 * xb - 10000 * val b0 ≤ 1100000 * TT)
    (a1 : 10000 * val b1 - (5990 * xr - 2773 * xg - 3217 * xb) ≤ 1100000 * TT) (a1' : 5990 * xr - 2773 * xg - 3217 * xb - 10000 * val b1 ≤ 1100000 * TT)
    (a2 : 10000 * val b2 - (2130 * xr - 5251 * xg + 3121 * xb) ≤ 1100000 * TT) (a2' : 2130 * xr - 5251 * xg + 3121 * xb - 10000 * val b2 ≤ 1100000 * TT) :
    (Fl (add (add b0 (mul 4606703976345377586 b1)) (mul 4603791717925830846 b2)) ∧ val (add (add b0 (mul 4606703976345377586 b1)) (mul 4603791717925830846 b2)) - xr ≤ 500 * TT ∧ xr - val (add (add b0 (mul 4606703976345377586 b1)) (mul 4603791717925830846 b2)) ≤ 500 * TT) ∧
    (Fl (sub (sub b0 (mul 4598621754083818298 b1)) (mul 4603901015759978483 b2)) ∧ val (sub (sub b0 (mul 4598621754083818298 b1)) (mul 4603901015759978483 b2)) - xg ≤ 500 * TT ∧ xg - val (sub (sub b0 (mul 4598621754083818298 b1)) (mul 4603901015759978483 b2)) ≤ 500 * TT) ∧
    (Fl (add (sub b0 (mul 4607671262177584182 b1)) (mul 4610375502138591871 b2)) ∧ val (add (sub b0 (mul 4607671262177584182 b1)) (mul 4610375502138591871 b2)) - xb ≤ 500 * TT ∧ xb - val (add (sub b0 (mul 4607671262177584182 b1)) (mul 4610375502138591871 b2)) ≤ 500 * TT) := by
  have hT := TT_pos
  have q0 : val b0 ≤ 5900000000000000 * TT := by lia
  have q0' : -val b0 ≤ 5900000000000000 * TT := by lia
  have q1 : val b1 ≤ 3600000000000000 * TT := by lia
  have q1' : -val b1 ≤ 3600000000000000 * TT := by lia
  have q2 : val b2 ≤ 3600000000000000 * TT := by lia
  have q2' : -val b2 ≤ 3600000000000000 * TT := by lia
  refine ⟨?_, ?_, ?_⟩
  · obtain ⟨f3, a3, a3'⟩ := n1 f1 q1 q1'
    obtain ⟨f4, a4, a4'⟩ := n2 f2 q2 q2'
    generalize mul 4606703976345377586 b1 = p at *
    generalize mul 4603791717925830846 b2 = q at *
    obtain ⟨f5, a5, a5'⟩ := addT f0 f3 (by lia) (by lia)
    generalize add b0 p = z at *
    obtain ⟨f6, a6, a6'⟩ := addT f5 f4 (by lia) (by lia)
    generalize add z q = y at *
    have k1 : 433 * val y - (433 * val b0 + 410 * val b1 + 270 * val b2) ≤ 2300 * TT := by lia
    have k2 : 433 * val b0 + 410 * val b1 + 270 * val b2 - 433 * val y ≤ 2300 * TT := by lia
    clear a3 a3' a4 a4' a5 a5' a6 a6' q0 q0' q1 q1' q2 q2'
    exact ⟨f6, by lia, by lia⟩
  · obtain ⟨f3, a3, a3'⟩ := n3 f1 q1 q1'
    obtain ⟨f4, a4, a4'⟩ := n4 f2 q2 q2'
    generalize mul 4598621754083818298 b1 = p at *
    generalize mul 4603901015759978483 b2 = q at *
    obtain ⟨f5, a5, a5'⟩ := subT f0 f3 (by lia) (by lia)
    generalize sub b0 p = z at *
    obtain ⟨f6, a6, a6'⟩ := subT f5 f4 (by lia) (by lia)
    generalize sub z q = y at *
    have k1 : 25547 * val y - (25547 * val b0 - 7020 * val b1 - 16240 * val b2) ≤ 120000 * TT := by lia
    have k2 : 25547 * val b0 - 7020 * val b1 - 16240 * val b2 - 25547 * val y ≤ 120000 * TT := by lia
    clear a3 a3' a4 a4' a5 a5' a6 a6' q0 q0' q1 q1' q2 q2'
    exact ⟨f6, by lia, by lia⟩
  · obtain ⟨f3, a3, a3'⟩ := n5 f1 q1 q1'
    obtain ⟨f4, a4, a4'⟩ := n6 f2 q2 q2'
    generalize mul 4607671262177584182 b1 = p at *
    generalize mul 4610375502138591871 b2 = q at *
    obtain ⟨f5, a5, a5'⟩ := subT f0 f3 (by lia) (by lia)
    generalize sub b0 p = z at *
    obtain ⟨f6, a6, a6'⟩ := addT f5 f4 (by lia) (by lia)
    generalize add z q = y at *
    have k1 : 433 * val y - (433 * val b0 - 480 * val b1 + 740 * val b2) ≤ 2300 * TT := by lia
    have k2 : 433 * val b0 - 480 * val b1 + 740 * val b2 - 433 * val y ≤ 2300 * TT := by lia
    clear a3 a3' a4 a4' a5 a5' a6 a6' q0 q0' q1 q1' q2 q2'
    exact ⟨f6, by lia, by lia⟩
end Mine
end
section
open PySem PySem.Float64 PySem.W
set_option maxRecDepth 100000
set_option exponentiation.threshold 5000
namespace Mine

theorem tab256 : ∀ n : Nat, n < 166 → (isFinite (div (ofInt (n : Int)) 4643211215818981376) = true ∧ val (div (ofInt (n : Int)) 4643211215818981376) = (n : Int) * 2 ^ 1066) := by decide +kernel
theorem div256 {n : Int} (h0 : 0 ≤ n) (h1 : n ≤ 165) : Fl (div (ofInt n) 4643211215818981376) ∧ val (div (ofInt n) 4643211215818981376) = n * 2 ^ 1066 := by
  obtain ⟨k, rfl⟩ := Int.eq_ofNat_of_zero_le h0
  obtain ⟨a, b⟩ := tab256 k (by first | lia | omega)
  exact ⟨fl_of a, b⟩
theorem abs_pow (n : Nat) : ((n : Int) * 2 ^ 1066).natAbs = n * 2 ^ 1066 := by
  have : ((n : Int) * 2 ^ 1066) = ((n * 2 ^ 1066 : Nat) : Int) := by simp
  rw [this, Int.natAbs_natCast]
theorem small_pow {n : Nat} (h : n ≤ 165) : n * 2 ^ 1066 ≤ 2 ^ 53 * 2 ^ 1500 :=
  Nat.mul_le_mul (Nat.le_trans h (by decide)) (Nat.pow_le_pow_right (by decide) (by decide))
theorem shown_add {b1 b2 : UInt64} {c1 c2 : Int} (f1 : Fl b1) (f2 : Fl b2) (h1 : val b1 = c1 * 2 ^ 1066) (h2 : val b2 = c2 * 2 ^ 1066) (p1 : 0 ≤ c1) (p2 : 0 ≤ c2) (hs : c1 + c2 ≤ 165) : Fl (add b2 b1) ∧ val (add b2 b1) = (c1 + c2) * 2 ^ 1066 := by
  have e : val b2 + val b1 = (c1 + c2) * 2 ^ 1066 := by rw [h1, h2, ← Int.add_mul, Int.add_comm c2]
  obtain ⟨n, hn⟩ : ∃ n : Nat, c1 + c2 = n := Int.eq_ofNat_of_zero_le (by first | lia | omega)
  obtain ⟨u, hu⟩ := rep_V 1066 n (by first | lia | omega)
  have ea : (val b2 + val b1).natAbs = n * 2 ^ 1066 := by rw [e, hn, abs_pow]
  obtain ⟨f, v⟩ := add_exact (u := u) f2 f1 (by rw [ea]; exact small_pow (by first | lia | omega)) (by rw [hu, ea])
  exact ⟨f, v.trans e⟩
theorem zero_fl : Fl (ofInt 0) ∧ val (ofInt 0) = 0 := ⟨fl_of (by decide +kernel), by decide +kernel⟩
theorem add_zero' {b : UInt64} (f : Fl b) (hb : (val b).natAbs ≤ 2 ^ 53 * 2 ^ 1500) : Fl (add b (ofInt 0)) ∧ val (add b (ofInt 0)) = val b := by
  obtain ⟨u, hu⟩ := fl_V f
  have e : val b + val (ofInt 0) = val b := by rw [zero_fl.2, Int.add_zero]
  obtain ⟨g, v⟩ := add_exact (u := u) f zero_fl.1 (by rw [e]; exact hb) (by rw [e]; exact hu)
  exact ⟨g, v.trans e⟩

def PhiS : Phi := fun i ls b => Goods ls ∧ ls.length ≤ 11 ∧ Fl b ∧ val b = col i ls * 2 ^ 1066
theorem goods_app {a b : List Light} (h1 : Goods a) (h2 : Goods b) : Goods (a ++ b) := fun l hl => (List.mem_append.mp hl).elim (h1 l) (h2 l)
theorem phiS_closed : Closed PhiS where
  add := by
    rintro i l1 l2 b1 b2 _ _ hlen ⟨g1, n1, f1, v1⟩ ⟨g2, n2, f2, v2⟩
    have q1 := col_bounds (i := i) g1
    have q2 := col_bounds (i := i) g2
    obtain ⟨f, v⟩ := shown_add f1 f2 v1 v2 q1.1 q2.1 (by first | lia | omega)
    exact ⟨goods_app g1 g2, by rw [List.length_append]; exact hlen, f, by rw [v, col_append]⟩
  zero := by
    rintro i l b _ ⟨g1, n1, f1, v1⟩
    have q1 := col_bounds (i := i) g1
    obtain ⟨n, hn⟩ : ∃ n : Nat, col i l = n := Int.eq_ofNat_of_zero_le q1.1
    obtain ⟨f, v⟩ := add_zero' f1 (by rw [v1, hn, abs_pow]; exact small_pow (by first | lia | omega))
    exact ⟨g1, n1, f, v.trans v1⟩
theorem phiS_cmp {i : Nat} {l : List Light} {b : UInt64} (h : PhiS i l b) : cmp b (div (ofInt (col i l)) 4643211215818981376) = some .eq := by
  obtain ⟨g1, n1, ⟨a, m, e, hd⟩, v1⟩ := h
  have q1 := col_bounds (i := i) g1
  obtain ⟨⟨a', m', e', hd'⟩, v⟩ := div256 q1.1 (by first | lia | omega)
  rw [cmp_right hd hd', v1, v]
  simp

def WW (i : Nat) (ls : List Light) : Int := if i = 0 then 3000 * col 0 ls + 5900 * col 1 ls + 1100 * col 2 ls else if i = 1 then 5990 * col 0 ls - 2773 * col 1 ls - 3217 * col 2 ls else 2130 * col 0 ls - 5251 * col 1 ls + 3121 * col 2 ls
theorem WW_append (i : Nat) (a b : List Light) : WW i (a ++ b) = WW i a + WW i b := by
  unfold WW
  simp only [col_append]
  split
  · (first | lia | omega)
  · split <;> (first | lia | omega)
theorem WW_bound {i : Nat} {ls : List Light} (g : Goods ls) (h : ls.length ≤ 11) : WW i ls ≤ 1650000 ∧ -1650000 ≤ WW i ls := by
  have q0 := col_bounds (i := 0) g
  have q1 := col_bounds (i := 1) g
  have q2 := col_bounds (i := 2) g
  unfold WW
  split
  · (first | lia | omega)
  · split <;> (first | lia | omega)
theorem pow_pos66 : (0 : Int) < 2 ^ 1066 := Int.pow_pos (by decide)
theorem XX_bound {i : Nat} {ls : List Light} (g : Goods ls) (h : ls.length ≤ 11) : WW i ls * 2 ^ 1066 ≤ 1650000 * (35184372088832 * TT) ∧ -(1650000 * (35184372088832 * TT)) ≤ WW i ls * 2 ^ 1066 := by
  obtain ⟨a, b⟩ := WW_bound (i := i) g h
  rw [← p1066]
  have h1 := Int.mul_le_mul_of_nonneg_right a (Int.le_of_lt pow_pos66)
  have h2 := Int.mul_le_mul_of_nonneg_right b (Int.le_of_lt pow_pos66)
  rw [Int.neg_mul] at h2
  exact ⟨h1, h2⟩
theorem len_bound {n : Nat} (h : n ≤ 11) : (n : Int) * TT ≤ 11 * TT ∧ 0 ≤ (n : Int) * TT := by
  have hT := TT_pos
  exact ⟨Int.mul_le_mul_of_nonneg_right (by first | lia | omega) (Int.le_of_lt hT), Int.mul_nonneg (by (first | lia | omega)) (Int.le_of_lt hT)⟩
def PhiT : Phi := fun i ls b => Goods ls ∧ ls.length ≤ 11 ∧ Fl b ∧ 10000 * val b - WW i ls * 2 ^ 1066 ≤ 100000 * ((ls.length : Int) * TT) - 10000 * TT ∧ WW i ls * 2 ^ 1066 - 10000 * val b ≤ 100000 * ((ls.length : Int) * TT) - 10000 * TT
theorem pull {v X t : Int} (h1 : 10000 * v - X ≤ 100000 * t - 10000 * TT) (h2 : X - 10000 * v ≤ 100000 * t - 10000 * TT) (ht : t ≤ 11 * TT) (x1 : X ≤ 1650000 * (35184372088832 * TT)) (x2 : -(1650000 * (35184372088832 * TT)) ≤ X) :
    v ≤ 6000000000000000 * TT ∧ -v ≤ 6000000000000000 * TT ∧ 10000 * v - X ≤ 1100000 * TT ∧ X - 10000 * v ≤ 1100000 * TT := by
  have hT := TT_pos
  exact ⟨by lia, by lia, by lia, by lia⟩
theorem phiT_closed : Closed PhiT where
  add := by
    rintro i l1 l2 b1 b2 _ _ hlen ⟨g1, n1, f1, v1, v1'⟩ ⟨g2, n2, f2, v2, v2'⟩
    have hT := TT_pos
    have x1 := XX_bound (i := i) g1 n1
    have x2 := XX_bound (i := i) g2 n2
    have t1 := len_bound n1
    have t2 := len_bound n2
    obtain ⟨f, a, a'⟩ := addT f2 f1 (by first | lia | omega) (by (first | lia | omega))
    refine ⟨goods_app g1 g2, by rw [List.length_append]; exact hlen, f, ?_, ?_⟩
    · rw [WW_append, Int.add_mul, List.length_append, Int.natCast_add, Int.add_mul]; (first | lia | omega)
    · rw [WW_append, Int.add_mul, List.length_append, Int.natCast_add, Int.add_mul]; (first | lia | omega)
  zero := by
    rintro i l b _ ⟨g1, n1, f1, v1, v1'⟩
    have hT := TT_pos
    have x1 := XX_bound (i := i) g1 n1
    have t1 := len_bound n1
    have hb : (val b).natAbs ≤ 2 ^ 53 * 2 ^ 1500 := by
      have e : ((2 ^ 53 * 2 ^ 1022 : Nat) : Int) = 18014398509481984 * TT := by rw [TT_eq]; decide +kernel
      have h1 : (val b).natAbs ≤ 2 ^ 53 * 2 ^ 1022 := nabs (by rw [e]; (first | lia | omega)) (by rw [e]; (first | lia | omega))
      exact Nat.le_trans h1 (Nat.mul_le_mul_left _ (Nat.pow_le_pow_right (by decide) (by decide)))
    obtain ⟨f, v⟩ := add_zero' f1 hb
    exact ⟨g1, n1, f, by rw [v]; exact v1, by rw [v]; exact v1'⟩

theorem goods_one {l : Light} (h : LGood l) : Goods [l] := fun x hx => by rw [List.mem_singleton.mp hx]; exact h
theorem one_val {n : Int} (h : 0 ≤ n ∧ n < 16) : Fl (div (ofInt n) 4643211215818981376) ∧ val (div (ofInt n) 4643211215818981376) = n * 2 ^ 1066 ∧ 0 ≤ val (div (ofInt n) 4643211215818981376) ∧ val (div (ofInt n) 4643211215818981376) ≤ 527765581332480 * TT := by
  obtain ⟨a, b⟩ := div256 h.1 (by first | lia | omega)
  refine ⟨a, b, ?_, ?_⟩
  · rw [b]; exact Int.mul_nonneg h.1 (Int.le_of_lt pow_pos66)
  · rw [b]
    have := Int.mul_le_mul_of_nonneg_right (show n ≤ 15 by first | lia | omega) (Int.le_of_lt pow_pos66)
    rw [p1066] at this ⊢
    (first | lia | omega)
theorem phiT_one (l : Light) (fr fg fb y i q : UInt64) (h : LGood l) (er : fr = div (ofInt l.r) 4643211215818981376) (eg : fg = div (ofInt l.g) 4643211215818981376) (eb : fb = div (ofInt l.b) 4643211215818981376)
    (ey : y = add (add (mul 4599075939470750515 fr) (mul 4603489467105573601 fg)) (mul 4592590756007337001 fb))
    (ei : i = sub (mul 4604840546993784750 (sub fr y)) (mul 4598535507515466056 (sub fb y)))
    (eq : q = add (mul 4602318531202457272 (sub fr y)) (mul 4601057523306793533 (sub fb y))) : PhiT 0 [l] y ∧ PhiT 1 [l] i ∧ PhiT 2 [l] q := by
  have hT := TT_pos
  obtain ⟨f1, v1, p1, q1⟩ := one_val h.1
  obtain ⟨f2, v2, p2, q2⟩ := one_val h.2.1
  obtain ⟨f3, v3, p3, q3⟩ := one_val h.2.2.1
  rw [← er] at f1 v1 p1 q1
  rw [← eg] at f2 v2 p2 q2
  rw [← eb] at f3 v3 p3 q3
  obtain ⟨⟨a1, a2, a3⟩, ⟨b1, b2, b3⟩, ⟨c1, c2, c3⟩⟩ := rgb_near f1 f2 f3 p1 q1 p2 q2 p3 q3 ey ei eq
  have g := goods_one h
  have e0 : WW 0 [l] * 2 ^ 1066 = 3000 * val fr + 5900 * val fg + 1100 * val fb := by
    rw [v1, v2, v3]; unfold WW; simp only [col_one, colOf, if_true, Int.add_mul, Int.mul_assoc]; simp
  have e1 : WW 1 [l] * 2 ^ 1066 = 5990 * val fr - 2773 * val fg - 3217 * val fb := by
    rw [v1, v2, v3]; unfold WW; simp only [col_one, colOf, if_true, Int.add_mul, Int.sub_mul, Int.mul_assoc]; simp [Int.sub_mul, Int.mul_assoc]
  have e2 : WW 2 [l] * 2 ^ 1066 = 2130 * val fr - 5251 * val fg + 3121 * val fb := by
    rw [v1, v2, v3]; unfold WW; simp only [col_one, colOf, if_true, Int.add_mul, Int.sub_mul, Int.mul_assoc]; simp [Int.add_mul, Int.sub_mul, Int.mul_assoc]
  refine ⟨⟨g, by simp, a1, ?_, ?_⟩, ⟨g, by simp, b1, ?_, ?_⟩, ⟨g, by simp, c1, ?_, ?_⟩⟩
  all_goals
    first | rw [e0] | rw [e1] | rw [e2]
    simp only [List.length_singleton]
    (first | lia | omega)

theorem phiT_num {l : List Light} {b0 b1 b2 : UInt64} (hl : l.length ≤ 11) (h0 : PhiT 0 l b0) (h1 : PhiT 1 l b1) (h2 : PhiT 2 l b2) : NumOk (col 0 l) (col 1 l) (col 2 l) b0 b1 b2 := by
  have hT := TT_pos
  obtain ⟨g, n, f0, a0, a0'⟩ := h0
  obtain ⟨_, _, f1, a1, a1'⟩ := h1
  obtain ⟨_, _, f2, a2, a2'⟩ := h2
  have t := len_bound hl
  have bnd : ∀ i, 0 ≤ col i l * 2 ^ 1066 ∧ col i l * 2 ^ 1066 ≤ 5805421394657280 * TT := fun i => by
    have q := col_bounds (i := i) g
    refine ⟨Int.mul_nonneg q.1 (Int.le_of_lt pow_pos66), ?_⟩
    have := Int.mul_le_mul_of_nonneg_right (show col i l ≤ 165 by first | lia | omega) (Int.le_of_lt pow_pos66)
    rw [p1066] at this ⊢
    (first | lia | omega)
  have e0 : WW 0 l * 2 ^ 1066 = 3000 * (col 0 l * 2 ^ 1066) + 5900 * (col 1 l * 2 ^ 1066) + 1100 * (col 2 l * 2 ^ 1066) := by
    unfold WW; simp only [if_true, Int.add_mul, Int.mul_assoc]
  have e1 : WW 1 l * 2 ^ 1066 = 5990 * (col 0 l * 2 ^ 1066) - 2773 * (col 1 l * 2 ^ 1066) - 3217 * (col 2 l * 2 ^ 1066) := by
    unfold WW; simp [Int.sub_mul, Int.mul_assoc]
  have e2 : WW 2 l * 2 ^ 1066 = 2130 * (col 0 l * 2 ^ 1066) - 5251 * (col 1 l * 2 ^ 1066) + 3121 * (col 2 l * 2 ^ 1066) := by
    unfold WW; simp [Int.add_mul, Int.sub_mul, Int.mul_assoc]
  have z0 : (3000 * col 0 l + 5900 * col 1 l + 1100 * col 2 l) = WW 0 l := by unfold WW; simp
  have z1 : (5990 * col 0 l - 2773 * col 1 l - 3217 * col 2 l) = WW 1 l := by unfold WW; simp
  have z2 : (2130 * col 0 l - 5251 * col 1 l + 3121 * col 2 l) = WW 2 l := by unfold WW; simp
  obtain ⟨p0, p0', s0, s0'⟩ := pull a0 a0' t.1 (XX_bound (i := 0) g n).1 (XX_bound (i := 0) g n).2
  obtain ⟨p1, p1', s1, s1'⟩ := pull a1 a1' t.1 (XX_bound (i := 1) g n).1 (XX_bound (i := 1) g n).2
  obtain ⟨p2, p2', s2, s2'⟩ := pull a2 a2' t.1 (XX_bound (i := 2) g n).1 (XX_bound (i := 2) g n).2
  have r0 := round_a (k := WW 0 l) f0 rfl p0 p0' s0 s0'
  have r1 := round_a (k := WW 1 l) f1 rfl p1 p1' s1 s1'
  have r2 := round_a (k := WW 2 l) f2 rfl p2 p2' s2 s2'
  rw [e0] at s0 s0'
  rw [e1] at s1 s1'
  rw [e2] at s2 s2'
  obtain ⟨⟨y1, y2, y3⟩, ⟨w1, w2, w3⟩, ⟨u1, u2, u3⟩⟩ := yiq_near f0 f1 f2 (bnd 0).1 (bnd 0).2 (bnd 1).1 (bnd 1).2 (bnd 2).1 (bnd 2).2 s0 s0' s1 s1' s2 s2'
  obtain ⟨k1, k2, k3⟩ := clamp_near y1 (bnd 0).1 y2 y3 (clamp0 (yr b0 b1 b2)) rfl
  obtain ⟨k4, k5, k6⟩ := clamp_near w1 (bnd 1).1 w2 w3 (clamp0 (yg b0 b1 b2)) rfl
  obtain ⟨k7, k8, k9⟩ := clamp_near u1 (bnd 2).1 u2 u3 (clamp0 (yb b0 b1 b2)) rfl
  refine ⟨?_, ?_, ?_, cmp_not_over y1 (bnd 0).2 y2, cmp_not_over w1 (bnd 1).2 w2, cmp_not_over u1 (bnd 2).2 u2, round_b k1 rfl (bnd 0).1 (bnd 0).2 k2 k3, round_b k4 rfl (bnd 1).1 (bnd 1).2 k5 k6, round_b k7 rfl (bnd 2).1 (bnd 2).2 k8 k9⟩
  · rw [z0]; exact r0
  · rw [z1]; exact r1
  · rw [z2]; exact r2

theorem ff_all : FF PhiS PhiT where
  cs := phiS_closed
  ct := phiT_closed
  s1 := fun l h => by
    have one : ∀ (i : Nat) (n : Int), colOf i l = n → 0 ≤ n ∧ n < 16 → PhiS i [l] (div (ofInt n) 4643211215818981376) := fun i n e hn => by
      obtain ⟨a, b⟩ := div256 hn.1 (by first | lia | omega)
      exact ⟨goods_one h, by simp, a, by rw [b, col_one, e]⟩
    exact ⟨one 0 _ rfl h.1, one 1 _ rfl h.2.1, one 2 _ rfl h.2.2.1⟩
  s2 := fun i l b h => phiS_cmp h
  t1 := phiT_one
  t2 := fun l b0 b1 b2 hl h0 h1 h2 => phiT_num hl h0 h1 h2
theorem all_holds : PySem.Challenge.rw_mj0062_01.Holds := holds_of ff_all
end Mine
end
theorem PySem.Challenge.cw_mj0062_01_holds : PySem.Challenge.rw_mj0062_01.Holds :=
  Mine.all_holds
