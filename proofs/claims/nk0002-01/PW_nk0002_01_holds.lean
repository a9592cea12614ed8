import PyProof.Rows.All
import Wide.All
import OpenK.AllK
import Wide.FinOn
import PySem.Challenge.RW_nk0002_01
open PySem PySem.W PyProof.Rows PySem.Calls
set_option Elab.async false
set_option maxRecDepth 100000
set_option maxHeartbeats 8000000
namespace Mine
-- the top's run, once: what stands behind it and what is left to show of the call
open_top hd for PySem.Challenge.rw_nk0002_01

section
open PySem PySem.W PyProof.Rows PySem.Calls
/-- a tuple of two ints: its address, the ints and their tokens -/
structure PT where
  T : Addr
  x : Int
  t : Tok
  y : Int
  u : Tok
def PT.v (p : PT) : Value := .ref p.T
def PT.xy (p : PT) : Int × Int := (p.x, p.y)
def PT.items (p : PT) : Array Value := #[.int p.x p.t, .int p.y p.u]
def Pairs (h : Heap) (ts : List PT) : Prop := ∀ p ∈ ts, h.IsTuple p.T p.items
theorem Pairs.at {h h' : Heap} {ts : List PT} (x : Pairs h ts) (hk : ∀ p ∈ ts, ∀ o, h.get? p.T = some o → h'.get? p.T = some o) : Pairs h' ts :=
  fun p hp => (x p hp).at (hk p hp)

section
variable {prog : Program} {w : World} {A : Around} {E : Value → Shared → Prop} {s : Shared}

theorem genCode {M : Model} {env : Env} {c P : Addr} {ps : Array Value} {pos : Pos} {qualname : Str} {scope : Scope} {Q : Value → Shared → Prop}
    (hc : env.code = .ref c) (hok : s.heap.IsCode c P ps) (htab : s.heap.TableAt c P ps)
    (hQ : ∀ code h' tk more, Heap.ExtBut P s.heap h' → s.heap.objs.size ≤ h'.objs.size → h'.IsCode c P (ps ++ more) → h'.TableAt c P (ps ++ more) → Q code { s with heap := h', toks := tk }) :
    wpAny M A (genexprCode env pos qualname scope) Q E s := by
  cases hf : codeAmong pos ps.toList with
  | some cv =>
    refine wpAny_genexprCode_hit hc hok hf ?_
    exact hQ cv s.heap s.toks #[] (Heap.ExtBut.refl _ _) (Nat.le_refl _) (by simpa using hok) (by simpa using htab)
  | none =>
    refine wpAny_genexprCodeX hc hok htab hf fun c' h' tk hx hge hlt hcode _ htab' _ => ?_
    exact hQ _ h' tk _ hx (Nat.le_trans hge (Nat.le_of_lt hlt)) hcode htab'

/-- a generator over a list of pairs of ints, its element a bool -/
theorem gen_pairs {env : Env} {elt iter : Expr} {xa xb : Str} {pa pb pt : Pos} {kt : Nat} {scope : Scope} {cl : List (Str × Addr)} {pos : Pos} {Q : Value → Shared → Prop}
    {c P l : Addr} {ps : Array Value} {ts : List PT} {mg : Str → Option Value} {bm : Addr} {ob : Obj} {q : Int → Int → Bool}
    (hh : A.handled = none) (hco : scope.isCoroutine = false) (hclos : closureFor scope env = pure cl) (hcell : ∀ y ∈ scope.names, y.2 ≠ .cell) (h0 : scope.names.lookup (".0" : Str) = some NameKind.local)
    (hxa : scope.names.lookup xa = some .local) (hxb : scope.names.lookup xb = some .local) (hab : xa ≠ xb) (hkind : scope.kind = .function) (hroom : A.depth < recursionLimit)
    (hc : env.code = .ref c) (hok : s.heap.IsCode c P ps) (htab : s.heap.TableAt c P ps) (M : BMod s.heap env.globals mg bm ob) (hlim : s.heap.NoLimit) (hG : AllBare s.gens)
    (hl : s.heap.IsList l (ts.map PT.v).toArray) (hts : Pairs s.heap ts)
    (hiter : ∀ Q' : Value → Shared → Prop, Q' (.ref l) s → wpAny (model prog w) A (eval iter env) Q' E s)
    (helt : ∀ (A' : Around) E' (C : Addr) (code : Value) (p : PT) (u : Shared) (m₂ : Str → Option Value), A'.handled = none → p ∈ ts → u.heap.Ns C m₂ → m₂ xa = some (.int p.x p.t) → m₂ xb = some (.int p.y p.u) →
      (∀ b o, b ≠ P → s.heap.get? b = some o → u.heap.get? b = some o) →
      wpAny (model prog w) A' (eval elt (genEnv scope cl C code builtinsNs env)) (fun y s₃ => y = .bool (q p.x p.y) ∧ Keeps u s₃) E' u)
    (hQ : ∀ a s₅ more, Heap.ExtBut P s.heap s₅.heap → s₅.heap.IsCode c P (ps ++ more) → s₅.heap.TableAt c P (ps ++ more) → AllBare s₅.gens → s₅.os = s.os →
      Gen prog w A (s.heap.objs.size - 1) a ts.length (fun j y => ∃ p, ts[j]? = some p ∧ y = .bool (q p.x p.y)) s₅ → Q (.ref a) s₅)
    (hs : ∀ x, genFold iter env x = pure x) :
    wpAny (model prog w) A (eval (.GeneratorExp elt [⟨.Tuple [.Name xa pa, .Name xb pb] kt pt, iter, [], 0⟩] scope pos) env) Q E s := by
  refine wpAny_GeneratorExp_walksQT hh hco hclos hcell h0 hxa hxb hab hkind hroom (hiter _ ?_) hs
  have hPlt : P < s.heap.objs.size := Heap.lt_size htab.2
  have hllt : l < s.heap.objs.size := by obtain ⟨_, e, _⟩ := hl; exact Heap.lt_size e
  have hTlt : ∀ p ∈ ts, p.T < s.heap.objs.size := fun p hp => by obtain ⟨_, e, _⟩ := hts p hp; exact Heap.lt_size e
  have hlP : l ≠ P := fun e => by
    obtain ⟨o, ho, hcl, _⟩ := hl
    rw [e, htab.2] at ho; cases ho; cases hcl
  have hTP : ∀ p ∈ ts, p.T ≠ P := fun p hp e => by
    obtain ⟨o, ho, hcl, _⟩ := hts p hp
    rw [e, htab.2] at ho; cases ho; cases hcl
  have hcsP : cStatics ≠ P := fun e => by
    obtain ⟨_, hns, _⟩ := id hlim
    obtain ⟨o, es, ep, ho, hd, _⟩ := hns
    rw [e, htab.2] at ho; cases ho; cases hd
  have hcslt : cStatics < s.heap.objs.size := let ⟨_, hn, _⟩ := id hlim; hn.lt
  have hclt : c < s.heap.objs.size := hok.lt.1
  refine wpAny_pyIter_list hl ?_
  generalize hH1 : s.heap.push { cls := .type "list_iterator", data := .fields #[.ref l, .int 0 0] } = H1
  have hz1 : H1.objs.size = s.heap.objs.size + 1 := by rw [← hH1, Heap.size_push]
  have up1 : ∀ b o, s.heap.get? b = some o → H1.get? b = some o := fun b o e => hH1 ▸ Heap.get?_push_of_some _ e
  have hit1 : H1.IsListIter s.heap.objs.size l 0 := ⟨_, hH1 ▸ Heap.get?_push_size _ rfl, rfl, rfl⟩
  refine ⟨hlim.keeps up1, genCode hc (hok.keeps up1) (htab.keeps up1) fun code h₃ tk₃ more hx₃ hsz hcode₃ htab₃ => ?_⟩
  dsimp only at hx₃ hsz
  have M₃ : BMod h₃ env.globals mg bm ob := (M.keeps up1).extBut (htab.keeps up1) hx₃
  refine wpAny_builtinsFor M₃.ns M₃.name M₃.ne M₃.obj M₃.cls M₃.dict M₃.data ?_
  dsimp only
  have hn : (ts.map PT.v).toArray.size = ts.length := by simp
  let Ts : Nat → Addr := fun j => (ts[j]?.map PT.T).getD 0
  let vals : Nat → Array Value := fun j => (ts[j]?.map PT.items).getD #[.none, .none]
  have at' : ∀ j, j < ts.length → ∃ p, ts[j]? = some p ∧ p ∈ ts := fun j hj => ⟨ts[j], by simp [hj], List.getElem_mem hj⟩
  have up3 : ∀ b o, b ≠ P → s.heap.get? b = some o → h₃.get? b = some o := fun b o hb e => hx₃ b o hb (up1 b o e)
  have hTs : ∀ j, j < (ts.map PT.v).toArray.size → h₃.IsTuple (Ts j) (vals j) := fun j hj => by
    obtain ⟨p, e, hp⟩ := at' j (hn ▸ hj)
    simp only [Ts, vals, e, Option.map_some, Option.getD_some]
    exact (hts p hp).at fun o => up3 _ o (hTP p hp)
  have hTl : ∀ j, j < (ts.map PT.v).toArray.size → Ts j < s.heap.objs.size := fun j hj => by
    obtain ⟨p, e, hp⟩ := at' j (hn ▸ hj)
    simp only [Ts, e, Option.map_some, Option.getD_some]
    exact hTlt p hp
  have hits : ∀ j, j < (ts.map PT.v).toArray.size → (ts.map PT.v).toArray[j]? = some (.ref (Ts j)) := fun j hj => by
    obtain ⟨p, e, _⟩ := at' j (hn ▸ hj)
    simp [Ts, e, PT.v]
  have W := fun (A' : Around) (hA : A'.handled = none) => (WalksU.listOfTuples (prog := prog) (w := w) hA s.heap.objs.size l (Nat.ne_of_lt hllt) (ts.map PT.v).toArray Ts vals hits fun j hj => Nat.ne_of_lt (hTl j hj)).bound
  refine ⟨s.heap.objs.size, _, _, _, _, _, _, (fun _ => true), (fun j y => ∃ p, ts[j]? = some p ∧ y = .bool (q p.x p.y)), rfl, W, ?_, ?_, ?_, ?_, ?_, ?_, ?_⟩
  · rintro i v ⟨hi, rfl⟩
    obtain ⟨p, e, _⟩ := at' i (hn ▸ hi)
    exact ⟨.int p.x p.t, .int p.y p.u, by simp [vals, e, PT.items]⟩
  · refine ⟨?_, ?_, hTs⟩
    · obtain ⟨o, ho, r⟩ := hit1
      exact ⟨o, hx₃ _ _ (Nat.ne_of_gt hPlt) ho, r⟩
    · exact hl.at fun o => up3 _ o hlP
  · intro b hb
    have hle : s.heap.objs.size + 1 ≤ h₃.objs.size := hz1 ▸ hsz
    rcases List.mem_cons.mp hb with rfl | hb
    · exact hle
    · rcases List.mem_cons.mp hb with rfl | hb
      · exact Nat.lt_of_lt_of_le hllt (Nat.le_of_succ_le hle)
      · obtain ⟨k, hk, rfl⟩ := List.mem_map.mp hb
        exact Nat.lt_of_lt_of_le (hTl k (List.mem_range.mp hk)) (Nat.le_of_succ_le hle)
  · exact (hlim.keeps up1).extBut hx₃ hcsP
  · intro hm
    have := List.mem_singleton.mp hm
    exact absurd hcslt (this ▸ Nat.lt_irrefl _)
  · intro href hhref
    refine ⟨?_, ?_⟩
    · intro A' E' i va vb s₂ m₂ hA hP hn₂ hma hmb hk
      exact wpAny_pure ⟨rfl, s₂.heap, s₂.toks, rfl, fun _ _ e => e⟩
    · intro A' E' i va vb s₂ m₂ hA hP hpz hn₂ hma hmb hk
      obtain ⟨hi, hv⟩ := hP
      obtain ⟨p, e, hp⟩ := at' i (hn ▸ hi)
      simp only [vals, e, Option.map_some, Option.getD_some, PT.items] at hv
      obtain ⟨rfl, rfl⟩ : va = .int p.x p.t ∧ vb = .int p.y p.u := by simpa using congrArg Array.toList hv
      refine wpAny_mono (helt A' E' _ code p s₂ m₂ hA hp hn₂ hma hmb fun b o hb e' => ?_) (fun y s₃ r => ⟨⟨p, e, r.1⟩, r.2⟩) fun _ _ e => e
      have hbl : b < s.heap.objs.size := Heap.lt_size e'
      refine hk b (List.mem_range.mpr (Nat.lt_of_lt_of_le hbl (Nat.le_trans (Nat.le_of_lt (hz1 ▸ Nat.lt_succ_self _)) hsz))) (fun hm => ?_) o (hhref b o (up3 b o hb e'))
      exact absurd hbl ((List.mem_singleton.mp hm) ▸ Nat.lt_irrefl _)
  · intro a h₅ tk gs hgb hag hsz₅ hk₅ WS hat
    have hpass : passing (fun _ => true) (ts.map PT.v).toArray.size 0 = List.range ts.length := by
      simp [passing]
    refine hQ a _ more (fun b o hb e => hk₅ b o (up3 b o hb e)) (hcode₃.keeps hk₅) (htab₃.keeps hk₅) (hG.push hgb) rfl ?_
    rw [hpass, List.length_range] at WS
    have WS' := WS.imp (P' := fun j y => ∃ p, ts[j]? = some p ∧ y = .bool (q p.x p.y)) fun j y hy => by
      obtain ⟨i, hij, p, hp, hy⟩ := hy
      have : i = j := by
        have h1 : (List.range ts.length)[j]? = some i := hij
        rw [List.getElem?_range] at h1
        · exact (Option.some.inj h1).symm
        · by_cases hj : j < ts.length
          · exact hj
          · rw [List.getElem?_eq_none (by simpa using Nat.not_lt.mp hj)] at h1; cases h1
      exact ⟨p, this ▸ hp, hy⟩
    refine ⟨_, _, _, _, WS', hat, (fun i s' st => st.1.typeIs), List.mem_cons_self, ?_, ?_⟩
    · intro b hb
      show b < h₅.objs.size
      rw [hsz₅]
      rcases List.mem_cons.mp hb with rfl | hb
      · exact Nat.lt_succ_self _
      · rcases List.mem_cons.mp hb with rfl | hb
        · exact Nat.lt_succ_of_lt hag
        · exact Nat.lt_succ_of_lt (Nat.lt_trans (List.mem_range.mp hb) hag)
    · intro b hb
      have hpos : 0 < s.heap.objs.size := Nat.lt_of_le_of_lt (Nat.zero_le _) hPlt
      have hle : s.heap.objs.size + 1 ≤ h₃.objs.size := hz1 ▸ hsz
      rcases List.mem_cons.mp hb with rfl | hb
      · show s.heap.objs.size - 1 < h₃.objs.size
        omega
      · rw [List.mem_singleton.mp hb]
        exact Nat.sub_lt hpos Nat.one_pos

theorem any_list {n : Nat} {K a : Addr} {F : Nat → Value → Prop} {Q : Value → Shared → Prop} (tr : Nat → Bool) (hF : ∀ j v, F j v → v = .bool (tr j)) (G : AllBare s.gens) (X : Gen prog w A K a n F s)
    (hQ : ∀ s', AllBare s'.gens → s'.os = s.os → (∀ b o, b ≤ K → s.heap.get? b = some o → s'.heap.get? b = some o) → Q (.bool ((List.range n).any tr)) s') :
    wpAny (model prog w) A (call (.builtin "any") [.ref a]) Q E s := by
  obtain ⟨fp, wr, g, St, W, hst, _, _, hfp, hwr⟩ := X
  have W := W.in4_1
  refine call_any_walkS (W.self 0 _ _ _ hst ⟨a, _, _, _, _, _, _, tr, rfl, W, hst, fun j v s Q E hv hQ => ?_, fun s' hm => hQ s' (G.movedS hm) hm.os fun b o hb e => hm.heap b o (fun hmem => ?_) e⟩)
  · rw [hF j v hv]; exact wpAny_truthy_bool hQ
  · exact Nat.lt_irrefl _ (Nat.lt_of_lt_of_le (hwr b hmem) hb)
end
end

section
open PySem PySem.W PyProof.Rows PySem.Calls
abbrev pr : Program := PySem.Challenge.rw_nk0002_01.row.prog

/-- what the text's own defs ask of a heap; 34 is the code of within_range_list, 30 its table -/
structure Wd (w : World) (mg mb : Str → Option Value) (h : Heap) : Prop where
  K : (hd.heap_39 w.params).In h
  T : TopRead hd.view_39 (looseW hd.view_39 []) mg mb h
  bm : ∃ bm ob, BMod h mainGlobals mg bm ob
  tab : ∃ ps, h.IsCode 34 30 ps ∧ h.TableAt 34 30 ps

theorem K30 (P : Params) : ∀ a o, (hd.heap_39 P).lookup a = some o → a ≠ 30 := by
  intro a o e q
  subst q
  have : (hd.heap_39 P).lookup 30 = none := by rfl
  rw [this] at e
  cases e

theorem Wd.ext {w : World} {mg mb : Str → Option Value} {h h' : Heap} (X : Wd w mg mb h) (hk : ∀ b o, b ≠ 30 → h.get? b = some o → h'.get? b = some o)
    (ht : ∃ ps, h'.IsCode 34 30 ps ∧ h'.TableAt 34 30 ps) : Wd w mg mb h' where
  K := fun a o e => hk a o (K30 _ a o e) (X.K a o e)
  T := ⟨X.T.g.at' fun o e => hk _ o (by decide) e, X.T.b.at' fun o e => hk _ o (by decide) e,
    (let ⟨mc, h1, h2⟩ := X.T.nolimit; ⟨mc, h1.at' fun o e => hk _ o (by decide) e, h2⟩), X.T.builtins, X.T.free⟩
  bm := let ⟨bm, ob, M⟩ := X.bm; let ⟨_, _, ht₀⟩ := X.tab; ⟨bm, ob, M.extBut ht₀ hk⟩
  tab := ht
theorem Wd.keeps {w : World} {mg mb : Str → Option Value} {h h' : Heap} (X : Wd w mg mb h) (hk : ∀ b o, h.get? b = some o → h'.get? b = some o) : Wd w mg mb h' :=
  X.ext (fun b o _ => hk b o) (let ⟨ps, h1, h2⟩ := X.tab; ⟨ps, h1.keeps hk, h2.keeps hk⟩)

theorem K47 (P : Params) : ∀ a o, (hd.heap_39 P).lookup a = some o → a ≤ 47 := by
  intro a o e
  have h : ((hd.heap_39 P).all fun p => decide (p.1 ≤ 47)) = true := by rfl
  have := List.all_eq_true.mp h _ (kb_mem e)
  exact of_decide_eq_true this
/-- what stands at the low addresses is all that is asked -/
theorem Wd.low {w : World} {mg mb : Str → Option Value} {h h' : Heap} (X : Wd w mg mb h) (hk : ∀ b o, b ≤ 47 → h.get? b = some o → h'.get? b = some o) : Wd w mg mb h' where
  K := fun a o e => hk a o (K47 _ a o e) (X.K a o e)
  T := ⟨X.T.g.at' fun o e => hk _ o (by decide) e, X.T.b.at' fun o e => hk _ o (by decide) e,
    (let ⟨mc, h1, h2⟩ := X.T.nolimit; ⟨mc, h1.at' fun o e => hk _ o (by decide) e, h2⟩), X.T.builtins, X.T.free⟩
  bm := by
    obtain ⟨bm, ob, M⟩ := X.bm
    have e : mg "__builtins__" = some (.ref 4) := mg_of X.K X.T.g (by rfl)
    have e4 : bm = 4 := by have := M.name; rw [e] at this; cases this; rfl
    subst e4
    exact ⟨4, ob, M.ns.at' fun o e => hk _ o (by decide) e, M.name, M.ne, hk _ _ (by decide) M.obj, M.cls, M.dict, M.data⟩
  tab := by
    obtain ⟨ps, ⟨o, vs, file, tf, flags, tg, inF, text, tt, op, ho, r1, r2, r3, r4, r5, r6, hop, r⟩, ⟨⟨o', vs', ho', r'⟩, h2⟩⟩ := X.tab
    exact ⟨ps, ⟨o, vs, file, tf, flags, tg, inF, text, tt, op, hk _ _ (by decide) ho, r1, r2, r3, r4, r5, r6, hk _ _ (by decide) hop, r⟩, ⟨⟨o', vs', hk _ _ (by decide) ho', r'⟩, hk _ _ (by decide) h2⟩⟩
theorem Wd.has47 {w : World} {mg mb : Str → Option Value} {h : Heap} (X : Wd w mg mb h) : 47 < h.objs.size := Heap.lt_size (X.K 47 _ rfl)

theorem Pairs.off {h h' : Heap} {ts : List PT} {ps : Array Value} (x : Pairs h ts) (ht : h.TableAt 34 30 ps) (hk : ∀ b o, b ≠ 30 → h.get? b = some o → h'.get? b = some o) : Pairs h' ts :=
  x.at fun p hp o => hk _ o fun e => by
    obtain ⟨o, ho, hcl, _⟩ := x p hp
    rw [e, ht.2] at ho; cases ho; cases hcl
theorem list_off {h h' : Heap} {l : Addr} {its ps : Array Value} (x : h.IsList l its) (ht : h.TableAt 34 30 ps) (hk : ∀ b o, b ≠ 30 → h.get? b = some o → h'.get? b = some o) : h'.IsList l its :=
  x.at fun o => hk _ o fun e => by
    obtain ⟨o, ho, hcl, _⟩ := x
    rw [e, ht.2] at ho; cases ho; cases hcl
end

section
open PySem PySem.W PyProof.Rows PySem.Calls
variable {w : World} {mg mb : Str → Option Value} {A : Around} {E : Value → Shared → Prop} {s : Shared}

theorem range_any_pt (ts : List PT) (q : Int → Int → Bool) : (List.range ts.length).any (fun j => (ts[j]?.map fun p => q p.x p.y).getD false) = ts.any fun p => q p.x p.y := by
  rw [Bool.eq_iff_iff, List.any_eq_true, List.any_eq_true]
  constructor
  · rintro ⟨j, hj, h⟩
    have hj' := List.mem_range.mp hj
    exact ⟨ts[j], List.getElem_mem hj', by simpa [List.getElem?_eq_getElem hj'] using h⟩
  · rintro ⟨p, hp, h⟩
    obtain ⟨j, hj, rfl⟩ := List.getElem_of_mem hp
    exact ⟨j, List.mem_range.mpr hj, by simpa [List.getElem?_eq_getElem hj] using h⟩

theorem within_raw {Q : Value → Shared → Prop} {R : Addr} {ts : List PT} {n : Int} {t : Tok} (X : Wd w mg mb s.heap) (hh : A.handled = none) (hroom : A.depth + 1 < recursionLimit) (hG : AllBare s.gens)
    (hl : s.heap.IsList R (ts.map PT.v).toArray) (hts : Pairs s.heap ts)
    (hQ : ∀ s', (∀ b o, b ≠ 30 → s.heap.get? b = some o → s'.heap.get? b = some o) → Wd w mg mb s'.heap → AllBare s'.gens → s'.os = s.os → Q (.bool (ts.any fun p => decide (p.x ≤ n) && decide (n ≤ p.y))) s') :
    wpAny (model pr w) A (call (.ref 35) [.int n t, .ref R]) Q E s := by
  have hcd : s.heap.CodeRec (.ref 34) (Str.ofString "within_range_list") := ⟨34, _, _, _, rfl, X.K 34 _ rfl, rfl, rfl⟩
  refine wpAny_call (codeAny_call_function (Nat.lt_of_succ_lt hroom) (X.K 35 _ rfl) rfl rfl rfl rfl hcd ((BindsTo.of_eq rfl) _ _ _ _ ?_))
  refine wpAny_newFunctionEnv_cells rfl (kindsX rfl _) fun env' he s' x => ?_
  subst he
  refine ⟨X.T.nolimit.keeps x.toInCall.keep, codeAny_func ?_⟩
  obtain ⟨h₁, tk, rfl, _⟩ := x.done
  have hk₁ := x.toInCall.keep
  have hns := x.toInCall.ns
  have hcell := x.cell
  dsimp only at hk₁ hns hcell ⊢
  have hcn := hcell (Str.ofString "num") (s.heap.objs.size + 1) (by rfl)
  have hcn' : h₁.IsCell (s.heap.objs.size + 1) (some (.int n t)) := hcn
  clear hcell x hcn
  have X₁ : Wd w mg mb h₁ := X.keeps hk₁
  have F : Fr s.heap s.heap.objs.size h₁ _ := ⟨hns, hk₁, Nat.le_refl _⟩
  obtain ⟨ps, hok, htab⟩ := X₁.tab
  obtain ⟨bm, ob, M⟩ := X₁.bm
  refine wpAny_execs_cons (wpAny_Return_some (PyProof.Rows.Call_ ?_))
  refine nameX_B F X.K X.T (by rfl) boot_any (by decide) ?_ (hk := by rfl) (hx := by rfl)
  refine PySem.callWith_builtin1 ?_
  refine gen_pairs (c := 34) (P := 30) (l := R) (ts := ts) (q := fun a b => decide (a ≤ n) && decide (n ≤ b)) hh (by rfl) (by with_unfolding_all rfl) (by decide) (by rfl) (by rfl) (by rfl) (by decide) (by rfl) (by show A.depth + 1 < recursionLimit; exact hroom) (by rfl)
    hok htab M X₁.T.nolimit hG ?_ ?_ ?_ ?_ ?_ ?_
  · exact hl.at fun o e => hk₁ _ o e
  · exact hts.at fun p _ o e => hk₁ _ o e
  · intro Q' hq
    exact nameX_L F (by rfl) hq (hk := by rfl) (hx := by rfl)
  · intro A' E' C code p u m₂ hA hp hnu hx hy hk
    have hcu : u.heap.IsCell (s.heap.objs.size + 1) (some (.int n t)) := by
      obtain ⟨o, ho, hd⟩ := hcn'
      refine ⟨o, hk _ o (fun e => ?_) ho, hd⟩
      have h2 := htab.2
      rw [← e, ho] at h2
      cases h2; cases hd
    refine Compare_chain (wpAny_Name (wpAny_loadName_local (by rfl) (by rfl) hnu hx ?_))
    refine chain_link (wpAny_Name (wpAny_loadName_free (by rfl) (by rfl) (by rfl) hcu ?_))
    refine le_int (wpAny_truthy_bool ?_)
    cases hc : decide (p.x ≤ n) with
    | false => exact ⟨by simp, u.heap, u.toks, rfl, fun _ _ e => e⟩
    | true =>
      simp only [if_true]
      refine chain_last (wpAny_Name (wpAny_loadName_local (by rfl) (by rfl) hnu hy ?_))
      exact le_int ⟨by simp, u.heap, u.toks, rfl, fun _ _ e => e⟩
  · intro a s₅ more hx₅ hok₅ htab₅ hG₅ hos₅ hgen
    refine any_list (fun j => (ts[j]?.map fun p => decide (p.x ≤ n) && decide (n ≤ p.y)).getD false) ?_ hG₅ hgen ?_
    · rintro j v ⟨p, hp, rfl⟩
      simp [hp]
    · intro s' hG' hos' hk'
      have hlt : ∀ b o, h₁.get? b = some o → b ≤ h₁.objs.size - 1 := fun b o e => Nat.le_sub_one_of_lt (Heap.lt_size e)
      have up : ∀ b o, b ≠ 30 → h₁.get? b = some o → s'.heap.get? b = some o := fun b o hb e => hk' b o (hlt b o e) (hx₅ b o hb e)
      have e := range_any_pt ts (fun a b => decide (a ≤ n) && decide (n ≤ b))
      rw [e]
      refine hQ s' (fun b o hb e => up b o hb (hk₁ b o e)) ?_ hG' (hos'.trans hos₅)
      refine X₁.ext up ⟨ps ++ more, ?_, ?_⟩
      · have h34 : (34 : Addr) ≤ h₁.objs.size - 1 := by obtain ⟨_, _, _, _, _, _, _, _, _, _, ho, _⟩ := id hok; exact hlt _ _ ho
        have h30 : (30 : Addr) ≤ h₁.objs.size - 1 := hlt _ _ htab.2
        obtain ⟨o, vs, file, tf, flags, tg, inF, text, tt, op, ho, r1, r2, r3, r4, r5, r6, hop, r⟩ := hok₅
        exact ⟨o, vs, file, tf, flags, tg, inF, text, tt, op, hk' _ _ h34 ho, r1, r2, r3, r4, r5, r6, hk' _ _ h30 hop, r⟩
      · have h34 : (34 : Addr) ≤ h₁.objs.size - 1 := by obtain ⟨_, _, _, _, _, _, _, _, _, _, ho, _⟩ := id hok; exact hlt _ _ ho
        have h30 : (30 : Addr) ≤ h₁.objs.size - 1 := hlt _ _ htab.2
        obtain ⟨⟨o, vs, ho, r⟩, h2⟩ := htab₅
        exact ⟨⟨o, vs, hk' _ _ h34 ho, r⟩, hk' _ _ h30 h2⟩
  · intro x; with_unfolding_all rfl
end

section
open PySem PySem.W PyProof.Rows PySem.Calls
variable {w : World} {mg mb : Str → Option Value} {A : Around} {E : Value → Shared → Prop} {s : Shared}

theorem in_raw {Q : Value → Shared → Prop} {R : Addr} {ts : List PT} {n : Int} {t : Tok} (X : Wd w mg mb s.heap) (hh : A.handled = none) (hroom : A.depth + 2 < recursionLimit) (hG : AllBare s.gens)
    (hl : s.heap.IsList R (ts.map PT.v).toArray) (hts : Pairs s.heap ts)
    (hQ : ∀ s', (∀ b o, b ≠ 30 → s.heap.get? b = some o → s'.heap.get? b = some o) → Wd w mg mb s'.heap → AllBare s'.gens → s'.os = s.os → Q (.bool (ts.any fun p => decide (p.x ≤ n) && decide (n ≤ p.y))) s') :
    wpAny (model pr w) A (call (.ref 28) [.int n t, .ref R]) Q E s := by
  have hcd : s.heap.CodeRec (.ref 27) (Str.ofString "in_range_list") := ⟨27, _, _, _, rfl, X.K 27 _ rfl, rfl, rfl⟩
  refine wpAny_call (codeAny_call_def (by omega) (X.K 28 _ rfl) rfl X.T.nolimit hcd rfl (BindsTo.of_eq rfl) (by decide) (locs rfl) (fun h₁ hns hk₁ => ?_) (by rfl) (by rfl) (by rfl))
  have F : Fr s.heap s.heap.objs.size h₁ _ := ⟨hns, hk₁, Nat.le_refl _⟩
  have X₁ : Wd w mg mb h₁ := X.keeps hk₁
  refine wpAny_execs_cons (wpAny_Return_some (BoolOp_and (wpAny_Compare1 ?_)))
  refine nameX_L F (by rfl) ?_ (hk := by rfl) (hx := by rfl)
  refine PyProof.Rows.Call_ ?_
  refine nameX_B F X.K X.T (by rfl) PyProof.Rows.boot_int (by decide) ?_ (hk := by rfl) (hx := by rfl)
  refine PySem.callWith_type1 ?_
  refine nameX_L F (by rfl) ?_ (hk := by rfl) (hx := by rfl)
  refine call_int_int (eq_int (wpAny_truthy_bool ?_))
  rw [beq_self_eq_true, if_pos rfl]
  refine BoolOp_one (PyProof.Rows.Call_ ?_)
  refine nameX_K F X.K X.T (by rfl) ?_ (hk := by rfl) (hx := by rfl)
  refine callWith_K X.K (by rfl) ?_
  refine spliced_more (nameX_L F (by rfl) ?_ (hk := by rfl) (hx := by rfl))
  refine spliced_more (nameX_L F (by rfl) ?_ (hk := by rfl) (hx := by rfl))
  refine spliced_nil ⟨X₁.K, ?_⟩
  refine within_raw X₁ hh (by show A.depth + 1 + 1 < recursionLimit; exact hroom) hG (hl.at fun o e => hk₁ _ o e) (hts.at fun p _ o e => hk₁ _ o e) fun s' hk' X' G' hos => ?_
  exact hQ s' (fun b o hb e => hk' b o hb (hk₁ b o e)) X' G' hos
end

section
open PySem PySem.W PyProof.Rows PySem.Calls PyProof.Rows.LCg
/-- item by item -/
inductive All2 {α β : Type} (V : α → β → Prop) : List α → List β → Prop
  | nil : All2 V [] []
  | cons {a : α} {b : β} {as : List α} {bs : List β} : V a b → All2 V as bs → All2 V (a :: as) (b :: bs)
theorem All2.snoc {α β : Type} {V : α → β → Prop} {a : α} {b : β} : ∀ {as : List α} {bs : List β}, All2 V as bs → V a b → All2 V (as ++ [a]) (bs ++ [b])
  | _, _, .nil, h => .cons h .nil
  | _, _, .cons h r, k => .cons h (r.snoc k)
theorem All2.length {α β : Type} {V : α → β → Prop} : ∀ {as : List α} {bs : List β}, All2 V as bs → as.length = bs.length
  | _, _, .nil => rfl
  | _, _, .cons _ r => congrArg (· + 1) r.length

section
variable {prog : Program} {w : World} {A : Around} {E : Value → Shared → Prop} {s : Shared}

/-- how a turn of a comprehension over pairs goes: the loop's own part; `T` is what the turn does behind the names' stores -/
theorem comp_loop {elt iter : Expr} {ifs : List Expr} {xa xb : Str} {pa pb pt pos : Pos} {kt : Nat} {scope : Scope} {env : Env} {cl : List (Str × Addr)} {l : Addr} {ts : List PT} {q : Int → Int → Bool} {V : PT → Value → Prop} {Q : Value → Shared → Prop}
    (T : Env → (Bool → Shared → Prop) → (Value → Shared → Prop) → Shared → Prop) (Tm : ∀ env' K K' E' u, (∀ b s, K b s → K' b s) → T env' K E' u → T env' K' E' u)
    (loop : ∀ (it acc : Value) (env' : Env) (R : Result → Shared → Prop) (I : Nat → Shared → Prop),
      (∀ n s, I n s → wpAny (model prog w) A (pyNext it) (fun r s₁ => match r with
        | none => R (.ok .next) s₁
        | some v => wpAny (model prog w) A (letOwnedTupleGo (.Tuple [.Name xa pa, .Name xb pb] kt pt) it v) (fun _ s₀ => wpAny (model prog w) A (assign (.Tuple [.Name xa pa, .Name xb pb] kt pt) env' v) (fun _ s₂ =>
            ∀ E' : Value → Shared → Prop, T env' (fun ok s₃ => if ok = true then wpAny (model prog w) A (eval elt env') (fun x s₄ =>
              wpAny (model prog w) A (call (.builtin "list.append") [acc, x]) (fun _ s₅ => ∃ m, m < n ∧ I m s₅) E' s₄) E' s₃
              else ∃ m, m < n ∧ I m s₃) E' s₂)
            (notedBy (model prog w) A env' fun e s' => R (.error e) s') s₀) (notedBy (model prog w) A env' fun e s' => R (.error e) s') s₁) (notedBy (model prog w) A env' fun e s' => R (.error e) s') s) →
      ∀ (n : Nat) (s : Shared), I n s → codeAny (model prog w) A (.compLoop (.ListComp elt [⟨.Tuple [.Name xa pa, .Name xb pb] kt pt, iter, ifs, 0⟩] scope pos) 0 it acc env') R s)
    (hh : A.handled = none) (hclos : closureFor scope env = pure cl) (hcell : ∀ y ∈ scope.names, y.2 ≠ .cell) (hkind : scope.kind = .function)
    (hnames : ∀ y ∈ scope.names, y.2 = .local → scope.names.lookup y.1 = some .local) (hxa : scope.names.lookup xa = some .local) (hxb : scope.names.lookup xb = some .local) (hab : ¬ xa = xb)
    (hl : s.heap.IsList l (ts.map PT.v).toArray) (hts : Pairs s.heap ts) (hsz : ts.length ≤ sizeLine)
    (hiter : ∀ Q' : Value → Shared → Prop, Q' (.ref l) s → wpAny (model prog w) A (eval iter env) Q' E s)
    (htest : ∀ (E' : Value → Shared → Prop) (C : Addr) (p : PT) (u : Shared) (m₂ : Str → Option Value), p ∈ ts → u.heap.Ns C m₂ → m₂ xa = some (.int p.x p.t) → m₂ xb = some (.int p.y p.u) →
      (∀ b o, s.heap.get? b = some o → u.heap.get? b = some o) →
      T (compEnvC scope cl C env) (fun ok s₃ => ok = q p.x p.y ∧ Keeps u s₃) E' u)
    (helt : ∀ (E' : Value → Shared → Prop) (C : Addr) (p : PT) (u : Shared) (m₂ : Str → Option Value), p ∈ ts → u.heap.Ns C m₂ → m₂ xa = some (.int p.x p.t) → m₂ xb = some (.int p.y p.u) →
      (∀ b o, s.heap.get? b = some o → u.heap.get? b = some o) →
      wpAny (model prog w) A (eval elt (compEnvC scope cl C env)) (fun y s₃ => V p y ∧ Keeps u s₃) E' u)
    (hQ : ∀ D h' tk ys, (∀ b o, s.heap.get? b = some o → h'.get? b = some o) → s.heap.objs.size ≤ D → h'.get? D = some (lst ys) → All2 V (ts.filter fun p => q p.x p.y) ys → Q (.ref D) { s with heap := h', toks := tk })
    (hs : ∀ x, foldedSetIterable iter env x = pure x) :
    wpAny (model prog w) A (eval (.ListComp elt [⟨.Tuple [.Name xa pa, .Name xb pb] kt pt, iter, ifs, 0⟩] scope pos) env) Q E s := by
  rw [eval_ListComp]
  refine wpAny_comprehension_free (use := none) rfl hs hclos hkind hnames (hiter _ ?_)
  have hllt : l < s.heap.objs.size := by obtain ⟨_, e, _⟩ := hl; exact Heap.lt_size e
  refine wpAny_pyIter_list hl ?_
  generalize hH1 : s.heap.push { cls := .type "list_iterator", data := .fields #[.ref l, .int 0 0] } = H1
  have hz1 : H1.objs.size = s.heap.objs.size + 1 := by rw [← hH1, Heap.size_push]
  have up1 : ∀ b o, s.heap.get? b = some o → H1.get? b = some o := fun b o e => hH1 ▸ Heap.get?_push_of_some _ e
  have hit1 : H1.IsListIter s.heap.objs.size l 0 := ⟨_, hH1 ▸ Heap.get?_push_size _ rfl, rfl, rfl⟩
  refine wpAny_newObj_type (wpAny_newFunctionEnv hcell (by intro y hy; simp at hy) (fun h₁ hns₁ hsb₁ => ?_) hkind)
  dsimp only at hns₁ hsb₁ ⊢
  generalize hH2 : H1.push { cls := .type "list", dict := none, data := .seq ([] : List Value).toArray } = H2 at hns₁ hsb₁ ⊢
  have hz2 : H2.objs.size = H1.objs.size + 1 := by rw [← hH2, Heap.size_push]
  generalize hI : s.heap.objs.size = I at hit1 hz1 hllt
  generalize hD : H1.objs.size = D at hz2 hz1
  generalize hC : H2.objs.size = C at hz2 hns₁ hsb₁
  have hID : I < D := by rw [hz1]; exact Nat.lt_succ_self _
  have hDC : D < C := by rw [hz2]; exact Nat.lt_succ_self _
  have up2 : ∀ b o, b < C → H2.get? b = some o → h₁.get? b = some o := fun b o hb e => hsb₁.extBut b o (Nat.ne_of_lt hb) (Heap.get?_push_of_some _ e)
  have up12 : ∀ b o, H1.get? b = some o → h₁.get? b = some o := fun b o e => up2 b o (by have := Heap.lt_size e; rw [hD] at this; exact Nat.lt_trans this hDC) (hH2 ▸ Heap.get?_push_of_some _ e)
  have hD1 : h₁.get? D = some (lst []) := up2 D _ hDC (by rw [← hD, ← hH2]; exact Heap.get?_push_size _ rfl)
  have hlt0 : ∀ b o, s.heap.get? b = some o → b < I := fun b o e => hI ▸ Heap.lt_size e
  -- the loop
  have go : ∀ s₃ : Shared, s₃ = { s with heap := h₁, toks := s.toks + ([] : List (Str × Value)).length } →
      codeAny (model prog w) A (.compLoop (.ListComp elt [⟨.Tuple [.Name xa pa, .Name xb pb] kt pt, iter, ifs, 0⟩] scope pos) 0 (.ref I) (.ref D) (compEnvC scope cl C env)) (compPost (model prog w) A E none Q (.ref D) C) s₃ := by
    rintro s₃ rfl
    refine loop _ _ _ _
      (fun k s' => ∃ h' tk i ys m', s' = { s with heap := h', toks := tk } ∧ i ≤ ts.length ∧ k = ts.length + 1 - i ∧ ys.length ≤ i ∧ h'.IsListIter I l i ∧ h'.Ns C m' ∧ h'.get? D = some (lst ys) ∧
        (∀ b o, s.heap.get? b = some o → h'.get? b = some o) ∧ All2 V ((ts.take i).filter fun p => q p.x p.y) ys) ?_ (ts.length + 1) _
      ⟨h₁, _, 0, [], _, rfl, Nat.zero_le _, rfl, Nat.le_refl _, (let ⟨o, ho, r⟩ := hit1; ⟨o, up12 _ _ ho, r⟩), hns₁, hD1, fun b o e => up12 b o (up1 b o e), by simpa using All2.nil⟩
    rintro k s' ⟨h', tk, i, ys, m', rfl, hi, rfl, hyl, hit, hns, hDy, hk, hV⟩
    have hl' : h'.IsList l (ts.map PT.v).toArray := hl.at fun o e => hk _ o e
    by_cases hlt : i < ts.length
    · have hx : (ts.map PT.v).toArray[i]? = some (ts[i]).v := by simp [hlt]
      refine wpAny_pyNext_list_item hit hl' hx fun h₂ hit₂ hs₂ => ?_
      dsimp only
      refine wpAny_letOwnedTupleGo_listiter hit₂ ?_
      have hp : ts[i] ∈ ts := List.getElem_mem hlt
      have up₂ : ∀ b o, b ≠ I → h'.get? b = some o → h₂.get? b = some o := fun b o hb e => hs₂.extBut b o hb e
      have hT : IsTup h₂ (ts[i]).T (ts[i]).items := by
        obtain ⟨o, ho, r⟩ := hts _ hp
        exact ⟨o, up₂ _ _ (Nat.ne_of_lt (hlt0 _ _ ho)) (hk _ _ ho), r⟩
      refine assign_Tuple_tuple hh hT rfl rfl fun h₃ he => ?_
      have up₃ : ∀ b o, h₂.get? b = some o → h₃.get? b = some o := fun b o e => he b o (Nat.ne_of_lt (Heap.lt_size e)) e
      have hns₃ : h₃.Ns C m' := hns.at' fun o e => up₃ _ o (up₂ _ o (Nat.ne_of_gt (Nat.lt_trans hID hDC)) e)
      refine assignInOrder_cons (wpAny_assign_Name (wpAny_storeName_local (lookup_relabel_local hxa) hns₃ (fun h₄ hn₄ hs₄ => ?_) (by simp [compEnvC, relabel, hkind])))
      refine assignInOrder_cons (wpAny_assign_Name (wpAny_storeName_local (lookup_relabel_local hxb) hn₄ (fun h₅ hn₅ hs₅ => ?_) (by simp [compEnvC, relabel, hkind])))
      refine assignInOrder_nil fun E' => ?_
      have hs₄' : Heap.SameBut C h₃ h₄ := hs₄
      have hs₅' : Heap.SameBut C h₄ h₅ := hs₅
      have up₅ : ∀ b o, b ≠ I → b ≠ C → h'.get? b = some o → h₅.get? b = some o := fun b o h1 h2 e => hs₅'.extBut b o h2 (hs₄'.extBut b o h2 (up₃ b o (up₂ b o h1 e)))
      have hk₅ : ∀ b o, s.heap.get? b = some o → h₅.get? b = some o := fun b o e =>
        have hb := hlt0 b o e
        up₅ b o (Nat.ne_of_lt hb) (Nat.ne_of_lt (Nat.lt_trans hb (Nat.lt_trans hID hDC))) (hk b o e)
      have hit₅ : h₅.IsListIter I l (i + 1) := by
        obtain ⟨o, ho, r⟩ := hit₂
        have hne := Nat.ne_of_lt (Nat.lt_trans hID hDC)
        exact ⟨o, hs₅'.extBut _ _ hne (hs₄'.extBut _ _ hne (up₃ _ _ ho)), r⟩
      have hD₅ : h₅.get? D = some (lst ys) := up₅ D _ (Nat.ne_of_gt hID) (Nat.ne_of_lt hDC) hDy
      have htake : ts.take (i + 1) = ts.take i ++ [ts[i]] := by simp
      have mine : ∀ (ys' : List Value) (h₆ : Heap) (tk₆ : Nat), ys'.length ≤ i + 1 → h₆.IsListIter I l (i + 1) → (∃ m, h₆.Ns C m) → h₆.get? D = some (lst ys') → (∀ b o, s.heap.get? b = some o → h₆.get? b = some o) →
          All2 V ((ts.take (i + 1)).filter fun p => q p.x p.y) ys' →
          ∃ k', k' < ts.length + 1 - i ∧ ∃ h' tk i ys m', ({ s with heap := h₆, toks := tk₆ } : Shared) = { s with heap := h', toks := tk } ∧ i ≤ ts.length ∧ k' = ts.length + 1 - i ∧ ys.length ≤ i ∧ h'.IsListIter I l i ∧ h'.Ns C m' ∧ h'.get? D = some (lst ys) ∧
            (∀ b o, s.heap.get? b = some o → h'.get? b = some o) ∧ All2 V ((ts.take i).filter fun p => q p.x p.y) ys := fun ys' h₆ tk₆ a b c d e f =>
        let ⟨m, c⟩ := c
        ⟨ts.length + 1 - (i + 1), by omega, h₆, tk₆, i + 1, ys', m, rfl, hlt, rfl, a, b, c, d, e, f⟩
      refine Tm _ _ _ _ _ (fun ok s₆ h₆ => ?_) (htest E' C ts[i] _ _ hp hn₅ (by simp [hab]) (by simp) hk₅)
      obtain ⟨rfl, h₆, tk₆, rfl, hk₆⟩ := h₆
      cases hq : q ts[i].x ts[i].y with
      | false =>
        simp only [Bool.false_eq_true, if_false]
        refine mine ys h₆ tk₆ (Nat.le_succ_of_le hyl) (let ⟨o, ho, r⟩ := hit₅; ⟨o, hk₆ _ _ ho, r⟩) ⟨_, hn₅.keeps hk₆⟩ (hk₆ _ _ hD₅) (fun b o e => hk₆ b o (hk₅ b o e)) ?_
        rw [htake, List.filter_append, List.filter_cons_of_neg (by simp [hq]), List.filter_nil, List.append_nil]
        exact hV
      | true =>
        simp only [if_true]
        refine wpAny_mono (helt E' C ts[i] { s with heap := h₆, toks := tk₆ } _ hp (hn₅.keeps hk₆) (by simp [hab]) (by simp) (fun b o e => hk₆ b o (hk₅ b o e))) (fun y s₇ h₇ => ?_) fun _ _ e => e
        obtain ⟨hVy, h₇, tk₇, rfl, hk₇⟩ := h₇
        refine append_at (hsz := by show ys.toArray.size ≤ sizeLine; rw [List.size_toArray]; exact Nat.le_trans hyl (Nat.le_trans hi hsz)) (hk₇ _ _ (hk₆ _ _ hD₅)) fun h₈ hs₈ hD₈ => ?_
        have up₈ : ∀ b o, b ≠ D → h₅.get? b = some o → h₈.get? b = some o := fun b o hb e => hs₈.extBut b o hb (hk₇ b o (hk₆ b o e))
        refine mine (ys ++ [y]) h₈ _ (by rw [List.length_append, List.length_singleton]; exact Nat.succ_le_succ hyl) (let ⟨o, ho, r⟩ := hit₅; ⟨o, up₈ _ _ (Nat.ne_of_lt hID) ho, r⟩)
          ⟨_, hn₅.at' fun o e => up₈ _ o (Nat.ne_of_gt hDC) e⟩ (hD₈.trans (congrArg some (lst_snoc ys y))) (fun b o e => up₈ b o (Nat.ne_of_lt (Nat.lt_trans (hlt0 b o e) hID)) (hk₅ b o e)) ?_
        rw [htake, List.filter_append, List.filter_cons_of_pos (by simp [hq]), List.filter_nil]
        exact hV.snoc hVy
    · have hin : i = ts.length := Nat.le_antisymm hi (Nat.not_lt.mp hlt)
      subst hin
      refine wpAny_pyNext_list_end hh hit hl' (by simp) fun h₂ he => ?_
      dsimp only
      have up₂ : ∀ b o, b ≠ I → h'.get? b = some o → h₂.get? b = some o := fun b o hb e => he b o hb e
      refine ⟨m', hns.at' fun o e => up₂ _ o (Nat.ne_of_gt (Nat.lt_trans hID hDC)) e, fun h₃ hs₃ => ?_⟩
      have hs₃' : Heap.SameBut C h₂ h₃ := hs₃
      refine hQ D h₃ tk ys (fun b o e => ?_) (hI ▸ Nat.le_of_lt hID) ?_ ?_
      · have hb := hlt0 b o e
        exact hs₃'.extBut b o (Nat.ne_of_lt (Nat.lt_trans hb (Nat.lt_trans hID hDC))) (up₂ b o (Nat.ne_of_lt hb) (hk b o e))
      · exact hs₃'.extBut D _ (Nat.ne_of_lt hDC) (up₂ D _ (Nat.ne_of_gt hID) hDy)
      · rw [List.take_length] at hV; exact hV
  exact codeAny_compStart_list (go _ rfl) (wpAny_pyIter_listiter (let ⟨o, ho, r⟩ := hit1; ⟨o, up12 _ _ ho, r⟩) (go _ rfl))

/-- a comprehension over pairs, no test -/
theorem comp_plain {elt iter : Expr} {xa xb : Str} {pa pb pt pos : Pos} {kt : Nat} {scope : Scope} {env : Env} {cl : List (Str × Addr)} {l : Addr} {ts : List PT} {V : PT → Value → Prop} {Q : Value → Shared → Prop}
    (hh : A.handled = none) (hclos : closureFor scope env = pure cl) (hcell : ∀ y ∈ scope.names, y.2 ≠ .cell) (hkind : scope.kind = .function)
    (hnames : ∀ y ∈ scope.names, y.2 = .local → scope.names.lookup y.1 = some .local) (hxa : scope.names.lookup xa = some .local) (hxb : scope.names.lookup xb = some .local) (hab : ¬ xa = xb)
    (hl : s.heap.IsList l (ts.map PT.v).toArray) (hts : Pairs s.heap ts) (hsz : ts.length ≤ sizeLine)
    (hiter : ∀ Q' : Value → Shared → Prop, Q' (.ref l) s → wpAny (model prog w) A (eval iter env) Q' E s)
    (helt : ∀ (E' : Value → Shared → Prop) (C : Addr) (p : PT) (u : Shared) (m₂ : Str → Option Value), p ∈ ts → u.heap.Ns C m₂ → m₂ xa = some (.int p.x p.t) → m₂ xb = some (.int p.y p.u) →
      (∀ b o, s.heap.get? b = some o → u.heap.get? b = some o) →
      wpAny (model prog w) A (eval elt (compEnvC scope cl C env)) (fun y s₃ => V p y ∧ Keeps u s₃) E' u)
    (hQ : ∀ D h' tk ys, (∀ b o, s.heap.get? b = some o → h'.get? b = some o) → s.heap.objs.size ≤ D → h'.get? D = some (lst ys) → All2 V ts ys → Q (.ref D) { s with heap := h', toks := tk })
    (hs : ∀ x, foldedSetIterable iter env x = pure x) :
    wpAny (model prog w) A (eval (.ListComp elt [⟨.Tuple [.Name xa pa, .Name xb pb] kt pt, iter, [], 0⟩] scope pos) env) Q E s := by
  refine comp_loop (q := fun _ _ => true) (V := V) (ts := ts) (T := fun _ K _ u => K true u) (fun _ _ _ _ _ h k => h _ _ k) (fun it acc env' R I turn n s h => ?_) hh hclos hcell hkind hnames hxa hxb hab hl hts hsz hiter
    (fun E' C p u m₂ _ _ _ _ _ => ⟨rfl, u.heap, u.toks, rfl, fun _ _ e => e⟩) helt (fun D h' tk ys a b c d => hQ D h' tk ys a b c (by rwa [List.filter_eq_self.mpr (fun _ _ => rfl)] at d)) hs
  refine LCp.codeAny_compLoop_pair I (fun n s hI => wpAny_mono (turn n s hI) (fun r s₁ h₁ => ?_) fun _ _ e => e) n h
  cases r with
  | none => exact h₁
  | some v => exact wpAny_mono h₁ (fun _ s₀ h₀ => wpAny_mono h₀ (fun _ s₂ h₂ => by simpa using h₂ _) fun _ _ e => e) fun _ _ e => e

/-- a comprehension over pairs with one test -/
theorem comp_test {elt iter c : Expr} {xa xb : Str} {pa pb pt pos : Pos} {kt : Nat} {scope : Scope} {env : Env} {cl : List (Str × Addr)} {l : Addr} {ts : List PT} {V : PT → Value → Prop} {Q : Value → Shared → Prop}
    (q : Int → Int → Bool)
    (hh : A.handled = none) (hclos : closureFor scope env = pure cl) (hcell : ∀ y ∈ scope.names, y.2 ≠ .cell) (hkind : scope.kind = .function)
    (hnames : ∀ y ∈ scope.names, y.2 = .local → scope.names.lookup y.1 = some .local) (hxa : scope.names.lookup xa = some .local) (hxb : scope.names.lookup xb = some .local) (hab : ¬ xa = xb)
    (hl : s.heap.IsList l (ts.map PT.v).toArray) (hts : Pairs s.heap ts) (hsz : ts.length ≤ sizeLine)
    (hiter : ∀ Q' : Value → Shared → Prop, Q' (.ref l) s → wpAny (model prog w) A (eval iter env) Q' E s)
    (htest : ∀ (E' : Value → Shared → Prop) (C : Addr) (p : PT) (u : Shared) (m₂ : Str → Option Value), p ∈ ts → u.heap.Ns C m₂ → m₂ xa = some (.int p.x p.t) → m₂ xb = some (.int p.y p.u) →
      (∀ b o, s.heap.get? b = some o → u.heap.get? b = some o) →
      wpAny (model prog w) A (isTrue c (compEnvC scope cl C env) (eval c (compEnvC scope cl C env))) (fun ok s₃ => ok = q p.x p.y ∧ Keeps u s₃) E' u)
    (helt : ∀ (E' : Value → Shared → Prop) (C : Addr) (p : PT) (u : Shared) (m₂ : Str → Option Value), p ∈ ts → u.heap.Ns C m₂ → m₂ xa = some (.int p.x p.t) → m₂ xb = some (.int p.y p.u) →
      (∀ b o, s.heap.get? b = some o → u.heap.get? b = some o) →
      wpAny (model prog w) A (eval elt (compEnvC scope cl C env)) (fun y s₃ => V p y ∧ Keeps u s₃) E' u)
    (hQ : ∀ D h' tk ys, (∀ b o, s.heap.get? b = some o → h'.get? b = some o) → s.heap.objs.size ≤ D → h'.get? D = some (lst ys) → All2 V (ts.filter fun p => q p.x p.y) ys → Q (.ref D) { s with heap := h', toks := tk })
    (hs : ∀ x, foldedSetIterable iter env x = pure x) :
    wpAny (model prog w) A (eval (.ListComp elt [⟨.Tuple [.Name xa pa, .Name xb pb] kt pt, iter, [c], 0⟩] scope pos) env) Q E s := by
  refine comp_loop (q := q) (V := V) (ts := ts) (T := fun env' K E' u => wpAny (model prog w) A (isTrue c env' (eval c env')) K E' u) (fun _ _ _ _ _ h k => wpAny_mono k h fun _ _ e => e) (fun it acc env' R I turn n s h => ?_) hh hclos hcell hkind hnames hxa hxb hab hl hts hsz hiter
    htest helt hQ hs
  refine kct_loop I (fun n s hI => wpAny_mono (turn n s hI) (fun r s₁ h₁ => ?_) fun _ _ e => e) n h
  cases r with
  | none => exact h₁
  | some v => exact wpAny_mono h₁ (fun _ s₀ h₀ => wpAny_mono h₀ (fun _ s₂ h₂ => h₂ _) fun _ _ e => e) fun _ _ e => e
end
end

section
open PySem PySem.W PyProof.Rows PySem.Calls PyProof.Rows.LCg
def lawDef : Stmt := PySem.Challenge.pw_nk0002_01.main.body.getLastD (.Pass default)
def lawBody : List Stmt := match lawDef with | .FunctionDef _ _ b _ _ _ _ _ _ _ => b | _ => []
def lawScope : Scope := match lawDef with | .FunctionDef _ _ _ _ _ _ s _ _ _ => s | _ => default
def tailBody : List Stmt := lawBody.drop 4
def forBody : Stmt → List Stmt | .For _ _ b _ _ => b | _ => []
def forIter : Stmt → Expr | .For _ i _ _ _ => i | _ => .Constant (.int 0) 0 default
def nFor : Stmt := tailBody.getD 2 (.Pass default)
def kFor : Stmt := tailBody.getD 1 (.Pass default)
abbrev lawEnv (L fa : Addr) (cd : Value) : Env := envOfC (Str.ofString "law") lawScope L fa cd

variable {w : World} {mg mb : Str → Option Value} {A : Around} {E : Value → Shared → Prop} {s : Shared}

theorem nmL {env : Env} {x : Str} {pos : Pos} {v : Value} {m : Str → Option Value} {Q : Value → Shared → Prop} (hn : s.heap.Ns env.locals m) (hv : m x = some v) (h : Q v s)
    (hk : env.scope.kind = .function) (hx : env.kindOf x = some .local) (hd : (x == ("__debug__" : Str)) = false) :
    wpAny (model pr w) A (eval (.Name x pos) env) Q E s := wpAny_Name (wpAny_loadName_local hk hx hn hv h) hd
theorem nmC {env : Env} {x : Str} {pos : Pos} {v : Value} {c : Addr} {Q : Value → Shared → Prop} (hc : env.cells.lookup x = some c) (hv : s.heap.IsCell c (some v)) (h : Q v s)
    (hk : env.scope.kind = .function) (hx : env.kindOf x = some .cell) (hd : (x == ("__debug__" : Str)) = false) :
    wpAny (model pr w) A (eval (.Name x pos) env) Q E s := wpAny_Name (wpAny_loadName_cell hk hx hc hv h) hd
theorem nmG {env : Env} {x : Str} {pos : Pos} {v : Value} {Q : Value → Shared → Prop} (X : Wd w mg mb s.heap) (e : nsIn (hd.heap_39 w.params) mainGlobals x = some (some v)) (h : Q v s)
    (hg : env.globals = mainGlobals) (hk : env.scope.kind = .function) (hx : env.kindOf x = some .globalImplicit) (hd : (x == ("__debug__" : Str)) = false) :
    wpAny (model pr w) A (eval (.Name x pos) env) Q E s := Name_function_global hk hx (loadGlobal_global (hg ▸ X.T.g) (mg_of X.K X.T.g e) h) hd
theorem nmB {env : Env} {x : Str} {pos : Pos} {v : Value} {Q : Value → Shared → Prop} (X : Wd w mg mb s.heap) (e : nsIn (hd.heap_39 w.params) mainGlobals x = some none) (hv : bootBuiltins x = some v) (hn : x ≠ "__name__") (h : Q v s)
    (hg : env.globals = mainGlobals) (hb : env.builtins = builtinsNs) (hk : env.scope.kind = .function) (hx : env.kindOf x = some .globalImplicit) (hd : (x == ("__debug__" : Str)) = false) :
    wpAny (model pr w) A (eval (.Name x pos) env) Q E s :=
  Name_function_global hk hx (loadGlobal_builtin (hg ▸ X.T.g) (mg_none_of X.K X.T.g e) (hb ▸ X.T.b) ((X.T.builtins x hn).trans hv) h) hd

/-- the spec's test of one range, as the law writes it -/
def dueT (n x y : Int) : Bool := decide (x ≤ y) && decide ((n - x) * (y - n) ≥ 0)

theorem due_iff (n x y : Int) : dueT n x y = (decide (x ≤ n) && decide (n ≤ y)) := by
  unfold dueT
  rw [Bool.eq_iff_iff]
  simp only [Bool.and_eq_true, decide_eq_true_eq]
  constructor
  · rintro ⟨h1, h2⟩
    by_cases ha : x ≤ n
    · refine ⟨ha, ?_⟩
      by_cases hb : n ≤ y
      · exact hb
      · have h3 : 0 < n - x := by omega
        have h4 : y - n < 0 := by omega
        have := Int.mul_neg_of_pos_of_neg h3 h4
        omega
    · have h3 : n - x < 0 := by omega
      have h4 : 0 < y - n := by omega
      have := Int.mul_neg_of_neg_of_pos h3 h4
      omega
  · rintro ⟨h1, h2⟩
    refine ⟨by omega, Int.mul_nonneg (by omega) (by omega)⟩

theorem turn_raw {Q : Flow → Shared → Prop} {L fa R : Addr} {cd : Value} {m : Str → Option Value} {ts : List PT} {n : Int} {t : Tok} (X : Wd w mg mb s.heap) (hh : A.handled = none) (hroom : A.depth + 2 < recursionLimit) (hu : A.units + 64 < cLine) (hG : AllBare s.gens)
    (hns : s.heap.Ns L m) (hr : m (Str.ofString "ranges") = some (.ref R)) (hc : s.heap.IsCell (L + 1) (some (.int n t))) (hL : 47 < L) (hLR : L ≠ R) (hLT : ∀ p ∈ ts, L ≠ p.T)
    (hl : s.heap.IsList R (ts.map PT.v).toArray) (hts : Pairs s.heap ts) (hsz : ts.length ≤ sizeLine) (hmul : ∀ p ∈ ts, IntMulOk (n - p.x) (p.y - n))
    (hQ : ∀ s' v, s'.heap.Ns L (fun y => if y = Str.ofString "due" then some v else m y) → (∀ b o, b ≠ 30 → b ≠ L → s.heap.get? b = some o → s'.heap.get? b = some o) → Wd w mg mb s'.heap → AllBare s'.gens → s'.os = s.os → Q .next s') :
    wpAny (model pr w) A (execs (forBody nFor) (lawEnv L fa cd)) Q E s := by
  conv in forBody nFor => whnf
  unfold lawEnv
  conv in lawScope => whnf
  refine wpAny_execs_cons (wpAny_Assign_Name (wpAny_Compare1 ?_))
  refine comp_test (l := R) (ts := ts) (V := fun _ y => ∃ u, y = .int 1 u) (dueT n) hh (by with_unfolding_all rfl) (by decide) (by rfl) (by decide) (by rfl) (by rfl) (by decide) hl hts hsz ?_ ?_ ?_ ?_ ?_
  · intro Q' hq
    exact nmL hns hr hq (by rfl) (by rfl) (by decide)
  · intro E' C p u m₂ hp hnu hx hy hk
    have hcu : u.heap.IsCell (L + 1) (some (.int n t)) := hc.keeps hk
    refine isTrue_and (wpAny_isTrue_Compare1 (nmL hnu hx ?_ (by rfl) (by rfl) (by decide)))
    refine nmL hnu hy ?_ (by rfl) (by rfl) (by decide)
    refine le_int (wpAny_truthy_bool ?_)
    cases hd : decide (p.x ≤ p.y) with
    | false => exact ⟨by simp [dueT, hd], u.heap, u.toks, rfl, fun _ _ e => e⟩
    | true =>
      rw [if_pos rfl]
      refine isTrue_and (wpAny_isTrue_Compare1 (wpAny_BinOp (wpAny_BinOp ?_)))
      refine nmC (c := L + 1) (by rfl) hcu ?_ (by rfl) (by rfl) (by decide)
      refine nmL hnu hx ?_ (by rfl) (by rfl) (by decide)
      refine sub_int (wpAny_BinOp ?_)
      refine nmL hnu hy ?_ (by rfl) (by rfl) (by decide)
      refine nmC (c := L + 1) (by rfl) hcu ?_ (by rfl) (by rfl) (by decide)
      refine sub_int (mul_int ?_ (hmul p hp))
      refine wpAny_Constant_int (ge_int (wpAny_truthy_bool ?_))
      have e : dueT n p.x p.y = decide ((n - p.x) * (p.y - n) ≥ 0) := by simp [dueT, hd]
      cases hd2 : decide ((n - p.x) * (p.y - n) ≥ 0) with
      | false => exact ⟨by rw [e, hd2], _, _, rfl, fun _ _ e => e⟩
      | true =>
        rw [if_pos rfl]
        exact isTrue_and_nil ⟨by rw [e, hd2], _, _, rfl, fun _ _ e => e⟩
  · intro E' C p u m₂ hp hnu hx hy hk
    exact wpAny_Constant_int ⟨⟨_, rfl⟩, _, _, rfl, fun _ _ e => e⟩
  · intro D h' tk ys hk hD hDy hV
    have hys : ∃ zs : List Int, IntsAre ys zs ∧ zs.length = (ts.filter fun p => dueT n p.x p.y).length := by
      clear hDy
      generalize ts.filter (fun p => dueT n p.x p.y) = l at hV
      induction hV with
      | nil => exact ⟨[], .nil, rfl⟩
      | cons h _ ih =>
        obtain ⟨u, rfl⟩ := h
        obtain ⟨zs, h1, h2⟩ := ih
        exact ⟨1 :: zs, .cons 1 u h1, by simp [h2]⟩
    obtain ⟨zs, hz, hzl⟩ := hys
    have hlD : h'.IsList D ys.toArray := ⟨_, hDy, rfl, _, rfl⟩
    refine wpAny_List (spliced_nil ⟨Nat.zero_le _, ?_⟩)
    dsimp only
    generalize hH : h'.push { cls := .type "list", dict := none, data := .seq ([] : List Value).toArray } = H
    have hkH : ∀ b o, h'.get? b = some o → H.get? b = some o := fun b o e => hH ▸ Heap.get?_push_of_some _ e
    have hlE : H.IsList h'.objs.size ([] : List Value).toArray := ⟨_, hH ▸ Heap.get?_push_size _ rfl, rfl, _, rfl⟩
    refine ne_intsK (hlD.at fun o e => hkH _ o e) hz hlE .nil hu ?_
    have hdue : (!decide (zs = [])) = ts.any fun p => decide (p.x ≤ n) && decide (n ≤ p.y) := by
      have h1 : (ts.any fun p => decide (p.x ≤ n) && decide (n ≤ p.y)) = ts.any fun p => dueT n p.x p.y := by
        congr 1
        funext p
        exact (due_iff n p.x p.y).symm
      rw [h1, Bool.eq_iff_iff, List.any_eq_true]
      simp only [Bool.not_eq_true', decide_eq_false_iff_not]
      constructor
      · intro hne
        have hpos : 0 < (ts.filter fun p => dueT n p.x p.y).length := by
          rw [← hzl]; exact List.length_pos_iff.mpr hne
        obtain ⟨p, hp⟩ := List.exists_mem_of_length_pos hpos
        exact ⟨p, (List.mem_filter.mp hp).1, (List.mem_filter.mp hp).2⟩
      · rintro ⟨p, hp, hq⟩ he
        have hm : p ∈ ts.filter fun p => dueT n p.x p.y := List.mem_filter.mpr ⟨hp, hq⟩
        have := List.length_pos_of_mem hm
        rw [← hzl, he] at this
        exact absurd this (Nat.lt_irrefl _)
    rw [hdue]
    generalize hdv : (ts.any fun p => decide (p.x ≤ n) && decide (n ≤ p.y)) = dv
    have hk0 : ∀ b o, s.heap.get? b = some o → H.get? b = some o := fun b o e => hkH b o (hk b o e)
    refine wpAny_storeName_local (by rfl) (hns.at' fun o e => hk0 _ o e) (fun h₃ hns₃ hs₃ => ?_) (by rfl)
    dsimp only at hns₃ hs₃ ⊢
    have hs₃' : Heap.SameBut L H h₃ := hs₃
    have up : ∀ b o, b ≠ L → s.heap.get? b = some o → h₃.get? b = some o := fun b o hb e => hs₃'.extBut b o hb (hk0 b o e)
    have X₃ : Wd w mg mb h₃ := X.low fun b o hb e => up b o (Nat.ne_of_lt (Nat.lt_of_le_of_lt hb hL)) e
    have hc₃ : h₃.IsCell (L + 1) (some (.int n t)) := let ⟨o, ho, hd⟩ := hc; ⟨o, up _ _ (Nat.succ_ne_self L) ho, hd⟩
    have hl₃ : h₃.IsList R (ts.map PT.v).toArray := hl.at fun o e => up _ o (Ne.symm hLR) e
    have hts₃ : Pairs h₃ ts := hts.at fun p hp o e => up _ o (Ne.symm (hLT p hp)) e
    have hdue₃ : (fun y => if y = Str.ofString "due" then some (Value.bool dv) else m y) (Str.ofString "ranges") = some (.ref R) := hr
    refine wpAny_execs_cons (wpAny_If (isTrue_or (wpAny_isTrue_Compare1 (PyProof.Rows.Call_ ?_))))
    refine nmG X₃ (by rfl) ?_ (by rfl) (by rfl) (by rfl) (by decide)
    refine callWith_K X₃.K (by rfl) ?_
    refine spliced_more (nmC (c := L + 1) (by rfl) hc₃ ?_ (by rfl) (by rfl) (by decide))
    refine spliced_more (nmL hns₃ hdue₃ ?_ (by rfl) (by rfl) (by decide))
    refine spliced_nil ⟨X₃.K, ?_⟩
    refine in_raw X₃ hh hroom hG hl₃ hts₃ fun s₄ hk₄ X₄ hG₄ hos₄ => ?_
    rw [hdv]
    obtain ⟨ps₃, _, ht₃⟩ := X₃.tab
    have hL30 : L ≠ 30 := Nat.ne_of_gt (Nat.lt_trans (by decide) hL)
    have hns₄ := hns₃.at' fun o e => hk₄ _ o hL30 e
    refine nmL hns₄ (v := .bool dv) (by rfl) ?_ (by rfl) (by rfl) (by decide)
    refine ne_bool (wpAny_truthy_bool ?_)
    rw [show (dv != dv) = false from by cases dv <;> rfl]
    simp only [Bool.false_eq_true, if_false]
    refine isTrue_or (wpAny_isTrue_Compare1 (PyProof.Rows.Call_ ?_))
    refine nmG X₄ (by rfl) ?_ (by rfl) (by rfl) (by rfl) (by decide)
    refine callWith_K X₄.K (by rfl) ?_
    have hc₄ : s₄.heap.IsCell (L + 1) (some (.int n t)) := let ⟨o, ho, hd⟩ := hc₃; ⟨o, hk₄ _ _ (Nat.ne_of_gt (Nat.lt_trans (by decide) (Nat.lt_succ_of_lt hL))) ho, hd⟩
    refine spliced_more (nmC (c := L + 1) (by rfl) hc₄ ?_ (by rfl) (by rfl) (by decide))
    refine spliced_more (nmL hns₄ hdue₃ ?_ (by rfl) (by rfl) (by decide))
    refine spliced_nil ⟨X₄.K, ?_⟩
    refine within_raw X₄ hh (Nat.lt_of_succ_lt hroom) hG₄ (list_off hl₃ ht₃ hk₄) (Pairs.off hts₃ ht₃ hk₄) fun s₅ hk₅ X₅ hG₅ hos₅ => ?_
    rw [hdv]
    have hns₅ := hns₄.at' fun o e => hk₅ _ o hL30 e
    refine nmL hns₅ (v := .bool dv) (by rfl) ?_ (by rfl) (by rfl) (by decide)
    refine ne_bool (wpAny_truthy_bool ?_)
    rw [show (dv != dv) = false from by cases dv <;> rfl]
    simp only [Bool.false_eq_true, if_false]
    refine isTrue_or_nil ?_
    simp only [Bool.false_eq_true, if_false]
    refine wpAny_execs_nil ?_
    refine wpAny_execs_nil ?_
    exact hQ s₅ _ hns₅ (fun b o h30 hb e => hk₅ b o h30 (hk₄ b o h30 (up b o hb e))) X₅ hG₅ (hos₅.trans hos₄)
  · intro x; with_unfolding_all rfl
end

section
open PySem PySem.W PyProof.Rows PySem.Calls PyProof.Rows.LCg
variable {w : World} {mg mb : Str → Option Value} {A : Around} {E : Value → Shared → Prop} {s : Shared}

theorem add_raw {prog : Program} {l b : Addr} {vs ws : List Value} {n k : Nat} {Q : Value → Shared → Prop} (hl : IsL s.heap l vs.toArray n) (hb : IsL s.heap b ws.toArray k) (hsz : vs.length + ws.length ≤ sizeLine)
    (h : Q (.ref s.heap.objs.size) { s with heap := s.heap.push { cls := .type "list", data := .seq (vs ++ ws).toArray } }) :
    wpAny (model prog w) A (binaryOp .Add (.ref l) (.ref b)) Q E s :=
  PySem.P.add_list hl hb (by rw [show vs.toArray ++ ws.toArray = (vs ++ ws).toArray from by simp]; exact h) (by simpa using hsz)

theorem intsX : ∀ {ts : List PT} {ys : List Value}, All2 (fun p y => ∃ u, y = Value.int p.x u) ts ys → IntsAre ys (ts.map PT.x)
  | _, _, .nil => .nil
  | _, _, .cons ⟨u, e⟩ r => e ▸ .cons _ u (intsX r)
theorem intsY : ∀ {ts : List PT} {ys : List Value}, All2 (fun p y => ∃ u, y = Value.int p.y u) ts ys → IntsAre ys (ts.map PT.y)
  | _, _, .nil => .nil
  | _, _, .cons ⟨u, e⟩ r => e ▸ .cons _ u (intsY r)

/-- the ints that the second loop goes over -/
def nums (num : Int) (ts : List PT) : List Int := num :: (ts.map PT.x ++ ts.map PT.y)

theorem iter_raw {Q : Value → Shared → Prop} {L fa R : Addr} {cd : Value} {m : Str → Option Value} {ts : List PT} {num : Int} {t : Tok} (hh : A.handled = none)
    (hns : s.heap.Ns L m) (hr : m (Str.ofString "ranges") = some (.ref R)) (hnum : m (Str.ofString "number") = some (.int num t))
    (hl : s.heap.IsList R (ts.map PT.v).toArray) (hts : Pairs s.heap ts) (hsz : 2 * ts.length + 1 ≤ sizeLine)
    (hQ : ∀ D h' tk vals, (∀ b o, s.heap.get? b = some o → h'.get? b = some o) → h'.IsList D vals.toArray → s.heap.objs.size ≤ D → IntsAre vals (nums num ts) → Q (.ref D) { s with heap := h', toks := tk }) :
    wpAny (model pr w) A (eval (forIter nFor) (lawEnv L fa cd)) Q E s := by
  conv in forIter nFor => whnf
  unfold lawEnv
  conv in lawScope => whnf
  refine wpAny_BinOp (wpAny_BinOp (wpAny_List (spliced_more ?_)))
  refine nmL hns hnum ?_ (by rfl) (by rfl) (by decide)
  refine spliced_nil ⟨by show (1 : Nat) ≤ sizeLine; omega, ?_⟩
  try dsimp only
  generalize hH1 : s.heap.push { cls := .type "list", dict := none, data := .seq ([Value.int num t] : List Value).toArray } = H1
  have k1 : ∀ b o, s.heap.get? b = some o → H1.get? b = some o := fun b o e => hH1 ▸ Heap.get?_push_of_some _ e
  have l1 : IsL H1 s.heap.objs.size [Value.int num t].toArray 0 := hH1 ▸ Heap.get?_push_size _ rfl
  refine comp_plain (l := R) (ts := ts) (V := fun p y => ∃ u, y = .int p.x u) hh (by with_unfolding_all rfl) (by decide) (by rfl) (by decide) (by rfl) (by rfl) (by decide) (hl.at fun o e => k1 _ o e) (hts.at fun p _ o e => k1 _ o e) (by omega) ?_ ?_ ?_ ?_
  · intro Q' hq
    exact nmL (hns.keeps k1) hr hq (by rfl) (by rfl) (by decide)
  · intro E' C p u m₂ hp hnu hx hy hk
    exact nmL hnu hx ⟨⟨_, rfl⟩, _, _, rfl, fun _ _ e => e⟩ (by rfl) (by rfl) (by decide)
  · intro D h₂ tk₂ xs k2 hD hDx hV
    have i2 := intsX hV
    refine add_raw (k2 _ _ l1) hDx (by rw [i2.length]; simp; omega) ?_
    try dsimp only
    generalize hH3 : h₂.push { cls := .type "list", dict := none, data := .seq ([Value.int num t] ++ xs).toArray } = H3
    have k3 : ∀ b o, h₂.get? b = some o → H3.get? b = some o := fun b o e => hH3 ▸ Heap.get?_push_of_some _ e
    have l3 : IsL H3 h₂.objs.size ([Value.int num t] ++ xs).toArray 0 := hH3 ▸ Heap.get?_push_size _ rfl
    have k13 : ∀ b o, s.heap.get? b = some o → H3.get? b = some o := fun b o e => k3 b o (k2 b o (k1 b o e))
    refine comp_plain (l := R) (ts := ts) (V := fun p y => ∃ u, y = .int p.y u) hh (by with_unfolding_all rfl) (by decide) (by rfl) (by decide) (by rfl) (by rfl) (by decide) (hl.at fun o e => k13 _ o e) (hts.at fun p _ o e => k13 _ o e) (by omega) ?_ ?_ ?_ ?_
    · intro Q' hq
      exact nmL (hns.keeps k13) hr hq (by rfl) (by rfl) (by decide)
    · intro E' C p u m₂ hp hnu hx hy hk
      exact nmL hnu hy ⟨⟨_, rfl⟩, _, _, rfl, fun _ _ e => e⟩ (by rfl) (by rfl) (by decide)
    · intro D' h₄ tk₄ ys k4 hD' hDy hV'
      have i4 := intsY hV'
      refine add_raw (k4 _ _ l3) hDy (by rw [i4.length]; simp [i2.length]; omega) ?_
      try dsimp only
      refine hQ _ _ _ ([Value.int num t] ++ xs ++ ys) (fun b o e => Heap.get?_push_of_some _ (k4 b o (k13 b o e))) ⟨_, Heap.get?_push_size _ rfl, rfl, _, rfl⟩ ?_ ?_
      · have h1 : s.heap.objs.size < H1.objs.size := by rw [← hH1, Heap.size_push]; exact Nat.lt_succ_self _
        have h2 : D < h₂.objs.size := Heap.lt_size hDx
        have h3 : h₂.objs.size < H3.objs.size := by rw [← hH3, Heap.size_push]; exact Nat.lt_succ_self _
        have h4 : D' < h₄.objs.size := Heap.lt_size hDy
        exact Nat.le_of_lt (Nat.lt_trans (Nat.lt_of_lt_of_le h1 hD) (Nat.lt_trans h2 (Nat.lt_trans (Nat.lt_of_lt_of_le h3 hD') h4)))
      · exact .cons num t (i2.append i4)
    · intro x; with_unfolding_all rfl
  · intro x; with_unfolding_all rfl
end

section
open PySem PySem.W PyProof.Rows PySem.Calls PyProof.Rows.LCg
variable {w : World} {mg mb : Str → Option Value} {A : Around} {E : Value → Shared → Prop} {s : Shared}

theorem nloop_raw {Q : Flow → Shared → Prop} {L fa R : Addr} {cd : Value} {m : Str → Option Value} {ts : List PT} {num : Int} {t : Tok} {v₀ : Option Value} (X : Wd w mg mb s.heap) (hh : A.handled = none) (hroom : A.depth + 2 < recursionLimit) (hu : A.units + 64 < cLine) (hG : AllBare s.gens)
    (hns : s.heap.Ns L m) (hr : m (Str.ofString "ranges") = some (.ref R)) (hnum : m (Str.ofString "number") = some (.int num t)) (hc : s.heap.IsCell (L + 1) v₀) (hL : 47 < L)
    (hLR : L ≠ R) (hLT : ∀ p ∈ ts, L ≠ p.T)
    (hl : s.heap.IsList R (ts.map PT.v).toArray) (hts : Pairs s.heap ts) (hsz : 2 * ts.length + 1 ≤ sizeLine)
    (hmul : ∀ n ∈ nums num ts, ∀ p ∈ ts, IntMulOk (n - p.x) (p.y - n))
    (hQ : ∀ s' m', s'.heap.Ns L m' → (∀ y, y ≠ Str.ofString "due" → m' y = m y) → (∀ b o, b ≠ 30 → b ≠ L → b ≠ L + 1 → s.heap.get? b = some o → s'.heap.get? b = some o) → Wd w mg mb s'.heap → AllBare s'.gens → s'.os = s.os → Q .next s') :
    wpAny (model pr w) A (exec nFor (lawEnv L fa cd)) Q E s := by
  have hdef : ∃ pn pos, nFor = .For (.Name (Str.ofString "n") pn) (forIter nFor) (forBody nFor) [] pos := ⟨_, _, rfl⟩
  obtain ⟨pn, pos, hdef⟩ := hdef
  rw [hdef]
  generalize hB : forBody nFor = body
  refine wpAny_For (iter_raw hh hns hr hnum hl hts hsz fun D h₁ tk₁ vals k1 hD hDs hi => ?_) (hs := by intro _; rfl)
  have hDlt : D < h₁.objs.size := by obtain ⟨_, e, _⟩ := hD; exact Heap.lt_size e
  refine wpAny_pyIter_list hD ?_
  dsimp only
  generalize hH : h₁.push { cls := .type "list_iterator", data := .fields #[.ref D, .int 0 0] } = H
  have k2 : ∀ b o, h₁.get? b = some o → H.get? b = some o := fun b o e => hH ▸ Heap.get?_push_of_some _ e
  have hit : H.IsListIter h₁.objs.size D 0 := ⟨_, hH ▸ Heap.get?_push_size _ rfl, rfl, rfl⟩
  generalize hI : h₁.objs.size = I at hit hDlt
  have lt0 : ∀ b o, s.heap.get? b = some o → b < D := fun b o e => Nat.lt_of_lt_of_le (Heap.lt_size e) hDs
  have k0 : ∀ b o, s.heap.get? b = some o → H.get? b = some o := fun b o e => k2 b o (k1 b o e)
  have hLlt : L < D := Nat.lt_of_lt_of_le hns.lt hDs
  have hclt : L + 1 < D := by obtain ⟨o, e, _⟩ := hc; exact lt0 _ _ e
  have hlen : (nums num ts).length = vals.length := hi.length.symm
  obtain ⟨ps₀, _, htab₀⟩ := X.tab
  have hD30 : D ≠ 30 := Nat.ne_of_gt (Nat.lt_trans (Nat.lt_trans (by decide) hL) hLlt)
  have hI30 : I ≠ 30 := Nat.ne_of_gt (Nat.lt_trans (Nat.lt_trans (Nat.lt_trans (by decide) hL) hLlt) hDlt)
  have hR30 : R ≠ 30 := fun e => by
    obtain ⟨o, ho, hcl, _⟩ := hl
    rw [e, htab₀.2] at ho; cases ho; cases hcl
  have hT30 : ∀ p ∈ ts, p.T ≠ 30 := fun p hp e => by
    obtain ⟨o, ho, hcl, _⟩ := hts p hp
    rw [e, htab₀.2] at ho; cases ho; cases hcl
  have hRc : R ≠ L + 1 := fun e => by
    obtain ⟨o, ho, _, _, hd⟩ := hl
    obtain ⟨o', ho', hd'⟩ := hc
    rw [e, ho'] at ho; cases ho; rw [hd'] at hd; cases hd
  have hTc : ∀ p ∈ ts, p.T ≠ L + 1 := fun p hp e => by
    obtain ⟨o, ho, _, _, hd⟩ := hts p hp
    obtain ⟨o', ho', hd'⟩ := hc
    rw [e, ho'] at ho; cases ho; rw [hd'] at hd; cases hd
  have hRD : R < D := by obtain ⟨o, ho, _⟩ := hl; exact lt0 _ _ ho
  have hTD : ∀ p ∈ ts, p.T < D := fun p hp => by obtain ⟨o, ho, _⟩ := hts p hp; exact lt0 _ _ ho
  refine codeAny_forLoop
    (fun k s' => ∃ i m', i ≤ vals.length ∧ k = vals.length + 1 - i ∧ s'.heap.IsListIter I D i ∧ s'.heap.Ns L m' ∧ (∀ y, y ≠ Str.ofString "due" → m' y = m y) ∧ (∃ v, s'.heap.IsCell (L + 1) v) ∧
      (∀ b o, b ≠ 30 → b ≠ L → b ≠ L + 1 → b ≠ I → H.get? b = some o → s'.heap.get? b = some o) ∧ Wd w mg mb s'.heap ∧ AllBare s'.gens ∧ s'.os = s.os) ?_ (vals.length + 1)
    ⟨0, m, Nat.zero_le _, rfl, hit, hns.at' fun o e => k0 _ o e, fun _ _ => rfl, ⟨v₀, let ⟨o, ho, hd⟩ := hc; ⟨o, k0 _ _ ho, hd⟩⟩, fun b o _ _ _ _ e => e, X.keeps k0, hG, rfl⟩ (by intro _; rfl)
  rintro k s' ⟨i, m', hi', rfl, hit', hns', hm', ⟨v, hc'⟩, hk', X', hG', hos'⟩
  have hD' : s'.heap.IsList D vals.toArray := (hD.at fun o e => k2 _ o e).at fun o e => hk' D o hD30 (Nat.ne_of_gt hLlt) (Nat.ne_of_gt hclt) (Nat.ne_of_lt hDlt) e
  by_cases hlt : i < vals.length
  · have hlt' : i < (nums num ts).length := hlen ▸ hlt
    obtain ⟨u, hx⟩ := hi.get i (nums num ts)[i] (by simp [hlt'])
    generalize hn : (nums num ts)[i] = n at hx
    have hmem : n ∈ nums num ts := hn ▸ List.getElem_mem hlt'
    refine wpAny_pyNext_list_item hit' hD' (x := .int n u) (by simpa using hx) fun h₂ hit₂ hs₂ => ?_
    dsimp only
    have up₂ : ∀ b o, b ≠ I → s'.heap.get? b = some o → h₂.get? b = some o := fun b o hb e => hs₂.extBut b o hb e
    have hLI : L ≠ I := Nat.ne_of_lt (Nat.lt_trans hLlt hDlt)
    have hcI : L + 1 ≠ I := Nat.ne_of_lt (Nat.lt_trans hclt hDlt)
    have hc₂ : h₂.IsCell (L + 1) v := let ⟨o, ho, hd⟩ := hc'; ⟨o, up₂ _ _ hcI ho, hd⟩
    refine wpAny_assign_Name (wpAny_storeName_cell (c := L + 1) (by rfl) (by rfl) (by rfl) hc₂ fun h₃ hv₃ hs₃ => ?_)
    dsimp only at hs₃ ⊢
    have up₃ : ∀ b o, b ≠ I → b ≠ L + 1 → s'.heap.get? b = some o → h₃.get? b = some o := fun b o hb hb' e => hs₃.extBut b o hb' (up₂ b o hb e)
    have kk : ∀ b o, b ≠ 30 → b ≠ L → b < D → b ≠ L + 1 → s.heap.get? b = some o → h₃.get? b = some o := fun b o h1 h2 h3 h4 e =>
      have hbI := Nat.ne_of_lt (Nat.lt_trans h3 hDlt)
      up₃ b o hbI h4 (hk' b o h1 h2 h4 hbI (k0 b o e))
    have X₃ : Wd w mg mb h₃ := X'.low fun b o hb e => up₃ b o (Nat.ne_of_lt (Nat.lt_of_le_of_lt hb (Nat.lt_trans hL (Nat.lt_trans hLlt hDlt)))) (Nat.ne_of_lt (Nat.lt_of_le_of_lt hb (Nat.lt_succ_of_lt hL))) e
    have hit₃ : h₃.IsListIter I D (i + 1) := let ⟨o, ho, r⟩ := hit₂; ⟨o, hs₃.extBut _ _ (Ne.symm hcI) ho, r⟩
    rw [← hB]
    refine turn_raw (R := R) (ts := ts) (n := n) (t := u) X₃ hh hroom hu hG' (hns'.at' fun o e => up₃ _ o hLI (Nat.ne_of_lt (Nat.lt_succ_self L)) e) ((hm' _ (by decide)).trans hr) hv₃ hL hLR hLT
      (hl.at fun o e => kk _ o hR30 (Ne.symm hLR) hRD hRc e) (hts.at fun p hp o e => kk _ o (hT30 p hp) (Ne.symm (hLT p hp)) (hTD p hp) (hTc p hp) e) (by omega) (hmul n hmem) fun s₄ v₄ hns₄ hk₄ X₄ hG₄ hos₄ => ?_
    refine ⟨vals.length + 1 - (i + 1), by omega, i + 1, _, hlt, rfl, ?_, hns₄, ?_, ?_, ?_, X₄, hG₄, hos₄.trans hos'⟩
    · obtain ⟨o, ho, r⟩ := hit₃
      exact ⟨o, hk₄ _ _ hI30 (Ne.symm hLI) ho, r⟩
    · intro y hy
      show (if y = Str.ofString "due" then some v₄ else m' y) = m y
      rw [if_neg hy]
      exact hm' y hy
    · obtain ⟨o, ho, hd⟩ := hv₃
      exact ⟨_, o, hk₄ _ _ (Nat.ne_of_gt (Nat.lt_trans (by decide) (Nat.lt_succ_of_lt hL))) (Nat.succ_ne_self L) ho, hd⟩
    · intro b o h1 h2 h3 h4 e
      exact hk₄ b o h1 h2 (up₃ b o h4 h3 (hk' b o h1 h2 h3 h4 e))
  · have hin : i = vals.length := Nat.le_antisymm hi' (Nat.not_lt.mp hlt)
    subst hin
    refine wpAny_pyNext_list_end hh hit' hD' (by simp) fun h₂ he => ?_
    dsimp only
    refine wpAny_execs_nil ?_
    have up₂ : ∀ b o, b ≠ I → s'.heap.get? b = some o → h₂.get? b = some o := fun b o hb e => he b o hb e
    refine hQ _ m' (hns'.at' fun o e => up₂ _ o (Nat.ne_of_lt (Nat.lt_trans hLlt hDlt)) e) hm' (fun b o h1 h2 h3 e => ?_) (X'.low fun b o hb e => up₂ b o (Nat.ne_of_lt (Nat.lt_of_le_of_lt hb (Nat.lt_trans hL (Nat.lt_trans hLlt hDlt)))) e) hG' hos'
    have hbI := Nat.ne_of_lt (Nat.lt_trans (lt0 b o e) hDlt)
    exact up₂ b o hbI (hk' b o h1 h2 h3 hbI (k0 b o e))
end

section
open PySem PySem.W PyProof.Rows PySem.Calls PyProof.Rows.LCg
variable {w : World} {mg mb : Str → Option Value} {A : Around} {E : Value → Shared → Prop} {s : Shared}

theorem assign_four {M : Model} {env : Env} {t₁ t₂ t₃ t₄ value : Expr} {pos : Pos} {Q : Flow → Shared → Prop}
    (h : wpAny M A (eval value env) (fun v s₁ => wpAny M A (assign t₁ env v) (fun _ s₂ => wpAny M A (assign t₂ env v) (fun _ s₃ => wpAny M A (assign t₃ env v) (fun _ s₄ => wpAny M A (assign t₄ env v) (fun _ => Q .next) E s₄) E s₃) E s₂) E s₁) E s)
    (he : (assignEach [t₁, t₂, t₃, t₄] env).map (·.2) = [assign t₁ env, assign t₂ env, assign t₃ env, assign t₄ env] := by rfl)
    (hw : swappedStores [t₁, t₂, t₃, t₄] value env = pure none := by rfl) :
    wpAny M A (exec (.Assign [t₁, t₂, t₃, t₄] value pos) env) Q E s := by
  refine wpAny_Assign_stores (wpAny_mono h (fun v s₁ h₁ => ?_) fun _ _ x => x) rfl hw
  rw [he]
  exact wpAny_bind (wpAny_holding (wpAny_mono h₁ (fun _ s₂ h₂ => wpAny_bind (wpAny_holding (wpAny_mono h₂ (fun _ s₃ h₃ => wpAny_bind (wpAny_holding h₃)) fun _ _ x => x))) fun _ _ x => x))

theorem stL {env : Env} {x : Str} {v : Value} {m : Str → Option Value} {Q : Unit → Shared → Prop} {pos : Pos} (hn : s.heap.Ns env.locals m)
    (h : ∀ h', h'.Ns env.locals (fun y => if y = x then some v else m y) → Heap.SameBut env.locals s.heap h' → Q () { s with heap := h', toks := s.toks + 1 })
    (hx : env.kindOf x = some .local) (hp : (env.scope.kind == .class || (env.scope.kind == .module && env.locals != env.globals)) = false) :
    wpAny (model pr w) A (assign (.Name x pos) env v) Q E s := wpAny_assign_Name (wpAny_storeName_local hx hn h hp)

theorem extract_raw {Q : Value → Shared → Prop} {n : Int} {t : Tok} (X : Wd w mg mb s.heap) (hroom : A.depth < recursionLimit)
    (hQ : ∀ a s' ts, (∀ b o, s.heap.get? b = some o → s'.heap.get? b = some o) → s'.heap.IsTuple a (ts : List Value).toArray → IntsAre ts [if n < 0 then -n else n, if n < 0 then -n else n, 0, 0, 0, 0, 0, 0] → s'.gens = s.gens → s'.os = s.os → Q (.ref a) s') :
    wpAny (model pr w) A (call (.ref 21) [.int n t]) Q E s := by
  have hcd : s.heap.CodeRec (.ref 20) (Str.ofString "extract_operands") := ⟨20, _, _, _, rfl, X.K 20 _ rfl, rfl, rfl⟩
  refine wpAny_call (codeAny_call_def hroom (X.K 21 _ rfl) rfl X.T.nolimit hcd rfl (BindsTo.of_eq rfl) (by decide) (locs rfl) (fun h₁ hns hk₁ => ?_) (by rfl) (by rfl) (by rfl))
  have X₁ : Wd w mg mb h₁ := X.keeps hk₁
  generalize hLL : s.heap.objs.size = L at hns
  have hlt : ∀ b o, s.heap.get? b = some o → b ≠ L := fun b o e => Nat.ne_of_lt (hLL ▸ Heap.lt_size e)
  refine wpAny_execs_cons (wpAny_Assign_Name (PyProof.Rows.Call_ ?_))
  refine nmB X₁ (by rfl) PyProof.Rows.boot_abs (by decide) ?_ (by rfl) (by rfl) (by rfl) (by rfl) (by decide)
  refine PySem.callWith_builtin1 ?_
  refine nmL hns (by rfl) ?_ (by rfl) (by rfl) (by decide)
  refine call_abs_int fun u tk => ?_
  generalize (if n < 0 then -n else n) = an at hQ
  refine wpAny_storeName_local (by rfl) hns (fun h₂ hns₂ hs₂ => ?_) (by rfl)
  try dsimp only at hns₂ hs₂ ⊢
  have hs₂' : Heap.SameBut L h₁ h₂ := hs₂
  have k₂ : ∀ b o, b ≠ L → s.heap.get? b = some o → h₂.get? b = some o := fun b o hb e => hs₂'.extBut b o hb (hk₁ b o e)
  have X₂ : Wd w mg mb h₂ := X.low fun b o _ e => k₂ b o (hlt b o e) e
  refine wpAny_execs_cons (wpAny_Assign_Name (PyProof.Rows.Call_ ?_))
  refine nmB X₂ (by rfl) PyProof.Rows.boot_int (by decide) ?_ (by rfl) (by rfl) (by rfl) (by rfl) (by decide)
  refine PySem.callWith_type1 ?_
  refine nmL hns₂ (by rfl) ?_ (by rfl) (by rfl) (by decide)
  refine call_int_int ?_
  refine wpAny_storeName_local (by rfl) hns₂ (fun h₃ hns₃ hs₃ => ?_) (by rfl)
  try dsimp only at hns₃ hs₃ ⊢
  have hs₃' : Heap.SameBut L h₂ h₃ := hs₃
  refine wpAny_execs_cons (assign_four (wpAny_Constant_int ?_))
  refine stL hns₃ (fun h₄ hns₄ hs₄ => ?_) (by rfl) (by rfl)
  refine stL hns₄ (fun h₅ hns₅ hs₅ => ?_) (by rfl) (by rfl)
  refine stL hns₅ (fun h₆ hns₆ hs₆ => ?_) (by rfl) (by rfl)
  refine stL hns₆ (fun h₇ hns₇ hs₇ => ?_) (by rfl) (by rfl)
  refine wpAny_execs_cons (wpAny_Assign_two (wpAny_Constant_int ?_))
  refine stL hns₇ (fun h₈ hns₈ hs₈ => ?_) (by rfl) (by rfl)
  refine stL hns₈ (fun h₉ hns₉ hs₉ => ?_) (by rfl) (by rfl)
  have hs₄' : Heap.SameBut L h₃ h₄ := hs₄
  have hs₅' : Heap.SameBut L h₄ h₅ := hs₅
  have hs₆' : Heap.SameBut L h₅ h₆ := hs₆
  have hs₇' : Heap.SameBut L h₆ h₇ := hs₇
  have hs₈' : Heap.SameBut L h₇ h₈ := hs₈
  have hs₉' : Heap.SameBut L h₈ h₉ := hs₉
  have k₉ : ∀ b o, s.heap.get? b = some o → h₉.get? b = some o := fun b o e =>
    have hb := hlt b o e
    (((((((hs₃'.trans hs₄').trans hs₅').trans hs₆').trans hs₇').trans hs₈').trans hs₉').extBut) b o hb (k₂ b o hb e)
  refine wpAny_execs_cons (wpAny_Return_some (wpAny_Tuple ?_))
  refine spliced_more (nmL hns₉ (by rfl) ?_ (by rfl) (by rfl) (by decide))
  refine spliced_more (nmL hns₉ (by rfl) ?_ (by rfl) (by rfl) (by decide))
  refine spliced_more (nmL hns₉ (by rfl) ?_ (by rfl) (by rfl) (by decide))
  refine spliced_more (nmL hns₉ (by rfl) ?_ (by rfl) (by rfl) (by decide))
  refine spliced_more (nmL hns₉ (by rfl) ?_ (by rfl) (by rfl) (by decide))
  refine spliced_more (nmL hns₉ (by rfl) ?_ (by rfl) (by rfl) (by decide))
  refine spliced_more (nmL hns₉ (by rfl) ?_ (by rfl) (by rfl) (by decide))
  refine spliced_more (nmL hns₉ (by rfl) ?_ (by rfl) (by rfl) (by decide))
  refine spliced_nil ⟨by show (8 : Nat) ≤ sizeLine; decide, ?_⟩
  exact hQ _ _ _ (fun b o e => Heap.get?_push_of_some _ (k₉ b o e)) ⟨_, Heap.get?_push_size _ rfl, rfl, _, rfl⟩ (.cons _ _ (.cons _ _ (.cons _ _ (.cons _ _ (.cons _ _ (.cons _ _ (.cons _ _ (.cons _ _ .nil)))))))) rfl rfl
end

section
open PySem PySem.W PyProof.Rows PySem.Calls PyProof.Rows.LCg PySem.SeqAt
variable {w : World} {mg mb : Str → Option Value} {A : Around} {E : Value → Shared → Prop} {s : Shared}

theorem reads_tup {h : Heap} {a : Addr} {vs : List Value} {ns : List Int} (hl : h.IsTuple a vs.toArray) (hi : IntsAre vs ns) : ∃ as, Reads h (.ref a) (.tuple (ns.map PyData.int)) as := by
  obtain ⟨o, ho, hc, n, hd⟩ := hl
  exact ⟨_, Reads.tuple ho hc hd (by simpa using readsAll_of_ints hi)⟩
theorem shaped_tup (ns : List Int) : SeqAt.shaped (.tuple (ns.map PyData.int)) = true := by
  simp [SeqAt.shaped, PyData.canLay0, PyData.depth, ke_canLayAll0, ke_depthAll]

def retStmt : Stmt := tailBody.getD 3 (.Pass default)

theorem ret_raw {Q : Flow → Shared → Prop} {L fa : Addr} {cd : Value} {m : Str → Option Value} {n : Int} {t : Tok} (X : Wd w mg mb s.heap) (hroom : A.depth < recursionLimit) (hu : A.units + 64 < cLine)
    (hns : s.heap.Ns L m) (hnum : m (Str.ofString "number") = some (.int n t))
    (hQ : ∀ s', (∀ b o, s.heap.get? b = some o → s'.heap.get? b = some o) → s'.gens = s.gens → s'.os = s.os → Q (.ret (.bool true)) s') :
    wpAny (model pr w) A (exec retStmt (lawEnv L fa cd)) Q E s := by
  conv in retStmt => whnf
  unfold lawEnv
  conv in lawScope => whnf
  refine wpAny_Return_some (wpAny_Compare1 (PyProof.Rows.Call_ ?_))
  refine nmG X (by rfl) ?_ (by rfl) (by rfl) (by rfl) (by decide)
  refine callWith_K X.K (by rfl) ?_
  refine spliced_more (nmL hns hnum ?_ (by rfl) (by rfl) (by decide))
  refine spliced_nil ⟨X.K, ?_⟩
  refine extract_raw X hroom fun a s₁ ts hk hT hi hg hos => ?_
  have X₁ : Wd w mg mb s₁.heap := X.keeps hk
  have hns₁ := hns.keeps hk
  refine wpAny_Tuple ?_
  refine spliced_more (PyProof.Rows.Call_ ?_)
  refine nmB X₁ (by rfl) PyProof.Rows.boot_abs (by decide) ?_ (by rfl) (by rfl) (by rfl) (by rfl) (by decide)
  refine PySem.callWith_builtin1 ?_
  refine nmL hns₁ hnum ?_ (by rfl) (by rfl) (by decide)
  refine call_abs_int fun u tk => ?_
  refine spliced_more (PyProof.Rows.Call_ ?_)
  refine nmB (s := { s₁ with toks := tk }) X₁ (by rfl) PyProof.Rows.boot_abs (by decide) ?_ (by rfl) (by rfl) (by rfl) (by rfl) (by decide)
  refine PySem.callWith_builtin1 ?_
  refine nmL (s := { s₁ with toks := tk }) hns₁ hnum ?_ (by rfl) (by rfl) (by decide)
  refine call_abs_int fun u' tk' => ?_
  refine spliced_more (wpAny_Constant_int ?_)
  refine spliced_more (wpAny_Constant_int ?_)
  refine spliced_more (wpAny_Constant_int ?_)
  refine spliced_more (wpAny_Constant_int ?_)
  refine spliced_more (wpAny_Constant_int ?_)
  refine spliced_more (wpAny_Constant_int ?_)
  refine spliced_nil ⟨by show (8 : Nat) ≤ sizeLine; decide, ?_⟩
  dsimp only
  generalize hH : s₁.heap.push _ = H
  have hkH : ∀ b o, s₁.heap.get? b = some o → H.get? b = some o := fun b o e => hH ▸ Heap.get?_push_of_some _ e
  have hT2 : H.IsTuple s₁.heap.objs.size _ := ⟨_, hH ▸ Heap.get?_push_size _ rfl, rfl, _, rfl⟩
  obtain ⟨as₁, r₁⟩ := reads_tup (hT.at fun o e => hkH _ o e) hi
  obtain ⟨as₂, r₂⟩ := reads_tup hT2 (.cons _ _ (.cons _ _ (.cons _ _ (.cons _ _ (.cons _ _ (.cons _ _ (.cons _ _ (.cons _ _ .nil))))))))
  refine eq_dataH_same r₁ r₂ (shaped_tup _) (shaped_tup _) hu (by simp only [noMix]; exact noMix_ints _ _) ?_
  have e : ∀ l : List Int, Spec.same (.tuple (l.map PyData.int)) (.tuple (l.map PyData.int)) = true := fun l => by
    simp only [Spec.same, same_ints, decide_true]
  rw [e]
  exact hQ _ (fun b o e => hkH b o (hk b o e)) hg hos
end

section
open PySem PySem.W PyProof.Rows PySem.Calls PyProof.Rows.LCg PySem.SeqAt
variable {w : World} {mg mb : Str → Option Value} {A : Around} {E : Value → Shared → Prop} {s : Shared}

/-- where the first loop ends -/
def kEnd (len : Nat) : Int := (if (12 : Int) < len then 12 else (len : Int)) - 1
theorem kEnd_facts (len : Nat) : ∃ n : Nat, Builtin.Range.small 2 (kEnd len) 2 = true ∧ Builtin.Range.rangeSize 2 (kEnd len) 2 = (n : Int) ∧ n ≤ 5 ∧ ∀ i < n, 2 + 2 * i + 1 < len := by
  by_cases h : (12 : Int) < len
  · have e : kEnd len = 11 := by unfold kEnd; rw [if_pos h]; rfl
    rw [e]
    exact ⟨5, by decide, by decide, by decide, fun i hi => by omega⟩
  · have h12 : len ≤ 12 := by omega
    have e : kEnd len = (len : Int) - 1 := by unfold kEnd; rw [if_neg h]
    rw [e]
    clear h e
    have : len = 0 ∨ len = 1 ∨ len = 2 ∨ len = 3 ∨ len = 4 ∨ len = 5 ∨ len = 6 ∨ len = 7 ∨ len = 8 ∨ len = 9 ∨ len = 10 ∨ len = 11 ∨ len = 12 := by omega
    rcases this with rfl | rfl | rfl | rfl | rfl | rfl | rfl | rfl | rfl | rfl | rfl | rfl | rfl
    · exact ⟨0, by decide, by decide, by decide, fun i hi => by omega⟩
    · exact ⟨0, by decide, by decide, by decide, fun i hi => by omega⟩
    · exact ⟨0, by decide, by decide, by decide, fun i hi => by omega⟩
    · exact ⟨0, by decide, by decide, by decide, fun i hi => by omega⟩
    · exact ⟨1, by decide, by decide, by decide, fun i hi => by omega⟩
    · exact ⟨1, by decide, by decide, by decide, fun i hi => by omega⟩
    · exact ⟨2, by decide, by decide, by decide, fun i hi => by omega⟩
    · exact ⟨2, by decide, by decide, by decide, fun i hi => by omega⟩
    · exact ⟨3, by decide, by decide, by decide, fun i hi => by omega⟩
    · exact ⟨3, by decide, by decide, by decide, fun i hi => by omega⟩
    · exact ⟨4, by decide, by decide, by decide, fun i hi => by omega⟩
    · exact ⟨4, by decide, by decide, by decide, fun i hi => by omega⟩
    · exact ⟨5, by decide, by decide, by decide, fun i hi => by omega⟩

theorem blen : bootBuiltins (Str.ofString "len") = some (.builtin "len") := by decide +kernel

theorem kiter_raw {Q : Value → Shared → Prop} {L fa l : Addr} {cd : Value} {m : Str → Option Value} {vs : List Value} (X : Wd w mg mb s.heap) (hh : A.handled = none)
    (hns : s.heap.Ns L m) (hscr : m (Str.ofString "script") = some (.ref l)) (hl : s.heap.IsList l vs.toArray) (hlen : vs.length ≤ 63)
    (hQ : ∀ r h' tk t u v, (∀ b o, s.heap.get? b = some o → h'.get? b = some o) → (∀ b o, s.heap.get? b = some o → b < r) → IsRange h' r 2 (kEnd vs.length) 2 t u v → Q (.ref r) { s with heap := h', toks := tk }) :
    wpAny (model pr w) A (eval (forIter kFor) (lawEnv L fa cd)) Q E s := by
  conv in forIter kFor => whnf
  unfold lawEnv
  conv in lawScope => whnf
  refine PyProof.Rows.Call_ ?_
  refine nmB X (by rfl) PyProof.Rows.boot_range (by decide) ?_ (by rfl) (by rfl) (by rfl) (by rfl) (by decide)
  refine PyProof.Rows.callWith_type1 ?_
  refine spliced_more (wpAny_Constant_int ?_)
  refine spliced_more (wpAny_BinOp (PyProof.Rows.Call_ ?_))
  refine nmB (s := { s with toks := s.toks + 1 }) X (by rfl) PyProof.Rows.boot_min (by decide) ?_ (by rfl) (by rfl) (by rfl) (by rfl) (by decide)
  refine PyProof.Rows.callWith_builtin1 ?_
  refine spliced_more (PyProof.Rows.Call_ ?_)
  refine nmB (s := { s with toks := s.toks + 1 }) X (by rfl) blen (by decide) ?_ (by rfl) (by rfl) (by rfl) (by rfl) (by decide)
  refine PySem.callWith_builtin1 ?_
  refine nmL (s := { s with toks := s.toks + 1 }) hns hscr ?_ (by rfl) (by rfl) (by decide)
  refine call_len_list hl (by simp; omega) ?_
  refine spliced_more (wpAny_Constant_int ?_)
  refine spliced_nil ?_
  refine PySem.Flt.min_two_num hh (.int _ _) (.int _ _) fun h₁ tk₁ k1 => ?_
  replace k1 : ∀ b o, s.heap.get? b = some o → h₁.get? b = some o := k1
  have fin : ∀ (tk₂ : Nat) (u : Tok), wpAny (model pr w) A (call (.type "range") [.int 2 s.toks, .int (kEnd vs.length) u, .int 2 tk₂]) Q E { s with heap := h₁, toks := tk₂ + 1 } := fun tk₂ u => by
    refine call_range_3 (by decide) ?_ (.inl (PyProof.noPylong_small (by decide)))
    exact hQ _ _ _ _ _ _ (fun b o e => Heap.get?_push_of_some _ (k1 b o e)) (fun b o e => Heap.lt_size (k1 b o e)) (IsRange.new ..)
  have e0 : ∀ a b : Tok, PySem.Flt.ltV (.int 12 a) (.int (vs.toArray.size : Nat) b) = decide ((12 : Int) < vs.length) := fun a b => by simp [PySem.Flt.ltV]
  rw [e0]
  by_cases h : (12 : Int) < vs.length
  · rw [decide_eq_true h, if_pos rfl]
    refine wpAny_Constant_int (sub_int ?_)
    refine spliced_more (wpAny_Constant_int ?_)
    refine spliced_nil ?_
    have e2 : (12 : Int) - 1 = kEnd vs.length := by unfold kEnd; rw [if_pos h]
    rw [e2]
    exact fin _ _
  · rw [decide_eq_false h, if_neg Bool.false_ne_true]
    refine wpAny_Constant_int (sub_int ?_)
    refine spliced_more (wpAny_Constant_int ?_)
    refine spliced_nil ?_
    have e2 : ((vs.toArray.size : Nat) : Int) - 1 = kEnd vs.length := by unfold kEnd; rw [if_neg h]; simp
    rw [e2]
    exact fin _ _
end

section
open PySem PySem.W PyProof.Rows PySem.Calls PyProof.Rows.LCg PySem.SeqAt
variable {w : World} {mg mb : Str → Option Value} {A : Around} {E : Value → Shared → Prop} {s : Shared}

theorem kturn_raw {Q : Flow → Shared → Prop} {L fa l R : Addr} {cd : Value} {m : Str → Option Value} {vs ys : List Value} {ns : List Int} {k : Int} {t : Tok}
    (hns : s.heap.Ns L m) (hscr : m (Str.ofString "script") = some (.ref l)) (hrng : m (Str.ofString "ranges") = some (.ref R)) (hk : m (Str.ofString "k") = some (.int k t))
    (hl : s.heap.IsList l vs.toArray) (hi : IntsAre vs ns) (h0 : 0 ≤ k) (h1 : k + 1 < ns.length) (hlen : ns.length ≤ 63) (hR : s.heap.get? R = some (lst ys)) (hsz : ys.length ≤ 100)
    (hQ : ∀ s' T x a d b, x ∈ ns → d ∈ ns → s'.heap.get? R = some (lst (ys ++ [.ref T])) → s'.heap.IsTuple T #[.int x a, .int (x + d) b] → (∀ b o, b ≠ R → s.heap.get? b = some o → s'.heap.get? b = some o) → (∀ b o, s.heap.get? b = some o → b ≠ T) →
      s'.gens = s.gens → s'.os = s.os → Q .next s') :
    wpAny (model pr w) A (execs (forBody kFor) (lawEnv L fa cd)) Q E s := by
  conv in forBody kFor => whnf
  unfold lawEnv
  conv in lawScope => whnf
  obtain ⟨a, ha⟩ := hi.get k.toNat ns[k.toNat] (List.getElem?_eq_getElem (by omega))
  obtain ⟨d, hd⟩ := hi.get (k + 1).toNat ns[(k + 1).toNat] (List.getElem?_eq_getElem (by omega))
  have hxm : ns[k.toNat] ∈ ns := List.getElem_mem (by omega)
  have hdm : ns[(k + 1).toNat] ∈ ns := List.getElem_mem (by omega)
  generalize ns[k.toNat] = x at ha hxm
  generalize ns[(k + 1).toNat] = y at hd hdm
  refine wpAny_execs_cons (wpAny_Expr_any (wpAny_Call_append (by rfl) (by rfl) (by rfl) (by rfl) ?_))
  refine nmL hns hrng ⟨R, _, rfl, ⟨_, _, hR, rfl, rfl, rfl⟩, ?_⟩ (by rfl) (by rfl) (by decide)
  refine wpAny_Tuple (spliced_more (Subscript_ ?_))
  refine nmL hns hscr ?_ (by rfl) (by rfl) (by decide)
  refine nmL hns hk ?_ (by rfl) (by rfl) (by decide)
  refine item_list hl h0 (by omega) (x := .int x a) (by simpa using ha) ?_
  refine spliced_more (wpAny_BinOp (Subscript_ ?_))
  refine nmL hns hscr ?_ (by rfl) (by rfl) (by decide)
  refine nmL hns hk ?_ (by rfl) (by rfl) (by decide)
  refine item_list hl h0 (by omega) (x := .int x a) (by simpa using ha) ?_
  refine Subscript_ ?_
  refine nmL hns hscr ?_ (by rfl) (by rfl) (by decide)
  refine wpAny_BinOp ?_
  refine nmL hns hk ?_ (by rfl) (by rfl) (by decide)
  refine wpAny_Constant_int (add_int ?_)
  refine item_list hl (by omega) (by omega) (x := .int y d) (by simpa using hd) ?_
  refine add_int ?_
  refine spliced_nil ⟨by show (2 : Nat) ≤ sizeLine; decide, ?_⟩
  try dsimp only
  generalize hH : s.heap.push _ = H
  have hkH : ∀ b o, s.heap.get? b = some o → H.get? b = some o := fun b o e => hH ▸ Heap.get?_push_of_some _ e
  have hT : H.IsTuple s.heap.objs.size _ := ⟨_, hH ▸ Heap.get?_push_size _ rfl, rfl, _, rfl⟩
  have hRT : R ≠ s.heap.objs.size := Nat.ne_of_lt (Heap.lt_size hR)
  refine append_at (hsz := by show ys.toArray.size ≤ sizeLine; rw [List.size_toArray]; exact Nat.le_trans hsz (by decide)) (hkH _ _ hR) fun h₂ hs₂ hD => ?_
  refine wpAny_execs_nil ?_
  refine hQ _ s.heap.objs.size x a y (s.toks + 1 + 1) hxm hdm (hD.trans (congrArg some (lst_snoc ys _))) ?_ (fun b o hb e => hs₂.extBut b o hb (hkH b o e)) (fun b o e => Nat.ne_of_lt (Heap.lt_size e)) rfl rfl
  exact hT.at fun o e => hs₂.extBut _ o (Ne.symm hRT) e

theorem kloop_raw {Q : Flow → Shared → Prop} {L fa l R : Addr} {cd : Value} {m : Str → Option Value} {vs : List Value} {ns : List Int} (X : Wd w mg mb s.heap) (hh : A.handled = none)
    (hns : s.heap.Ns L m) (hscr : m (Str.ofString "script") = some (.ref l)) (hrng : m (Str.ofString "ranges") = some (.ref R))
    (hl : s.heap.IsList l vs.toArray) (hi : IntsAre vs ns) (hlen : ns.length ≤ 63) (hR : s.heap.get? R = some (lst [])) (hLR : L ≠ R) (hlR : l ≠ R) (hlL : l ≠ L)
    (hQ : ∀ s' m' ts, s'.heap.Ns L m' → (∀ y, y ≠ Str.ofString "k" → m' y = m y) → s'.heap.IsList R (ts.map PT.v).toArray → Pairs s'.heap ts → ts.length ≤ 5 → (∀ p ∈ ts, L ≠ p.T) → (∀ p ∈ ts, p.x ∈ ns ∧ ∃ d ∈ ns, p.y = p.x + d) →
      (∀ b o, b ≠ L → b ≠ R → s.heap.get? b = some o → s'.heap.get? b = some o) → s'.gens = s.gens → s'.os = s.os → Q .next s') :
    wpAny (model pr w) A (exec kFor (lawEnv L fa cd)) Q E s := by
  have hdef : ∃ pn pos, kFor = .For (.Name (Str.ofString "k") pn) (forIter kFor) (forBody kFor) [] pos := ⟨_, _, rfl⟩
  obtain ⟨pn, pos, hdef⟩ := hdef
  rw [hdef]
  generalize hB : forBody kFor = body
  refine wpAny_For (kiter_raw X hh hns hscr hl (by rw [hi.length]; exact hlen) fun r h₁ tk₁ t u v k1 hr hrg => ?_) (hs := by intro _; rfl)
  rw [hi.length] at hrg
  obtain ⟨n, hsm, hrs, hn5, hbd⟩ := kEnd_facts ns.length
  refine wpAny_pyIter_range hrg hsm ?_
  rw [hrs]
  dsimp only
  generalize hH : h₁.push { cls := .type "range_iterator", data := .fields #[rawInt 2, rawInt (n : Int), rawInt 2] } = H
  have k2 : ∀ b o, h₁.get? b = some o → H.get? b = some o := fun b o e => hH ▸ Heap.get?_push_of_some _ e
  have hit : IsRangeIter H h₁.objs.size (2 + (0 : Nat) * 2) ((n : Int) - (0 : Nat)) 2 := by
    have : H.get? h₁.objs.size = some _ := hH ▸ Heap.get?_push_size _ rfl
    simpa using this
  have k0 : ∀ b o, s.heap.get? b = some o → H.get? b = some o := fun b o e => k2 b o (k1 b o e)
  have ltI : ∀ b o, s.heap.get? b = some o → b < h₁.objs.size := fun b o e => Heap.lt_size (k1 b o e)
  generalize h₁.objs.size = I at hit ltI
  have hLI : L ≠ I := by obtain ⟨o, _, _, e, _⟩ := id hns; exact Nat.ne_of_lt (ltI _ _ e)
  have hRI : R ≠ I := Nat.ne_of_lt (ltI _ _ hR)
  have hlI : l ≠ I := by obtain ⟨o, e, _⟩ := id hl; exact Nat.ne_of_lt (ltI _ _ e)
  have W := Walks.range (prog := pr) (w := w) hh I 2 2 n
  refine codeAny_forLoop
    (fun k s' => ∃ (i : Nat) (ts : List PT) (m' : Str → Option Value), i ≤ n ∧ k = n + 1 - i ∧ IsRangeIter s'.heap I (2 + (i : Nat) * 2) ((n : Int) - (i : Nat)) 2 ∧ s'.heap.Ns L m' ∧ (∀ y, y ≠ Str.ofString "k" → m' y = m y) ∧
      s'.heap.get? R = some (lst (ts.map PT.v)) ∧ Pairs s'.heap ts ∧ ts.length = i ∧ (∀ p ∈ ts, p.T ≠ L ∧ p.T ≠ R ∧ p.T ≠ I) ∧ (∀ p ∈ ts, p.x ∈ ns ∧ ∃ d ∈ ns, p.y = p.x + d) ∧
      (∀ b o, b ≠ L → b ≠ R → b ≠ I → H.get? b = some o → s'.heap.get? b = some o) ∧ s'.gens = s.gens ∧ s'.os = s.os) ?_ (n + 1)
    ⟨0, [], m, Nat.zero_le _, rfl, hit, hns.at' fun o e => k0 _ o e, fun _ _ => rfl, k0 _ _ hR, (fun _ hp => nomatch hp), rfl, (fun _ hp => nomatch hp), (fun _ hp => nomatch hp), fun b o _ _ _ e => e, rfl, rfl⟩ (by intro _; rfl)
  rintro k s' ⟨i, ts, m', hin, rfl, hit', hns', hm', hR', hts', hti, hT', hsp, hk', hg', hos'⟩
  have hl' : s'.heap.IsList l vs.toArray := (hl.at fun o e => k0 _ o e).at fun o e => hk' l o hlL hlR hlI e
  by_cases hlt : i < n
  · refine W.item i _ _ _ hlt hit' fun v h₂ tk₂ hP hit₂ hk₂ => ?_
    obtain ⟨tt, rfl⟩ := hP
    dsimp only
    have up₂ : ∀ b o, b ≠ I → s'.heap.get? b = some o → h₂.get? b = some o := fun b o hb e => hk₂ b o (fun hm => hb (List.mem_singleton.mp hm)) e
    refine stL (hns'.at' fun o e => up₂ _ o hLI e) (fun h₃ hns₃ hs₃ => ?_) (by rfl) (by rfl)
    have hs₃' : Heap.SameBut L h₂ h₃ := hs₃
    have up₃ : ∀ b o, b ≠ I → b ≠ L → s'.heap.get? b = some o → h₃.get? b = some o := fun b o hb hb' e => hs₃'.extBut b o hb' (up₂ b o hb e)
    have hit₃ : IsRangeIter h₃ I (2 + ((i + 1 : Nat) : Int) * 2) ((n : Int) - ((i + 1 : Nat) : Int)) 2 := hs₃'.extBut _ _ (Ne.symm hLI) hit₂
    have hb := hbd i hlt
    rw [← hB]
    refine kturn_raw (l := l) (R := R) (vs := vs) (ns := ns) (k := 2 + (i : Int) * 2) (t := tt) hns₃ ((if_neg (by decide)).trans ((hm' _ (by decide)).trans hscr)) ((if_neg (by decide)).trans ((hm' _ (by decide)).trans hrng)) (if_pos rfl)
      (hl'.at fun o e => up₃ _ o hlI hlL e) hi (by omega) (by omega) hlen (up₃ _ _ hRI (Ne.symm hLR) hR') (by rw [List.length_map]; omega) fun s₄ T x a d b hx hd hR₄ hTT hk₄ hTn hg₄ hos₄ => ?_
    have hk₄' : ∀ b o, b ≠ I → b ≠ L → b ≠ R → s'.heap.get? b = some o → s₄.heap.get? b = some o := fun b o h1 h2 h3 e => hk₄ b o h3 (up₃ b o h1 h2 e)
    have hnsL : ∃ o, h₃.get? L = some o := by obtain ⟨o, _, _, e, _⟩ := id hns₃; exact ⟨o, e⟩
    refine ⟨n + 1 - (i + 1), by omega, i + 1, ts ++ [⟨T, x, a, x + d, b⟩], _, hlt, rfl, hk₄ _ _ (Ne.symm hRI) hit₃, hns₃.at' fun o e => hk₄ _ o hLR e, fun y hy => (if_neg hy).trans (hm' y hy), ?_, ?_, ?_, ?_, ?_, ?_, hg₄.trans hg', hos₄.trans hos'⟩
    · rw [List.map_append]; exact hR₄
    · intro p hp
      rcases List.mem_append.mp hp with hp | hp
      · exact (hts' p hp).at fun o e => hk₄' _ o (hT' p hp).2.2 (hT' p hp).1 (hT' p hp).2.1 e
      · rw [List.mem_singleton.mp hp]; exact hTT
    · simp [hti]
    · intro p hp
      rcases List.mem_append.mp hp with hp | hp
      · exact hT' p hp
      · rw [List.mem_singleton.mp hp]
        obtain ⟨o, e⟩ := hnsL
        exact ⟨Ne.symm (hTn L o e), Ne.symm (hTn R _ (up₃ _ _ hRI (Ne.symm hLR) hR')), Ne.symm (hTn I _ hit₃)⟩
    · intro p hp
      rcases List.mem_append.mp hp with hp | hp
      · exact hsp p hp
      · rw [List.mem_singleton.mp hp]; exact ⟨hx, d, hd, rfl⟩
    · intro b o h1 h2 h3 e
      exact hk₄' b o h3 h1 h2 (hk' b o h1 h2 h3 e)
  · have hin' : i = n := Nat.le_antisymm hin (Nat.not_lt.mp hlt)
    subst hin'
    refine W.done _ _ _ hit' fun h₂ tk₂ hk₂ => ?_
    dsimp only
    refine wpAny_execs_nil ?_
    have up₂ : ∀ b o, b ≠ I → s'.heap.get? b = some o → h₂.get? b = some o := fun b o hb e => hk₂ b o (fun hm => hb (List.mem_singleton.mp hm)) e
    refine hQ _ m' ts (hns'.at' fun o e => up₂ _ o hLI e) hm' ⟨_, up₂ _ _ hRI hR', rfl, _, rfl⟩ (hts'.at fun p hp o e => up₂ _ o (hT' p hp).2.2 e) (by omega) (fun p hp => Ne.symm (hT' p hp).1) hsp (fun b o h1 h2 e => ?_) hg' hos'
    exact up₂ b o (Nat.ne_of_lt (ltI _ _ e)) (hk' b o h1 h2 (Nat.ne_of_lt (ltI _ _ e)) (k0 b o e))
end

section
open PySem PySem.W PyProof.Rows PySem.Calls PyProof.Rows.LCg PySem.SeqAt
variable {w : World} {mg mb : Str → Option Value} {A : Around} {E : Value → Shared → Prop} {s : Shared}

def cDef : Stmt := PySem.Challenge.pw_nk0002_01.main.body.getD 4 (.Pass default)
def cBody : List Stmt := match cDef with | .FunctionDef _ _ b _ _ _ _ _ _ _ => b | _ => []
def cScope : Scope := match cDef with | .FunctionDef _ _ _ _ _ _ s _ _ _ => s | _ => default
def cTail : List Stmt := cBody.drop 2
abbrev cEnv (L : Addr) : Env := envOf (Str.ofString "cldr_modulo") cScope L 42 (.ref 41)

/-- what cldr_modulo gives back -/
def cm (a b : Int) : Int :=
  if a < 0 then Int.fmod (a * -1) (if b < 0 then b * -1 else b) * -1 else Int.fmod a (if b < 0 then b * -1 else b)

theorem mulNeg (a : Int) : IntMulOk a (-1) := IntMulOk.of_right (by decide)

theorem cldr_tail {Q : Flow → Shared → Prop} {L : Addr} {m : Str → Option Value} {a b r : Int} {ta tb tr : Tok} (hb0 : b ≠ 0)
    (hns : s.heap.Ns L m) (ha : m (Str.ofString "a") = some (.int a ta)) (hb : m (Str.ofString "b") = some (.int b tb)) (hr : m (Str.ofString "reverse") = some (.int r tr))
    (hQ : ∀ s' t, (∀ x o, x ≠ L → s.heap.get? x = some o → s'.heap.get? x = some o) → s'.gens = s.gens → s'.os = s.os →
      Q (.ret (.int (if r ≠ 0 then Int.fmod a (if b < 0 then b * -1 else b) * -1 else Int.fmod a (if b < 0 then b * -1 else b)) t)) s') :
    wpAny (model pr w) A (execs cTail (cEnv L)) Q E s := by
  have fin : ∀ (u : Shared) (m' : Str → Option Value) (b' : Int) (tb' : Tok), b' ≠ 0 → b' = (if b < 0 then b * -1 else b) → u.heap.Ns L m' → m' (Str.ofString "a") = some (.int a ta) → m' (Str.ofString "b") = some (.int b' tb') → m' (Str.ofString "reverse") = some (.int r tr) →
      (∀ x o, x ≠ L → s.heap.get? x = some o → u.heap.get? x = some o) → u.gens = s.gens → u.os = s.os → wpAny (model pr w) A (execs (cTail.drop 1) (cEnv L)) Q E u := by
    intro u m' b' tb' hb0' hb' hn ha' hbb' hr' hk hg hos
    conv in cTail.drop 1 => whnf
    unfold cEnv
    conv in cScope => whnf
    refine wpAny_execs_cons (wpAny_Assign_Name (wpAny_BinOp ?_))
    refine nmL hn ha' ?_ (by rfl) (by rfl) (by decide)
    refine nmL hn hbb' ?_ (by rfl) (by rfl) (by decide)
    refine mod_int' hb0' ?_
    refine wpAny_storeName_local (by rfl) hn (fun h₂ hn₂ hs₂ => ?_) (by rfl)
    try dsimp only at hs₂ ⊢
    have hs₂' : Heap.SameBut L u.heap h₂ := hs₂
    refine wpAny_execs_cons (wpAny_If (isTrue_plain ?_))
    refine nmL hn₂ ((if_neg (by decide)).trans hr') ?_ (by rfl) (by rfl) (by decide)
    refine P.truthy_int ?_
    by_cases h : r = 0
    · have e : (r != 0) = false := by simp [h]
      rw [e, if_neg Bool.false_ne_true]
      refine wpAny_execs_nil ?_
      refine wpAny_execs_cons (wpAny_Return_some ?_)
      refine nmL hn₂ (if_pos rfl) ?_ (by rfl) (by rfl) (by decide)
      have := hQ { u with heap := h₂, toks := u.toks + 1 + 1 } u.toks (fun x o hx e => hs₂'.extBut x o hx (hk x o hx e)) hg hos
      rw [if_neg (by simpa using h), ← hb'] at this
      exact this
    · have e : (r != 0) = true := by simp [h]
      rw [e, if_pos rfl]
      refine wpAny_execs_cons (wpAny_AugAssign_Name ?_)
      refine wpAny_loadName_local (by rfl) (by rfl) hn₂ (if_pos rfl) ?_
      refine wpAny_UnaryOp (wpAny_Constant_int (P.neg_int ?_))
      refine P.imul_int ?_ (mulNeg _)
      refine wpAny_storeName_local (by rfl) hn₂ (fun h₃ hn₃ hs₃ => ?_) (by rfl)
      try dsimp only at hs₃ ⊢
      have hs₃' : Heap.SameBut L h₂ h₃ := hs₃
      refine wpAny_execs_nil ?_
      refine wpAny_execs_cons (wpAny_Return_some ?_)
      refine nmL hn₃ (if_pos rfl) ?_ (by rfl) (by rfl) (by decide)
      have := hQ { u with heap := h₃, toks := u.toks + 1 + 1 + 1 + 1 + 1 + 1 } (u.toks + 1 + 1 + 1 + 1) (fun x o hx e => hs₃'.extBut x o hx (hs₂'.extBut x o hx (hk x o hx e))) hg hos
      rw [if_pos (by simpa using h), ← hb'] at this
      exact this
  have hd : cTail = cTail.headD (.Pass default) :: cTail.drop 1 := rfl
  rw [hd]
  generalize hT : cTail.drop 1 = rest at fin ⊢
  conv in cTail.headD _ => whnf
  unfold cEnv
  conv in cScope => whnf
  unfold cEnv at fin
  conv at fin in cScope => whnf
  refine wpAny_execs_cons (wpAny_If (wpAny_isTrue_Compare1 ?_))
  refine nmL hns hb ?_ (by rfl) (by rfl) (by decide)
  refine wpAny_Constant_int (lt_int (wpAny_truthy_bool ?_))
  by_cases h : b < 0
  · rw [decide_eq_true h, if_pos rfl]
    refine wpAny_execs_cons (wpAny_AugAssign_Name ?_)
    refine wpAny_loadName_local (by rfl) (by rfl) hns hb ?_
    refine wpAny_UnaryOp (wpAny_Constant_int (P.neg_int ?_))
    refine P.imul_int ?_ (mulNeg _)
    refine wpAny_storeName_local (by rfl) hns (fun h₃ hn₃ hs₃ => ?_) (by rfl)
    try dsimp only at hs₃ ⊢
    have hs₃' : Heap.SameBut L s.heap h₃ := hs₃
    refine wpAny_execs_nil ?_
    exact fin { s with heap := h₃, toks := s.toks + 1 + 1 + 1 + 1 + 1 } _ (b * -1) (s.toks + 1 + 1 + 1) (by omega) (if_pos h).symm hn₃ ((if_neg (by decide)).trans ha) (if_pos rfl) ((if_neg (by decide)).trans hr) (fun x o hx e => hs₃'.extBut x o hx e) rfl rfl
  · rw [decide_eq_false h, if_neg Bool.false_ne_true]
    refine wpAny_execs_nil ?_
    exact fin { s with toks := s.toks + 1 } m b tb hb0 (if_neg h).symm hns ha hb hr (fun x o hx e => e) rfl rfl

theorem cldr_raw {Q : Value → Shared → Prop} {a b : Int} {t u : Tok} (X : Wd w mg mb s.heap) (hroom : A.depth < recursionLimit) (hb0 : b ≠ 0)
    (hQ : ∀ s' tt, (∀ x o, s.heap.get? x = some o → s'.heap.get? x = some o) → s'.gens = s.gens → s'.os = s.os → Q (.int (cm a b) tt) s') :
    wpAny (model pr w) A (call (.ref 42) [.int a t, .int b u]) Q E s := by
  have hcd : s.heap.CodeRec (.ref 41) (Str.ofString "cldr_modulo") := ⟨41, _, _, _, rfl, X.K 41 _ rfl, rfl, rfl⟩
  refine wpAny_call (codeAny_call_def hroom (X.K 42 _ rfl) rfl X.T.nolimit hcd rfl (BindsTo.of_eq rfl) (by decide) (locs rfl) (fun h₁ hns hk₁ => ?_) (by rfl) (by rfl) (by rfl))
  generalize hLL : s.heap.objs.size = L at hns
  have hlt : ∀ b o, s.heap.get? b = some o → b ≠ L := fun b o e => Nat.ne_of_lt (hLL ▸ Heap.lt_size e)
  show wpAny (model pr w) (A.deeper (cEnv L)) (execs cBody (cEnv L)) _ _ _
  have hd : cBody = cBody.headD (.Pass default) :: (cBody.drop 1).headD (.Pass default) :: cTail := rfl
  rw [hd]
  generalize hT : cTail = rest
  conv in cBody.headD _ => whnf
  conv in (cBody.drop 1).headD _ => whnf
  refine wpAny_execs_cons (wpAny_Assign_Name (wpAny_Constant_int ?_))
  refine wpAny_storeName_local (by rfl) hns (fun h₂ hn₂ hs₂ => ?_) (by rfl)
  try dsimp only at hs₂ ⊢
  have hs₂' : Heap.SameBut L h₁ h₂ := hs₂
  refine wpAny_execs_cons (wpAny_If (wpAny_isTrue_Compare1 ?_))
  refine nmL hn₂ ((if_neg (by decide)).trans (by rfl)) ?_ (by rfl) (by rfl) (by decide) (v := .int a t)
  refine wpAny_Constant_int (lt_int (wpAny_truthy_bool ?_))
  by_cases h : a < 0
  · rw [decide_eq_true h, if_pos rfl]
    refine wpAny_execs_cons (wpAny_AugAssign_Name ?_)
    refine wpAny_loadName_local (by rfl) (by rfl) hn₂ ((if_neg (by decide)).trans (by rfl)) ?_ (v := .int a t)
    refine wpAny_UnaryOp (wpAny_Constant_int (P.neg_int ?_))
    refine P.imul_int ?_ (mulNeg _)
    refine wpAny_storeName_local (by rfl) hn₂ (fun h₃ hn₃ hs₃ => ?_) (by rfl)
    try dsimp only at hs₃ ⊢
    have hs₃' : Heap.SameBut L h₂ h₃ := hs₃
    refine wpAny_execs_cons (wpAny_Assign_Name (wpAny_Constant_int ?_))
    refine wpAny_storeName_local (by rfl) hn₃ (fun h₄ hn₄ hs₄ => ?_) (by rfl)
    try dsimp only at hs₄ ⊢
    have hs₄' : Heap.SameBut L h₃ h₄ := hs₄
    refine wpAny_execs_nil ?_
    rw [← hT]
    refine cldr_tail (a := a * -1) (b := b) (r := 1) hb0 hn₄ ((if_neg (by decide)).trans (if_pos rfl)) ((if_neg (by decide)).trans ((if_neg (by decide)).trans ((if_neg (by decide)).trans (by rfl)))) (if_pos rfl) fun s' tt hk hg hos => ?_
    have e : (if (1 : Int) ≠ 0 then Int.fmod (a * -1) (if b < 0 then b * -1 else b) * -1 else Int.fmod (a * -1) (if b < 0 then b * -1 else b)) = cm a b := by
      rw [if_pos (by decide)]; unfold cm; rw [if_pos h]
    rw [e]
    exact hQ s' tt (fun x o e => hk x o (hlt x o e) (hs₄'.extBut x o (hlt x o e) (hs₃'.extBut x o (hlt x o e) (hs₂'.extBut x o (hlt x o e) (hk₁ x o e))))) hg hos
  · rw [decide_eq_false h, if_neg Bool.false_ne_true]
    refine wpAny_execs_nil ?_
    rw [← hT]
    refine cldr_tail (a := a) (b := b) (r := 0) hb0 hn₂ ((if_neg (by decide)).trans (by rfl)) ((if_neg (by decide)).trans (by rfl)) (if_pos rfl) fun s' tt hk hg hos => ?_
    have e : (if (0 : Int) ≠ 0 then Int.fmod a (if b < 0 then b * -1 else b) * -1 else Int.fmod a (if b < 0 then b * -1 else b)) = cm a b := by
      rw [if_neg (by decide)]; unfold cm; rw [if_neg h]
    rw [e]
    exact hQ s' tt (fun x o e => hk x o (hlt x o e) (hs₂'.extBut x o (hlt x o e) (hk₁ x o e))) hg hos
end

section
open PySem PySem.W PyProof.Rows PySem.Calls PyProof.Rows.LCg PySem.SeqAt
theorem mulOk {a b : Int} (ha : Builtin.Int.intBits a ≤ 4000000) (hb : Builtin.Int.intBits b ≤ 4000000) : IntMulOk a b := by
  have h : Builtin.Int.intTooBig (Builtin.Int.intBits a + Builtin.Int.intBits b) = false := by
    unfold Builtin.Int.intTooBig bitsLine
    exact decide_eq_false (by omega)
  unfold IntMulOk
  rw [h]
  simp

/-- an int's size, as Python's abs gives it -/
def ab (n : Int) : Int := if n < 0 then -n else n
theorem ab_pos {d : Int} (h : d ≠ 0) : 0 < ab d := by unfold ab; split <;> omega
theorem ab_nonneg (d : Int) : 0 ≤ ab d := by unfold ab; split <;> omega
theorem ab_eq (d : Int) : (if d < 0 then d * -1 else d) = ab d := by unfold ab; split <;> omega
theorem ab_dvd (d : Int) : d ∣ ab d := by
  unfold ab
  split
  · exact ⟨-1, by omega⟩
  · exact Int.dvd_refl d
theorem ab_of_nonneg {d : Int} (h : 0 ≤ d) : ab d = d := by unfold ab; split <;> omega

theorem cm_eq (n d : Int) : cm n d = if n < 0 then -((-n) % ab d) else n % ab d := by
  unfold cm
  rw [ab_eq, Int.fmod_eq_emod_of_nonneg _ (ab_nonneg d), Int.fmod_eq_emod_of_nonneg _ (ab_nonneg d)]
  split
  · have e : n * -1 = -n := by omega
    rw [e]; omega
  · rfl

theorem cm_sign (n d : Int) (hd : d ≠ 0) : decide (cm n d * n < 0) = false := by
  have hD := ab_pos hd
  rw [cm_eq]
  refine decide_eq_false ?_
  split
  · rename_i h
    have h1 := Int.emod_nonneg (-n) (Int.ne_of_gt hD)
    have := Int.mul_nonneg_of_nonpos_of_nonpos (a := -(-n % ab d)) (b := n) (by omega) (by omega)
    omega
  · rename_i h
    have h1 := Int.emod_nonneg n (Int.ne_of_gt hD)
    have := Int.mul_nonneg h1 (b := n) (by omega)
    omega
theorem cm_small (n d : Int) (hd : d ≠ 0) : decide (ab (cm n d) ≥ ab d) = false := by
  have hD := ab_pos hd
  refine decide_eq_false ?_
  rw [cm_eq]
  split
  · have h1 := Int.emod_nonneg (-n) (Int.ne_of_gt hD)
    have h2 := Int.emod_lt_of_pos (-n) hD
    generalize (-n) % ab d = r at h1 h2
    generalize ab d = D at *
    unfold ab
    split <;> omega
  · have h1 := Int.emod_nonneg n (Int.ne_of_gt hD)
    have h2 := Int.emod_lt_of_pos n hD
    generalize n % ab d = r at h1 h2
    generalize ab d = D at *
    unfold ab
    split <;> omega
theorem cm_rest (n d : Int) : ((n - cm n d).fmod d != 0) = false := by
  have : (n - cm n d).fmod d = 0 := by
    refine Int.fmod_eq_zero_of_dvd (Int.dvd_trans (ab_dvd d) ?_)
    rw [cm_eq]
    split
    · have e := Int.mul_ediv_add_emod (-n) (ab d)
      refine ⟨-(-n / ab d), ?_⟩
      rw [Int.mul_neg]
      omega
    · have e := Int.mul_ediv_add_emod n (ab d)
      refine ⟨n / ab d, ?_⟩
      omega
  rw [this]
  rfl
theorem cm_abs (n d : Int) (hd : d ≠ 0) : (cm (ab n) (ab d) != ab (cm n d)) = false := by
  have hD := ab_pos hd
  have e : cm (ab n) (ab d) = ab (cm n d) := by
    rw [cm_eq, cm_eq, ab_of_nonneg (ab_nonneg d)]
    have h0 := ab_nonneg n
    rw [if_neg (by omega)]
    by_cases h : n < 0
    · rw [if_pos h]
      have h1 := Int.emod_nonneg (-n) (Int.ne_of_gt hD)
      have e1 : ab n = -n := by unfold ab; rw [if_pos h]
      rw [e1]
      generalize (-n) % ab d = r at h1
      unfold ab
      split <;> omega
    · rw [if_neg h]
      have h1 := Int.emod_nonneg n (Int.ne_of_gt hD)
      rw [ab_of_nonneg (by omega : 0 ≤ n), ab_of_nonneg h1]
  rw [e]
  simp
theorem cm_bits (n d : Int) (hd : d ≠ 0) {k : Nat} (h : Builtin.Int.intBits d ≤ k) : Builtin.Int.intBits (cm n d) ≤ k := by
  rw [intBits_le_iff] at h ⊢
  have h1 := cm_small n d hd
  have h2 := of_decide_eq_false h1
  have : (cm n d).natAbs < d.natAbs := by
    unfold ab at h2
    generalize cm n d = r at h2
    split at h2 <;> split at h2 <;> omega
  exact Nat.lt_trans this h
end

section
open PySem PySem.W PyProof.Rows PySem.Calls PyProof.Rows.LCg PySem.SeqAt
variable {w : World} {mg mb : Str → Option Value} {A : Around} {E : Value → Shared → Prop} {s : Shared}

def st (i : Nat) : Stmt := lawBody.getD i (.Pass default)

theorem st0_raw {Q : Flow → Shared → Prop} {L fa l : Addr} {cd : Value} {m : Str → Option Value} {vs : List Value} {ns : List Int}
    (hns : s.heap.Ns L m) (hscr : m (Str.ofString "script") = some (.ref l)) (hl : s.heap.IsList l vs.toArray) (hi : IntsAre vs ns) (hlen : ns.length ≤ 63) (hbits : ∀ n ∈ ns, Builtin.Int.intBits n ≤ 1048576)
    (hQ : ∀ s' num t, s'.heap.Ns L (fun y => if y = Str.ofString "number" then some (.int num t) else m y) → Builtin.Int.intBits num ≤ 1048576 → (∀ b o, b ≠ L → s.heap.get? b = some o → s'.heap.get? b = some o) → s'.gens = s.gens → s'.os = s.os → Q .next s') :
    wpAny (model pr w) A (exec (st 0) (lawEnv L fa cd)) Q E s := by
  conv in st 0 => whnf
  unfold lawEnv
  conv in lawScope => whnf
  have hvl : vs.length = ns.length := hi.length
  refine wpAny_Assign_Name (wpAny_IfExp (isTrue_plain ?_))
  refine nmL hns hscr ?_ (by rfl) (by rfl) (by decide)
  refine wpAny_truthy_list hl (by simp; omega) ?_
  cases hi with
  | nil =>
    refine wpAny_Constant_int ?_
    refine wpAny_storeName_local (by rfl) hns (fun h₂ hn₂ hs₂ => ?_) (by rfl)
    have hs₂' : Heap.SameBut L s.heap h₂ := hs₂
    exact hQ _ 7 _ hn₂ (by decide) (fun b o hb e => hs₂'.extBut b o hb e) rfl rfl
  | cons n t r =>
    refine Subscript_ ?_
    refine nmL hns hscr ?_ (by rfl) (by rfl) (by decide)
    refine wpAny_Constant_int ?_
    refine item_list hl (by decide) (by decide) (x := .int n t) (by rfl) ?_
    refine wpAny_storeName_local (by rfl) hns (fun h₂ hn₂ hs₂ => ?_) (by rfl)
    have hs₂' : Heap.SameBut L s.heap h₂ := hs₂
    exact hQ _ n _ hn₂ (hbits n (.head _)) (fun b o hb e => hs₂'.extBut b o hb e) rfl rfl

theorem st1_raw {Q : Flow → Shared → Prop} {L fa l : Addr} {cd : Value} {m : Str → Option Value} {vs : List Value} {ns : List Int} (X : Wd w mg mb s.heap)
    (hns : s.heap.Ns L m) (hscr : m (Str.ofString "script") = some (.ref l)) (hl : s.heap.IsList l vs.toArray) (hi : IntsAre vs ns) (hlen : ns.length ≤ 63) (hbits : ∀ n ∈ ns, Builtin.Int.intBits n ≤ 1048576)
    (hQ : ∀ s' dv t, dv ≠ 0 → s'.heap.Ns L (fun y => if y = Str.ofString "divisor" then some (.int dv t) else m y) → Builtin.Int.intBits dv ≤ 1048576 → (∀ b o, b ≠ L → s.heap.get? b = some o → s'.heap.get? b = some o) → s'.gens = s.gens → s'.os = s.os → Q .next s') :
    wpAny (model pr w) A (exec (st 1) (lawEnv L fa cd)) Q E s := by
  conv in st 1 => whnf
  unfold lawEnv
  conv in lawScope => whnf
  have hvl : vs.length = ns.length := hi.length
  refine wpAny_Assign_Name (wpAny_IfExp (isTrue_and (wpAny_isTrue_Compare1 (PyProof.Rows.Call_ ?_))))
  refine nmB X (by rfl) blen (by decide) ?_ (by rfl) (by rfl) (by rfl) (by rfl) (by decide)
  refine PySem.callWith_builtin1 ?_
  refine nmL hns hscr ?_ (by rfl) (by rfl) (by decide)
  refine call_len_list hl (by simp; omega) ?_
  refine wpAny_Constant_int (gt_int (wpAny_truthy_bool ?_))
  have three : ∀ (tk : Nat) (p : Pos), wpAny (model pr w) A (eval (.Constant (.int 3) 0 p) (envOfC (Str.ofString "law") lawScope L fa cd)) (fun v s₁ => wpAny (model pr w) A (storeName (envOfC (Str.ofString "law") lawScope L fa cd) (Str.ofString "divisor") v) (fun _ => Q .next) E s₁) E { s with toks := tk } := fun tk p => by
    refine wpAny_Constant_int ?_
    refine wpAny_storeName_local (by rfl) hns (fun h₂ hn₂ hs₂ => ?_) (by rfl)
    have hs₂' : Heap.SameBut L s.heap h₂ := hs₂
    exact hQ _ 3 _ (by decide) hn₂ (by decide) (fun b o hb e => hs₂'.extBut b o hb e) rfl rfl
  by_cases h : (1 : Int) < (vs.toArray.size : Nat)
  · rw [decide_eq_true h, if_pos rfl]
    have h1 : 1 < ns.length := by simp at h; omega
    obtain ⟨t, ht⟩ := hi.get 1 ns[1] (List.getElem?_eq_getElem h1)
    have hm : ns[1] ∈ ns := List.getElem_mem h1
    generalize ns[1] = n at ht hm
    refine isTrue_and (wpAny_isTrue_Compare1 (Subscript_ ?_))
    refine nmL hns hscr ?_ (by rfl) (by rfl) (by decide)
    refine wpAny_Constant_int ?_
    refine item_list hl (by decide) (by decide) (x := .int n t) (by simpa using ht) ?_
    refine wpAny_Constant_int (ne_int (wpAny_truthy_bool ?_))
    by_cases hn : n = 0
    · have e : (n != 0) = false := by simp [hn]
      rw [e, if_neg Bool.false_ne_true, if_neg Bool.false_ne_true]
      exact three _ _
    · have e : (n != 0) = true := by simp [hn]
      rw [e, if_pos rfl]
      refine isTrue_and_nil ?_
      rw [if_pos rfl]
      refine Subscript_ ?_
      refine nmL hns hscr ?_ (by rfl) (by rfl) (by decide)
      refine wpAny_Constant_int ?_
      refine item_list hl (by decide) (by decide) (x := .int n t) (by simpa using ht) ?_
      refine wpAny_storeName_local (by rfl) hns (fun h₂ hn₂ hs₂ => ?_) (by rfl)
      have hs₂' : Heap.SameBut L s.heap h₂ := hs₂
      exact hQ _ n _ hn hn₂ (hbits n hm) (fun b o hb e => hs₂'.extBut b o hb e) rfl rfl
  · rw [decide_eq_false h, if_neg Bool.false_ne_true, if_neg Bool.false_ne_true]
    exact three _ _

theorem st2_raw {Q : Flow → Shared → Prop} {L fa : Addr} {cd : Value} {m : Str → Option Value} {num dv : Int} {tn td : Tok} (X : Wd w mg mb s.heap) (hroom : A.depth < recursionLimit)
    (hns : s.heap.Ns L m) (hnum : m (Str.ofString "number") = some (.int num tn)) (hdv : m (Str.ofString "divisor") = some (.int dv td)) (hd0 : dv ≠ 0)
    (hQ : ∀ s' t, s'.heap.Ns L (fun y => if y = Str.ofString "rest" then some (.int (cm num dv) t) else m y) → (∀ b o, b ≠ L → s.heap.get? b = some o → s'.heap.get? b = some o) → s'.gens = s.gens → s'.os = s.os → Q .next s') :
    wpAny (model pr w) A (exec (st 2) (lawEnv L fa cd)) Q E s := by
  conv in st 2 => whnf
  unfold lawEnv
  conv in lawScope => whnf
  refine wpAny_Assign_Name (PyProof.Rows.Call_ ?_)
  refine nmG X (by rfl) ?_ (by rfl) (by rfl) (by rfl) (by decide)
  refine callWith_K X.K (by rfl) ?_
  refine spliced_more (nmL hns hnum ?_ (by rfl) (by rfl) (by decide))
  refine spliced_more (nmL hns hdv ?_ (by rfl) (by rfl) (by decide))
  refine spliced_nil ⟨X.K, ?_⟩
  refine cldr_raw X hroom hd0 fun s₁ t hk hg hos => ?_
  refine wpAny_storeName_local (by rfl) (hns.keeps hk) (fun h₂ hn₂ hs₂ => ?_) (by rfl)
  have hs₂' : Heap.SameBut L s₁.heap h₂ := hs₂
  exact hQ _ t hn₂ (fun b o hb e => hs₂'.extBut b o hb (hk b o e)) hg hos

theorem st3_raw {Q : Flow → Shared → Prop} {L fa : Addr} {cd : Value} {m : Str → Option Value} {num dv : Int} {tn td tr : Tok} (X : Wd w mg mb s.heap) (hroom : A.depth < recursionLimit)
    (hns : s.heap.Ns L m) (hnum : m (Str.ofString "number") = some (.int num tn)) (hdv : m (Str.ofString "divisor") = some (.int dv td)) (hrest : m (Str.ofString "rest") = some (.int (cm num dv) tr)) (hd0 : dv ≠ 0)
    (hbn : Builtin.Int.intBits num ≤ 1048576) (hbd : Builtin.Int.intBits dv ≤ 1048576)
    (hQ : ∀ s', s'.heap.Ns L m → (∀ b o, s.heap.get? b = some o → s'.heap.get? b = some o) → s'.gens = s.gens → s'.os = s.os → Q .next s') :
    wpAny (model pr w) A (exec (st 3) (lawEnv L fa cd)) Q E s := by
  conv in st 3 => whnf
  unfold lawEnv
  conv in lawScope => whnf
  refine wpAny_If (isTrue_or (wpAny_isTrue_Compare1 (wpAny_BinOp ?_)))
  refine nmL hns hrest ?_ (by rfl) (by rfl) (by decide)
  refine nmL hns hnum ?_ (by rfl) (by rfl) (by decide)
  refine mul_int ?_ (mulOk (Nat.le_trans (cm_bits num dv hd0 hbd) (by decide)) (Nat.le_trans hbn (by decide)))
  refine wpAny_Constant_int (lt_int (wpAny_truthy_bool ?_))
  rw [cm_sign num dv hd0, if_neg Bool.false_ne_true]
  refine isTrue_or (wpAny_isTrue_Compare1 (PyProof.Rows.Call_ ?_))
  refine nmB (s := { s with toks := s.toks + 1 + 1 }) X (by rfl) PyProof.Rows.boot_abs (by decide) ?_ (by rfl) (by rfl) (by rfl) (by rfl) (by decide)
  refine PySem.callWith_builtin1 ?_
  refine nmL (s := { s with toks := s.toks + 1 + 1 }) hns hrest ?_ (by rfl) (by rfl) (by decide)
  refine call_abs_int fun u₁ tk₁ => ?_
  refine PyProof.Rows.Call_ ?_
  refine nmB (s := { s with toks := tk₁ }) X (by rfl) PyProof.Rows.boot_abs (by decide) ?_ (by rfl) (by rfl) (by rfl) (by rfl) (by decide)
  refine PySem.callWith_builtin1 ?_
  refine nmL (s := { s with toks := tk₁ }) hns hdv ?_ (by rfl) (by rfl) (by decide)
  refine call_abs_int fun u₂ tk₂ => ?_
  refine ge_int (wpAny_truthy_bool ?_)
  rw [show decide ((if cm num dv < 0 then -cm num dv else cm num dv) ≥ (if dv < 0 then -dv else dv)) = false from cm_small num dv hd0, if_neg Bool.false_ne_true]
  refine isTrue_or (wpAny_isTrue_Compare1 (wpAny_BinOp (wpAny_BinOp ?_)))
  refine nmL (s := { s with toks := tk₂ }) hns hnum ?_ (by rfl) (by rfl) (by decide)
  refine nmL (s := { s with toks := tk₂ }) hns hrest ?_ (by rfl) (by rfl) (by decide)
  refine sub_int ?_
  refine nmL (s := { s with toks := tk₂ + 1 }) hns hdv ?_ (by rfl) (by rfl) (by decide)
  refine mod_int' hd0 ?_
  refine wpAny_Constant_int (ne_int (wpAny_truthy_bool ?_))
  rw [cm_rest num dv, if_neg Bool.false_ne_true]
  refine isTrue_or (wpAny_isTrue_Compare1 (PyProof.Rows.Call_ ?_))
  refine nmG (s := { s with toks := tk₂ + 1 + 1 + 1 }) X (by rfl) ?_ (by rfl) (by rfl) (by rfl) (by decide)
  refine callWith_K X.K (by rfl) ?_
  refine spliced_more (PyProof.Rows.Call_ ?_)
  refine nmB (s := { s with toks := tk₂ + 1 + 1 + 1 }) X (by rfl) PyProof.Rows.boot_abs (by decide) ?_ (by rfl) (by rfl) (by rfl) (by rfl) (by decide)
  refine PySem.callWith_builtin1 ?_
  refine nmL (s := { s with toks := tk₂ + 1 + 1 + 1 }) hns hnum ?_ (by rfl) (by rfl) (by decide)
  refine call_abs_int fun u₃ tk₃ => ?_
  refine spliced_more (PyProof.Rows.Call_ ?_)
  refine nmB (s := { s with toks := tk₃ }) X (by rfl) PyProof.Rows.boot_abs (by decide) ?_ (by rfl) (by rfl) (by rfl) (by rfl) (by decide)
  refine PySem.callWith_builtin1 ?_
  refine nmL (s := { s with toks := tk₃ }) hns hdv ?_ (by rfl) (by rfl) (by decide)
  refine call_abs_int fun u₄ tk₄ => ?_
  refine spliced_nil ⟨X.K, ?_⟩
  refine cldr_raw (s := { s with toks := tk₄ }) X hroom (Int.ne_of_gt (ab_pos hd0)) fun s₅ t₅ hk hg hos => ?_
  have X₅ : Wd w mg mb s₅.heap := X.keeps hk
  have hns₅ := hns.keeps hk
  refine PyProof.Rows.Call_ ?_
  refine nmB X₅ (by rfl) PyProof.Rows.boot_abs (by decide) ?_ (by rfl) (by rfl) (by rfl) (by rfl) (by decide)
  refine PySem.callWith_builtin1 ?_
  refine nmL hns₅ hrest ?_ (by rfl) (by rfl) (by decide)
  refine call_abs_int fun u₆ tk₆ => ?_
  refine ne_int (wpAny_truthy_bool ?_)
  rw [show (cm (if num < 0 then -num else num) (if dv < 0 then -dv else dv) != (if cm num dv < 0 then -cm num dv else cm num dv)) = false from cm_abs num dv hd0, if_neg Bool.false_ne_true]
  refine isTrue_or_nil ?_
  rw [if_neg Bool.false_ne_true]
  refine wpAny_execs_nil ?_
  exact hQ { s₅ with toks := tk₆ } hns₅ hk hg hos
end

section
open PySem PySem.W PyProof.Rows PySem.Calls PyProof.Rows.LCg PySem.SeqAt
variable {w : World} {mg mb : Str → Option Value} {A : Around} {E : Value → Shared → Prop} {s : Shared}

theorem st4_raw {Q : Flow → Shared → Prop} {L fa : Addr} {cd : Value} {m : Str → Option Value} (hns : s.heap.Ns L m)
    (hQ : ∀ s' R, s'.heap.Ns L (fun y => if y = Str.ofString "ranges" then some (.ref R) else m y) → s'.heap.get? R = some (lst []) → (∀ b o, s.heap.get? b = some o → b < R) → (∀ b o, b ≠ L → s.heap.get? b = some o → s'.heap.get? b = some o) → s'.gens = s.gens → s'.os = s.os → Q .next s') :
    wpAny (model pr w) A (exec (st 4) (lawEnv L fa cd)) Q E s := by
  conv in st 4 => whnf
  unfold lawEnv
  conv in lawScope => whnf
  refine wpAny_Assign_Name (wpAny_List (spliced_nil ⟨Nat.zero_le _, ?_⟩))
  try dsimp only
  generalize hH : s.heap.push _ = H
  have k1 : ∀ b o, s.heap.get? b = some o → H.get? b = some o := fun b o e => hH ▸ Heap.get?_push_of_some _ e
  have hR : H.get? s.heap.objs.size = some (lst []) := hH ▸ Heap.get?_push_size _ rfl
  refine wpAny_storeName_local (by rfl) (hns.keeps k1) (fun h₂ hn₂ hs₂ => ?_) (by rfl)
  have hs₂' : Heap.SameBut L H h₂ := hs₂
  have hLR : s.heap.objs.size ≠ L := Nat.ne_of_gt hns.lt
  exact hQ _ _ hn₂ (hs₂'.extBut _ _ hLR hR) (fun b o e => Heap.lt_size e) (fun b o hb e => hs₂'.extBut b o hb (k1 b o e)) rfl rfl

theorem law_raw {Q : Flow → Shared → Prop} {L fa l : Addr} {cd : Value} {m : Str → Option Value} {vs : List Value} {ns : List Int} (X : Wd w mg mb s.heap) (hh : A.handled = none) (hroom : A.depth + 2 < recursionLimit) (hu : A.units + 64 < cLine) (hG : AllBare s.gens)
    (hns : s.heap.Ns L m) (hscr : m (Str.ofString "script") = some (.ref l)) (hl : s.heap.IsList l vs.toArray) (hi : IntsAre vs ns) (hlen : ns.length ≤ 63) (hbits : ∀ n ∈ ns, Builtin.Int.intBits n ≤ 1048576)
    (hc : s.heap.IsCell (L + 1) none) (hL : 47 < L) (hlL : l ≠ L)
    (hQ : ∀ s', (∀ b o, b ≠ 30 → b ≠ L → b ≠ L + 1 → s.heap.get? b = some o → s'.heap.get? b = some o) → Wd w mg mb s'.heap → AllBare s'.gens → s'.os = s.os → Q (.ret (.bool true)) s') :
    wpAny (model pr w) A (execs lawBody (lawEnv L fa cd)) Q E s := by
  have hd : lawBody = [st 0, st 1, st 2, st 3, st 4, kFor, nFor, retStmt] := rfl
  rw [hd]
  have ne47 : ∀ b : Addr, b ≤ 47 → b ≠ L := fun b hb => Nat.ne_of_lt (Nat.lt_of_le_of_lt hb hL)
  have hroom0 : A.depth < recursionLimit := by omega
  refine wpAny_execs_cons (st0_raw hns hscr hl hi hlen hbits fun s₁ num tn hns₁ hbn k₁ hg₁ hos₁ => ?_)
  have X₁ : Wd w mg mb s₁.heap := X.low fun b o hb e => k₁ b o (ne47 b hb) e
  have hl₁ : s₁.heap.IsList l vs.toArray := hl.at fun o e => k₁ _ o hlL e
  refine wpAny_execs_cons (st1_raw X₁ hns₁ ((if_neg (by decide)).trans hscr) hl₁ hi hlen hbits fun s₂ dv td hd0 hns₂ hbd k₂ hg₂ hos₂ => ?_)
  have X₂ : Wd w mg mb s₂.heap := X₁.low fun b o hb e => k₂ b o (ne47 b hb) e
  refine wpAny_execs_cons (st2_raw (num := num) (dv := dv) X₂ hroom0 hns₂ ((if_neg (by decide)).trans (if_pos rfl)) (if_pos rfl) hd0 fun s₃ tr hns₃ k₃ hg₃ hos₃ => ?_)
  have X₃ : Wd w mg mb s₃.heap := X₂.low fun b o hb e => k₃ b o (ne47 b hb) e
  refine wpAny_execs_cons (st3_raw (num := num) (dv := dv) X₃ hroom0 hns₃ ((if_neg (by decide)).trans ((if_neg (by decide)).trans (if_pos rfl))) ((if_neg (by decide)).trans (if_pos rfl)) (if_pos rfl) hd0 hbn hbd fun s₄ hns₄ k₄ hg₄ hos₄ => ?_)
  have X₄ : Wd w mg mb s₄.heap := X₃.keeps k₄
  have k04 : ∀ b o, b ≠ L → s.heap.get? b = some o → s₄.heap.get? b = some o := fun b o hb e => k₄ b o (k₃ b o hb (k₂ b o hb (k₁ b o hb e)))
  refine wpAny_execs_cons (st4_raw hns₄ fun s₅ R hns₅ hR₅ hRn k₅ hg₅ hos₅ => ?_)
  have X₅ : Wd w mg mb s₅.heap := X₄.low fun b o hb e => k₅ b o (ne47 b hb) e
  have k05 : ∀ b o, b ≠ L → s.heap.get? b = some o → s₅.heap.get? b = some o := fun b o hb e => k₅ b o hb (k04 b o hb e)
  have hl₅ : s₅.heap.IsList l vs.toArray := hl.at fun o e => k05 _ o hlL e
  have hLR : L ≠ R := by obtain ⟨o, _, _, e, _⟩ := id hns₄; exact Nat.ne_of_lt (hRn _ _ e)
  have hlR : l ≠ R := by obtain ⟨o, e, _⟩ := id hl; exact Nat.ne_of_lt (hRn _ _ (k04 _ _ hlL e))
  have hcR : L + 1 ≠ R := by obtain ⟨o, e, _⟩ := id hc; exact Nat.ne_of_lt (hRn _ _ (k04 _ _ (Nat.succ_ne_self L) e))
  have h47R : ∀ b : Addr, b ≤ 47 → b ≠ R := fun b hb => by
    have : (47 : Addr) < R := hRn 47 _ (X₄.K 47 _ rfl)
    exact Nat.ne_of_lt (Nat.lt_of_le_of_lt hb this)
  refine wpAny_execs_cons (kloop_raw (l := l) (R := R) X₅ hh hns₅ ((if_neg (by decide)).trans ((if_neg (by decide)).trans ((if_neg (by decide)).trans ((if_neg (by decide)).trans hscr)))) (if_pos rfl) hl₅ hi hlen hR₅ hLR hlR hlL fun s₆ m₆ ts hns₆ hm₆ hl₆ hts₆ h5 hLT hsp k₆ hg₆ hos₆ => ?_)
  have X₆ : Wd w mg mb s₆.heap := X₅.low fun b o hb e => k₆ b o (ne47 b hb) (h47R b hb) e
  have hc₆ : s₆.heap.IsCell (L + 1) none := let ⟨o, ho, hd⟩ := hc; ⟨o, k₆ _ _ (Nat.succ_ne_self L) hcR (k05 _ _ (Nat.succ_ne_self L) ho), hd⟩
  have hg06 : s₆.gens = s.gens := hg₆.trans (hg₅.trans (hg₄.trans (hg₃.trans (hg₂.trans hg₁))))
  have hos06 : s₆.os = s.os := hos₆.trans (hos₅.trans (hos₄.trans (hos₃.trans (hos₂.trans hos₁))))
  have hnum₆ : m₆ (Str.ofString "number") = some (.int num tn) := (hm₆ _ (by decide)).trans ((if_neg (by decide)).trans ((if_neg (by decide)).trans ((if_neg (by decide)).trans (if_pos rfl))))
  have bx : ∀ p ∈ ts, Builtin.Int.intBits p.x ≤ 1048576 := fun p hp => hbits _ (hsp p hp).1
  have by' : ∀ p ∈ ts, Builtin.Int.intBits p.y ≤ 1048577 := fun p hp => by
    obtain ⟨d, hd, e⟩ := (hsp p hp).2
    rw [e]
    exact bits_add (bx p hp) (hbits d hd)
  have bn : ∀ n ∈ nums num ts, Builtin.Int.intBits n ≤ 1048577 := fun n hn => by
    rcases List.mem_cons.mp hn with rfl | hn
    · exact Nat.le_succ_of_le hbn
    · rcases List.mem_append.mp hn with hn | hn
      · obtain ⟨p, hp, rfl⟩ := List.mem_map.mp hn
        exact Nat.le_succ_of_le (bx p hp)
      · obtain ⟨p, hp, rfl⟩ := List.mem_map.mp hn
        exact by' p hp
  refine wpAny_execs_cons (nloop_raw (R := R) (ts := ts) (num := num) X₆ hh hroom hu (hg06 ▸ hG) hns₆ ((hm₆ _ (by decide)).trans (if_pos rfl)) hnum₆ hc₆ hL hLR hLT hl₆ hts₆ (by rw [sizeLine_eq]; omega)
    (fun n hn p hp => mulOk (Nat.le_trans (bits_sub (bn n hn) (bx p hp)) (by decide)) (Nat.le_trans (bits_sub (by' p hp) (bn n hn)) (by decide))) fun s₇ m₇ hns₇ hm₇ k₇ X₇ hG₇ hos₇ => ?_)
  refine wpAny_execs_cons (ret_raw X₇ hroom0 hu hns₇ ((hm₇ _ (by decide)).trans hnum₆) fun s₈ k₈ hg₈ hos₈ => ?_)
  refine hQ s₈ (fun b o h1 h2 h3 e => k₈ b o (k₇ b o h1 h2 h3 (k₆ b o h2 ?_ (k05 b o h2 e)))) (X₇.keeps k₈) (hg₈ ▸ hG₇) (hos₈.trans (hos₇.trans hos06))
  exact Nat.ne_of_lt (hRn b o (k04 b o h2 e))
end

section
open PySem PySem.W PyProof.Rows PySem.Calls PyProof.Rows.LCg PySem.SeqAt
variable {w : World} {mg mb : Str → Option Value}

theorem wd_of_top {mean : ExcName → Option Value} {h : Heap} (K : (hd.heap_39 w.params).In h) (T : Top hd.view_39 (looseW hd.view_39 []) mean mg mb h) :
    Wd w mg mb h ∧ h.IsCode 34 30 #[] ∧ h.TableAt 34 30 #[] := by
  have hm : mg (Str.ofString "within_range_list") = some (.ref 35) := mg_of K T.g (by rfl)
  obtain ⟨c, P, hc, B⟩ := based_of_top T (name := Str.ofString "within_range_list") (by rfl) hm (K 35 _ rfl) rfl
  have hc' : (34 : Addr) = c := by injection hc
  subst hc'
  have hcode := B.code
  have htab := B.tab
  have hP : P = 30 := by
    obtain ⟨o, vs, file, tf, flags, tg, inF, text, tt, op, ho, hd, h11, _⟩ := hcode
    have h2 := K 34 _ rfl
    rw [ho] at h2
    cases h2
    injection hd with hd
    subst hd
    injection h11 with h11
    exact h11.symm
  subst hP
  exact ⟨⟨K, topRead_of T, bmod_of_top T, ⟨_, hcode, htab⟩⟩, hcode, htab⟩

theorem fin_law {mean : ExcName → Option Value} {s₁ : Shared} {E : Value → Shared → Prop} {Q : Flow → Shared → Prop} {l fa : Addr} {cd : Value} {m : Str → Option Value} {vs : List Value} {ns : List Int} {h₁ : Heap} {tk₁ : Nat} {oc : Obj} {nb : List (Addr × Obj)}
    (K : (hd.heap_39 w.params).In s₁.heap) (T : Top hd.view_39 (looseW hd.view_39 []) mean mg mb s₁.heap) (hg : s₁.gens = #[])
    (hl : s₁.heap.IsList l vs.toArray) (hi : IntsAre vs ns) (hcond : ¬ ((63 : Nat) : Int) < (ns.length : Int)) (hlay : (PyData.list (ns.map PyData.int)).layable0 = true)
    (F : Fr s₁.heap s₁.heap.objs.size h₁ m) (hscr : m (Str.ofString "script") = some (.ref l)) (N : News s₁.heap s₁.heap.objs.size h₁ nb) (hoc : (s₁.heap.objs.size + 1, oc) ∈ nb) (hod : oc.data = .cell none)
    (hQ : ∀ s', OldK s₁.heap s'.heap → s'.os = s₁.os → AllBare s'.gens → Q (.ret (.bool true)) s') :
    wpAny (model pr w) (callerA.deeper (lawEnv s₁.heap.objs.size fa cd)) (execs lawBody (lawEnv s₁.heap.objs.size fa cd)) Q E { s₁ with heap := h₁, toks := tk₁ } := by
  obtain ⟨X, hcode, htab⟩ := wd_of_top K T
  have hlen : ns.length ≤ 63 := by omega
  have hL : 47 < s₁.heap.objs.size := X.has47
  have hlL : l < s₁.heap.objs.size := by obtain ⟨_, e, _⟩ := hl; exact Heap.lt_size e
  refine law_raw (l := l) (vs := vs) (ns := ns) (X.keeps F.keep) (by rfl) (by show callerA.depth + 1 + 2 < recursionLimit; decide) (by show callerA.units + 3 + 64 < cLine; decide) (AllBare.of_eq hg) F.ns hscr (hl.at fun o e => F.keep _ o e) hi hlen (fun n hn => intBits_le_of_item hn hlay)
    ⟨oc, N.get hoc, hod⟩ hL (Nat.ne_of_lt hlL) fun s' hk X' hG hos => ?_
  obtain ⟨ps, _, ht'⟩ := X'.tab
  refine hQ s' ((OldK.refl _).step_table (c₀ := 34) (c := 34) (P := 30) (ps₀ := #[]) (ps := #[]) (more := ps) htab htab (by simpa using ht') (fun b o hb e => ?_) (by decide)) hos hG
  have hbl : b < s₁.heap.objs.size := Heap.lt_size e
  exact hk b o hb (Nat.ne_of_lt hbl) (Nat.ne_of_lt (Nat.lt_succ_of_lt hbl)) (F.keep b o e)
end
end Mine

set_option maxRecDepth 100000 in
set_option maxHeartbeats 8000000 in
theorem PySem.Challenge.cw_nk0002_01_holds : PySem.Challenge.rw_nk0002_01.Holds :=
  Mine.hd (by
  lgec_go0
  refine Mine.fin_law (by with_reducible assumption) (by with_reducible assumption) (by with_reducible assumption) (by with_reducible assumption) (by with_reducible assumption) (by assumption) (by assumption) (by with_reducible assumption) (by rfl) (by with_reducible assumption) (List.Mem.head _) (by rename (_ = Data.cell _) => hx; exact hx) ?_
  intro s' hK hos hG
  refine ⟨.inl ⟨.bool true, .bool true, [], rfl, raisesW_false (by wrow_none_raised), ReadsW.bool _, ?_, unshared_nil⟩, hK, hos, hG⟩
  exact postW_of (by wrow_shape) (by wtm_val) rfl)
