import PyProof.Rows.All
import Wide.All
import OpenK.AllK
import Wide.FinOn
import PyProof.EqAt
import PySem.Challenge.RW_qj0007_01
set_option Elab.async false
set_option compiler.extract_closed false
set_option maxRecDepth 100000
set_option maxHeartbeats 8000000
section
open PySem PySem.W PyProof.Rows
namespace Mine
section
local macro_rules | `(tactic| refine $t:term) => if t.raw.isOfKind ``Lean.Parser.Term.app && t.raw[0].getId == `PySem.W.holds_open then `(tactic| (rename OpenLaw.Holds _ => hh; exact hh.2)) else Lean.Macro.throwUnsupported
/-- lays the written part of the heap and the view, and says nothing -/
theorem hd0 (h : PySem.Challenge.rw_qj0007_01.Holds) : True := by
  refine (fun (_ : PySem.Challenge.rw_qj0007_01.row.Holds) => trivial) ?_
  w_on
  k_head
end
def as0 : List Addr := [2, 3, 15, 17, 18, 20, 21, 32, 34, 35, 37, 38, 39, 41, 42, 44, 45, 46, 48, 49, 51, 52, 53, 55, 56, 58, 59, 60, 62, 63, 65, 66, 67, 69, 70, 72, 73, 74, 76, 77, 79, 80, 81, 82, 83, 84, 85, 88, 90, 91, 93, 94, 95, 97, 98, 100, 101, 102, 104, 105, 107, 108, 109, 111, 112, 114, 115, 116, 118, 119, 121, 122, 123, 125, 126, 128, 129, 130, 133, 134, 135, 137, 138, 140, 141, 142, 144, 145, 147, 148, 149, 152, 153, 154, 157, 158, 159, 162, 163, 164, 166, 167, 169, 170]
theorem as0_is (P : Params) : as0 = List.map (fun x => x.1) (hd0.heap_1 P) := by kernel_rfl
noncomputable def Xt0 (s : Shared) : Bool := xlAt hd0.view_1 [] s && recOk (RowW.records PySem.Challenge.rw_qj0007_01.row.toRowW) s
/-- the top's run from the known start, once for each answer to a row of the world -/
theorem left_boot {p q : Program} {loose : List Str} {Xt : Shared → Bool} {α : Type} {Yf : Shared → α} {Ya : World → α} {N : Nat} {g0 : Bool} (row : String)
    (e : opening p = plainProg p.main.scope.names) (hN : Nat.ble 600 N = true) (f : ∀ s, fenceModules? p s = some s)
    (h0 : ∀ (w : World) (os : OsState), (topFrom treeTable p (w.withFollow row false) N ⟨boot_heap w.params, Array.mk [], boot_drawn, boot_toks, os⟩).map (fun s => (openSeen q loose (importedModules p.main.body) Xt g0 s, Yf s)) = some (openGood q loose, Ya (w.withFollow row false)))
    (h1 : ∀ (w : World) (os : OsState), (topFrom treeTable p (w.withFollow row true) N ⟨boot_heap w.params, Array.mk [], boot_drawn, boot_toks, os⟩).map (fun s => (openSeen q loose (importedModules p.main.body) Xt g0 s, Yf s)) = some (openGood q loose, Ya (w.withFollow row true))) :
    LeftO p q loose Xt Yf Ya N g0 := fun w => by
  obtain ⟨⟨h, gs, d, k, os⟩, a, b⟩ := Option.map_eq_some_iff.mp (boot_open e hN f w)
  obtain ⟨rfl, rfl, rfl, rfl⟩ : h = boot_heap w.params ∧ gs = Array.mk [] ∧ d = boot_drawn ∧ k = boot_toks := by simpa using b
  unfold openEnds
  rw [a]
  have z := World.withFollow_self w row
  cases hb : w.params.followText row <;> rw [hb] at z
  · have := h0 w os
    rw [z] at this; exact this
  · have := h1 w os
    rw [z] at this; exact this
theorem run0 (w : World) (os : OsState) :
    (topFrom treeTable PySem.Challenge.rw_qj0007_01.row.prog (w.withFollow "special-get-raises" false) 2092 ⟨boot_heap w.params, Array.mk [], boot_drawn, boot_toks, os⟩).map
        (fun s => (openSeen hd0.view_1 [Str.ofString "Whitespace"] (importedModules PySem.Challenge.rw_qj0007_01.row.prog.main.body) Xt0 true s, (kHook hd0.heap_1 as0 as0_is).obs s)) =
      some (openGood hd0.view_1 [Str.ofString "Whitespace"], (kHook hd0.heap_1 as0 as0_is).val (w.withFollow "special-get-raises" false)) :=
  (And.intro (by kernel_rfl) trivial : _ ∧ True).1
theorem run1 (w : World) (os : OsState) :
    (topFrom treeTable PySem.Challenge.rw_qj0007_01.row.prog (w.withFollow "special-get-raises" true) 2092 ⟨boot_heap w.params, Array.mk [], boot_drawn, boot_toks, os⟩).map
        (fun s => (openSeen hd0.view_1 [Str.ofString "Whitespace"] (importedModules PySem.Challenge.rw_qj0007_01.row.prog.main.body) Xt0 true s, (kHook hd0.heap_1 as0 as0_is).obs s)) =
      some (openGood hd0.view_1 [Str.ofString "Whitespace"], (kHook hd0.heap_1 as0 as0_is).val (w.withFollow "special-get-raises" true)) :=
  (And.intro (by kernel_rfl) trivial : _ ∧ True).1
section
local macro_rules | `(tactic| o_law) => `(tactic| refine holds_law (by decide +kernel) fun said => ?_)
local macro_rules | `(tactic| k_head) => `(tactic| refine PySem.W.holds_open (q := hd0.view_1) (loose := [Str.ofString "Whitespace"]) (Xt := Xt0) (XP := XL hd0.view_1 []) (Yf := (kHook hd0.heap_1 as0 as0_is).obs) (Ya := (kHook hd0.heap_1 as0 as0_is).val) (YP := (kHook hd0.heap_1 as0 as0_is).says) (N := 2092) (left_boot "special-get-raises" (by kernel_rfl) (by decide +kernel) (fun s => by kernel_rfl) run0 run1) (kHook hd0.heap_1 as0 as0_is).of (kHook hd0.heap_1 as0 as0_is).keeps (fun s e => xl_of s (Bool.and_eq_true_iff.mp e).1) XL.keeps (by rfl) (by rfl) (by rfl) (fun s e => recFacts_of (Bool.and_eq_true_iff.mp e).2) (by rfl) (by first | assumption | decide +kernel) (by decide +kernel) ⟨rfl, rfl, rfl, rfl, rfl, by decide +kernel⟩ ?hw ?hc)
local macro_rules | `(tactic| walk_at "pad1") => `(tactic| fail)
open_top hd for PySem.Challenge.rw_qj0007_01
end
end Mine
end
section
open PySem PySem.W PyProof.Rows PySem.Spec PySem.Calls
namespace Mine
/-- a tuple's object -/
abbrev tupO (vs : List Value) : Obj := { cls := .type "tuple", data := .seq vs.toArray }
/-- what a contract knows of the caller -/
structure Cxt (w : World) (mean : ExcName → Option Value) (mg mb : Str → Option Value) (A₀ : Around) (base : Heap) (outer : List Env) (h₀ : Heap) (L : Addr) (m : Str → Option Value) (cs : Scope) (h : Heap) : Prop where
  B : Below A₀ base outer h₀
  F : Fr h₀ L h m
  X : (hd0.heap_1 w.params).In h₀
  T : Top hd0.view_1 (looseW hd0.view_1 [Str.ofString "Whitespace"]) mean mg mb h₀
  hk : cs.kind = .function
/-- a triple of ints in the ledger, as one number -/
def Trip (R : List (Addr × Obj)) (v : Value) (k : Int) : Prop :=
  ∃ (a : Addr) (f i j : Int) (t u x : Nat), v = .ref a ∧ (a, tupO [.int f t, .int i u, .int j x]) ∈ R ∧ 0 ≤ i ∧ i < 10 ∧ 0 ≤ j ∧ j < 10 ∧ k = f * 100 + i * 10 + j
theorem Trip.mono {R R' : List (Addr × Obj)} {v : Value} {k : Int} (h : Trip R v k) (hs : ∀ p ∈ R, p ∈ R') : Trip R' v k := by
  obtain ⟨a, f, i, j, t, u, x, e, hm, r⟩ := h
  exact ⟨a, f, i, j, t, u, x, e, hs _ hm, r⟩
/-- a list of triples, as numbers -/
def Trips (R : List (Addr × Obj)) (vs : List Value) (ks : List Int) : Prop :=
  vs.length = ks.length ∧ ∀ i, i < ks.length → Trip R (vs.getD i .none) (ks.getD i 0)
theorem Trips.mono {R R' : List (Addr × Obj)} {vs : List Value} {ks : List Int} (h : Trips R vs ks) (hs : ∀ p ∈ R, p ∈ R') : Trips R' vs ks :=
  ⟨h.1, fun i hi => (h.2 i hi).mono hs⟩
theorem Trips.set {R : List (Addr × Obj)} {vs : List Value} {ks : List Int} (h : Trips R vs ks) {v : Value} {k : Int} (hv : Trip R v k) (i : Nat) : Trips R (vs.set i v) (ks.set i k) := by
  refine ⟨by simp [h.1], fun j hj => ?_⟩
  simp only [List.length_set] at hj
  have hj' : j < vs.length := by rw [h.1]; exact hj
  simp only [List.getD_eq_getElem?_getD, List.getElem?_set]
  by_cases e : i = j
  · subst e; simp [hj, hj', hv]
  · have := h.2 j hj
    simp only [List.getD_eq_getElem?_getD] at this
    simp [e, this]
theorem Trips.append {R : List (Addr × Obj)} {vs : List Value} {ks : List Int} (h : Trips R vs ks) {v : Value} {k : Int} (hv : Trip R v k) : Trips R (vs ++ [v]) (ks ++ [k]) := by
  refine ⟨by simp [h.1], fun j hj => ?_⟩
  simp only [List.length_append, List.length_cons, List.length_nil] at hj
  simp only [List.getD_eq_getElem?_getD, List.getElem?_append, h.1]
  by_cases e : j < ks.length
  · have := h.2 j e
    simp only [List.getD_eq_getElem?_getD] at this
    simp only [e, if_true, this]
  · have : j = ks.length := by omega
    subst this; simp [hv]
end Mine
end
section
open PySem PySem.W PyProof.Rows PySem.Spec PySem.Calls
namespace Mine
open PySem.SeqAt PySem.MeetsSeq PySem.MeetsSeq2 PySem.MeetsSeq3 PySem.SeqRoads2
open AutoSeq1 (wpAny_loadPart')
/-- one item is less than another -/
def LtAt (A : Around) (s : Shared) (y x : Value) (b : Bool) : Prop :=
  ∀ (prog : Program) (w : World) (E : Value → Shared → Prop) (Q : Value → Shared → Prop), Q (.bool b) s → wpAny (model prog w) A (richCompare .Lt y x) Q E s
/-- the first place that differs decides -/
def lexAux (e lt : Nat → Bool) : List Nat → Bool
  | [] => false
  | j :: r => if e j then lexAux e lt r else lt j
theorem tuple_ltAt (l b : Addr) (items items2 : Array Value) (n n2 : Nat) (dd dd2 : Option Addr) (sl sl2 : Array (Option Value)) (hsz : items.size = items2.size) (e lt : Nat → Bool) :
    Meets (Builtin.«tuple.__lt__» ⟨[.ref l, .ref b], []⟩)
      (fun A R s => s.heap.get? l = some { cls := .type "tuple", dict := dd, data := .seq items n, slots := sl } ∧ s.heap.get? b = some { cls := .type "tuple", dict := dd2, data := .seq items2 n2, slots := sl2 } ∧
        (∀ j (h1 : j < items.size) (h2 : j < items2.size), EqAt A.in1 s items[j] items2[j] (e j)) ∧ (∀ j (h1 : j < items.size) (h2 : j < items2.size), e j = false → LtAt A.in1 s items[j] items2[j] (lt j)) ∧
        R (.ok (.ret (.bool (lexAux e lt (List.range items.size))))) s) :=
  .of_wp fun prog w A R s h => by
    obtain ⟨hp, g, d, tk, os⟩ := s; obtain ⟨hl, hb, he, hlt', h⟩ := h
    have f2 := AutoSeq1.sub_tuple_tuple
    have hZ : (items.toList.zip items2.toList).length = items.size := by simp [hsz]
    wp_walk using wpAny_loadPart' hl, wpAny_loadPart' hb, wpAny_forIn_list _ (fun rest b s' => b.1 = none ∧ s' = ⟨hp, g, d, tk, os⟩ ∧ ∃ i, rest = (items.toList.zip items2.toList).drop i ∧
      R (.ok (.ret (.bool (lexAux e lt ((List.range items.size).drop i))))) ⟨hp, g, d, tk, os⟩) _
    case turn =>
      rintro ⟨y, x⟩ rest b s' ⟨hb', rfl, i, hz, hR⟩
      have hlt : i < (items.toList.zip items2.toList).length := by
        rcases Nat.lt_or_ge i (items.toList.zip items2.toList).length with h' | h'
        · exact h'
        · rw [List.drop_of_length_le h'] at hz; cases hz
      have h1 : i < items.size := hZ ▸ hlt
      have h2 : i < items2.size := hsz ▸ h1
      rw [List.drop_eq_getElem_cons hlt] at hz
      injection hz with hyx hrest
      have hy : y = items[i] := by have := congrArg Prod.fst hyx; simpa using this
      have hx : x = items2[i] := by have := congrArg Prod.snd hyx; simpa using this
      subst hy hx
      have hd : (List.range items.size).drop i = i :: (List.range items.size).drop (i + 1) := by simp [List.drop_eq_getElem_cons, h1]
      rw [hd, lexAux] at hR
      refine wpAny_bind (he i h1 h2 prog w _ _ ?_)
      cases hy : e i with
      | true =>
        rw [hy] at hR
        wp_walk
        exact ⟨rfl, rfl, i + 1, hrest, by simpa using hR⟩
      | false =>
        rw [hy] at hR
        simp only [Bool.not_false, if_true]
        refine wpAny_bind (wpAny_rule ?_)
        refine wpAny_bind (hlt' i h1 h2 hy prog w _ _ ?_)
        wp_walk
        exact ⟨_, rfl, by simpa using hR⟩
    case fin =>
      rintro ⟨b1, b2⟩ s' ⟨hb', rfl, i, hz, hR⟩
      simp only at hb'
      subst hb'
      have hge : items.size ≤ i := by
        rcases Nat.lt_or_ge i (items.toList.zip items2.toList).length with h' | h'
        · rw [List.drop_eq_getElem_cons h'] at hz; cases hz
        · exact hZ ▸ h'
      rw [List.drop_of_length_le (by simpa using hge)] at hR
      wp_walk
      exact ⟨_, rfl, by simpa [Builtin.Tuple.tupleCompareSizes, hsz, lexAux] using hR⟩
    case h =>
      exact ⟨rfl, rfl, 0, rfl, by simpa using h⟩
end Mine
namespace Mine
open PySem.SeqAt PySem.MeetsSeq PySem.MeetsSeq2 PySem.MeetsSeq3 PySem.SeqRoads2
theorem LtAt.ints {A : Around} {s : Shared} {a b : Int} {t u : Nat} : LtAt A s (.int a t) (.int b u) (decide (a < b)) := fun _ _ _ _ h =>
  richCompare_gives (op := .Lt) (typeIs_int s _ t) (typeIs_int s _ u) F.slot_int_lt F.entry_int_lt (F.args_int_lt_2 _ _) (gives_int_lt _ _ t u) (fun x => nomatch x) h
theorem EqAt.ints {A : Around} {s : Shared} {a b : Int} {t u : Nat} : EqAt A s (.int a t) (.int b u) (a == b) := fun _ _ _ _ h => wpAny_eqBool_int h
theorem LtAt.tuples {A : Around} {s : Shared} {l b : Addr} {xs ys : List Value} {e lt : Nat → Bool} (hx : s.heap.get? l = some (tupO xs)) (hy : s.heap.get? b = some (tupO ys)) (hsz : xs.length = ys.length) (hu : A.units < cLine)
    (he : ∀ j (h1 : j < xs.length) (h2 : j < ys.length), EqAt A.in1 s xs[j] ys[j] (e j)) (hl : ∀ j (h1 : j < xs.length) (h2 : j < ys.length), e j = false → LtAt A.in1 s xs[j] ys[j] (lt j)) :
    LtAt A s (.ref l) (.ref b) (lexAux e lt (List.range xs.length)) := fun prog w E Q h =>
  richCompare_meets_room (op := .Lt) ⟨_, hx, rfl⟩ ⟨_, hy, rfl⟩ F.slot_tuple_lt F.entry_tuple_lt (F.args_tuple_lt_2 _ _) (tuple_ltAt l b xs.toArray ys.toArray 0 0 none none #[] #[] (by simpa using hsz) e lt)
    ⟨hx, hy, by simpa using he, by simpa using hl, (show Value.bool (lexAux e lt (List.range xs.toArray.size)) ≠ Value.notImplemented ∧ Q (.bool (lexAux e lt (List.range xs.toArray.size))) s from ⟨(fun x => nomatch x), by rw [List.size_toArray]; exact h⟩)⟩ hu
section
variable {prog : Program} {w : World} {A : Around} {E : Value → Shared → Prop} {s : Shared} {h₀ : Heap} {L D : Addr} {m : Str → Option Value} {news news' R : List (Addr × Obj)} {vs : List Value} {ks : List Int} {n : Nat} {k x : Int} {t u : Tok}
theorem lt_trip {v1 v2 : Value} {k1 k2 : Int} {Q : Value → Shared → Prop} (N : News h₀ L s.heap news) (h1 : Trip R v1 k1) (h2 : Trip R v2 k2) (hs : ∀ p ∈ R, p ∈ news) (hu : A.units < cLine) (h : Q (.bool (decide (k1 < k2))) s) :
    wpAny (model prog w) A (compareOp .Lt v1 v2) Q E s := by
  obtain ⟨a, f, i, j, t, u, x, rfl, hm, b1, b2, b3, b4, rfl⟩ := h1
  obtain ⟨a', f', i', j', t', u', x', rfl, hm', c1, c2, c3, c4, rfl⟩ := h2
  refine cmp_ofLt ?_
  refine LtAt.tuples (xs := [.int f t, .int i u, .int j x]) (ys := [.int f' t', .int i' u', .int j' x']) (N.get (hs _ hm)) (N.get (hs _ hm')) rfl hu
    (e := fun n => match n with | 0 => f == f' | 1 => i == i' | _ => j == j') (lt := fun n => match n with | 0 => decide (f < f') | 1 => decide (i < i') | _ => decide (j < j')) ?_ ?_ prog w E Q ?_
  · intro n h1 h2
    match n, h1 with
    | 0, _ => exact EqAt.ints
    | 1, _ => exact EqAt.ints
    | 2, _ => exact EqAt.ints
  · intro n h1 h2 _
    match n, h1 with
    | 0, _ => exact LtAt.ints
    | 1, _ => exact LtAt.ints
    | 2, _ => exact LtAt.ints
  · have e : lexAux (fun n => match n with | 0 => f == f' | 1 => i == i' | _ => j == j') (fun n => match n with | 0 => decide (f < f') | 1 => decide (i < i') | _ => decide (j < j')) (List.range [Value.int f t, .int i u, .int j x].length) = decide (f * 100 + i * 10 + j < f' * 100 + i' * 10 + j') := by
      show lexAux _ _ [0, 1, 2] = _
      simp only [lexAux, beq_iff_eq]
      by_cases q1 : f = f'
      · by_cases q2 : i = i'
        · by_cases q3 : j = j'
          · simp [q1, q2, q3]
          · simp only [q1, q2, q3, if_true, if_false]; exact decide_eq_decide.mpr (by omega)
        · simp only [q1, q2, if_true, if_false]; exact decide_eq_decide.mpr (by omega)
      · simp only [q1, if_false]; exact decide_eq_decide.mpr (by omega)
    rw [e]; exact h
/-- an item of a list of triples -/
theorem item_trip {value slice : PySem.Expr} {Q : Value → Shared → Prop} (N : News h₀ L s.heap news) (hm : (D, listOf vs.toArray n) ∈ news) (hi : Trips R vs ks) (h0 : 0 ≤ k) (h1 : k < ks.length) (hfit : ks.length ≤ 1000)
    (h : ∀ a, vs.getD k.toNat .none = .ref a → Trip R (.ref a) (ks.getD k.toNat 0) → Q (.ref a) s)
    (hs : subscripted slice false (.ref D) (.int k u) = operate [.ref D, .int k u] (getItem (.ref D) (.int k u)) := by with_unfolding_all rfl) :
    wpAny (model prog w) A (subscriptTail value slice (.ref D) (.int k u)) Q E s := by
  have hl : s.heap.IsList D vs.toArray := PySem.IsL.isList (n := n) (N _ hm).1
  have hlt : k.toNat < ks.length := by omega
  have hlt' : k.toNat < vs.length := by rw [hi.1]; exact hlt
  have ht := hi.2 k.toNat hlt
  obtain ⟨a, ha⟩ : ∃ a, vs.getD k.toNat .none = .ref a := by obtain ⟨a, _, _, _, _, _, _, e, _⟩ := ht; exact ⟨a, e⟩
  have hx : vs.toArray[k.toNat]? = some (.ref a) := by
    rw [← ha]; simp [hlt']
  rw [ha] at ht
  exact tail_any hl.typeIs slot_list_getitem.lookup (wpAny_getItem_list hl h0 (by omega) hx (h a ha ht)) hs
/-- a triple laid into a list of triples -/
theorem set_trip {a : Addr} {kx : Int} {Q : Unit → Shared → Prop} (F : Fr h₀ L s.heap m) (N : News h₀ L s.heap news) (U : Upd D (listOf vs.toArray n) (listOf (vs.set k.toNat (.ref a)).toArray n) news news') (hi : Trips R vs ks) (hx : Trip R (.ref a) kx) (h0 : 0 ≤ k) (h1 : k < ks.length) (hfit : ks.length ≤ 1000)
    (h : ∀ h', Fr h₀ L h' m → News h₀ L h' news' → Trips R (vs.set k.toNat (.ref a)) (ks.set k.toNat kx) → Q () { s with heap := h' }) :
    wpAny (model prog w) A (setItem (.ref D) (.int k t) (.ref a)) Q E s := by
  obtain ⟨pre, post, rfl, rfl, a', b⟩ := U.split
  have z := N (D, listOf vs.toArray n) (List.mem_append.mpr (.inr (.head _)))
  have hl : vs.length = ks.length := hi.1
  refine ki_setAt z.1 h0 (by omega) (by simp only [List.size_toArray]; omega) (h _ (F.change (Heap.SameBut.update ..) z.2.1 z.2.2) (ki_turn _ N a' b ?_ ?_) (hi.set hx _))
  · show vs.toArray.setIfInBounds k.toNat (.ref a) = (vs.set k.toNat (.ref a)).toArray
    apply Array.toList_inj.mp
    simp
  · simp
end
/-- sifting a number up towards the root -/
def sdn (x : Int) (ks : List Int) (p : Nat) : List Int :=
  if 0 < p then
    if x < ks.getD ((p - 1) / 2) 0 then sdn x (ks.set p (ks.getD ((p - 1) / 2) 0)) ((p - 1) / 2) else ks.set p x
  else ks.set p x
termination_by p
decreasing_by omega
end Mine
namespace Mine
/-- a goal held back from the walk -/
def Hold (p : Prop) : Prop := p
theorem hold {p : Prop} (h : Hold p) : p := h
theorem unhold {p : Prop} (h : p) : Hold p := h
/-- the goal behind a piece of a walk, out of the walk's sight (its terms stay small) -/
theorem hide {α : Type} {M : Model} {A : Around} {t : Sem α} {Q : α → Shared → Prop} {E : Value → Shared → Prop} {s : Shared} (h : ∀ Q' : α → Shared → Prop, (∀ v s, Q v s → Q' v s) → wpAny M A t Q' E s) : wpAny M A t Q E s := h Q fun _ _ x => x
theorem hideW {M : Model} {A : Around} {t : Sem Bool} {body : Sem Flow} {P : Flow → Shared → Prop} {R : Shared → Prop} {E : Value → Shared → Prop} {s : Shared} (h : ∀ (P' : Flow → Shared → Prop) (R' : Shared → Prop), (∀ f s, P f s → P' f s) → (∀ s, R s → R' s) → wpAny M A t (fun b s₂ => if b = true then wpAny M A body P' E s₂ else R' s₂) E s) :
    wpAny M A t (fun b s₂ => if b = true then wpAny M A body P E s₂ else R s₂) E s := h P R (fun _ _ x => x) (fun _ x => x)
end Mine
namespace Mine
section
variable {prog : Program} {w : World} {A : Around} {E : Value → Shared → Prop} {Q : Flow → Shared → Prop} {s : Shared} {env : Env} {h₀ : Heap} {L : Addr}
theorem kstB_self {ps : List (Str × Value)} {m₁ : Str → Option Value} (h1 : ∀ p ∈ ps, m₁ p.1 = some p.2) : kstB m₁ ps = m₁ := by
  funext y
  exact kstB_eq h1 fun _ => rfl
/-- a turn's end -/
def WEnd {σ : Type} (h₀ : Heap) (L : Addr) (s : Shared) (Led : σ → List (Addr × Obj)) (ps : σ → List (Str × Value)) (P : σ → Prop) (s₂ : Shared) : Prop :=
  ∃ (c' : σ) (h' : Heap) (tk : Nat) (m' : Str → Option Value) (news' : List (Addr × Obj)), s₂ = { s with heap := h', toks := tk } ∧ Fr h₀ L h' m' ∧ News h₀ L h' news' ∧ (∀ p ∈ Led c', p ∈ news') ∧ (∀ p ∈ ps c', m' p.1 = some p.2) ∧ P c'
theorem WEnd.intro {σ : Type} {Led : σ → List (Addr × Obj)} {ps : σ → List (Str × Value)} {P : σ → Prop} {h' : Heap} {tk : Nat} {m' : Str → Option Value} {news' : List (Addr × Obj)} (c' : σ) (F : Fr h₀ L h' m') (N : News h₀ L h' news') (hn : ∀ p ∈ Led c', p ∈ news') (hk : ∀ p ∈ ps c', m' p.1 = some p.2) (hp : P c') :
    WEnd h₀ L s Led ps P { s with heap := h', toks := tk } := ⟨c', h', tk, m', news', rfl, F, N, hn, hk, hp⟩
def WPost {σ : Type} (h₀ : Heap) (L : Addr) (s : Shared) (Led : σ → List (Addr × Obj)) (ps : σ → List (Str × Value)) (P : σ → Prop) (Q : Flow → Shared → Prop) (f : Flow) (s₂ : Shared) : Prop :=
  match f with
  | .ret v => Q (.ret v) s₂
  | .brk => Q .next s₂
  | _ => WEnd h₀ L s Led ps P s₂
theorem my_while {σ : Type} {test : Expr} {body : List Stmt} {pos : Pos} {m₀ : Str → Option Value} (Led : σ → List (Addr × Obj)) (ps : σ → List (Str × Value)) (P : σ → Prop) (μ : σ → Nat) (c₀ : σ)
    (F : Fr h₀ L s.heap m₀) (N : News h₀ L s.heap (Led c₀)) (hk : ∀ p ∈ ps c₀, m₀ p.1 = some p.2) (hp : P c₀)
    (turn : ∀ (c : σ) (u : Str → Option Value) h tk, P c → Fr h₀ L h (kstB u (ps c)) → News h₀ L h (Led c) →
      wpAny (model prog w) A (isTrue test env (eval test env)) (fun b s₂ =>
        if b = true then wpAny (model prog w) A (execs body env) (WPost h₀ L s Led ps (fun c' => P c' ∧ μ c' < μ c) Q) E s₂ else Q .next s₂) E { s with heap := h, toks := tk })
    (hE : PassesOwn (model prog w) A env E := by passes_own) :
    wpAny (model prog w) A (exec (.While test body [] pos) env) Q E s := by
  refine While_inv2 (fun n m nx => ∃ c : σ, nx = Led c ∧ μ c = n ∧ (∀ p ∈ ps c, m p.1 = some p.2) ∧ P c) F N ⟨c₀, rfl, rfl, hk, hp⟩ ?_ hE
  rintro n m₁ nx h tk F₁ N₁ ⟨c, hnx, hsz, h1, hp'⟩
  rw [hnx] at N₁
  rw [← hsz]
  rw [← kstB_self h1] at F₁
  refine wpAny_mono (turn c m₁ h tk hp' F₁ N₁) (fun b s₂ p => ?_) fun _ _ x => x
  cases b with
  | false => simpa using p
  | true =>
    simp only [if_true] at p ⊢
    refine wpAny_mono p (fun f s₃ q => ?_) fun _ _ x => x
    cases f with
    | ret v => exact q
    | brk => exact q
    | next =>
      obtain ⟨c', h', tk', m', news', rfl, F', N', hn, hk9, hp9, hm9⟩ := q
      exact ⟨h', tk', m', Led c', μ c', rfl, F', fun p hp => N' p (hn p hp), hm9, c', rfl, rfl, hk9, hp9⟩
    | cont =>
      obtain ⟨c', h', tk', m', news', rfl, F', N', hn, hk9, hp9, hm9⟩ := q
      exact ⟨h', tk', m', Led c', μ c', rfl, F', fun p hp => N' p (hn p hp), hm9, c', rfl, rfl, hk9, hp9⟩
/-- a for's turn's end -/
def FEnd {σ : Type} (h₀ : Heap) (L : Addr) (s : Shared) (wr : List Addr) (own : List (Addr × Obj)) (Led : σ → List (Addr × Obj)) (ps : σ → List (Str × Value)) (P : σ → Prop) (s₂ : Shared) : Prop :=
  ∃ (c' : σ) (h' : Heap) (tk : Nat) (m' : Str → Option Value) (news' : List (Addr × Obj)), s₂ = { s with heap := h', toks := tk } ∧ Fr h₀ L h' m' ∧ News h₀ L h' news' ∧ (∀ p ∈ Led c', p ∈ news') ∧ (∀ p ∈ own, p ∈ news') ∧ (∀ p ∈ Led c', p.1 ∉ wr) ∧ (∀ p ∈ ps c', m' p.1 = some p.2) ∧ P c'
theorem FEnd.intro {σ : Type} {wr : List Addr} {own : List (Addr × Obj)} {Led : σ → List (Addr × Obj)} {ps : σ → List (Str × Value)} {P : σ → Prop} {h' : Heap} {tk : Nat} {m' : Str → Option Value} {news' : List (Addr × Obj)} (c' : σ) (F : Fr h₀ L h' m') (N : News h₀ L h' news')
    (hn : ∀ p ∈ Led c', p ∈ news') (ho : ∀ p ∈ own, p ∈ news') (hw : ∀ p ∈ Led c', p.1 ∉ wr) (hk : ∀ p ∈ ps c', m' p.1 = some p.2) (hp : P c') :
    FEnd h₀ L s wr own Led ps P { s with heap := h', toks := tk } := ⟨c', h', tk, m', news', rfl, F, N, hn, ho, hw, hk, hp⟩
def FPost {σ : Type} (h₀ : Heap) (L : Addr) (s : Shared) (wr : List Addr) (own : List (Addr × Obj)) (Led : σ → List (Addr × Obj)) (ps : σ → List (Str × Value)) (P : σ → Prop) (Q : Flow → Shared → Prop) (f : Flow) (s₂ : Shared) : Prop :=
  match f with
  | .ret v => Q (.ret v) s₂
  | .brk => Q .next s₂
  | _ => FEnd h₀ L s wr own Led ps P s₂
theorem my_forV {σ : Type} {x : Str} {body : List Stmt} {I : Addr} {fp wr : List Addr} {n : Nat} {Pi : Nat → Value → Prop} {St : Nat → Heap → Prop} {m₀ : Str → Option Value} (Led : σ → List (Addr × Obj)) (ps : σ → List (Str × Value)) (J : Nat → σ → Prop) (c₀ : σ)
    (W : Walks prog w A I fp wr n Pi St) (hLf : env.locals ∉ fp) (hwr : ∀ b ∈ wr, h₀.get? b = none) (hst : St 0 s.heap) (F : Fr h₀ env.locals s.heap m₀) (N : News h₀ env.locals s.heap (Led c₀)) (hnw : ∀ p ∈ Led c₀, p.1 ∉ wr)
    (hk : ∀ p ∈ ps c₀, m₀ p.1 = some p.2) (hJ : J 0 c₀)
    (turn : ∀ i v (c : σ) (u : Str → Option Value) h tk own, i < n → Pi i v → J i c → (∀ p ∈ Led c, p.1 ∉ wr) → (∀ p ∈ own, p.1 ∈ fp) → (∀ b ∈ fp, h₀.get? b = none → ∀ o, h.get? b = some o → (b, o) ∈ own) → St (i + 1) h →
      Fr h₀ env.locals h (fun y => if y = x then some v else kstB u (ps c) y) → News h₀ env.locals h (Led c ++ own) →
      wpAny (model prog w) A (execs body env) (FPost h₀ env.locals { s with heap := h, toks := tk } wr own Led ps (J (i + 1)) Q) E { s with heap := h, toks := tk })
    (done : ∀ (c : σ) (u : Str → Option Value) h tk, J n c → Fr h₀ env.locals h (kstB u (ps c)) → News h₀ env.locals h (Led c) → Q .next { s with heap := h, toks := tk }) :
    LoopAtV prog w A h₀ env x body Q E (.ref I) s := by
  refine ⟨I, fp, wr, n, Pi, St, m₀, Led c₀, fun i m nx => ∃ c : σ, nx = Led c ∧ (∀ p ∈ ps c, m p.1 = some p.2) ∧ J i c, rfl, W, hLf, hwr, hnw, hst, F, N, ⟨c₀, rfl, hk, hJ⟩, ?_, ?_⟩
  · rintro i v m₁ news₁ s₁ own ⟨h, tk, rfl⟩ hi hP ⟨c, rfl, hk1, hJ1⟩ hnw1 hown1 hown2 hown3 hst1 F1 N1
    rw [← kstB_self hk1] at F1
    refine wpAny_mono (turn i v c m₁ h tk own hi hP hJ1 hnw1 hown1 hown3 hst1 F1 fun p hp => N1 p ?_) (fun f s₃ q => ?_) fun _ _ x => x
    · rcases List.mem_append.mp hp with h | h
      · exact List.mem_append_right _ h
      · exact List.mem_append_left _ h
    have fin : FEnd h₀ env.locals { s with heap := h, toks := tk } wr own Led ps (J (i + 1)) s₃ → LoopStepU h₀ env.locals wr own (fun m nx => ∃ c : σ, nx = Led c ∧ (∀ p ∈ ps c, m p.1 = some p.2) ∧ J (i + 1) c) { s with heap := h, toks := tk } .next s₃ := by
      rintro ⟨c', h', tk', m', news', rfl, F', N', hn, ho, hw, hk9, hp9⟩
      exact ⟨rfl, h', tk', m', Led c', rfl, F', fun p hp => N' p ((List.mem_append.mp hp).elim (ho p) (hn p)), hw, c', rfl, hk9, hp9⟩
    cases f with
    | ret v => exact q
    | brk => exact q
    | next => exact fin q
    | cont => exact fin q
  · rintro h' tk m' news' F' N' _ ⟨c, rfl, hk1, hJ1⟩
    rw [← kstB_self hk1] at F'
    exact done c m' h' tk hJ1 F' N'
end
end Mine
namespace Mine
section
variable {prog : Program} {w : World} {A : Around} {E : Value → Shared → Prop} {s : Shared} {h₀ : Heap} {L D : Addr} {m : Str → Option Value} {news news' R : List (Addr × Obj)} {vs : List Value} {n : Nat}
theorem app_L {x : Value} {Q : Value → Shared → Prop} (F : Fr h₀ L s.heap m) (N : News h₀ L s.heap news) (U : Upd D (listOf vs.toArray n) (listOf (vs ++ [x]).toArray (n + 1)) news news')
    (hsz : vs.length ≤ 100000) (h : ∀ h', Fr h₀ L h' m → News h₀ L h' news' → Q .none { s with heap := h' }) : wpAny (model prog w) A (call (.builtin "list.append") [.ref D, x]) Q E s := by
  have U' : Upd D (listOf vs.toArray n) (listOf (vs.toArray.push x) (n + 1)) news news' := by rw [List.push_toArray]; exact U
  exact append_K F N U' h (by rw [sizeLine_eq, List.size_toArray]; omega)
end
end Mine
namespace Mine
section
variable {prog : Program} {w : World} {A : Around} {E : Value → Shared → Prop} {s : Shared} {h₀ : Heap} {L D : Addr} {m : Str → Option Value} {news news' R : List (Addr × Obj)} {vs : List Value} {n : Nat}
theorem len_L {Q : Value → Shared → Prop} (N : News h₀ L s.heap news) (hm : (D, listOf vs.toArray n) ∈ news) (hsz : vs.length ≤ 100000) (h : ∀ t tk, Q (.int (vs.length : Int) t) { s with toks := tk }) :
    wpAny (model prog w) A (call (.builtin "len") [.ref D]) Q E s := by
  have hl : s.heap.IsList D vs.toArray := PySem.IsL.isList (n := n) (N _ hm).1
  refine Calls.call_len_list hl (by rw [List.size_toArray]; omega) ?_
  rw [List.size_toArray]; exact h _ _
theorem truthy_L {Q : Bool → Shared → Prop} (N : News h₀ L s.heap news) (hm : (D, listOf vs.toArray n) ∈ news) (hsz : vs.length ≤ 100000) (h : ∀ tk, Q (decide (0 < vs.length)) { s with toks := tk }) :
    wpAny (model prog w) A (truthy (.ref D)) Q E s := by
  have hl : s.heap.IsList D vs.toArray := PySem.IsL.isList (n := n) (N _ hm).1
  refine wpAny_truthy_list hl (by rw [List.size_toArray]; omega) ?_
  have e : (!vs.toArray.isEmpty) = decide (0 < vs.length) := by cases vs <;> simp
  rw [e]; exact h _
/-- a list of any values: one item -/
theorem item_L {value slice : PySem.Expr} {k : Int} {u : Tok} {Q : Value → Shared → Prop} (N : News h₀ L s.heap news) (hm : (D, listOf vs.toArray n) ∈ news) (h0 : 0 ≤ k) (h1 : k < vs.length) (hfit : vs.length ≤ 100000)
    (h : Q (vs.getD k.toNat .none) s)
    (hs : subscripted slice false (.ref D) (.int k u) = operate [.ref D, .int k u] (getItem (.ref D) (.int k u)) := by with_unfolding_all rfl) :
    wpAny (model prog w) A (subscriptTail value slice (.ref D) (.int k u)) Q E s := by
  have hl : s.heap.IsList D vs.toArray := PySem.IsL.isList (n := n) (N _ hm).1
  have hlt' : k.toNat < vs.length := by omega
  have hx : vs.toArray[k.toNat]? = some (vs.getD k.toNat .none) := by simp [hlt']
  exact tail_any hl.typeIs slot_list_getitem.lookup (wpAny_getItem_list hl h0 (by omega) hx h) hs
theorem set_L {k : Int} {t : Tok} {v : Value} {Q : Unit → Shared → Prop} (F : Fr h₀ L s.heap m) (N : News h₀ L s.heap news) (U : Upd D (listOf vs.toArray n) (listOf (vs.set k.toNat v).toArray n) news news') (h0 : 0 ≤ k) (h1 : k < vs.length) (hfit : vs.length ≤ 100000)
    (h : ∀ h', Fr h₀ L h' m → News h₀ L h' news' → Q () { s with heap := h' }) :
    wpAny (model prog w) A (setItem (.ref D) (.int k t) v) Q E s := by
  obtain ⟨pre, post, rfl, rfl, a', b⟩ := U.split
  have z := N (D, listOf vs.toArray n) (List.mem_append.mpr (.inr (.head _)))
  refine ki_setAt z.1 h0 (by omega) (by simp only [List.size_toArray]; omega) (h _ (F.change (Heap.SameBut.update ..) z.2.1 z.2.2) (ki_turn _ N a' b ?_ ?_))
  · show vs.toArray.setIfInBounds k.toNat v = (vs.set k.toNat v).toArray
    apply Array.toList_inj.mp
    simp
  · simp
end
end Mine
namespace Mine
/-- the hole goes down to a leaf, by the lesser child -/
def supGo (ks : List Int) (p : Nat) : List Int × Nat :=
  if 2 * p + 1 < ks.length then
    if 2 * p + 2 < ks.length ∧ ¬ ks.getD (2 * p + 1) 0 < ks.getD (2 * p + 2) 0 then supGo (ks.set p (ks.getD (2 * p + 2) 0)) (2 * p + 2)
    else supGo (ks.set p (ks.getD (2 * p + 1) 0)) (2 * p + 1)
  else (ks, p)
termination_by ks.length - p
decreasing_by all_goals (simp only [List.length_set]; omega)
def sup (ks : List Int) : List Int := sdn (ks.getD 0 0) ((supGo ks 0).1.set (supGo ks 0).2 (ks.getD 0 0)) (supGo ks 0).2
def hpopL (ks : List Int) : List Int := if ks.length ≤ 1 then [] else sup (ks.dropLast.set 0 (ks.getD (ks.length - 1) 0))
theorem supGo_len : ∀ (n : Nat) (ks : List Int) (p : Nat), ks.length - p = n → p < ks.length → (supGo ks p).1.length = ks.length ∧ (supGo ks p).2 < ks.length := by
  intro n
  induction n using Nat.strongRecOn with
  | ind n ih =>
    intro ks p hn hp
    unfold supGo
    split
    · split
      · have := ih (ks.length - (2 * p + 2)) (by omega) (ks.set p (ks.getD (2 * p + 2) 0)) (2 * p + 2) (by simp) (by simp; omega)
        simpa using this
      · have := ih (ks.length - (2 * p + 1)) (by omega) (ks.set p (ks.getD (2 * p + 1) 0)) (2 * p + 1) (by simp) (by simp; omega)
        simpa using this
    · exact ⟨rfl, hp⟩
section
variable {prog : Program} {w : World} {A : Around} {E : Value → Shared → Prop} {s : Shared} {h₀ : Heap} {L D : Addr} {m : Str → Option Value} {news news' R : List (Addr × Obj)} {n : Nat}
theorem kl_last_app (y : Value) : ∀ us : List Value, kl_last (us ++ [y]) = some (us, y)
  | [] => rfl
  | x :: r => by
    show (match kl_last (r ++ [y]) with | some (p, y) => some (x :: p, y) | none => some ([], x)) = _
    rw [kl_last_app y r]
theorem pop_L {us : List Value} {y : Value} {Q : Value → Shared → Prop} (F : Fr h₀ L s.heap m) (N : News h₀ L s.heap news) (U : Upd D (listOf (us ++ [y]).toArray n) (listOf us.toArray (n + 1)) news news')
    (hz : us.length ≤ 100000) (h : ∀ h', Fr h₀ L h' m → News h₀ L h' news' → Q y { s with heap := h' }) : wpAny (model prog w) A (call (.builtin "list.pop") [.ref D]) Q E s :=
  kl_pop (its := (us ++ [y]).toArray) F N (kl_last_app y us) U (by rw [sizeLine_eq]; simp only [List.length_append, List.length_cons, List.length_nil]; omega) h
end
end Mine
end
section
open PySem PySem.W PyProof.Rows PySem.Spec PySem.Calls
namespace Mine
section
variable {w : World} {mean : ExcName → Option Value} {mg mb : Str → Option Value} {dp un : Nat} {gd : Option (List Code)} {cn : Str} {cs : Scope} {a : Addr} {ccd : Value} {cl : List (Str × Addr)} {outer : List Env} {A₀ : Around} {base h₀ : Heap} {L : Addr} {m : Str → Option Value} {s : Shared} {Q E : Value → Shared → Prop} {R : List (Addr × Obj)}
local macro_rules | `(tactic| omega) => `(tactic| first | lia | omega +splitNatSub)
local macro_rules | `(tactic| k_all) => `(tactic| assumption)
local macro_rules | `(tactic| walk_at "subscriptTail") => `(tactic| (k_here; (with_reducible show wpAny _ _ (subscriptTail _ _ (Value.ref _) (Value.int _ _)) _ _ _); k_dflt (refine' item_trip ?k1 ?k2 ?k3 ?k4 ?k5 ?k6 ?_ ?k7; (case k1 => k_asm); (case k2 => k_mem); (case k3 => with_reducible assumption); (case k4 => omega); (case k5 => omega); (case k6 => omega); (case k7 => with_unfolding_all rfl); k_whole); intro _ _ _))
local macro_rules | `(tactic| walk_at "setItem ref int") => `(tactic| (k_here; (with_reducible show wpAny _ _ (setItem (Value.ref _) (Value.int _ _) (Value.ref _)) _ _ _); k_dflt (refine' set_trip ?k1 ?k2 ?k3 ?k4 ?k5 ?k6 ?k7 ?k8 ?_; (case k1 => k_asm); (case k2 => k_asm); (case k3 => k_upd); (case k4 => with_reducible assumption); (case k5 => with_reducible assumption); (case k6 => omega); (case k7 => omega); (case k8 => omega); k_whole); intro h' F' N' _; (try k_sweep)))
local macro_rules | `(tactic| walk_at "compareOp Lt ref") => `(tactic| (k_here; (with_reducible show wpAny _ _ (compareOp CmpOp.Lt (Value.ref _) (Value.ref _)) _ _ _); k_dflt (refine' lt_trip ?k1 ?k2 ?k3 ?k4 ?k5 ?_; (case k1 => k_asm); (case k2 => with_reducible assumption); (case k3 => with_reducible assumption); (case k4 => (intro p hp; repeat (first | exact hp | refine List.Mem.tail _ ?_))); (case k5 => ktr_units); k_whole)))
local macro_rules | `(tactic| walk_at "binaryOp RShift int int") => `(tactic| (k_here; refine wpAny_rshift1_int (by omega) ?_))
local macro_rules | `(tactic| walk_at "exec While Compare cons nil") => `(tactic| refine hold ?_)
local macro_rules | `(tactic| walk_at "WPost") => `(tactic| dsimp only [WPost])
theorem siftdown_tells {l : Addr} {vs : List Value} {ks : List Int} {n : Nat} {pos : Int} {t0 t1 : Nat}
    (C : Cxt w mean mg mb A₀ base outer h₀ L m cs s.heap) (N : News h₀ L s.heap ((l, listOf vs.toArray n) :: R)) (hR : ∀ p ∈ R, p.1 ≠ l) (hv : Trips R vs ks)
    (hpos0 : 0 ≤ pos) (hpos : pos < ks.length) (hlen : ks.length ≤ 1000)
    (hdp : dp + 2 < recursionLimit) (hun : un + 16 < cLine)
    (ret : ∀ vs' h' tk', Fr h₀ L h' m → News h₀ L h' ((l, listOf vs'.toArray n) :: R) → Trips R vs' (sdn (ks.getD pos.toNat 0) ks pos.toNat) → Q .none { s with heap := h', toks := tk' }) :
    wpAny (model PySem.Challenge.rw_qj0007_01.row.prog w) (ktrTop dp un gd cn cs L a ccd cl outer) (call (.ref 108) [.ref l, .int 0 t0, .int pos t1]) Q E s := by
  w_top off
  obtain ⟨B, F, X, T, hk⟩ := C
  revert X
  k_fill
  intro X
  refine wpAny_call ?_
  k_dflt ktr_enter
  k_steps
  refine unhold ?_
  rename Fr _ _ _ _ => lF
  rename News _ _ _ _ => lN
  rename Addr => nb
  refine my_while (σ := List Value × List Int × Int × Nat) (fun c => (l, listOf c.1.toArray n) :: R)
    (fun c => [(Str.ofString "pos", Value.int c.2.2.1 c.2.2.2), (Str.ofString "heap", Value.ref l), (Str.ofString "startpos", Value.int 0 t0), (Str.ofString "newitem", Value.ref nb)])
    (fun c => Trips R c.1 c.2.1 ∧ c.2.1.length = ks.length ∧ c.2.2.1 < ks.length ∧ 0 ≤ c.2.2.1 ∧ sdn (ks.getD pos.toNat 0) c.2.1 c.2.2.1.toNat = sdn (ks.getD pos.toNat 0) ks pos.toNat)
    (fun c => c.2.2.1.toNat) (vs, ks, pos, t1) lF lN ?_ ⟨hv, rfl, hpos, hpos0, rfl⟩ ?_
  · exact List.forall_mem_cons.mpr ⟨rfl, List.forall_mem_cons.mpr ⟨rfl, List.forall_mem_cons.mpr ⟨rfl, List.forall_mem_cons.mpr ⟨rfl, List.forall_mem_nil _⟩⟩⟩⟩
  · clear lF lN
    rintro ⟨vs', ks', p, t⟩ u h tk ⟨hv', hl', hp', hp0, hP⟩ F1 N1
    dsimp only [kstB] at hv' hl' hp' hp0 hP F1 N1 ⊢
    k_steps
    · rename ks.getD _ _ < _ => hlt
      rename Trips _ _ _ => hT
      rename 0 < p => hpp
      rw [sdn, if_pos (by omega), show (p.toNat - 1) / 2 = ((p - 1) / 2).toNat by omega, if_pos hlt] at hP
      rename Fr _ _ _ _ => eF
      rename News _ _ _ _ => eN
      refine' WEnd.intro (vs'.set p.toNat _, ks'.set p.toNat _, (p - 1) / 2, _) eF eN (fun q hq => hq) ?ps ⟨⟨hT, ?c1, ?c2, ?c3, hP⟩, ?mu⟩
      case ps => kst_all
      case c1 => simp [hl']
      all_goals ((try dsimp only); omega)
    · rename ¬ ks.getD _ _ < _ => hlt
      rename 0 < p => hpp
      rename Trips _ _ _ => hT
      rw [sdn, if_pos (by omega), show (p.toNat - 1) / 2 = ((p - 1) / 2).toNat by omega, if_neg hlt] at hP
      exact ret _ _ _ (by assumption) (by assumption) (hP ▸ hT)
    · rename ¬ 0 < p => hpp
      rename Trips _ _ _ => hT
      rw [sdn, if_neg (by omega)] at hP
      exact ret _ _ _ (by assumption) (by assumption) (hP ▸ hT)
end
end Mine
end
section
open PySem PySem.W PyProof.Rows PySem.Spec PySem.Calls
namespace Mine
section
variable {w : World} {mean : ExcName → Option Value} {mg mb : Str → Option Value} {dp un : Nat} {gd : Option (List Code)} {cn : Str} {cs : Scope} {a : Addr} {ccd : Value} {cl : List (Str × Addr)} {outer : List Env} {A₀ : Around} {base h₀ : Heap} {L : Addr} {m : Str → Option Value} {s : Shared} {Q E : Value → Shared → Prop} {R : List (Addr × Obj)}
local macro_rules | `(tactic| k_all) => `(tactic| assumption)
local macro_rules | `(tactic| walk_at "call ref") => `(tactic| refine hold ?_)
local macro_rules | `(tactic| walk_at "call builtin:list.append") => `(tactic| (k_here; (with_reducible show wpAny _ _ (call (Value.builtin _) [Value.ref _, _]) _ _ _); k_dflt (refine' app_L ?k1 ?k2 ?k3 ?z ?_; (case k1 => k_asm); (case k2 => k_asm); (case k3 => k_upd); (case z => omega); k_whole); intro h' F' N'; (try k_sweep)))
local macro_rules | `(tactic| walk_at "call builtin:len") => `(tactic| (k_here; (with_reducible show wpAny _ _ (call (Value.builtin "len") [Value.ref _]) _ _ _); k_dflt (refine' len_L ?k1 ?k2 ?k3 ?_; (case k1 => k_asm); (case k2 => k_mem); (case k3 => ((try simp only [List.length_append, List.length_cons, List.length_nil]); omega)); k_whole); intro t' tk'))
theorem heappush_tells {l : Addr} {vs : List Value} {ks : List Int} {n : Nat} {v : Value} {k : Int}
    (C : Cxt w mean mg mb A₀ base outer h₀ L m cs s.heap) (N : News h₀ L s.heap ((l, listOf vs.toArray n) :: R)) (hR : ∀ p ∈ R, p.1 ≠ l) (hv : Trips R vs ks) (hx : Trip R v k)
    (hlen : ks.length < 1000)
    (hdp : dp + 3 < recursionLimit) (hun : un + 24 < cLine)
    (ret : ∀ vs' n' h' tk', Fr h₀ L h' m → News h₀ L h' ((l, listOf vs'.toArray n') :: R) → Trips R vs' (sdn k (ks ++ [k]) ks.length) → Q .none { s with heap := h', toks := tk' }) :
    wpAny (model PySem.Challenge.rw_qj0007_01.row.prog w) (ktrTop dp un gd cn cs L a ccd cl outer) (call (.ref 94) [.ref l, v]) Q E s := by
  w_top off
  obtain ⟨B, F, X, T, hk⟩ := C
  have hvl := hv.1
  revert X
  k_fill
  intro X
  refine wpAny_call ?_
  k_dflt ktr_enter
  k_steps
  refine unhold ?_
  rename Fr _ _ _ _ => lF
  rename News _ _ _ _ => lN
  have e1 : ((vs ++ [v]).length : Int) - 1 = ks.length := by simp [hvl]
  have e2 : (ks ++ [k]).getD ks.length 0 = k := by simp
  rw [e1]
  refine siftdown_tells ⟨by assumption, lF, by assumption, by assumption, rfl⟩ lN hR (hv.append hx) (by omega) (by simp; omega) (by simp; omega) (by omega) (by ktr_units) ?_
  clear lF lN
  intro vs' h' tk' F' N' hT
  rw [Int.toNat_natCast, e2] at hT
  k_steps
  exact ret _ _ _ _ (by assumption) (by assumption) hT
end
end Mine
end
section
open PySem PySem.W PyProof.Rows PySem.Spec PySem.Calls
namespace Mine
section
variable {w : World} {mean : ExcName → Option Value} {mg mb : Str → Option Value} {dp un : Nat} {gd : Option (List Code)} {cn : Str} {cs : Scope} {a : Addr} {ccd : Value} {cl : List (Str × Addr)} {outer : List Env} {A₀ : Around} {base h₀ : Heap} {L : Addr} {m : Str → Option Value} {s : Shared} {Q E : Value → Shared → Prop} {R : List (Addr × Obj)}
local macro_rules | `(tactic| k_all) => `(tactic| assumption)
local macro_rules | `(tactic| walk_at "call ref") => `(tactic| refine hold ?_)
local macro_rules | `(tactic| walk_at "subscriptTail") => `(tactic| (k_here; (with_reducible show wpAny _ _ (subscriptTail _ _ (Value.ref _) (Value.int _ _)) _ _ _); k_dflt (refine' item_trip ?k1 ?k2 ?k3 ?k4 ?k5 ?k6 ?_ ?k7; (case k1 => k_asm); (case k2 => k_mem); (case k3 => with_reducible assumption); (case k4 => omega); (case k5 => omega); (case k6 => omega); (case k7 => with_unfolding_all rfl); k_whole); intro _ _ _))
local macro_rules | `(tactic| walk_at "setItem ref int") => `(tactic| (k_here; (with_reducible show wpAny _ _ (setItem (Value.ref _) (Value.int _ _) (Value.ref _)) _ _ _); k_dflt (refine' set_trip ?k1 ?k2 ?k3 ?k4 ?k5 ?k6 ?k7 ?k8 ?_; (case k1 => k_asm); (case k2 => k_asm); (case k3 => k_upd); (case k4 => with_reducible assumption); (case k5 => with_reducible assumption); (case k6 => omega); (case k7 => omega); (case k8 => omega); k_whole); intro h' F' N' _; (try k_sweep)))
local macro_rules | `(tactic| walk_at "compareOp Lt ref") => `(tactic| (k_here; (with_reducible show wpAny _ _ (compareOp CmpOp.Lt (Value.ref _) (Value.ref _)) _ _ _); k_dflt (refine' lt_trip ?k1 ?k2 ?k3 ?k4 ?k5 ?_; (case k1 => k_asm); (case k2 => with_reducible assumption); (case k3 => with_reducible assumption); (case k4 => (intro p hp; repeat (first | exact hp | refine List.Mem.tail _ ?_))); (case k5 => ktr_units); k_whole)))
local macro_rules | `(tactic| walk_at "exec While Compare cons nil") => `(tactic| refine hold ?_)
local macro_rules | `(tactic| walk_at "WPost") => `(tactic| dsimp only [WPost])
local macro_rules | `(tactic| walk_at "call builtin:len") => `(tactic| (k_here; (with_reducible show wpAny _ _ (call (Value.builtin "len") [Value.ref _]) _ _ _); k_dflt (refine' len_L ?k1 ?k2 ?k3 ?_; (case k1 => k_asm); (case k2 => k_mem); (case k3 => ((try simp only [List.length_append, List.length_cons, List.length_nil]); omega)); k_whole); intro t' tk'))
theorem siftup_tells {l : Addr} {vs : List Value} {ks : List Int} {n : Nat} {t0 : Nat}
    (C : Cxt w mean mg mb A₀ base outer h₀ L m cs s.heap) (N : News h₀ L s.heap ((l, listOf vs.toArray n) :: R)) (hR : ∀ p ∈ R, p.1 ≠ l) (hv : Trips R vs ks)
    (hpos : 0 < ks.length) (hlen : ks.length ≤ 1000)
    (hdp : dp + 3 < recursionLimit) (hun : un + 24 < cLine)
    (ret : ∀ vs' h' tk', Fr h₀ L h' m → News h₀ L h' ((l, listOf vs'.toArray n) :: R) → Trips R vs' (sup ks) → Q .none { s with heap := h', toks := tk' }) :
    wpAny (model PySem.Challenge.rw_qj0007_01.row.prog w) (ktrTop dp un gd cn cs L a ccd cl outer) (call (.ref 115) [.ref l, .int 0 t0]) Q E s := by
  w_top off
  obtain ⟨B, F, X, T, hk⟩ := C
  have hvl := hv.1
  revert X
  k_fill
  intro X
  refine wpAny_call ?_
  k_dflt ktr_enter
  k_steps
  refine unhold ?_
  rename Fr _ _ _ _ => lF
  rename News _ _ _ _ => lN
  rename Addr => nb
  refine' my_while (σ := List Value × List Int × Int × Nat × Nat × Nat) (fun c => (l, listOf c.1.toArray n) :: R)
    (fun c => [(Str.ofString "pos", Value.int c.2.2.1 c.2.2.2.1), (Str.ofString "childpos", Value.int (2 * c.2.2.1 + 1) c.2.2.2.2.1), (Str.ofString "heap", Value.ref l), (Str.ofString "startpos", Value.int 0 t0), (Str.ofString "newitem", Value.ref nb), (Str.ofString "endpos", Value.int vs.length c.2.2.2.2.2)])
    (fun c => Trips R c.1 c.2.1 ∧ c.2.1.length = ks.length ∧ c.2.2.1 < ks.length ∧ 0 ≤ c.2.2.1 ∧ supGo c.2.1 c.2.2.1.toNat = supGo ks 0)
    (fun c => ks.length - c.2.2.1.toNat) (vs, ks, 0, t0, _, _) lF lN ?ps ⟨hv, rfl, ?c2, ?c3, rfl⟩ ?turn
  case ps => kst_all
  case c2 => dsimp only; omega
  case c3 => dsimp only; omega
  clear lF lN
  rintro ⟨vs', ks', p, t, t', t''⟩ u h tk ⟨hv', hl', hp', hp0, hP⟩ F1 N1
  dsimp only [kstB] at hv' hl' hp' hp0 hP F1 N1 ⊢
  refine hideW fun P1 R1 hP1 hR1 => ?_
  k_steps
  · rename (_ + 1 + 1 : Int) < _ => h2
    rename ks'.getD _ _ < _ => hlt
    rename Trips _ _ _ => hT
    rename Fr _ _ _ _ => eF
    rename News _ _ _ _ => eN
    have e1 : (2 * p + 1).toNat = 2 * p.toNat + 1 := by omega
    have e2 : (2 * p + 1 + 1).toNat = 2 * p.toNat + 2 := by omega
    rw [e1, e2] at hlt
    rw [e1] at hT
    rw [supGo, if_pos (by omega), if_neg (fun h => h.2 hlt)] at hP
    refine hP1 _ _ ?_
    dsimp only [WPost]
    refine' WEnd.intro (vs'.set p.toNat _, ks'.set p.toNat _, 2 * p + 1, _, _, _) eF eN (fun q hq => hq) ?psa ⟨⟨hT, ?c1a, ?c2a, ?c3a, ?c4a⟩, ?mua⟩
    case psa => kst_all
    case c1a => simp [hl']
    case c4a => dsimp only; rw [e1]; exact hP
    all_goals ((try dsimp only); omega)
  · rename (_ + 1 + 1 : Int) < _ => h2
    rename ¬ ks'.getD _ _ < _ => hlt
    rename Trips _ _ _ => hT
    rename Fr _ _ _ _ => eF
    rename News _ _ _ _ => eN
    have e1 : (2 * p + 1).toNat = 2 * p.toNat + 1 := by omega
    have e2 : (2 * p + 1 + 1).toNat = 2 * p.toNat + 2 := by omega
    rw [e1, e2] at hlt
    rw [e2] at hT
    rw [supGo, if_pos (by omega), if_pos ⟨by omega, hlt⟩] at hP
    refine hP1 _ _ ?_
    dsimp only [WPost]
    refine' WEnd.intro (vs'.set p.toNat _, ks'.set p.toNat _, 2 * p + 1 + 1, _, _, _) eF eN (fun q hq => hq) ?psb ⟨⟨hT, ?c1b, ?c2b, ?c3b, ?c4b⟩, ?mub⟩
    case psb => kst_all
    case c1b => simp [hl']
    case c4b => dsimp only; rw [e2]; exact hP
    all_goals ((try dsimp only); omega)
  · rename ¬ (_ + 1 + 1 : Int) < _ => h2
    rename Trips _ _ _ => hT
    rename Fr _ _ _ _ => eF
    rename News _ _ _ _ => eN
    have e1 : (2 * p + 1).toNat = 2 * p.toNat + 1 := by omega
    rw [e1] at hT
    rw [supGo, if_pos (by omega), if_neg (fun h => by have := h.1; omega)] at hP
    refine hP1 _ _ ?_
    dsimp only [WPost]
    refine' WEnd.intro (vs'.set p.toNat _, ks'.set p.toNat _, 2 * p + 1, _, _, _) eF eN (fun q hq => hq) ?psc ⟨⟨hT, ?c1c, ?c2c, ?c3c, ?c4c⟩, ?muc⟩
    case psc => kst_all
    case c1c => simp [hl']
    case c4c => dsimp only; rw [e1]; exact hP
    all_goals ((try dsimp only); omega)
  · refine hR1 _ ?_
    (try dsimp only)
    k_steps
    refine unhold ?_
    rename ¬ (_ + 1 : Int) < _ => h2
    rename Trips _ _ _ => hT
    rename Fr _ _ _ _ => eF
    rename News _ _ _ _ => eN
    rw [supGo, if_neg (by omega)] at hP
    refine siftdown_tells ⟨by assumption, eF, by assumption, by assumption, rfl⟩ eN hR hT (by omega) (by simp; omega) (by simp; omega) (by omega) (by ktr_units) ?_
    clear eF eN
    intro vs9 h9 tk9 F9 N9 hT9
    have e3 : (ks'.set p.toNat (ks.getD (Int.toNat 0) 0)).getD p.toNat 0 = ks.getD 0 0 := by
      have : p.toNat < ks'.length := by omega
      simp [List.getD_eq_getElem?_getD, this]
    rw [e3] at hT9
    have e4 : sup ks = sdn (ks.getD 0 0) (ks'.set p.toNat (ks.getD (Int.toNat 0) 0)) p.toNat := by
      unfold sup; rw [← hP]; rfl
    rw [← e4] at hT9
    k_steps
    exact ret _ _ _ (by assumption) (by assumption) hT9
end
end Mine
end
section
open PySem PySem.W PyProof.Rows PySem.Spec PySem.Calls
namespace Mine
theorem Trips.unapp {R : List (Addr × Obj)} {vs : List Value} {ks : List Int} (h : Trips R vs ks) (h0 : 0 < ks.length) :
    ∃ us y, vs = us ++ [y] ∧ Trips R us ks.dropLast ∧ Trip R y (ks.getD (ks.length - 1) 0) := by
  have hl := h.1
  have hne : vs ≠ [] := by intro e; rw [e] at hl; simp at hl; omega
  refine ⟨vs.dropLast, vs.getLast hne, (List.dropLast_concat_getLast hne).symm, ⟨by simp [hl], fun i hi => ?_⟩, ?_⟩
  · simp only [List.length_dropLast] at hi
    have := h.2 i (by omega)
    have e1 : vs.dropLast.getD i .none = vs.getD i .none := by
      have : i < vs.length - 1 := by omega
      have h2 : i < vs.length := by omega
      simp [List.getD_eq_getElem?_getD, List.getElem?_dropLast, this, h2]
    have e2 : ks.dropLast.getD i 0 = ks.getD i 0 := by
      have h2 : i < ks.length := by omega
      simp [List.getD_eq_getElem?_getD, List.getElem?_dropLast, hi, h2]
    rw [e1, e2]; exact this
  · have := h.2 (ks.length - 1) (by omega)
    have e1 : vs.getD (ks.length - 1) .none = vs.getLast hne := by
      rw [List.getLast_eq_getElem]
      have h9 : ks.length - 1 < vs.length := by omega
      rw [List.getD_eq_getElem?_getD, List.getElem?_eq_getElem h9]
      simp [hl]
    rw [e1] at this; exact this
section
variable {w : World} {mean : ExcName → Option Value} {mg mb : Str → Option Value} {dp un : Nat} {gd : Option (List Code)} {cn : Str} {cs : Scope} {a : Addr} {ccd : Value} {cl : List (Str × Addr)} {outer : List Env} {A₀ : Around} {base h₀ : Heap} {L : Addr} {m : Str → Option Value} {s : Shared} {Q E : Value → Shared → Prop} {R : List (Addr × Obj)}
local macro_rules | `(tactic| k_all) => `(tactic| assumption)
local macro_rules | `(tactic| walk_at "call ref") => `(tactic| refine hold ?_)
local macro_rules | `(tactic| walk_at "subscriptTail") => `(tactic| (k_here; (with_reducible show wpAny _ _ (subscriptTail _ _ (Value.ref _) (Value.int _ _)) _ _ _); k_dflt (refine' item_trip ?k1 ?k2 ?k3 ?k4 ?k5 ?k6 ?_ ?k7; (case k1 => k_asm); (case k2 => k_mem); (case k3 => with_reducible assumption); (case k4 => omega); (case k5 => omega); (case k6 => omega); (case k7 => with_unfolding_all rfl); k_whole); intro _ _ _))
local macro_rules | `(tactic| walk_at "setItem ref int") => `(tactic| (k_here; (with_reducible show wpAny _ _ (setItem (Value.ref _) (Value.int _ _) (Value.ref _)) _ _ _); k_dflt (refine' set_trip ?k1 ?k2 ?k3 ?k4 ?k5 ?k6 ?k7 ?k8 ?_; (case k1 => k_asm); (case k2 => k_asm); (case k3 => k_upd); (case k4 => with_reducible assumption); (case k5 => with_reducible assumption); (case k6 => omega); (case k7 => omega); (case k8 => omega); k_whole); intro h' F' N' _; (try k_sweep)))
local macro_rules | `(tactic| walk_at "call builtin:list.pop") => `(tactic| (k_here; (with_reducible show wpAny _ _ (call (Value.builtin _) [Value.ref _]) _ _ _); k_dflt (refine' pop_L ?k1 ?k2 ?k3 ?z ?_; (case k1 => k_asm); (case k2 => k_asm); (case k3 => k_upd); (case z => omega); k_whole); intro h' F' N'; (try k_sweep)))
local macro_rules | `(tactic| walk_at "truthy ref") => `(tactic| (k_here; (with_reducible show wpAny _ _ (truthy (Value.ref _)) _ _ _); k_dflt (refine' truthy_L ?k1 ?k2 ?k3 ?_; (case k1 => k_asm); (case k2 => k_mem); (case k3 => omega); k_whole); intro tk'))
theorem heappop_tells {l : Addr} {vs : List Value} {ks : List Int} {n : Nat}
    (C : Cxt w mean mg mb A₀ base outer h₀ L m cs s.heap) (N : News h₀ L s.heap ((l, listOf vs.toArray n) :: R)) (hR : ∀ p ∈ R, p.1 ≠ l) (hv : Trips R vs ks)
    (hpos : 0 < ks.length) (hlen : ks.length ≤ 1000)
    (hdp : dp + 4 < recursionLimit) (hun : un + 32 < cLine)
    (ret : ∀ v vs' n' h' tk', Fr h₀ L h' m → News h₀ L h' ((l, listOf vs'.toArray n') :: R) → Trip R v (ks.getD 0 0) → Trips R vs' (hpopL ks) → Q v { s with heap := h', toks := tk' }) :
    wpAny (model PySem.Challenge.rw_qj0007_01.row.prog w) (ktrTop dp un gd cn cs L a ccd cl outer) (call (.ref 101) [.ref l]) Q E s := by
  w_top off
  obtain ⟨B, F, X, T, hk⟩ := C
  obtain ⟨us, y, rfl, hu, hy⟩ := hv.unapp hpos
  obtain ⟨b, hb⟩ : ∃ b, y = .ref b := by obtain ⟨a, _, _, _, _, _, _, e, _⟩ := hy; exact ⟨a, e⟩
  subst hb
  have hul := hu.1
  have hdl : ks.dropLast.length = ks.length - 1 := List.length_dropLast
  revert X
  k_fill
  intro X
  refine wpAny_call ?_
  k_dflt ktr_enter
  k_steps
  · refine unhold ?_
    rename 0 < us.length => h2
    rename Trip _ _ (ks.dropLast.getD _ _) => hr
    rename Trips _ _ _ => hT
    rename Fr _ _ _ _ => eF
    rename News _ _ _ _ => eN
    refine siftup_tells ⟨by assumption, eF, by assumption, by assumption, rfl⟩ eN hR hT (by simp; omega) (by simp; omega) (by omega) (by ktr_units) ?_
    clear eF eN
    intro vs9 h9 tk9 F9 N9 hT9
    have e3 : ks.dropLast.getD (Int.toNat 0) 0 = ks.getD 0 0 := by
      have q1 : 0 < ks.length - 1 := by omega
      have q2 : 0 < ks.length := by omega
      simp [List.getD_eq_getElem?_getD, List.getElem?_dropLast, q1, q2]
    rw [e3] at hr
    have e4 : hpopL ks = sup (ks.dropLast.set (Int.toNat 0) (ks.getD (ks.length - 1) 0)) := by
      unfold hpopL; rw [if_neg (by omega)]; rfl
    rw [← e4] at hT9
    k_steps
    exact ret _ _ _ _ _ (by assumption) (by assumption) hr hT9
  · rename ¬ 0 < us.length => h2
    have e1 : ks.length - 1 = 0 := by omega
    rw [e1] at hy
    have e2 : us = [] := List.length_eq_zero_iff.mp (by omega)
    refine ret _ us _ _ _ (by assumption) (by assumption) hy ?_
    unfold hpopL
    rw [if_pos (by omega), e2]
    exact ⟨rfl, fun i hi => absurd hi (Nat.not_lt_zero _)⟩
end
end Mine
end
section
open PySem PySem.W PyProof.Rows PySem.Spec PySem.Calls
namespace Mine
/-- a pair of ints in the ledger -/
def Pair (R : List (Addr × Obj)) (v : Value) (p : Int × Int) : Prop :=
  ∃ (a : Addr) (t u : Nat), v = .ref a ∧ (a, tupO [.int p.1 t, .int p.2 u]) ∈ R
theorem Pair.mono {R R' : List (Addr × Obj)} {v : Value} {p : Int × Int} (h : Pair R v p) (hs : ∀ p ∈ R, p ∈ R') : Pair R' v p := by
  obtain ⟨a, t, u, e, hm⟩ := h
  exact ⟨a, t, u, e, hs _ hm⟩
def absI (x : Int) : Int := if x < 0 then -x else x
def dueF (p q : Int × Int) : Int := 2 * max (max (absI (q.1 - p.1)) (absI (q.2 - p.2))) (absI (q.1 - p.1 + (q.2 - p.2)))
section
variable {prog : Program} {w : World} {A : Around} {E : Value → Shared → Prop} {s : Shared} {h₀ : Heap} {L D : Addr} {m : Str → Option Value} {news news' R : List (Addr × Obj)} {n : Nat}
theorem max_three_N {a b c : Int} {t u x : Tok} {Q : Value → Shared → Prop} (hh : A.handled = none) (F : Fr h₀ L s.heap m) (N : News h₀ L s.heap news)
    (h : ∀ v h' tk, Fr h₀ L h' m → News h₀ L h' news → Q (.int (max (max a b) c) v) { s with heap := h', toks := tk }) :
    wpAny (model prog w) A (call (.builtin "max") [.int a t, .int b u, .int c x]) Q E s :=
  max_three_ints hh fun h' tk hk => by
    have F' := F.grownK hk
    have N' := N.grown hk
    by_cases c1 : b > a
    · rw [if_pos c1]
      by_cases c2 : c > b
      · rw [if_pos c2]; have := h x h' tk F' N'; rwa [show max (max a b) c = c by omega] at this
      · rw [if_neg c2]; have := h u h' tk F' N'; rwa [show max (max a b) c = b by omega] at this
    · rw [if_neg c1]
      by_cases c2 : c > a
      · rw [if_pos c2]; have := h x h' tk F' N'; rwa [show max (max a b) c = c by omega] at this
      · rw [if_neg c2]; have := h t h' tk F' N'; rwa [show max (max a b) c = a by omega] at this
end
section
variable {w : World} {mean : ExcName → Option Value} {mg mb : Str → Option Value} {dp un : Nat} {gd : Option (List Code)} {cn : Str} {cs : Scope} {a : Addr} {ccd : Value} {cl : List (Str × Addr)} {outer : List Env} {A₀ : Around} {base h₀ : Heap} {L : Addr} {m : Str → Option Value} {s : Shared} {Q E : Value → Shared → Prop} {R : List (Addr × Obj)}
local macro_rules | `(tactic| walk_at "call builtin:max") => `(tactic| (k_here; (with_reducible show wpAny _ _ (call (Value.builtin _) [Value.int _ _, Value.int _ _, Value.int _ _]) _ _ _); k_dflt (refine' max_three_N ?hh ?k1 ?k2 ?_; (case hh => rfl); (case k1 => k_asm); (case k2 => k_asm); k_whole); intro v' h' tk' F' N'; (try k_sweep)))
theorem due_tells {v1 v2 : Value} {p q : Int × Int} {news : List (Addr × Obj)}
    (C : Cxt w mean mg mb A₀ base outer h₀ L m cs s.heap) (N : News h₀ L s.heap news) (hs : ∀ p ∈ R, p ∈ news) (hv : Pair R v1 p) (hv' : Pair R v2 q)
    (hdp : dp + 2 < recursionLimit) (hun : un + 16 < cLine)
    (ret : ∀ t h' tk', Fr h₀ L h' m → News h₀ L h' news → Q (.int (dueF p q) t) { s with heap := h', toks := tk' }) :
    wpAny (model PySem.Challenge.rw_qj0007_01.row.prog w) (ktrTop dp un gd cn cs L a ccd cl outer) (call (.ref 148) [v1, v2]) Q E s := by
  w_top off
  obtain ⟨B, F, X, T, hk⟩ := C
  obtain ⟨a1, t1, u1, rfl, hm1⟩ := hv
  obtain ⟨a2, t2, u2, rfl, hm2⟩ := hv'
  have hm1' := hs _ hm1
  have hm2' := hs _ hm2
  clear hm1 hm2
  obtain ⟨x1, y1⟩ := p
  obtain ⟨x2, y2⟩ := q
  dsimp only at hm1' hm2'
  revert X
  k_fill
  intro X
  refine wpAny_call ?_
  k_dflt ktr_enter
  k_steps
  exact ret _ _ _ (by assumption) (by assumption)
end
end Mine
end
section
open PySem PySem.W PyProof.Rows PySem.Spec PySem.Calls
namespace Mine
theorem of_allLt {d : Addr} : ∀ {l : List (Addr × Obj)}, AllLt d l → ∀ p ∈ l, p.1 < d
  | [], _, _, h => nomatch h
  | q :: r, h, p, hp => by
    rcases List.mem_cons.mp hp with rfl | hp
    · exact h.1
    · exact of_allLt h.2 p hp
theorem News.sub {h₀ h : Heap} {L : Addr} {news news' : List (Addr × Obj)} (N : News h₀ L h news) (hs : ∀ p ∈ news', p ∈ news) : News h₀ L h news' := fun p hp => N p (hs p hp)
theorem news_at3 {h₀ h : Heap} {L d : Addr} {a b c : Addr × Obj} {od : Obj} {R : List (Addr × Obj)} (N : News h₀ L h (a :: b :: c :: (d, od) :: R)) : ∃ od', od' = od ∧ News h₀ L h (a :: b :: c :: (d, od') :: R) := ⟨od, rfl, N⟩
theorem mem_lt {h₀ h : Heap} {L : Addr} {news : List (Addr × Obj)} (N : News h₀ L h news) : ∀ p ∈ news, p.1 ∉ [h.objs.size] := fun p hp hm =>
  Nat.lt_irrefl _ ((List.mem_singleton.mp hm) ▸ Heap.lt_size (N p hp).1)
/-- a made Whitespace that is simple, with its two counts -/
def Ws (R : List (Addr × Obj)) (v : Value) (n nt : Int) : Prop :=
  ∃ (x d k : Nat) (h1 h2 h3 h4 h5 : Int) (t1 t2 t3 t4 t5 a b : Nat) (raw norm : Value), v = .ref x ∧ (x, instObj 83 d) ∈ R ∧
    (d, dictOf [⟨h1, .str (Str.ofString "raw") t1, raw⟩, ⟨h2, .str (Str.ofString "n") t2, .int n a⟩, ⟨h3, .str (Str.ofString "nt") t3, .int nt b⟩, ⟨h4, .str (Str.ofString "norm") t4, norm⟩, ⟨h5, .str (Str.ofString "is_simple") t5, .bool true⟩] k) ∈ R
theorem Ws.mono {R R' : List (Addr × Obj)} {v : Value} {n nt : Int} (h : Ws R v n nt) (hs : ∀ p ∈ R, p ∈ R') : Ws R' v n nt := by
  obtain ⟨x, d, k, h1, h2, h3, h4, h5, t1, t2, t3, t4, t5, a, b, raw, norm, e, m1, m2⟩ := h
  exact ⟨x, d, k, h1, h2, h3, h4, h5, t1, t2, t3, t4, t5, a, b, raw, norm, e, hs _ m1, hs _ m2⟩
/-- no list, no iterator -/
def Still (o : Obj) : Prop := o.cls = .type "tuple" ∨ o.cls = .type "dict" ∨ o.cls = .ref 83
theorem ws_end {h₀ h : Heap} {L x d k : Nat} {n nt h1 h2 h3 h4 h5 : Int} {t1 t2 t3 t4 t5 a b : Nat} {raw norm : Value} {p1 p2 p3 : Addr × Obj} {R R' : List (Addr × Obj)}
    (N : News h₀ L h (p1 :: p2 :: p3 :: (x, instObj 83 d) :: (d, dictOf [⟨h1, .str (Str.ofString "raw") t1, raw⟩, ⟨h2, .str (Str.ofString "n") t2, .int n a⟩, ⟨h3, .str (Str.ofString "nt") t3, .int nt b⟩, ⟨h4, .str (Str.ofString "norm") t4, norm⟩, ⟨h5, .str (Str.ofString "is_simple") t5, .bool true⟩] k) :: R'))
    (hR : ∀ p ∈ R, p ∈ R') (l1 : ∀ p ∈ R, p.1 < d) (l2 : d < x) : ∃ tl, News h₀ L h (tl ++ R) ∧ (∀ x ∈ tl, Still x.2 ∧ ∀ y ∈ R, y.1 < x.1) ∧ Ws tl (.ref x) n nt := by
  refine ⟨[(x, instObj 83 d), (d, dictOf [⟨h1, .str (Str.ofString "raw") t1, raw⟩, ⟨h2, .str (Str.ofString "n") t2, .int n a⟩, ⟨h3, .str (Str.ofString "nt") t3, .int nt b⟩, ⟨h4, .str (Str.ofString "norm") t4, norm⟩, ⟨h5, .str (Str.ofString "is_simple") t5, .bool true⟩] k)], News.sub N ?_, ?_, ?_⟩
  · intro y hy
    rcases List.mem_cons.mp hy with rfl | hy
    · exact .tail _ (.tail _ (.tail _ (.head _)))
    · rcases List.mem_cons.mp hy with rfl | hy
      · exact .tail _ (.tail _ (.tail _ (.tail _ (.head _))))
      · exact .tail _ (.tail _ (.tail _ (.tail _ (.tail _ (hR _ hy)))))
  · intro y hy
    rcases List.mem_cons.mp hy with rfl | hy
    · exact ⟨.inr (.inr rfl), fun z hz => Nat.lt_trans (l1 z hz) l2⟩
    · rw [List.mem_singleton.mp hy]; exact ⟨.inr (.inl rfl), fun z hz => l1 z hz⟩
  · exact ⟨x, d, k, h1, h2, h3, h4, h5, t1, t2, t3, t4, t5, a, b, raw, norm, rfl, .head _, .tail _ (.head _)⟩
/-- the signs of a lead: tabs, blanks, and at most one sign more -/
def LeadIs (ws : Str) (p q : Nat) : Prop := ∃ rest, ws.cps.toList = List.replicate p 9 ++ List.replicate q 32 ++ rest ∧ (rest = [] ∨ rest = [120])
theorem LeadIs.at {ws : Str} {p q i c : Nat} (h : LeadIs ws p q) (hc : ws.cps[i]? = some c) : (i < p ∧ c = 9) ∨ (p ≤ i ∧ i < p + q ∧ c = 32) ∨ (i = p + q ∧ c = 120) := by
  obtain ⟨rest, e, hr⟩ := h
  rw [← Array.getElem?_toList, e] at hc
  rcases Nat.lt_or_ge i p with h1 | h1
  · left
    rw [List.append_assoc, List.getElem?_append_left (by simpa using h1)] at hc
    simp [List.getElem?_replicate, h1] at hc
    exact ⟨h1, hc.symm⟩
  · right
    rw [List.append_assoc, List.getElem?_append_right (by simpa using h1)] at hc
    simp only [List.length_replicate] at hc
    rcases Nat.lt_or_ge i (p + q) with h2 | h2
    · left
      rw [List.getElem?_append_left (by simp; omega)] at hc
      have h3 : i - p < q := by omega
      simp [List.getElem?_replicate, h3] at hc
      exact ⟨h1, h2, hc.symm⟩
    · right
      rw [List.getElem?_append_right (by simp; omega)] at hc
      simp only [List.length_replicate] at hc
      rcases hr with rfl | rfl
      · simp at hc
      · have : i - p - q = 0 := by
          rcases Nat.eq_zero_or_pos (i - p - q) with h4 | h4
          · exact h4
          · rw [List.getElem?_eq_none (by simp; omega)] at hc; cases hc
        rw [this] at hc
        simp at hc
        exact ⟨by omega, hc.symm⟩
theorem LeadIs.size {ws : Str} {p q : Nat} (h : LeadIs ws p q) : ws.cps.size = p + q ∨ ws.cps.size = p + q + 1 := by
  obtain ⟨rest, e, hr⟩ := h
  have : ws.cps.size = ws.cps.toList.length := by simp
  rw [this, e]
  rcases hr with rfl | rfl
  · left; simp
  · right; simp; omega
theorem LeadIs.ascii {ws : Str} {p q : Nat} (h : LeadIs ws p q) : ws.cps.all (· < 128) = true := by
  obtain ⟨rest, e, hr⟩ := h
  rw [← Array.all_toList, e]
  rcases hr with rfl | rfl <;> simp
section
variable {w : World} {mean : ExcName → Option Value} {mg mb : Str → Option Value} {dp un : Nat} {gd : Option (List Code)} {cn : Str} {cs : Scope} {a : Addr} {ccd : Value} {cl : List (Str × Addr)} {outer : List Env} {A₀ : Around} {base h₀ : Heap} {L : Addr} {m : Str → Option Value} {s : Shared} {Q E : Value → Shared → Prop} {R : List (Addr × Obj)}
local macro_rules | `(tactic| omega) => `(tactic| first | lia | omega +splitNatSub)
local macro_rules | `(tactic| k_all) => `(tactic| assumption)
local macro_rules | `(tactic| walk_at "FPost") => `(tactic| dsimp only [FPost])
local macro_rules | `(tactic| walk_at "pyIter str") => `(tactic| refine hold ?_)
theorem ws_tells {ws : Str} {t : Nat} {news : List (Addr × Obj)} {p q : Nat}
    (hw : LeadIs ws p q) (hp : p ≤ 100) (hq : q ≤ 100)
    (C : Cxt w mean mg mb A₀ base outer h₀ L m cs s.heap) (N : News h₀ L s.heap news)
    (hdp : dp + 4 < recursionLimit) (hun : un + 32 < cLine)
    (ret : ∀ v h' tk' tl, Fr h₀ L h' m → News h₀ L h' (tl ++ news) → (∀ x ∈ tl, Still x.2 ∧ ∀ y ∈ news, y.1 < x.1) → Ws tl v (p + q : Nat) p → Q v { s with heap := h', toks := tk' }) :
    wpAny (model PySem.Challenge.rw_qj0007_01.row.prog w) (ktrTop dp un gd cn cs L a ccd cl outer) (call (.ref 83) [.str ws t]) Q E s := by
  w_top off
  obtain ⟨B, F, X, T, hk⟩ := C
  revert X
  k_fill
  intro X
  k_dflt (refine' call_cls ?k1 ?k2 ?k3 ?k4 ?k5 ?k6 ?_; (case k1 => k_asm); (case k2 => k_asm); (case k3 => k_asm); (case k4 => k_is); (case k5 => k_is); (case k6 => k_is); k_whole; intro x' d' h' F' N' l1 l2)
  have hnd : ∀ p ∈ news, p.1 ≠ d' := fun p hp => Nat.ne_of_lt (l1 p hp)
  k_lt2 l2
  k_dflt ktr_enter
  k_steps
  refine unhold ?_
  rename_i cl0 _ hl1 _ _ _ _ lF lN
  obtain ⟨od, hod, lN⟩ := news_at3 lN
  replace lN := News.sub (news' := (cl0, listOf ([] : List Value).toArray 0) :: (x', instObj 83 d') :: (d', od) :: news) lN (by
    intro p hp
    rcases List.mem_cons.mp hp with h | h
    · exact h ▸ .head _
    · exact .tail _ (.tail _ h))
  have hcl : x' < cl0 ∧ ∀ p ∈ news, p.1 < cl0 := by
    exact ⟨hl1.2.1, of_allLt hl1.2.2.2⟩
  refine wpAny_pyIter_ascii hw.ascii ?_
  refine' my_forV (σ := Addr × List Value × Nat × Int × Int × Int × Nat × Nat × Nat) (fun c => (c.1, listOf c.2.1.toArray c.2.2.1) :: (x', instObj 83 d') :: (d', od) :: news)
    (fun c => [(Str.ofString "count", Value.ref c.1), (Str.ofString "b", Value.int c.2.2.2.1 c.2.2.2.2.2.2.1), (Str.ofString "n", Value.int c.2.2.2.2.1 c.2.2.2.2.2.2.2.1), (Str.ofString "nt", Value.int c.2.2.2.2.2.1 c.2.2.2.2.2.2.2.2),
       (Str.ofString "self", Value.ref x'), (Str.ofString "S", Value.str (Str.ofString " ") 209), (Str.ofString "T", Value.str (Str.ofString "\t") 210)])
    (fun i c => x' < c.1 ∧ (∀ p ∈ news, p.1 < c.1) ∧ i ≤ p + q ∧ c.2.2.2.1 = (i - p : Nat) ∧ c.2.2.2.2.1 = i ∧ c.2.2.2.2.2.1 = (min i p : Nat) ∧ ((min i p = 0 ∧ c.2.1 = []) ∨ (0 < min i p ∧ ∃ t, c.2.1 = [Value.int (min i p : Nat) t])))
    (cl0, [], 0, 0, 0, 0, _, _, _) (Walks.strAscii rfl _ ws t) ?hLf ?hwr ⟨_, Heap.get?_push_size _ rfl, rfl, rfl⟩ (lF.push _) ?hN ?hnw ?hk ?hJ ?turn ?done
  case hk => kst_all
  case hLf => intro hm; exact absurd lF.ns.lt ((List.mem_singleton.mp hm) ▸ Nat.lt_irrefl _)
  case hwr => intro b hb; rw [List.mem_singleton.mp hb]; exact next_is_new lF
  case hN => exact lN.grown fun b o e => Heap.get?_push_of_some _ e
  case hnw => exact mem_lt lN
  case hJ => exact ⟨hcl.1, hcl.2, Nat.zero_le _, by simp, rfl, by simp, .inl ⟨by simp, rfl⟩⟩
  case done =>
    clear lF lN
    rintro ⟨cl, items, ep, b, n, nt, t1, t2, t3⟩ u h tk ⟨h1, h2, h3, rfl, rfl, rfl, h4⟩ F1 N1
    dsimp only [kstB, envOf] at h1 h2 h3 h4 F1 N1
    dsimp only
    have e1 : ws.cps.size = p + q := by rcases hw.size with e | e <;> omega
    have e2 : min (p + q) p = p := by omega
    rw [e1] at F1 h4
    rw [e2] at F1 h4
    replace h1 := ltN h1
    subst hod
    rcases h4 with ⟨h4, rfl⟩ | ⟨h4, t9, rfl⟩
    all_goals k_steps
    all_goals (
      rename News h₀ L _ _ => kN
      rename Fr h₀ L _ _ => kF
      obtain ⟨tl, N9, S9, W9⟩ := ws_end kN (fun p hp => hp) l1 l2
      exact ret _ _ _ tl kF N9 S9 W9)
  case turn =>
    have hF0 := lF
    clear lF lN
    rintro i v ⟨cl, items, ep, b, n, nt, t1, t2, t3⟩ u h tk own hi ⟨c, u9, hc, rfl⟩ ⟨h1, h2, h3, rfl, rfl, rfl, h4⟩ hnw hown1 hown3 hst1 F1 N1
    dsimp only [kstB, envOf, List.cons_append] at h1 h2 h3 h4 F1 N1 hnw
    dsimp only
    replace h1 := ltN h1
    have hclI := hnw _ (List.mem_cons_self ..)
    have hR' : ∀ y ∈ news ++ own, y.1 ≠ cl := by
      intro y hy
      rcases List.mem_append.mp hy with hy | hy
      · exact Nat.ne_of_lt (h2 y hy)
      · intro e; exact hclI (e ▸ hown1 y hy)
    have hRd : ∀ y ∈ news ++ own, y.1 ≠ d' := by
      intro y hy
      rcases List.mem_append.mp hy with hy | hy
      · exact Nat.ne_of_lt (l1 y hy)
      · intro e
        have := hnw (d', od) (.tail _ (.tail _ (.head _)))
        exact this (e ▸ hown1 y hy)
    obtain ⟨oI, hoI, _⟩ := hst1
    have hIown := hown3 _ (List.mem_singleton.mpr rfl) (next_is_new hF0) oI hoI
    refine hide fun Q1 hQ1 => ?_
    rcases hw.at hc with ⟨g1, rfl⟩ | ⟨g1, g2, rfl⟩ | ⟨g1, rfl⟩
    · have e1 : min i p = i := by omega
      have e2 : i - p = 0 := by omega
      rw [e1] at F1 h4
      rw [e2] at F1
      rcases h4 with ⟨h4, rfl⟩ | ⟨h4, t9, rfl⟩
      · k_steps
        rename News _ _ _ _ => eN
        rename Fr _ _ _ _ => eF
        rename _ ∧ _ ∧ _ ∧ _ ∧ _ ∧ AllLt _ _ => eL
        refine hQ1 _ _ ?_
        dsimp only [FPost]
        refine' FEnd.intro (_, [_], _, _, _, _, _, _, _) eF eN ?hnA ?hoA ?hwA ?hkA ?hpA
        case hkA => kst_all
        case hnA =>
          intro y hy
          rcases List.mem_cons.mp hy with rfl | hy
          · exact .head _
          · refine .tail _ (.tail _ (.tail _ (.tail _ ?_)))
            rcases List.mem_cons.mp hy with rfl | hy
            · exact .head _
            · rcases List.mem_cons.mp hy with rfl | hy
              · exact .tail _ (.head _)
              · exact .tail _ (.tail _ (List.mem_append_left _ hy))
        case hoA => exact fun y hy => .tail _ (.tail _ (.tail _ (.tail _ (.tail _ (.tail _ (List.mem_append_right _ hy))))))
        case hwA =>
          intro y hy
          rcases List.mem_cons.mp hy with rfl | hy
          · intro hm
            have := of_allLt eL.2.2.2.2.2 _ (List.mem_append_right _ hIown)
            exact Nat.lt_irrefl _ ((List.mem_singleton.mp hm) ▸ this)
          · exact hnw y (.tail _ hy)
        case hpA =>
          subst h4
          refine ⟨eL.2.2.2.1, fun y hy => of_allLt eL.2.2.2.2.2 y (List.mem_append_left _ hy), by omega, by simp; omega, by simp, by simp; omega, .inr ⟨by omega, ?_⟩⟩
          dsimp only
          rw [show min (0 + 1) p = 1 by omega]
          exact ⟨_, rfl⟩
      · k_steps
        rename News _ _ _ _ => eN
        rename Fr _ _ _ _ => eF
        refine hQ1 _ _ ?_
        dsimp only [FPost]
        refine' FEnd.intro (cl, [_], _, _, _, _, _, _, _) eF eN ?hnB ?hoB ?hwB ?hkB ?hpB
        case hkB => kst_all
        case hnB =>
          intro y hy
          rcases List.mem_cons.mp hy with rfl | hy
          · exact .head _
          · refine .tail _ ?_
            rcases List.mem_cons.mp hy with rfl | hy
            · exact .head _
            · rcases List.mem_cons.mp hy with rfl | hy
              · exact .tail _ (.head _)
              · exact .tail _ (.tail _ (List.mem_append_left _ hy))
        case hoB => exact fun y hy => .tail _ (.tail _ (.tail _ (List.mem_append_right _ hy)))
        case hwB =>
          intro y hy
          rcases List.mem_cons.mp hy with rfl | hy
          · exact hclI
          · exact hnw y (.tail _ hy)
        case hpB =>
          refine ⟨h1, h2, by omega, by simp; omega, by simp, by simp; omega, .inr ⟨by omega, ?_⟩⟩
          dsimp only
          rw [show min (i + 1) p = i + 1 by omega]
          exact ⟨_, rfl⟩
    · have e1 : min i p = p := by omega
      rw [e1] at F1 h4
      have h4' : (p = 0 ∧ items = []) ∨ (0 < p ∧ ∃ t, items = [Value.int (p : Nat) t]) := h4
      k_steps
      rename News _ _ _ _ => eN
      rename Fr _ _ _ _ => eF
      refine hQ1 _ _ ?_
      dsimp only [FPost]
      refine' FEnd.intro (cl, items, _, _, _, _, _, _, _) eF eN ?hnC ?hoC ?hwC ?hkC ?hpC
      case hkC => kst_all
      case hnC =>
        intro y hy
        rcases List.mem_cons.mp hy with rfl | hy
        · exact .head _
        · refine .tail _ ?_
          rcases List.mem_cons.mp hy with rfl | hy
          · exact .head _
          · rcases List.mem_cons.mp hy with rfl | hy
            · exact .tail _ (.head _)
            · exact .tail _ (.tail _ (List.mem_append_left _ hy))
      case hoC => exact fun y hy => .tail _ (.tail _ (.tail _ (List.mem_append_right _ hy)))
      case hwC =>
        intro y hy
        rcases List.mem_cons.mp hy with rfl | hy
        · exact hclI
        · exact hnw y (.tail _ hy)
      case hpC =>
        refine ⟨h1, h2, by omega, by simp; omega, by simp, by simp; omega, ?_⟩
        rw [show min (i + 1) p = p by omega]
        exact h4'
    · subst g1
      have e1 : min (p + q) p = p := by omega
      rw [e1] at F1 h4
      subst hod
      rcases h4 with ⟨h4, rfl⟩ | ⟨h4, t9, rfl⟩
      all_goals k_steps
      all_goals (refine hQ1 _ _ ?_)
      all_goals (dsimp only [FPost])
      all_goals k_steps
      all_goals (
        rename News h₀ L _ _ => kN
        rename Fr h₀ L _ _ => kF
        obtain ⟨tl, N9, S9, W9⟩ := ws_end kN (fun p hp => List.mem_append_left _ hp) l1 l2
        exact ret _ _ _ tl kF N9 S9 W9)
end
end Mine
end
section
open PySem PySem.W PyProof.Rows PySem.Spec PySem.Calls
namespace Mine
section
variable {w : World} {mean : ExcName → Option Value} {mg mb : Str → Option Value} {dp un : Nat} {gd : Option (List Code)} {cn : Str} {cs : Scope} {a : Addr} {ccd : Value} {cl : List (Str × Addr)} {outer : List Env} {A₀ : Around} {base h₀ : Heap} {L : Addr} {m : Str → Option Value} {s : Shared} {Q E : Value → Shared → Prop} {R : List (Addr × Obj)}
theorem less_tells {v1 v2 : Value} {n1 n2 nt1 nt2 : Int} {news : List (Addr × Obj)}
    (C : Cxt w mean mg mb A₀ base outer h₀ L m cs s.heap) (N : News h₀ L s.heap news) (hs : ∀ p ∈ R, p ∈ news) (hv : Ws R v1 n1 nt1) (hv' : Ws R v2 n2 nt2)
    (hdp : dp + 2 < recursionLimit) (hun : un + 16 < cLine)
    (ret : ∀ h' tk', Fr h₀ L h' m → News h₀ L h' news → Q (.bool (decide (n1 < n2) && decide (nt1 ≤ nt2))) { s with heap := h', toks := tk' }) :
    wpAny (model PySem.Challenge.rw_qj0007_01.row.prog w) (ktrTop dp un gd cn cs L a ccd cl outer) (call (.ref 73) [v1, v2]) Q E s := by
  w_top off
  obtain ⟨B, F, X, T, hk⟩ := C
  obtain ⟨x, d, k, h1, h2, h3, h4, h5, t1, t2, t3, t4, t5, a1, b1, raw, norm, rfl, hm1, hm2⟩ := hv
  obtain ⟨x', d', k', h1', h2', h3', h4', h5', t1', t2', t3', t4', t5', a1', b1', raw', norm', rfl, hm1', hm2'⟩ := hv'
  replace hm1 := hs _ hm1
  replace hm2 := hs _ hm2
  replace hm1' := hs _ hm1'
  replace hm2' := hs _ hm2'
  revert X
  k_fill
  intro X
  refine wpAny_call ?_
  k_dflt ktr_enter
  k_steps
  · rename n2 ≤ n1 => q
    rw [show (decide (n1 < n2) && decide (nt1 ≤ nt2)) = false by rw [decide_eq_false (by omega)]; rfl] at ret
    exact ret _ _ (by assumption) (by assumption)
  · rename ¬ n2 ≤ n1 => q
    rw [show (decide (n1 < n2) && decide (nt1 ≤ nt2)) = decide (nt1 ≤ nt2) by rw [decide_eq_true (by omega)]; rfl] at ret
    exact ret _ _ (by assumption) (by assumption)
end
end Mine
end
section
open PySem PySem.W PyProof.Rows PySem.Spec PySem.Calls
namespace Mine
/-- a sign so many times -/
def rep (c k : Nat) : Str := ⟨(List.replicate k c).toArray⟩
theorem rep_cps (c k : Nat) : (rep c k).cps.toList = List.replicate k c := by simp [rep]
theorem foldl_app (c : Nat) : ∀ (k : Nat) (acc : Array Nat), (List.replicate k #[c]).foldl (· ++ ·) acc = acc ++ (List.replicate k c).toArray
  | 0, acc => by simp
  | k + 1, acc => by
    rw [List.replicate_succ, List.foldl_cons, foldl_app c k, List.replicate_succ]
    apply Array.toList_inj.mp
    simp
theorem mul_rep (c : Nat) (n : Int) (h : 0 ≤ n) : Txt.mul ⟨#[c]⟩ n = rep c n.toNat := by
  unfold Txt.mul rep
  by_cases h1 : n < 1
  · rw [if_pos h1, show n.toNat = 0 by omega]; rfl
  · rw [if_neg h1]
    by_cases h2 : n = 1
    · subst h2; rfl
    · have : (n == 1 || Str.length ⟨#[c]⟩ == 0) = false := by
        have : (n == 1) = false := by simpa using h2
        rw [this]; rfl
      rw [if_neg (by rw [this]; exact Bool.false_ne_true), foldl_app]
      simp
section
variable {prog : Program} {w : World} {A : Around} {E : Value → Shared → Prop} {s : Shared}
theorem mulS {c : Nat} {x : Str} {n : Int} {t u : Tok} {Q : Value → Shared → Prop} (hx : x = ⟨#[c]⟩) (h0 : 0 ≤ n) (h1 : n ≤ 1000) (h : ∀ t' k, Q (.str (rep c n.toNat) t') { s with toks := k }) :
    wpAny (model prog w) A (binaryOp .Mult (.str x t) (.int n u)) Q E s := by
  subst hx
  refine SB.mul (mulOk_of 16 1048576 (by show 1 ≤ 16; decide) (by omega) (by omega) (by decide) (by decide)) ?_
  rw [mul_rep c n h0]; exact h
end
end Mine
namespace Mine
section
variable {prog : Program} {w : World} {A : Around} {E : Value → Shared → Prop} {s : Shared}
theorem catS {x y : Str} {t u : Tok} {Q : Value → Shared → Prop} (hx : x.length ≤ 1000) (hy : y.length ≤ 1000) (h : ∀ t' k, Q (.str (x ++ y) t') { s with toks := k }) :
    wpAny (model prog w) A (binaryOp .Add (.str x t) (.str y u)) Q E s := by
  exact PyProof.Rows.add_str h (by rw [sizeLine_eq]; omega)
end
theorem rep_len (c k : Nat) : (rep c k).length = k := by simp [rep, Str.length]
/-- what is known of a spot -/
def Known (R : List (Addr × Obj)) (v : Value) (t b : Nat) : Prop :=
  ∃ (a : Addr) (x : Str) (tk : Nat) (v1 v2 v3 : Value), v = .ref a ∧ (a, tupO [.str x tk, v1, v2, v3]) ∈ R ∧ x.cps.toList = List.replicate t 9 ++ List.replicate b 32 ∧
    Ws R v1 (1 + t + b : Nat) (1 + t : Nat) ∧ Ws R v2 (t + (b + 2) : Nat) t ∧ Ws R v3 (b + t : Nat) b
theorem Known.mono {R R' : List (Addr × Obj)} {v : Value} {t b : Nat} (h : Known R v t b) (hs : ∀ p ∈ R, p ∈ R') : Known R' v t b := by
  obtain ⟨a, x, tk, v1, v2, v3, e, hm, hx, w1, w2, w3⟩ := h
  exact ⟨a, x, tk, v1, v2, v3, e, hs _ hm, hx, w1.mono hs, w2.mono hs, w3.mono hs⟩
theorem tab_is : Str.ofString "\t" = ⟨#[9]⟩ := by decide +kernel
theorem blank_is : Str.ofString " " = ⟨#[32]⟩ := by decide +kernel
theorem blanks_is : Str.ofString "  " = ⟨#[32, 32]⟩ := by decide +kernel
theorem x_is : Str.ofString "x" = ⟨#[120]⟩ := by decide +kernel
theorem len_tab : (Str.ofString "\t").length = 1 := by rw [tab_is]; rfl
theorem len_x : (Str.ofString "x").length = 1 := by rw [x_is]; rfl
theorem len_blanks : (Str.ofString "  ").length = 2 := by rw [blanks_is]; rfl
theorem lead_cps (t b : Nat) : (rep 9 t ++ rep 32 b).cps.toList = List.replicate t 9 ++ List.replicate b 32 := by
  rw [Str.cps_append, Array.toList_append, rep_cps, rep_cps]
theorem lead1 (t b : Nat) : LeadIs (Str.ofString "\t" ++ (rep 9 t ++ rep 32 b) ++ Str.ofString "x") (1 + t) b := by
  refine ⟨[120], ?_, .inr rfl⟩
  rw [Str.cps_append, Str.cps_append, Array.toList_append, Array.toList_append, lead_cps, tab_is, x_is, Nat.add_comm 1 t, List.replicate_succ]
  simp
theorem lead2 (t b : Nat) : LeadIs (rep 9 t ++ rep 32 b ++ Str.ofString "  ") t (b + 2) := by
  refine ⟨[], ?_, .inl rfl⟩
  rw [Str.cps_append, Array.toList_append, lead_cps, blanks_is, List.append_nil, List.append_assoc, ← List.replicate_append_replicate]
  rfl
theorem lead3 (t b : Nat) : LeadIs (rep 9 b ++ rep 32 t) b t := ⟨[], by rw [lead_cps, List.append_nil], .inl rfl⟩
section
variable {w : World} {mean : ExcName → Option Value} {mg mb : Str → Option Value} {dp un : Nat} {gd : Option (List Code)} {cn : Str} {cs : Scope} {a : Addr} {ccd : Value} {cl : List (Str × Addr)} {outer : List Env} {A₀ : Around} {base h₀ : Heap} {L : Addr} {m : Str → Option Value} {s : Shared} {Q E : Value → Shared → Prop} {R : List (Addr × Obj)}
local macro_rules | `(tactic| walk_at "call ref") => `(tactic| refine hold ?_)
local macro_rules | `(tactic| walk_at "binaryOp Mult str int") => `(tactic| (k_here; (first | refine mulS tab_is (by omega) (by omega) ?_ | refine mulS blank_is (by omega) (by omega) ?_); intro t' tk'))
local macro_rules | `(tactic| walk_at "binaryOp Add str str") => `(tactic| (k_here; refine catS (by simp only [Str.length_append, rep_len, len_tab, len_x, len_blanks, Int.toNat_natCast]; omega) (by simp only [Str.length_append, rep_len, len_tab, len_x, len_blanks, Int.toNat_natCast]; omega) ?_; intro t' tk'))
theorem known_tells {t b : Nat} {tt tb : Nat} {news : List (Addr × Obj)}
    (ht : t ≤ 3) (hb : b ≤ 3)
    (C : Cxt w mean mg mb A₀ base outer h₀ L m cs s.heap) (N : News h₀ L s.heap news)
    (hdp : dp + 5 < recursionLimit) (hun : un + 40 < cLine)
    (ret : ∀ v h' tk' tl, Fr h₀ L h' m → News h₀ L h' (tl ++ news) → (∀ x ∈ tl, Still x.2 ∧ ∀ y ∈ news, y.1 < x.1) → Known tl v t b → Q v { s with heap := h', toks := tk' }) :
    wpAny (model PySem.Challenge.rw_qj0007_01.row.prog w) (ktrTop dp un gd cn cs L a ccd cl outer) (call (.ref 141) [.int t tt, .int b tb]) Q E s := by
  w_top off
  obtain ⟨B, F, X, T, hk⟩ := C
  revert X
  k_fill
  intro X
  refine wpAny_call ?_
  k_dflt ktr_enter
  k_steps
  refine unhold ?_
  rename Fr _ _ _ _ => lF
  rename News _ _ _ _ => lN
  simp only [Int.toNat_natCast] at lF ⊢
  refine ws_tells (lead1 t b) (by omega) (by omega) ⟨by assumption, lF, by assumption, by assumption, rfl⟩ lN (by omega) (by ktr_units) ?_
  clear lF lN
  intro v1 h1 tk1 tl1 F1 N1 S1 W1
  k_steps
  refine unhold ?_
  rename Fr _ _ _ _ => lF
  rename News _ _ _ _ => lN
  refine ws_tells (lead2 t b) (by omega) (by omega) ⟨by assumption, lF, by assumption, by assumption, rfl⟩ lN (by omega) (by ktr_units) ?_
  clear lF lN
  intro v2 h2 tk2 tl2 F2 N2 S2 W2
  k_steps
  refine unhold ?_
  rename Fr _ _ _ _ => lF
  rename News _ _ _ _ => lN
  simp only [Int.toNat_natCast]
  refine ws_tells (lead3 t b) (by omega) (by omega) ⟨by assumption, lF, by assumption, by assumption, rfl⟩ lN (by omega) (by ktr_units) ?_
  clear lF lN
  intro v3 h3 tk3 tl3 F3 N3 S3 W3
  k_steps
  rename ∀ p ∈ tl3 ++ (tl2 ++ (tl1 ++ news)), p.1 < _ => l1
  rename News h₀ L _ _ => kN
  rename Fr h₀ L _ _ => kF
  rename Addr => D
  have ea : ∀ z : Addr × Obj, z :: (tl3 ++ (tl2 ++ (tl1 ++ news))) = (z :: (tl3 ++ (tl2 ++ tl1))) ++ news := fun z => by simp
  rw [ea] at kN
  refine ret _ _ _ _ kF kN ?_ ?_
  · intro x hx
    rcases List.mem_cons.mp hx with rfl | hx
    · exact ⟨.inl rfl, fun y hy => l1 y (by simp [hy])⟩
    · rcases List.mem_append.mp hx with hx | hx
      · exact ⟨(S3 x hx).1, fun y hy => (S3 x hx).2 y (by simp [hy])⟩
      · rcases List.mem_append.mp hx with hx | hx
        · exact ⟨(S2 x hx).1, fun y hy => (S2 x hx).2 y (by simp [hy])⟩
        · exact ⟨(S1 x hx).1, fun y hy => (S1 x hx).2 y (by simp [hy])⟩
  · refine ⟨_, _, _, v1, v2, v3, rfl, .head _, lead_cps t b, W1.mono fun y hy => ?_, W2.mono fun y hy => ?_, W3.mono fun y hy => ?_⟩
    · exact .tail _ (List.mem_append_right _ (List.mem_append_right _ hy))
    · exact .tail _ (List.mem_append_right _ (List.mem_append_left _ hy))
    · exact .tail _ (List.mem_append_left _ hy)
end
end Mine
end
section
open PySem PySem.W PyProof.Rows PySem.Spec PySem.Calls
namespace Mine
/-- a text by its signs -/
def sL (l : List Nat) : Str := ⟨l.toArray⟩
theorem sL_len (l : List Nat) : (sL l).length = l.length := by simp [sL, Str.length]
theorem sL_cps (l : List Nat) : (sL l).cps.toList = l := by simp [sL]
theorem sL_of (x : Str) : x = sL x.cps.toList := by cases x; simp [sL]
theorem sL_beq (l l' : List Nat) : (sL l == sL l') = decide (l = l') := by
  rw [Bool.eq_iff_iff]
  simp [sL]
theorem sl_from (l : List Nat) (i : Int) (h0 : 0 ≤ i) (h1 : i ≤ l.length) : Txt.slice (sL l) (some i) none = sL (l.drop i.toNat) := by
  rw [slice_from_eq (b := (l.length : Int)) h0 (by rw [sL_len]; exact h1) (by rw [sL_len]), sL_cps]
  unfold sL
  rw [List.take_of_length_le (by simp; omega)]
theorem sl_toneg (l : List Nat) (j : Int) (h0 : j < 0) (h1 : -(l.length : Int) ≤ j) : Txt.slice (sL l) none (some j) = sL (l.take (j + l.length).toNat) := by
  rw [beq_iff_eq.mp (slice_closes_to_neg (x := sL l) (k := j + l.length) h0 (by rw [sL_len]; exact h1) (by rw [sL_len])), sL_cps]
  unfold sL
  simp
theorem sl_all (x : Str) : Txt.slice x none none = x := by
  have := slice_from_eq (x := x) (i := 0) (b := x.length) (by omega) (by omega) rfl
  have e : Txt.slice x none none = Txt.slice x (some 0) none := rfl
  rw [e, this]
  cases x
  rw [List.take_of_length_le (by simp [Str.length])]
  simp
theorem it_pos (l : List Nat) (i : Int) (h0 : 0 ≤ i) (h1 : i < l.length) : Txt.item (sL l) i = sL [l.getD i.toNat 0] := by
  have h2 : i.toNat < l.length := by omega
  exact item_meets h0 (n := l.getD i.toNat 0) (by rw [← Array.getElem?_toList, sL_cps]; simp [h2])
theorem it_neg (l : List Nat) (i : Int) (h0 : i < 0) (h1 : -(l.length : Int) ≤ i) : Txt.item (sL l) i = sL [l.getD (i + l.length).toNat 0] := by
  rw [beq_iff_eq.mp (item_closes_neg (x := sL l) (i := i) (j := i + l.length) h0 (by rw [sL_len]; exact h1) (by rw [sL_len]))]
  simp [sL]
section
variable {prog : Program} {w : World} {A : Around} {E : Value → Shared → Prop} {s : Shared} {value slice : Expr} {l : List Nat} {t : Tok} {h₀ : Heap} {L : Addr} {m : Str → Option Value} {news : List (Addr × Obj)} {Q : Value → Shared → Prop}
theorem sx_from {i : Int} {ui : Tok} (hF : Fr h₀ L s.heap m) (hN : News h₀ L s.heap news) (h0 : 0 ≤ i) (h1 : i ≤ l.length) (hl : l.length ≤ 1000) (h : ∀ h' t' k, Fr h₀ L h' m → News h₀ L h' news → Q (.str (sL (l.drop i.toNat)) t') { s with heap := h', toks := k })
    (hs : subscripted slice false (.str (sL l) t) (.ref s.heap.objs.size) = operate [.ref s.heap.objs.size, .str (sL l) t] (getItem (.str (sL l) t) (.ref s.heap.objs.size)) := by with_unfolding_all rfl)
    (ht : ∀ r, letTemporaryGo value (.str (sL l) t) r = pure () := by intro _; with_unfolding_all rfl) :
    wpAny (model prog w) A (subscriptTail value slice (.str (sL l) t) (.ref s.heap.objs.size)) Q E { s with heap := s.heap.push { cls := .type "slice", data := .fields #[.int i ui, .none, .none] } } :=
  slice_strN_sn hF hN (by rw [sl_from l i h0 h1]; exact h) hs ht (by rw [sizeLine_eq, sL_len]; omega)
theorem sx_toneg {j : Int} {uj : Tok} (hF : Fr h₀ L s.heap m) (hN : News h₀ L s.heap news) (h0 : j < 0) (h1 : -(l.length : Int) ≤ j) (hl : l.length ≤ 1000) (h : ∀ h' t' k, Fr h₀ L h' m → News h₀ L h' news → Q (.str (sL (l.take (j + l.length).toNat)) t') { s with heap := h', toks := k })
    (hs : subscripted slice false (.str (sL l) t) (.ref s.heap.objs.size) = operate [.ref s.heap.objs.size, .str (sL l) t] (getItem (.str (sL l) t) (.ref s.heap.objs.size)) := by with_unfolding_all rfl)
    (ht : ∀ r, letTemporaryGo value (.str (sL l) t) r = pure () := by intro _; with_unfolding_all rfl) :
    wpAny (model prog w) A (subscriptTail value slice (.str (sL l) t) (.ref s.heap.objs.size)) Q E { s with heap := s.heap.push { cls := .type "slice", data := .fields #[.none, .int j uj, .none] } } :=
  slice_strN_ns hF hN (by rw [sl_toneg l j h0 h1]; exact h) hs ht (by rw [sizeLine_eq, sL_len]; omega)
theorem sx_all (hF : Fr h₀ L s.heap m) (hN : News h₀ L s.heap news) (hl : l.length ≤ 1000) (h : ∀ h' t' k, Fr h₀ L h' m → News h₀ L h' news → Q (.str (sL l) t') { s with heap := h', toks := k })
    (hs : subscripted slice false (.str (sL l) t) (.ref s.heap.objs.size) = operate [.ref s.heap.objs.size, .str (sL l) t] (getItem (.str (sL l) t) (.ref s.heap.objs.size)) := by with_unfolding_all rfl)
    (ht : ∀ r, letTemporaryGo value (.str (sL l) t) r = pure () := by intro _; with_unfolding_all rfl) :
    wpAny (model prog w) A (subscriptTail value slice (.str (sL l) t) (.ref s.heap.objs.size)) Q E { s with heap := s.heap.push { cls := .type "slice", data := .fields #[.none, .none, .none] } } :=
  slice_strN_nn hF hN (by rw [sl_all]; exact h) hs ht (by rw [sizeLine_eq, sL_len]; omega)
theorem sx_item {i : Int} {u : Tok} (h0 : 0 ≤ i) (h1 : i < l.length) (hl : l.length ≤ 1000) (h : ∀ t' tk, Q (.str (sL [l.getD i.toNat 0]) t') { s with toks := tk })
    (hs : subscripted slice false (.str (sL l) t) (.int i u) = operate [.str (sL l) t, .int i u] (getItem (.str (sL l) t) (.int i u)) := by with_unfolding_all rfl)
    (ht : ∀ r, letTemporaryGo value (.str (sL l) t) r = pure () := by intro _; with_unfolding_all rfl) :
    wpAny (model prog w) A (subscriptTail value slice (.str (sL l) t) (.int i u)) Q E s :=
  item_str (fitsSsize_of (N := 9223372036854775808) (by omega) (by omega) (Int.le_refl _)) (by rw [sL_len]; omega) (by rw [sL_len]; omega) (fun _ => by rw [it_pos l i h0 h1]; exact h _ _) hs ht
theorem sx_itemneg {i : Int} {u : Tok} (h0 : i < 0) (h1 : -(l.length : Int) ≤ i) (hl : l.length ≤ 1000) (h : ∀ t' tk, Q (.str (sL [l.getD (i + l.length).toNat 0]) t') { s with toks := tk })
    (hs : subscripted slice false (.str (sL l) t) (.int i u) = operate [.str (sL l) t, .int i u] (getItem (.str (sL l) t) (.int i u)) := by with_unfolding_all rfl)
    (ht : ∀ r, letTemporaryGo value (.str (sL l) t) r = pure () := by intro _; with_unfolding_all rfl) :
    wpAny (model prog w) A (subscriptTail value slice (.str (sL l) t) (.int i u)) Q E s :=
  item_str (fitsSsize_of (N := 9223372036854775808) (by omega) (by omega) (Int.le_refl _)) (by rw [sL_len]; omega) (by rw [sL_len]; omega) (fun _ => by rw [it_neg l i h0 h1]; exact h _ _) hs ht
theorem sx_truthy {Q : Bool → Shared → Prop} {n : Nat} (hn : l.length = n) (hl : n ≤ 1000) (h : ∀ tk, Q (decide (0 < n)) { s with toks := tk }) : wpAny (model prog w) A (truthy (.str (sL l) t)) Q E s := by
  refine SBL.truthy (by rw [sL_len]; omega) ?_
  have e : (((sL l).length : Int) != 0) = decide (0 < n) := by
    rw [sL_len, hn, Bool.eq_iff_iff]
    simp
    omega
  rw [e]; exact h _
theorem sx_len {n : Nat} (hn : l.length = n) (hl : n ≤ 1000) (h : ∀ t' tk, Q (.int n t') { s with toks := tk }) : wpAny (model prog w) A (call (.builtin "len") [.str (sL l) t]) Q E s := by
  refine SBL.len (by rw [sL_len]; omega) ?_
  rw [sL_len, hn]; exact h _ _
theorem tr_yes {n : Int} {t : Tok} {Q : Bool → Shared → Prop} (hn : n ≠ 0) (h : Q true s) : wpAny (model prog w) A (truthy (.int n t)) Q E s := by
  refine PyProof.Rows.truthy_int ?_
  rwa [show (n != 0) = true by simpa using hn]
theorem tr_no {n : Int} {t : Tok} {Q : Bool → Shared → Prop} (hn : n = 0) (h : Q false s) : wpAny (model prog w) A (truthy (.int n t)) Q E s := by
  refine PyProof.Rows.truthy_int ?_
  rwa [show (n != 0) = false by simpa using hn]
end
end Mine
end
section
open PySem PySem.W PyProof.Rows PySem.Spec PySem.Calls
namespace Mine
section
variable {w : World} {mean : ExcName → Option Value} {mg mb : Str → Option Value} {dp un : Nat} {gd : Option (List Code)} {cn : Str} {cs : Scope} {a : Addr} {ccd : Value} {cl : List (Str × Addr)} {outer : List Env} {A₀ : Around} {base h₀ : Heap} {L : Addr} {m : Str → Option Value} {s : Shared} {Q E : Value → Shared → Prop} {R : List (Addr × Obj)}
theorem cost_tells {c d : Nat} {t u : Nat} {news : List (Addr × Obj)} (hcd : (c = 9 ∧ d = 32) ∨ (c = 32 ∧ d = 9))
    (C : Cxt w mean mg mb A₀ base outer h₀ L m cs s.heap) (N : News h₀ L s.heap news)
    (hdp : dp + 2 < recursionLimit) (hun : un + 16 < cLine)
    (ret : ∀ t h' tk', Fr h₀ L h' m → News h₀ L h' news → Q (.int 2 t) { s with heap := h', toks := tk' }) :
    wpAny (model PySem.Challenge.rw_qj0007_01.row.prog w) (ktrTop dp un gd cn cs L a ccd cl outer) (call (.ref 122) [.str (sL [c]) t, .str (sL [d]) u]) Q E s := by
  w_top off
  obtain ⟨B, F, X, T, hk⟩ := C
  revert X
  k_fill
  intro X
  rcases hcd with ⟨rfl, rfl⟩ | ⟨rfl, rfl⟩
  all_goals (
    refine wpAny_call ?_
    k_dflt ktr_enter
    k_steps
    exact ret _ _ _ (by assumption) (by assumption))
end
section
variable {M : Model} {A : Around} {E : Value → Shared → Prop} {s : Shared} {h₀ : Heap} {L : Addr}
/-- a loop, and one way on behind it -/
theorem cutW {σ : Type} {t : Sem Flow} {K : Flow → Shared → Prop} {m₀ : Str → Option Value} (_F : Fr h₀ L s.heap m₀) (Led : σ → List (Addr × Obj)) (ps : σ → List (Str × Value)) (P : σ → Prop)
    (h1 : wpAny M A t (fun f s' => f = .next ∧ WEnd h₀ L s Led ps P s') E s)
    (h2 : ∀ (c : σ) (u : Str → Option Value) h tk, P c → Fr h₀ L h (kstB u (ps c)) → News h₀ L h (Led c) → K .next { s with heap := h, toks := tk }) : wpAny M A t K E s := by
  refine wpAny_mono h1 (fun f s' q => ?_) fun _ _ e => e
  obtain ⟨rfl, c, h', tk, m', news', rfl, F, N, hn, hk, hp⟩ := q
  rw [← kstB_self hk] at F
  exact h2 c m' h' tk hp F fun p hp => N p (hn p hp)
end
/-- the length of the common head -/
def lcp : List Nat → List Nat → Nat
  | a :: as, b :: bs => if a = b then lcp as bs + 1 else 0
  | _, _ => 0
theorem lcp_nil_left (l : List Nat) : lcp [] l = 0 := by cases l <;> rfl
theorem lcp_nil_right (l : List Nat) : lcp l [] = 0 := by cases l <;> rfl
theorem rev_getD (l : List Nat) (j : Nat) (h : j < l.length) : l.reverse.getD j 0 = l.getD (l.length - 1 - j) 0 := by
  have h2 : l.length - 1 - j < l.length := by omega
  simp [List.getD_eq_getElem?_getD, h, h2, List.getElem?_reverse]
theorem lcp_step {la lb : List Nat} {k : Nat} (h1 : k < la.length) (h2 : k < lb.length) :
    lcp (la.drop k) (lb.drop k) = if la.getD k 0 = lb.getD k 0 then lcp (la.drop (k + 1)) (lb.drop (k + 1)) + 1 else 0 := by
  rw [List.drop_eq_getElem_cons h1, List.drop_eq_getElem_cons h2, lcp]
  simp [List.getD_eq_getElem?_getD, h1, h2]
end Mine
end
section
open PySem PySem.W PyProof.Rows PySem.Spec PySem.Calls
namespace Mine
section
variable {M : Model} {A : Around} {E : Value → Shared → Prop} {s : Shared} {env : Env}
theorem wp_execs_app {Γ : PySem.Ctx} {l2 : List Stmt} {Q : Flow → Pos → Shared → Prop} {E' : Value → Pos → Shared → Prop} : ∀ (l1 : List Stmt) (p : Pos) (s : Shared),
    Sem.wp M Γ (execs l1 env) (fun f p' s' => match f with | .next => Sem.wp M Γ (execs l2 env) Q E' p' s' | f => Q f p' s') E' p s → Sem.wp M Γ (execs (l1 ++ l2) env) Q E' p s := by
  intro l1
  induction l1 with
  | nil => intro p s h; exact h
  | cons st r ih =>
    intro p s h
    rw [List.cons_append, execs_cons, Sem.wp_bind']
    rw [execs_cons, Sem.wp_bind'] at h
    refine Sem.wp_mono M Γ _ (fun f p' s' h' => ?_) (fun _ _ _ h' => h') _ _ h
    cases f with
    | next => exact ih _ _ h'
    | brk => exact h'
    | cont => exact h'
    | ret v => exact h'
theorem execs_app {l1 l2 : List Stmt} {Q : Flow → Shared → Prop} (h : wpAny M A (execs l1 env) (fun f s' => match f with | .next => wpAny M A (execs l2 env) Q E s' | f => Q f s') E s) :
    wpAny M A (execs (l1 ++ l2) env) Q E s := fun Γ p hΓ => by
  refine wp_execs_app l1 p s (Sem.wp_mono M Γ _ (fun f p' s' h' => ?_) (fun _ _ _ h' => h') _ _ (h Γ p hΓ))
  cases f with
  | next => exact h' Γ p' hΓ
  | brk => exact h'
  | cont => exact h'
  | ret v => exact h'
end
def leadL (p q : Nat) : List Nat := List.replicate p 9 ++ List.replicate q 32
def strip (la lb : List Nat) : List Nat × List Nat :=
  let a := la.drop (lcp la lb)
  let b := lb.drop (lcp la lb)
  (a.take (a.length - lcp a.reverse b.reverse), b.take (b.length - lcp a.reverse b.reverse))
def okStrip (p q p' q' : Nat) : Bool :=
  let r := strip (leadL p q) (leadL p' q')
  let d := dueF (p, q) (p', q')
  if r.1.isEmpty || r.2.isEmpty then decide ((2 * (r.1.length + r.2.length) : Nat) = d)
  else ((r.1 == List.replicate r.1.length 9 && r.2 == List.replicate r.2.length 32) || (r.1 == List.replicate r.1.length 32 && r.2 == List.replicate r.2.length 9)) && decide (d = (2 * max r.1.length r.2.length : Nat))
theorem strip_all : ∀ p : Fin 4, ∀ q : Fin 4, ∀ p' : Fin 4, ∀ q' : Fin 4, (p = p' ∧ q = q') ∨ okStrip p q p' q' = true := by decide +kernel
end Mine
end
section
open PySem PySem.W PyProof.Rows PySem.Spec PySem.Calls
namespace Mine
theorem intsAre_of : ∀ (vs : List Value) (ns : List Int), vs.length = ns.length → (∀ (i : Nat) (v : Value), vs[i]? = some v → ∃ t, v = Value.int (ns.getD i 0) t) → IntsAre vs ns
  | [], [], _, _ => .nil
  | [], _ :: _, h, _ => by simp at h
  | _ :: _, [], h, _ => by simp at h
  | v :: vs, n :: ns, h, g => by
    obtain ⟨t, rfl⟩ := g 0 v rfl
    refine .cons n t (intsAre_of vs ns (by simpa using h) fun i w hw => ?_)
    obtain ⟨t', e⟩ := g (i + 1) w (by simpa using hw)
    exact ⟨t', by simpa using e⟩
section
variable {prog : Program} {w : World} {A : Around} {E : Value → Shared → Prop} {s : Shared} {h₀ : Heap} {L : Addr} {m : Str → Option Value} {news : List (Addr × Obj)}
theorem list_range_L {Q : Value → Shared → Prop} {r : Addr} {a b c : Int} {t u v : Tok} {n : Nat} (hh : A.handled = none) (F : Fr h₀ L s.heap m) (N : News h₀ L s.heap news) (hr : IsRange s.heap r a b c t u v) (hsmall : Builtin.Range.small a b c = true)
    (hn : Builtin.Range.rangeSize a b c = n) (hlen : n ≤ 1000)
    (h : ∀ D h' tk ys e, Fr h₀ L h' m → News h₀ L h' ((D, listOf ys.toArray e) :: news) → (∀ p ∈ news, p.1 < D) → IntsAre ys (rangeInts a c n) → Q (.ref D) { s with heap := h', toks := tk }) :
    wpAny (model prog w) A (call (.type "list") [.ref r]) Q E s := by
  refine call_list_range hh hr hsmall hn (by omega) fun h' tk acc' c' hk hS' hacc => ?_
  refine h s.heap.objs.size h' tk acc'.toList c' (F.grownK hk) (fun p hp => ?_) (fun p hp => Heap.lt_size (N p hp).1) ?_
  · rcases List.mem_cons.mp hp with rfl | hp
    · refine ⟨by simpa using hS', Nat.ne_of_gt F.ns.lt, ?_⟩
      exact next_is_new F
    · exact ⟨hk _ _ (N p hp).1, (N p hp).2⟩
  · refine intsAre_of _ _ (by simp [hacc.1, rangeInts_length]) fun i v hv => ?_
    have hv' : acc'[i]? = some v := by simpa using hv
    have hj : i < n := by
      have := (Array.getElem?_eq_some_iff.mp hv').1
      rw [hacc.1] at this; exact this
    obtain ⟨tk, rfl⟩ := hacc.2 i v hv'
    exact ⟨tk, by simp [List.getD_eq_getElem?_getD, rangeInts_get hj]⟩
end
theorem small_two {a b : Int} (ha : -1000000 ≤ a) (ha' : a < 1000000) (hb : -1000000 ≤ b) (hb' : b < 1000000) : Builtin.Range.small a b 2 = true := by
  unfold Builtin.Range.small Builtin.Range.rangeSize
  simp only [Builtin.Range.rangeFitsLong, Bool.and_eq_true, Bool.or_eq_true, decide_eq_true_eq, beq_iff_eq, show (2 : Int) > 0 by decide, if_true]
  split <;> omega
theorem size_two (k : Nat) : Builtin.Range.rangeSize 2 (2 * ((k : Int) + 1)) 2 = k := by
  unfold Builtin.Range.rangeSize
  rw [if_pos (by decide)]
  split <;> omega
end Mine
namespace Mine
section
variable {prog : Program} {w : World} {A : Around} {E : Value → Shared → Prop} {Q : Flow → Shared → Prop} {s : Shared} {env : Env} {h₀ : Heap}
/-- a for over range(n) -/
theorem my_range {σ : Type} {x : Str} {body : List Stmt} {r : Addr} {b : Int} {t u v : Tok} {m₀ : Str → Option Value} (n : Nat) (Led : σ → List (Addr × Obj)) (ps : σ → List (Str × Value)) (J : Nat → σ → Prop) (c₀ : σ)
    (hh : A.handled = none) (hr : IsRange s.heap r 0 b 1 t u v) (hb : b = n) (hn : n ≤ 100000) (F : Fr h₀ env.locals s.heap m₀) (N : News h₀ env.locals s.heap (Led c₀)) (hk : ∀ p ∈ ps c₀, m₀ p.1 = some p.2) (hJ : J 0 c₀)
    (turn : ∀ (i : Nat) (t : Nat) (c : σ) (u : Str → Option Value) h tk own I oI, i < n → J i c → (∀ p ∈ Led c, p.1 ≠ I) → (∀ p ∈ own, p.1 = I) → (I, oI) ∈ own →
      Fr h₀ env.locals h (fun y => if y = x then some (.int (i : Int) t) else kstB u (ps c) y) → News h₀ env.locals h (Led c ++ own) →
      wpAny (model prog w) A (execs body env) (FPost h₀ env.locals { s with heap := h, toks := tk } [I] own Led ps (J (i + 1)) Q) E { s with heap := h, toks := tk })
    (done : ∀ (c : σ) (u : Str → Option Value) h tk, J n c → Fr h₀ env.locals h (kstB u (ps c)) → News h₀ env.locals h (Led c) → Q .next { s with heap := h, toks := tk }) :
    wpAny (model prog w) A (pyIter (.ref r)) (fun it s₂ => LoopAtV prog w A h₀ env x body Q E it s₂) E s := by
  subst hb
  refine wpAny_pyIter_range hr (small_one (by omega) (by omega) (by omega) (by omega)) ?_
  have hsz : Builtin.Range.rangeSize 0 (n : Int) 1 = (n : Int) := by rw [rangeSize_nat]; omega
  rw [hsz]
  refine my_forV Led ps J c₀ (Walks.range (n := n) hh s.heap.objs.size 0 1) ?_ ?_ ?_ (F.push _) (N.grown fun b o e => Heap.get?_push_of_some _ e) ?_ hk hJ ?_ done
  · intro hm; exact absurd F.ns.lt ((List.mem_singleton.mp hm) ▸ Nat.lt_irrefl _)
  · intro b hb; rw [List.mem_singleton.mp hb]; exact next_is_new F
  · show IsRangeIter _ _ _ _ _
    have := Heap.get?_push_size s.heap (o := { cls := .type "range_iterator", data := .fields #[rawInt 0, rawInt (n : Int), rawInt 1] }) rfl
    simpa [IsRangeIter] using this
  · exact mem_lt N
  · rintro i v c u h tk own hi ⟨t, rfl⟩ hj hnw hown1 hown3 hst F1 N1
    rw [show (0 + (i : Int) * 1) = i by omega] at F1
    exact turn i t c u h tk own s.heap.objs.size _ hi hj (fun p hp e => hnw p hp (List.mem_singleton.mpr e)) (fun p hp => List.mem_singleton.mp (hown1 p hp)) (hown3 _ (List.mem_singleton.mpr rfl) (next_is_new F) _ hst) F1 N1
end
end Mine
namespace Mine
theorem if_least {d n r : Int} (h1 : d ≤ n) (h2 : d ≤ r) : (if d + 2 < (if n < r then n else r) + 2 then d + 2 else (if n < r then n else r) + 2) = d + 2 := by
  have h : d ≤ (if n < r then n else r) := by split <;> assumption
  generalize (if n < r then n else r) = q at h
  split <;> omega
theorem dp_val (i j : Nat) (dist res nj : Int) (hd : dist = (2 * max i j : Nat)) (hn : nj = (2 * max i (j + 1) : Nat)) (hr : (j = 0 ∧ res = (2 * i : Nat)) ∨ (0 < j ∧ res = (2 * max (i + 1) j : Nat))) :
    (if dist + 2 < (if nj < res then nj else res) + 2 then dist + 2 else (if nj < res then nj else res) + 2) = (2 * max (i + 1) (j + 1) : Nat) := by
  have b : dist ≤ nj := by
    rw [hd, hn]
    exact Int.ofNat_le.mpr (Nat.mul_le_mul_left 2 (Nat.max_le.mpr ⟨Nat.le_max_left _ _, Nat.le_trans (Nat.le_succ j) (Nat.le_max_right _ _)⟩))
  have c : dist ≤ res := by
    rw [hd]
    rcases hr with ⟨h0, h⟩ | ⟨_, h⟩ <;> rw [h]
    · exact Int.ofNat_le.mpr (Nat.mul_le_mul_left 2 (Nat.max_le.mpr ⟨Nat.le_refl _, h0 ▸ Nat.zero_le _⟩))
    · exact Int.ofNat_le.mpr (Nat.mul_le_mul_left 2 (Nat.max_le.mpr ⟨Nat.le_trans (Nat.le_succ i) (Nat.le_max_left _ _), Nat.le_max_right _ _⟩))
  rw [if_least b c, hd, Nat.add_max_add_right]
  generalize max i j = M
  omega
theorem dp_set {k' i j : Nat} {ns : List Int} {val : Int} (hl : ns.length = k') (hj : j < k') (hv : val = (2 * max (i + 1) (j + 1) : Nat))
    (p3 : ∀ q, q < k' → ns.getD q 0 = if q < j then ((2 * max (i + 1) (q + 1) : Nat) : Int) else ((2 * max i (q + 1) : Nat) : Int)) :
    ∀ q, q < k' → (ns.set j val).getD q 0 = if q < j + 1 then ((2 * max (i + 1) (q + 1) : Nat) : Int) else ((2 * max i (q + 1) : Nat) : Int) := by
  intro q hq
  by_cases e : j = q
  · subst e
    rw [if_pos (by omega), List.getD_eq_getElem?_getD, List.getElem?_set]
    simp [hl, hj, hv]
  · have := p3 q hq
    rw [List.getD_eq_getElem?_getD] at this ⊢
    rw [List.getElem?_set, if_neg e, this]
    by_cases e2 : q < j
    · rw [if_pos e2, if_pos (by omega)]
    · rw [if_neg e2, if_neg (by omega)]
end Mine
end
section
open PySem PySem.W PyProof.Rows PySem.Spec PySem.Calls
namespace Mine
theorem back_get (l : List Nat) {n : Nat} (h : n < l.length) : l.reverse.getD n 0 = l.getD (-(n : Int) - 1 + l.length).toNat 0 := by
  rw [rev_getD _ _ h, show l.length - 1 - n = (-(n : Int) - 1 + l.length).toNat by omega]
theorem back_get0 (l : List Nat) (h : 0 < l.length) : l.reverse.getD (-(0 : Int)).toNat 0 = l.getD (0 - 1 + (l.length : Int)).toNat 0 := by
  rw [Int.neg_zero, Int.toNat_zero, rev_getD _ _ h, show l.length - 1 - 0 = (0 - 1 + (l.length : Int)).toNat by omega]
theorem min_lt {p : Int} {n a : Nat} (e : p = -(n : Int)) (h : 0 < min (p + (a : Int)).toNat a) : n < a := by omega
theorem min_ge {p : Int} {n a : Nat} (e : p = -(n : Int)) (hp : p < 0) (h : ¬ 0 < min (p + (a : Int)).toNat a) : a ≤ n := by omega
theorem turn_back {n a b : Nat} (h1 : n < a) (h2 : n < b) : -(n : Int) - 1 ≤ 0 ∧ -(-(n : Int) - 1) ≤ a ∧ -(-(n : Int) - 1) ≤ b ∧ (-(-(n : Int) - 1)).toNat = n + 1 ∧ a - (-(-(n : Int) - 1)).toNat < a - (-(-(n : Int))).toNat := by omega
theorem pre_lt {n a : Nat} (h : 0 < a - (n : Int).toNat) : n < a := by omega
theorem pre_ge {n a : Nat} (h : ¬ 0 < a - (n : Int).toNat) : a ≤ n := by omega
theorem turn_on {n a b : Nat} (h1 : n < a) (h2 : n < b) : 0 ≤ (n : Int) + 1 ∧ (n : Int) + 1 ≤ a ∧ (n : Int) + 1 ≤ b ∧ ((n : Int) + 1).toNat = n + 1 ∧ a - ((n : Int) + 1).toNat < a - ((n : Int)).toNat := by omega
section
variable {w : World} {mean : ExcName → Option Value} {mg mb : Str → Option Value} {dp un : Nat} {gd : Option (List Code)} {cn : Str} {cs : Scope} {a : Addr} {ccd : Value} {cl : List (Str × Addr)} {outer : List Env} {A₀ : Around} {base h₀ : Heap} {L : Addr} {m : Str → Option Value} {s : Shared} {Q E : Value → Shared → Prop} {R : List (Addr × Obj)}
local macro_rules | `(tactic| omega) => `(tactic| first | lia | omega +splitNatSub)
local macro_rules | `(tactic| walk_at "exec While BoolOp cons nil") => `(tactic| refine hold ?_)
local macro_rules | `(tactic| k_all) => `(tactic| assumption)
local macro_rules | `(tactic| walk_at "call ref") => `(tactic| refine hold ?_)
local macro_rules | `(tactic| walk_at "pyIter ref") => `(tactic| refine hold ?_)
local macro_rules | `(tactic| walk_at "WPost") => `(tactic| dsimp only [WPost])
local macro_rules | `(tactic| walk_at "FPost") => `(tactic| dsimp only [FPost])
local macro_rules | `(tactic| walk_at "truthy str") => `(tactic| (k_here; (with_reducible show wpAny _ _ (truthy (Value.str (sL _) _)) _ _ _); refine sx_truthy (by first | exact List.length_drop | exact List.length_take | assumption | rfl) (by omega) ?_; intro tk'))
local macro_rules | `(tactic| walk_at "call builtin:len") => `(tactic| (k_here; (with_reducible show wpAny _ _ (call (Value.builtin "len") [Value.str (sL _) _]) _ _ _); refine sx_len (by first | exact List.length_drop | exact List.length_take | assumption | rfl) (by omega) ?_; intro t' tk'))
local macro_rules | `(tactic| walk_at "subscriptTail") => `(tactic| (k_here; (with_reducible show wpAny _ _ (subscriptTail _ _ (Value.str (sL _) _) (Value.ref _)) _ _ _); (rename Fr _ _ _ _ => lF'); (rename News _ _ _ _ => lN'); (first | (refine sx_from (s := ⟨_, _, _, _, _⟩) lF' lN' (by omega) (by omega) (by omega) ?_) | (refine sx_toneg (s := ⟨_, _, _, _, _⟩) lF' lN' (by omega) (by omega) (by omega) ?_) | (refine sx_all (s := ⟨_, _, _, _, _⟩) lF' lN' (by omega) ?_)); clear lF' lN'; intro h' t' k' F' N'))
local macro_rules | `(tactic| walk_at "subscriptTail Name Name str int") => `(tactic| (k_here; (with_reducible show wpAny _ _ (subscriptTail _ _ (Value.str (sL _) _) (Value.int _ _)) _ _ _); (first | (refine sx_item (by omega) (by omega) (by omega) ?_) | (refine sx_itemneg (by omega) (by omega) (by omega) ?_)); intro t' tk'))
local macro_rules | `(tactic| walk_at "subscriptTail Name BinOp str int") => `(tactic| (k_here; (with_reducible show wpAny _ _ (subscriptTail _ _ (Value.str (sL _) _) (Value.int _ _)) _ _ _); (first | (refine sx_item (by omega) (by omega) (by omega) ?_) | (refine sx_itemneg (by omega) (by omega) (by omega) ?_)); intro t' tk'))
local macro_rules | `(tactic| walk_at "call type:list") => `(tactic| (k_here; (with_reducible show wpAny _ _ (call (Value.type "list") [Value.ref _]) _ _ _); (rename IsRange _ _ _ _ _ _ _ _ => rR); (rename Fr _ _ _ _ => lF'); (rename News _ _ _ _ => lN'); refine list_range_L rfl lF' lN' rR (small_two (by omega) (by omega) (by omega) (by omega)) (size_two _) (by omega) ?_; clear lF' lN'; intro D' h' tk' ys' e' F' N' l1 hI'))
local macro_rules | `(tactic| walk_at "truthy int") => `(tactic| (k_here; first | refine tr_yes (by omega) ?_ | refine tr_no (by omega) ?_))
theorem lev_tells {la lb : List Nat} {t u z : Nat} {mc : Int} {news : List (Addr × Obj)} (hla : la.length ≤ 20) (hlb : lb.length ≤ 20) (hne : la ≠ lb)
    (hst : (((strip la lb).1 = [] ∨ (strip la lb).2 = []) ∧ mc = (2 * ((strip la lb).1.length + (strip la lb).2.length) : Nat)) ∨
      ∃ c d k l : Nat, ((c = 9 ∧ d = 32) ∨ (c = 32 ∧ d = 9)) ∧ (strip la lb).1 = List.replicate k c ∧ (strip la lb).2 = List.replicate l d ∧ 1 ≤ k ∧ 1 ≤ l ∧ k ≤ 20 ∧ l ≤ 20 ∧ mc = (2 * max k l : Nat))
    (C : Cxt w mean mg mb A₀ base outer h₀ L m cs s.heap) (N : News h₀ L s.heap news)
    (hdp : dp + 5 < recursionLimit) (hun : un + 40 < cLine)
    (ret : ∀ t h' tk', Fr h₀ L h' m → News h₀ L h' (news) → Q (.int mc t) { s with heap := h', toks := tk' }) :
    wpAny (model PySem.Challenge.rw_qj0007_01.row.prog w) (ktrTop dp un gd cn cs L a ccd cl outer) (call (.ref 129) [.str (sL la) t, .str (sL lb) u, .int mc z]) Q E s := by
  w_top off
  obtain ⟨B, F, X, T, hk⟩ := C
  revert X
  k_fill
  intro X
  refine wpAny_call ?_
  k_dflt ktr_enter
  k_steps
  · rename (sL la == sL lb) = true => q
    rw [sL_beq] at q
    exact absurd (of_decide_eq_true q) hne
  refine unhold ?_
  rename Fr _ _ _ _ => lF
  rename News _ _ _ _ => lN
  refine cutW lF (σ := Int × Nat) (fun c => news) (fun c => [(Str.ofString "pre", Value.int c.1 c.2), (Str.ofString "a", Value.str (sL la) t), (Str.ofString "b", Value.str (sL lb) u), (Str.ofString "max_cost", Value.int mc z)]) (fun c => c.1 = lcp la lb ∧ lcp la lb ≤ la.length ∧ lcp la lb ≤ lb.length) ?loop ?rest
  case loop =>
    refine' my_while (σ := Int × Nat) (fun c => news) (fun c => [(Str.ofString "pre", Value.int c.1 c.2), (Str.ofString "a", Value.str (sL la) t), (Str.ofString "b", Value.str (sL lb) u), (Str.ofString "max_cost", Value.int mc z)]) 
      (fun c => 0 ≤ c.1 ∧ c.1 ≤ la.length ∧ c.1 ≤ lb.length ∧ lcp (la.drop c.1.toNat) (lb.drop c.1.toNat) + c.1.toNat = lcp la lb) (fun c => la.length - c.1.toNat) (0, _) lF lN ?ps ⟨?c1, ?c2, ?c3, ?c4⟩ ?turn
    case ps => kst_all
    case c1 => dsimp only; omega
    case c2 => dsimp only; omega
    case c3 => dsimp only; omega
    case c4 => rfl
    clear lF lN
    rintro ⟨pre, t1⟩ u1 h tk ⟨h1, h2, h3, h4⟩ F1 N1
    dsimp only [kstB] at F1 N1 h1 h2 h3 h4 ⊢
    refine hideW fun P1 R1 hP1 hR1 => ?_
    k_steps
    all_goals (rename Fr _ _ _ _ => eF)
    all_goals (rename News _ _ _ _ => eN)
    all_goals (obtain ⟨n, rfl⟩ : ∃ n : Nat, pre = n := ⟨pre.toNat, by clear h2 h3 h4; omega⟩)
    all_goals (rw [Int.toNat_natCast] at h4)
    · rename (sL _ == sL _) = true => q
      rename 0 < lb.length - _ => q2
      rename 0 < la.length - _ => q1
      have k1 := pre_lt q1
      have k2 := pre_lt q2
      rw [sL_beq] at q
      have q' : la.getD n 0 = lb.getD n 0 := by simpa using of_decide_eq_true q
      rw [lcp_step k1 k2, if_pos q'] at h4
      obtain ⟨z1, z2, z3, z4, z5⟩ := turn_on k1 k2
      refine hP1 _ _ ?_
      dsimp only [WPost]
      refine' WEnd.intro ((n : Int) + 1, _) eF eN (fun q hq => hq) ?psa ⟨⟨z1, z2, z3, ?a4⟩, z5⟩
      case psa => kst_all
      case a4 => dsimp only; rw [z4]; clear q1 q2 z1 z2 z3 z4 z5 k1 k2; omega
    · rename (sL _ == sL _) = false => q
      rename 0 < lb.length - _ => q2
      rename 0 < la.length - _ => q1
      have k1 := pre_lt q1
      have k2 := pre_lt q2
      rw [sL_beq] at q
      have q' : ¬ la.getD n 0 = lb.getD n 0 := by simpa using of_decide_eq_false q
      rw [lcp_step k1 k2, if_neg q', Nat.zero_add] at h4
      refine hR1 _ ⟨rfl, ?_⟩
      refine' WEnd.intro ((n : Int), _) eF eN (fun q hq => hq) ?psb ⟨congrArg _ h4, h4 ▸ Nat.le_of_lt k1, h4 ▸ Nat.le_of_lt k2⟩
      case psb => kst_all
    · rename ¬ 0 < lb.length - _ => q2
      rw [List.drop_of_length_le (l := lb) (pre_ge q2), lcp_nil_right, Nat.zero_add] at h4
      refine hR1 _ ⟨rfl, ?_⟩
      refine' WEnd.intro ((n : Int), _) eF eN (fun q hq => hq) ?psc ⟨congrArg _ h4, h4 ▸ Int.ofNat_le.mp h2, h4 ▸ Int.ofNat_le.mp h3⟩
      case psc => kst_all
    · rename ¬ 0 < la.length - _ => q2
      rw [List.drop_of_length_le (l := la) (pre_ge q2), lcp_nil_left, Nat.zero_add] at h4
      refine hR1 _ ⟨rfl, ?_⟩
      refine' WEnd.intro ((n : Int), _) eF eN (fun q hq => hq) ?psd ⟨congrArg _ h4, h4 ▸ Int.ofNat_le.mp h2, h4 ▸ Int.ofNat_le.mp h3⟩
      case psd => kst_all
  clear lF lN
  rintro ⟨pre, t1⟩ u1 h tk ⟨h1, h2, h3⟩ F1 N1
  dsimp only [kstB] at F1 N1 h1 h2 h3 ⊢
  subst h1
  k_steps
  refine unhold ?_
  rename Fr _ _ _ _ => lF
  rename News _ _ _ _ => lN
  obtain ⟨la1, hA⟩ : ∃ l, l = List.drop ((lcp la lb : Nat) : Int).toNat la := ⟨_, rfl⟩
  obtain ⟨lb1, hB⟩ : ∃ l, l = List.drop ((lcp la lb : Nat) : Int).toNat lb := ⟨_, rfl⟩
  rw [← hA, ← hB] at lF
  have hla1 : la1.length ≤ 20 := by rw [hA, List.length_drop]; omega
  have hlb1 : lb1.length ≤ 20 := by rw [hB, List.length_drop]; omega
  rw [Int.toNat_natCast] at hA hB
  refine cutW lF (σ := Int × Nat × Nat × Nat) (fun c => news) (fun c => [(Str.ofString "post", Value.int c.1 c.2.1), (Str.ofString "a", Value.str (sL la1) c.2.2.1), (Str.ofString "b", Value.str (sL lb1) c.2.2.2), (Str.ofString "max_cost", Value.int mc z)]) (fun c => c.1 = -(lcp la1.reverse lb1.reverse : Nat) ∧ lcp la1.reverse lb1.reverse ≤ la1.length ∧ lcp la1.reverse lb1.reverse ≤ lb1.length) ?loop2 ?rest2
  case loop2 =>
    refine' my_while (σ := Int × Nat × Nat × Nat) (fun c => news) (fun c => [(Str.ofString "post", Value.int c.1 c.2.1), (Str.ofString "a", Value.str (sL la1) c.2.2.1), (Str.ofString "b", Value.str (sL lb1) c.2.2.2), (Str.ofString "max_cost", Value.int mc z)])
      (fun c => c.1 ≤ 0 ∧ -c.1 ≤ la1.length ∧ -c.1 ≤ lb1.length ∧ lcp (la1.reverse.drop (-c.1).toNat) (lb1.reverse.drop (-c.1).toNat) + (-c.1).toNat = lcp la1.reverse lb1.reverse) (fun c => la1.length - (-c.1).toNat) (0, _, _, _) lF lN ?ps2 ⟨?f1, ?f2, ?f3, ?f4⟩ ?turn2
    case ps2 => kst_all
    case f1 => dsimp only; omega
    case f2 => dsimp only; omega
    case f3 => dsimp only; omega
    case f4 => rfl
    clear lF lN
    rintro ⟨post, t2, ta, tb⟩ u2 h9 tk9 ⟨g1, g2, g3, g4⟩ F2 N2
    dsimp only [kstB] at F2 N2 g1 g2 g3 g4 ⊢
    refine hideW fun P2 R2 hP2 hR2 => ?_
    rcases Int.lt_or_eq_of_le g1 with g5 | rfl
    all_goals k_steps
    all_goals (rename Fr _ _ _ _ => eF)
    all_goals (rename News _ _ _ _ => eN)
    rotate_left 4
    · rename (sL _ == sL _) = true => q
      rename 0 < lb1.length => k2
      rename 0 < la1.length => k1
      rw [sL_beq] at q
      have q' : la1.reverse.getD (-(0 : Int)).toNat 0 = lb1.reverse.getD (-(0 : Int)).toNat 0 := by
        rw [back_get0 _ k1, back_get0 _ k2]
        simpa using of_decide_eq_true q
      rw [lcp_step (by rw [List.length_reverse]; exact k1) (by rw [List.length_reverse]; exact k2), if_pos q'] at g4
      refine hP2 _ _ ?_
      dsimp only [WPost]
      refine' WEnd.intro (0 - 1, _, _, _) eF eN (fun q hq => hq) ?psk ⟨⟨by dsimp only; clear g2 g3 g4 k1 k2; omega, ?k2, ?k3, ?k4⟩, ?k5⟩
      case psk => kst_all
      case k4 => dsimp only; exact g4
      case k2 => dsimp only; clear g2 g3 g4 k2; omega
      case k3 => dsimp only; clear g2 g3 g4 k1; omega
      case k5 => dsimp only; clear g2 g3 g4 k2; omega
    · rename (sL _ == sL _) = false => q
      rename 0 < lb1.length => k2
      rename 0 < la1.length => k1
      rw [sL_beq] at q
      have q' : ¬ la1.reverse.getD (-(0 : Int)).toNat 0 = lb1.reverse.getD (-(0 : Int)).toNat 0 := by
        rw [back_get0 _ k1, back_get0 _ k2]
        simpa using of_decide_eq_false q
      rw [lcp_step (by rw [List.length_reverse]; exact k1) (by rw [List.length_reverse]; exact k2), if_neg q'] at g4
      have g5 : lcp la1.reverse lb1.reverse = 0 := g4.symm
      refine hR2 _ ⟨rfl, ?_⟩
      refine' WEnd.intro (0, _, _, _) eF eN (fun q hq => hq) ?psl ⟨by dsimp only; rw [g5]; rfl, by rw [g5]; exact Nat.zero_le _, by rw [g5]; exact Nat.zero_le _⟩
      case psl => kst_all
    · rename ¬ 0 < lb1.length => q2
      rw [List.drop_of_length_le (l := lb1.reverse) (by rw [List.length_reverse]; clear g2 g3 g4; omega), lcp_nil_right] at g4
      have g5 : lcp la1.reverse lb1.reverse = 0 := g4.symm
      refine hR2 _ ⟨rfl, ?_⟩
      refine' WEnd.intro (0, _, _, _) eF eN (fun q hq => hq) ?psm ⟨by dsimp only; rw [g5]; rfl, by rw [g5]; exact Nat.zero_le _, by rw [g5]; exact Nat.zero_le _⟩
      case psm => kst_all
    · rename ¬ 0 < la1.length => q2
      rw [List.drop_of_length_le (l := la1.reverse) (by rw [List.length_reverse]; clear g2 g3 g4; omega), lcp_nil_left] at g4
      have g5 : lcp la1.reverse lb1.reverse = 0 := g4.symm
      refine hR2 _ ⟨rfl, ?_⟩
      refine' WEnd.intro (0, _, _, _) eF eN (fun q hq => hq) ?psn ⟨by dsimp only; rw [g5]; rfl, by rw [g5]; exact Nat.zero_le _, by rw [g5]; exact Nat.zero_le _⟩
      case psn => kst_all
    all_goals (obtain ⟨n, hn⟩ : ∃ n : Nat, post = -(n : Int) := ⟨(-post).toNat, by clear g2 g3 g4; omega⟩)
    all_goals (have hnn : (-post).toNat = n := by rw [hn, Int.neg_neg, Int.toNat_natCast])
    all_goals (rw [hnn] at g4)
    · rename (sL _ == sL _) = true => q
      rename 0 < min (post + lb1.length).toNat _ => q2
      rename 0 < min (post + la1.length).toNat _ => q1
      have k1 := min_lt hn q1
      have k2 := min_lt hn q2
      clear q1 q2 g1 g2 g3 hnn
      subst hn
      rw [sL_beq] at q
      have q' : la1.reverse.getD n 0 = lb1.reverse.getD n 0 := by
        rw [back_get _ k1, back_get _ k2]
        simpa using of_decide_eq_true q
      rw [lcp_step (by rw [List.length_reverse]; exact k1) (by rw [List.length_reverse]; exact k2), if_pos q'] at g4
      obtain ⟨z1, z2, z3, z4, z5⟩ := turn_back k1 k2
      refine hP2 _ _ ?_
      dsimp only [WPost]
      refine' WEnd.intro (-(n : Int) - 1, _, _, _) eF eN (fun q hq => hq) ?psg ⟨⟨z1, z2, z3, ?g4⟩, z5⟩
      case psg => kst_all
      case g4 => dsimp only; rw [z4]; clear z1 z2 z3 z4 z5 k1 k2; omega
    · rename (sL _ == sL _) = false => q
      rename 0 < min (post + lb1.length).toNat _ => q2
      rename 0 < min (post + la1.length).toNat _ => q1
      have k1 := min_lt hn q1
      have k2 := min_lt hn q2
      clear q1 q2 g1 g2 g3 hnn
      subst hn
      rw [sL_beq] at q
      have q' : ¬ la1.reverse.getD n 0 = lb1.reverse.getD n 0 := by
        rw [back_get _ k1, back_get _ k2]
        simpa using of_decide_eq_false q
      rw [lcp_step (by rw [List.length_reverse]; exact k1) (by rw [List.length_reverse]; exact k2), if_neg q', Nat.zero_add] at g4
      refine hR2 _ ⟨rfl, ?_⟩
      refine' WEnd.intro (-(n : Int), _, _, _) eF eN (fun q hq => hq) ?psh ⟨by dsimp only; rw [g4], g4 ▸ Nat.le_of_lt k1, g4 ▸ Nat.le_of_lt k2⟩
      case psh => kst_all
    · rename ¬ 0 < min (post + lb1.length).toNat _ => q2
      have k2 := min_ge hn g5 q2
      rw [List.drop_of_length_le (l := lb1.reverse) (by rw [List.length_reverse]; exact k2), lcp_nil_right, Nat.zero_add] at g4
      rw [hn, Int.neg_neg] at g2 g3
      refine hR2 _ ⟨rfl, ?_⟩
      refine' WEnd.intro (post, _, _, _) eF eN (fun q hq => hq) ?psi ⟨by dsimp only; rw [hn, g4], g4 ▸ Int.ofNat_le.mp g2, g4 ▸ Int.ofNat_le.mp g3⟩
      case psi => kst_all
    · rename ¬ 0 < min (post + la1.length).toNat _ => q2
      have k2 := min_ge hn g5 q2
      rw [List.drop_of_length_le (l := la1.reverse) (by rw [List.length_reverse]; exact k2), lcp_nil_left, Nat.zero_add] at g4
      rw [hn, Int.neg_neg] at g2 g3
      refine hR2 _ ⟨rfl, ?_⟩
      refine' WEnd.intro (post, _, _, _) eF eN (fun q hq => hq) ?psj ⟨by dsimp only; rw [hn, g4], g4 ▸ Int.ofNat_le.mp g2, g4 ▸ Int.ofNat_le.mp g3⟩
      case psj => kst_all
  clear lF lN
  rintro ⟨post, t2, ta, tb⟩ u2 h9 tk9 ⟨g1, g2, g3⟩ F2 N2
  dsimp only [kstB] at g1 F2 N2
  dsimp only
  refine execs_app (l1 := [_, _]) ?_
  have es1 : (strip la lb).1 = la1.take (la1.length - lcp la1.reverse lb1.reverse) := by rw [hA, hB]; rfl
  have es2 : (strip la lb).2 = lb1.take (lb1.length - lcp la1.reverse lb1.reverse) := by rw [hA, hB]; rfl
  refine cutW F2 (σ := Nat × Nat) (fun c => news) (fun c => [(Str.ofString "a", Value.str (sL (strip la lb).1) c.1), (Str.ofString "b", Value.str (sL (strip la lb).2) c.2), (Str.ofString "max_cost", Value.int mc z)]) (fun c => True) ?as ?rest3
  case as =>
    rw [es1, es2]
    rcases Nat.eq_zero_or_pos (lcp la1.reverse lb1.reverse) with q | q
    · rw [q] at g1 ⊢
      subst g1
      refine hide fun Q4 hQ4 => ?_
      k_steps
      refine hQ4 _ _ ⟨rfl, ?_⟩
      rename Fr _ _ _ _ => eF
      rename News _ _ _ _ => eN
      rw [List.take_of_length_le (l := la1) (by omega), List.take_of_length_le (l := lb1) (by omega)]
      refine' WEnd.intro (_, _) eF eN (fun q hq => hq) ?pso trivial
      case pso => kst_all
    · subst g1
      refine hide fun Q4 hQ4 => ?_
      k_steps
      refine hQ4 _ _ ⟨rfl, ?_⟩
      rename Fr _ _ _ _ => eF
      rename News _ _ _ _ => eN
      rw [show la1.length - lcp la1.reverse lb1.reverse = (-(lcp la1.reverse lb1.reverse : Nat) + (la1.length : Int)).toNat by omega, show lb1.length - lcp la1.reverse lb1.reverse = (-(lcp la1.reverse lb1.reverse : Nat) + (lb1.length : Int)).toNat by omega]
      refine' WEnd.intro (_, _) eF eN (fun q hq => hq) ?psp trivial
      case psp => kst_all
  clear F2 N2
  rintro ⟨ta, tb⟩ u3 h9 tk9 _ F2 N2
  dsimp only [kstB] at F2 N2
  dsimp only
  have hL1 : (strip la lb).1.length ≤ 20 := by rw [es1, List.length_take]; omega
  have hL2 : (strip la lb).2.length ≤ 20 := by rw [es2, List.length_take]; omega
  generalize (strip la lb).1 = la2 at F2 hst hL1
  generalize (strip la lb).2 = lb2 at F2 hst hL2
  clear es1 es2
  rcases hst with ⟨hst, hmc⟩ | ⟨c, d, k, l, hcd, rfl, rfl, hk1, hl1, hk2, hl2, hmc⟩
  · have hz : la2.length = 0 ∨ lb2.length = 0 := by rcases hst with rfl | rfl <;> simp
    have hz1 : la2.length ≤ 20 := hL1
    have hz2 : lb2.length ≤ 20 := hL2
    k_steps
    all_goals (
      rename News h₀ L _ _ => kN
      rename Fr h₀ L _ _ => kF
      have := ret
      rw [hmc, show ((2 * (la2.length + lb2.length) : Nat) : Int) = 2 * ((la2.length : Int) + lb2.length) by omega] at this
      exact this _ _ _ kF kN)
  · have ek : (List.replicate k c).length = k := List.length_replicate
    have el : (List.replicate l d).length = l := List.length_replicate
    refine execs_app (l1 := [_, _, _]) ?_
    refine cutW F2 (σ := Nat × Nat × Nat × Nat × Nat × Nat) (fun c => news) (fun c => [(Str.ofString "a", Value.str (sL (List.replicate c.1 c.2.2.1)) c.2.2.2.2.1), (Str.ofString "b", Value.str (sL (List.replicate c.2.1 c.2.2.2.1)) c.2.2.2.2.2), (Str.ofString "max_cost", Value.int mc z)])
      (fun c => 1 ≤ c.1 ∧ c.1 ≤ c.2.1 ∧ c.2.1 ≤ 20 ∧ ((c.2.2.1 = 9 ∧ c.2.2.2.1 = 32) ∨ (c.2.2.1 = 32 ∧ c.2.2.2.1 = 9)) ∧ mc = (2 * c.2.1 : Nat)) ?sw ?rest4
    case sw =>
      refine hide fun Q5 hQ5 => ?_
      k_steps
      all_goals (refine hQ5 _ _ ⟨rfl, ?_⟩)
      · rename Fr _ _ _ _ => eF
        rename News _ _ _ _ => eN
        refine' WEnd.intro (l, k, d, c, _, _) eF eN (fun q hq => .tail _ hq) ?psq ⟨hl1, ?_, hk2, ?_, ?_⟩
        case psq => kst_all
        all_goals (dsimp only; omega)
      · rename Fr _ _ _ _ => eF
        rename News _ _ _ _ => eN
        refine' WEnd.intro (k, l, c, d, _, _) eF eN (fun q hq => hq) ?psr ⟨hk1, ?_, hl2, ?_, ?_⟩
        case psr => kst_all
        all_goals (dsimp only; omega)
    clear F2 N2
    rintro ⟨k', l', c', d', ta', tb'⟩ u4 h9 tk9 ⟨r1, r2, r3, r4, r5⟩ F2 N2
    dsimp only [kstB] at F2 N2 r1 r2 r3 r4 r5
    dsimp only
    clear ek el hk1 hl1 hk2 hl2 hmc hcd
    have ek : (List.replicate k' c').length = k' := List.length_replicate
    have el : (List.replicate l' d').length = l' := List.length_replicate
    k_steps
    refine unhold ?_
    rename IsRange _ _ _ _ _ _ _ _ => hR
    rename Fr _ _ _ _ => lF
    rename News _ _ _ _ => lN
    rename IntsAre _ _ => hI0
    rename ∀ p ∈ news, p.1 < _ => hD0
    refine' my_range l' (σ := Addr × List Value × Nat × List Int × Int × Nat) (fun c => (c.1, listOf c.2.1.toArray c.2.2.1) :: news)
      (fun c => [(Str.ofString "row", Value.ref c.1), (Str.ofString "result", Value.int c.2.2.2.2.1 c.2.2.2.2.2), (Str.ofString "a", Value.str (sL (List.replicate k' c')) ta'), (Str.ofString "b", Value.str (sL (List.replicate l' d')) tb'), (Str.ofString "max_cost", Value.int mc z)])
      (fun i c => (∀ p ∈ news, p.1 ≠ c.1) ∧ IntsAre c.2.1 c.2.2.2.1 ∧ c.2.2.2.1.length = k' ∧ (∀ j, j < k' → c.2.2.2.1.getD j 0 = (2 * max i (j + 1) : Nat)) ∧ (i = 0 ∨ c.2.2.2.2.1 = (2 * max i k' : Nat)))
      (_, _, _, rangeInts 2 2 k', 0, _) rfl hR rfl ?q1 lF lN ?q2 ?q3 ?q4 ?q5
    case q1 => omega
    case q2 => kst_all
    case q3 =>
      refine ⟨fun p hp => Nat.ne_of_lt (hD0 p hp), hI0, rangeInts_length .., fun j hj => ?_, .inl rfl⟩
      dsimp only
      rw [List.getD_eq_getElem?_getD, rangeInts_get hj]
      simp only [Option.getD_some]
      omega
    case q5 =>
      clear lF lN
      rintro ⟨D, vs, e, ns, res, tr⟩ u5 h8 tk8 ⟨s1, s2, s3, s4, s5⟩ F3 N3
      dsimp only [kstB, envOf] at F3 N3 s1 s2 s3 s4 s5
      dsimp only
      have s6 : res = (2 * max l' k' : Nat) := by rcases s5 with h | h <;> omega
      subst s6
      k_steps
      rename News h₀ L _ _ => kN
      rename Fr h₀ L _ _ => kF
      rw [r5, show l' = max l' k' by omega] at ret
      exact ret _ _ _ kF (News.sub kN fun p hp => .tail _ hp)
    case q4 =>
      clear lF lN
      rintro i ti ⟨D, vs, e, ns, res, tr⟩ u5 h8 tk8 own I oI hi ⟨s1, s2, s3, s4, s5⟩ hnI hownI hImem F3 N3
      dsimp only [kstB, envOf, List.cons_append] at F3 N3 s1 s2 s3 s4 s5 hnI
      dsimp only
      refine hide fun Q6 hQ6 => ?_
      have hDI : D ≠ I := hnI _ (List.mem_cons_self ..)
      have hR9 : ∀ p ∈ news ++ own, p.1 ≠ D := by
        intro p hp
        rcases List.mem_append.mp hp with hp | hp
        · exact s1 p hp
        · rw [hownI p hp]; exact Ne.symm hDI
      clear hR hI0 hD0
      k_steps
      refine unhold ?_
      rename IsRange _ _ _ _ _ _ _ _ => hR
      rename Fr _ _ _ _ => lF
      rename News _ _ _ _ => lN
      have eb : (List.replicate l' d').getD ((i : Nat) : Int).toNat 0 = d' := by
        rw [Int.toNat_natCast, List.getD_eq_getElem?_getD, List.getElem?_replicate, if_pos hi]; rfl
      rw [eb] at lF
      refine' my_range k' (σ := List Value × List Int × Int × Int × Int × Nat × Nat × Nat × Nat) (fun c => (D, listOf c.1.toArray e) :: (news ++ own))
        (fun c => [(Str.ofString "row", Value.ref D), (Str.ofString "distance", Value.int c.2.2.1 c.2.2.2.2.2.1), (Str.ofString "result", Value.int c.2.2.2.1 c.2.2.2.2.2.2.1), (Str.ofString "minimum", Value.int c.2.2.2.2.1 c.2.2.2.2.2.2.2.1), (Str.ofString "bchar", Value.str (sL [d']) c.2.2.2.2.2.2.2.2),
          (Str.ofString "a", Value.str (sL (List.replicate k' c')) ta'), (Str.ofString "b", Value.str (sL (List.replicate l' d')) tb'), (Str.ofString "max_cost", Value.int mc z)])
        (fun j c => IntsAre c.1 c.2.1 ∧ c.2.1.length = k' ∧ (∀ q, q < k' → c.2.1.getD q 0 = if q < j then ((2 * max (i + 1) (q + 1) : Nat) : Int) else ((2 * max i (q + 1) : Nat) : Int)) ∧ c.2.2.1 = (2 * max i j : Nat) ∧
          ((j = 0 ∧ c.2.2.2.1 = (2 * i : Nat) ∧ c.2.2.2.2.1 = 9223372036854775807) ∨ (0 < j ∧ c.2.2.2.1 = (2 * max (i + 1) j : Nat) ∧ c.2.2.2.2.1 = (2 * (i + 1) : Nat))))
        (vs, ns, _, _, _, _, _, _, _) rfl hR rfl ?w1 lF lN ?w2 ?w3 ?w4 ?w5
      case w1 => omega
      case w2 => kst_all
      case w3 =>
        refine ⟨s2, s3, fun q hq => ?_, ?_, .inl ⟨rfl, ?_, rfl⟩⟩
        · rw [if_neg (Nat.not_lt_zero _)]; exact s4 q hq
        · dsimp only; omega
        · dsimp only; omega
      case w5 =>
        clear lF lN
        rintro ⟨vs', ns', dist, res', mn, t7, t8, t9, t10⟩ u6 h7 tk7 ⟨p1, p2, p3, p4, p5⟩ F4 N4
        dsimp only [kstB, envOf] at F4 N4 p1 p2 p3 p4 p5
        dsimp only
        obtain ⟨p6, p7⟩ : res' = (2 * max (i + 1) k' : Nat) ∧ mn = (2 * (i + 1) : Nat) := by rcases p5 with h | h <;> omega
        k_steps
        rename Fr _ _ _ _ => eF
        rename News _ _ _ _ => eN
        refine hQ6 _ _ ?_
        dsimp only [FPost]
        refine' FEnd.intro (D, vs', e, ns', res', _) eF eN ?y1 ?y2 ?y3 ?y4 ⟨s1, p1, p2, ?y5, .inr p6⟩
        case y4 => kst_all
        case y1 =>
          intro p hp
          rcases List.mem_cons.mp hp with rfl | hp
          · exact .head _
          · exact .tail _ (List.mem_append_left _ hp)
        case y2 => exact fun p hp => .tail _ (List.mem_append_right _ hp)
        case y3 =>
          intro p hp hm
          rcases List.mem_cons.mp hp with rfl | hp
          · exact hDI (List.mem_singleton.mp hm)
          · exact hnI p (.tail _ hp) (List.mem_singleton.mp hm)
        case y5 =>
          intro j hj
          have := p3 j hj
          rw [if_pos hj] at this
          exact this
      case w4 =>
        clear lF lN
        rintro j tj ⟨vs', ns', dist, res', mn, t7, t8, t9, t10⟩ u6 h7 tk7 own2 I2 oI2 hj ⟨p1, p2, p3, p4, p5⟩ hnI2 hownI2 hImem2 F4 N4
        dsimp only [kstB, envOf, List.cons_append] at F4 N4 p1 p2 p3 p4 p5 hnI2
        dsimp only
        refine hide fun Q7 hQ7 => ?_
        have hDI2 : D ≠ I2 := hnI2 _ (List.mem_cons_self ..)
        have hR8 : ∀ p ∈ news ++ own ++ own2, p.1 ≠ D := by
          intro p hp
          rcases List.mem_append.mp hp with hp | hp
          · exact hR9 p hp
          · rw [hownI2 p hp]; exact Ne.symm hDI2
        clear hR
        have ea : (List.replicate k' c').getD ((j : Nat) : Int).toNat 0 = c' := by
          rw [Int.toNat_natCast, List.getD_eq_getElem?_getD, List.getElem?_replicate, if_pos hj]; rfl
        k_steps
        refine unhold ?_
        rename Fr _ _ _ _ => eF
        rename News _ _ _ _ => eN
        rw [ea]
        refine cost_tells (r4.elim (fun h => .inr ⟨h.2, h.1⟩) (fun h => .inl ⟨h.2, h.1⟩)) ⟨by assumption, eF, by assumption, by assumption, rfl⟩ eN (by show dp + 1 + 2 < recursionLimit; omega) (by ktr_units) ?_
        clear eF eN
        intro t11 h11 tk11 F11 N11
        have hnj : ns'.getD ((j : Nat) : Int).toNat 0 = (2 * max i (j + 1) : Nat) := by
          have := p3 j hj
          rw [if_neg (Nat.lt_irrefl _)] at this
          rw [Int.toNat_natCast]; exact this
        have hval := dp_val i j dist res' _ p4 hnj (p5.elim (fun h => .inl ⟨h.1, h.2.1⟩) fun h => .inr ⟨h.1, h.2.1⟩)
        k_steps
        · rename Fr _ _ _ _ => eF
          rename News _ _ _ _ => eN
          rename IntsAre (vs'.set _ _) _ => hI9
          rename (ite _ _ _ : Int) < mn => hlt9
          rw [hval] at hlt9
          refine hQ7 _ _ ?_
          dsimp only [FPost]
          refine' FEnd.intro (_, _, _, _, _, _, _, _, _) eF eN ?nu ?ou ?wu ?ku ⟨hI9, ?lu, ?gu, hnj, .inr ⟨Nat.succ_pos _, hval, ?mu⟩⟩
          case ku => kst_all
          case nu =>
            intro p hp
            rcases List.mem_cons.mp hp with rfl | hp
            · exact .head _
            · exact .tail _ (List.mem_append_left _ hp)
          case ou => exact fun p hp => .tail _ (List.mem_append_right _ hp)
          case wu =>
            intro p hp hm
            rcases List.mem_cons.mp hp with rfl | hp
            · exact hDI2 (List.mem_singleton.mp hm)
            · exact hnI2 p (.tail _ hp) (List.mem_singleton.mp hm)
          case lu => dsimp only; rw [List.length_set]; exact p2
          case gu =>
            dsimp only
            rw [Int.toNat_natCast]
            rw [Int.toNat_natCast] at hval
            exact dp_set p2 hj hval p3
          case mu => ((try dsimp only); (try rw [hval]); rcases p5 with h | h <;> omega)
        · rename Fr _ _ _ _ => eF
          rename News _ _ _ _ => eN
          rename IntsAre (vs'.set _ _) _ => hI9
          rename ¬ (ite _ _ _ : Int) < mn => hlt9
          rw [hval] at hlt9
          refine hQ7 _ _ ?_
          dsimp only [FPost]
          refine' FEnd.intro (_, _, _, _, _, _, _, _, _) eF eN ?nv ?ov ?wv ?kv ⟨hI9, ?lv, ?gv, hnj, .inr ⟨Nat.succ_pos _, hval, ?mv⟩⟩
          case kv => kst_all
          case nv =>
            intro p hp
            rcases List.mem_cons.mp hp with rfl | hp
            · exact .head _
            · exact .tail _ (List.mem_append_left _ hp)
          case ov => exact fun p hp => .tail _ (List.mem_append_right _ hp)
          case wv =>
            intro p hp hm
            rcases List.mem_cons.mp hp with rfl | hp
            · exact hDI2 (List.mem_singleton.mp hm)
            · exact hnI2 p (.tail _ hp) (List.mem_singleton.mp hm)
          case lv => dsimp only; rw [List.length_set]; exact p2
          case gv =>
            dsimp only
            rw [Int.toNat_natCast]
            rw [Int.toNat_natCast] at hval
            exact dp_set p2 hj hval p3
          case mv => ((try dsimp only); (try rw [hval]); rcases p5 with h | h <;> omega)
end
end Mine
end
section
open PySem PySem.W PyProof.Rows PySem.Spec PySem.Calls
namespace Mine
/-- a list of pairs of ints -/
def Pts (R : List (Addr × Obj)) (vs : List Value) (ps : List (Int × Int)) : Prop :=
  vs.length = ps.length ∧ ∀ i, i < ps.length → Pair R (vs.getD i .none) (ps.getD i (0, 0))
theorem Pts.mono {R R' : List (Addr × Obj)} {vs : List Value} {ps : List (Int × Int)} (h : Pts R vs ps) (hs : ∀ p ∈ R, p ∈ R') : Pts R' vs ps :=
  ⟨h.1, fun i hi => (h.2 i hi).mono hs⟩
theorem Pts.set {R : List (Addr × Obj)} {vs : List Value} {ks : List (Int × Int)} (h : Pts R vs ks) {v : Value} {k : Int × Int} (hv : Pair R v k) (i : Nat) : Pts R (vs.set i v) (ks.set i k) := by
  refine ⟨by simp [h.1], fun j hj => ?_⟩
  simp only [List.length_set] at hj
  have hj' : j < vs.length := by rw [h.1]; exact hj
  simp only [List.getD_eq_getElem?_getD, List.getElem?_set]
  by_cases e : i = j
  · subst e; simp [hj, hj', hv]
  · have := h.2 j hj
    simp only [List.getD_eq_getElem?_getD] at this
    simp [e, this]
theorem Pts.append {R : List (Addr × Obj)} {vs : List Value} {ks : List (Int × Int)} (h : Pts R vs ks) {v : Value} {k : Int × Int} (hv : Pair R v k) : Pts R (vs ++ [v]) (ks ++ [k]) := by
  refine ⟨by simp [h.1], fun j hj => ?_⟩
  simp only [List.length_append, List.length_cons, List.length_nil] at hj
  simp only [List.getD_eq_getElem?_getD, List.getElem?_append, h.1]
  by_cases e : j < ks.length
  · have := h.2 j e
    simp only [List.getD_eq_getElem?_getD] at this
    simp only [e, if_true, this]
  · have : j = ks.length := by omega
    subst this; simp [hv]
/-- what is known of each spot -/
def Kns (R : List (Addr × Obj)) (vs : List Value) (ps : List (Int × Int)) : Prop :=
  vs.length = ps.length ∧ ∀ i, i < ps.length → Known R (vs.getD i .none) (ps.getD i (0, 0)).1.toNat (ps.getD i (0, 0)).2.toNat
theorem Kns.mono {R R' : List (Addr × Obj)} {vs : List Value} {ps : List (Int × Int)} (h : Kns R vs ps) (hs : ∀ p ∈ R, p ∈ R') : Kns R' vs ps :=
  ⟨h.1, fun i hi => (h.2 i hi).mono hs⟩
theorem Kns.append {R : List (Addr × Obj)} {vs : List Value} {ks : List (Int × Int)} (h : Kns R vs ks) {v : Value} {k : Int × Int} (hv : Known R v k.1.toNat k.2.toNat) : Kns R (vs ++ [v]) (ks ++ [k]) := by
  refine ⟨by simp [h.1], fun j hj => ?_⟩
  simp only [List.length_append, List.length_cons, List.length_nil] at hj
  simp only [List.getD_eq_getElem?_getD, List.getElem?_append, h.1]
  by_cases e : j < ks.length
  · have := h.2 j e
    simp only [List.getD_eq_getElem?_getD] at this
    simp only [e, if_true, this]
  · have : j = ks.length := by omega
    subst this; simp [hv]
theorem okStrip_says {p q p' q' : Nat} (h : okStrip p q p' q' = true) (hp : p ≤ 3) (hq : q ≤ 3) (hp' : p' ≤ 3) (hq' : q' ≤ 3) :
    (((strip (leadL p q) (leadL p' q')).1 = [] ∨ (strip (leadL p q) (leadL p' q')).2 = []) ∧ dueF (p, q) (p', q') = (2 * ((strip (leadL p q) (leadL p' q')).1.length + (strip (leadL p q) (leadL p' q')).2.length) : Nat)) ∨
      ∃ c d k l : Nat, ((c = 9 ∧ d = 32) ∨ (c = 32 ∧ d = 9)) ∧ (strip (leadL p q) (leadL p' q')).1 = List.replicate k c ∧ (strip (leadL p q) (leadL p' q')).2 = List.replicate l d ∧ 1 ≤ k ∧ 1 ≤ l ∧ k ≤ 20 ∧ l ≤ 20 ∧ dueF (p, q) (p', q') = (2 * max k l : Nat) := by
  have hl1 : (strip (leadL p q) (leadL p' q')).1.length ≤ 20 := by
    unfold strip leadL; simp only [List.length_take, List.length_drop, List.length_append, List.length_replicate]; omega
  have hl2 : (strip (leadL p q) (leadL p' q')).2.length ≤ 20 := by
    unfold strip leadL; simp only [List.length_take, List.length_drop, List.length_append, List.length_replicate]; omega
  unfold okStrip at h
  generalize strip (leadL p q) (leadL p' q') = r at *
  generalize dueF (p, q) (p', q') = d at *
  dsimp only at h
  split at h
  · rename_i e
    left
    refine ⟨?_, ?_⟩
    · simpa using e
    · have := of_decide_eq_true h
      omega
  · rename_i e
    right
    simp only [Bool.or_eq_true, List.isEmpty_iff, not_or] at e
    have h1 : 1 ≤ r.1.length := List.length_pos_iff.mpr e.1
    have h2 : 1 ≤ r.2.length := List.length_pos_iff.mpr e.2
    simp only [Bool.and_eq_true, Bool.or_eq_true, beq_iff_eq, decide_eq_true_eq] at h
    obtain ⟨h3, h4⟩ := h
    rcases h3 with ⟨a, b⟩ | ⟨a, b⟩
    · exact ⟨9, 32, _, _, .inl ⟨rfl, rfl⟩, a, b, h1, h2, hl1, hl2, h4⟩
    · exact ⟨32, 9, _, _, .inr ⟨rfl, rfl⟩, a, b, h1, h2, hl1, hl2, h4⟩
theorem lead_ne {p q p' q' : Nat} (h : ¬ (p = p' ∧ q = q')) : leadL p q ≠ leadL p' q' := by
  intro e
  have h1 := congrArg (List.count 9) e
  have h2 := congrArg (List.count 32) e
  simp [leadL, List.count_replicate] at h1 h2
  exact h ⟨h1, h2⟩
theorem lead_len {p q : Nat} (hp : p ≤ 3) (hq : q ≤ 3) : (leadL p q).length ≤ 20 := by
  simp [leadL]; omega
section
variable {w : World} {mean : ExcName → Option Value} {mg mb : Str → Option Value} {dp un : Nat} {gd : Option (List Code)} {cn : Str} {cs : Scope} {a : Addr} {ccd : Value} {cl : List (Str × Addr)} {outer : List Env} {A₀ : Around} {base h₀ : Heap} {L : Addr} {m : Str → Option Value} {s : Shared} {Q E : Value → Shared → Prop} {R : List (Addr × Obj)}
theorem lev_lead {p q p' q' : Nat} {x y : Str} {t u z : Nat} {news : List (Addr × Obj)} (hx : x.cps.toList = leadL p q) (hy : y.cps.toList = leadL p' q') (hne : ¬ (p = p' ∧ q = q')) (hp : p ≤ 3) (hq : q ≤ 3) (hp' : p' ≤ 3) (hq' : q' ≤ 3)
    (C : Cxt w mean mg mb A₀ base outer h₀ L m cs s.heap) (N : News h₀ L s.heap news)
    (hdp : dp + 5 < recursionLimit) (hun : un + 40 < cLine)
    (ret : ∀ t h' tk', Fr h₀ L h' m → News h₀ L h' (news) → Q (.int (dueF (p, q) (p', q')) t) { s with heap := h', toks := tk' }) :
    wpAny (model PySem.Challenge.rw_qj0007_01.row.prog w) (ktrTop dp un gd cn cs L a ccd cl outer) (call (.ref 129) [.str x t, .str y u, .int (dueF (p, q) (p', q')) z]) Q E s := by
  rw [sL_of x, sL_of y, hx, hy]
  have h := strip_all ⟨p, by omega⟩ ⟨q, by omega⟩ ⟨p', by omega⟩ ⟨q', by omega⟩
  rcases h with h | h
  · exact absurd ⟨congrArg Fin.val h.1, congrArg Fin.val h.2⟩ hne
  exact lev_tells (lead_len hp hq) (lead_len hp' hq') (lead_ne hne) (okStrip_says h hp hq hp' hq') C N hdp hun ret
end
end Mine
end
section
open PySem PySem.W PyProof.Rows PySem.Spec PySem.Calls
namespace Mine
open LCg LCp
section
variable {prog : Program} {w : World} {A : Around} {E : Value → Shared → Prop} {s : Shared} {h₀ : Heap} {L : Addr} {m : Str → Option Value} {env : Env}
theorem end_mono {s₁ : Shared} {I C D : Addr} {oI oC oD : Obj} {S : List (Addr × Obj) → Prop} {r r' : Value → List (Addr × Obj) → Prop} (h : ∀ y nw, r y nw → r' y nw) {y : Value} {s₂ : Shared} (e : CompEnd h₀ L m s₁ I oI C oC D oD S r y s₂) : CompEnd h₀ L m s₁ I oI C oC D oD S r' y s₂ := by
  obtain ⟨h', tk, nw, e1, e2, e3, e4, e5, e6⟩ := e
  exact ⟨h', tk, nw, e1, e2, e3, e4, e5, h _ _ e6⟩
theorem comp_P {elt : Expr} {x x₂ : Str} {scope : Scope} {cl : List (Str × Addr)} {S : List (Addr × Obj) → Prop} {P : Nat → Value → Prop} {Fin : List Value → List (Addr × Obj) → Prop} (n : Nat) (Inv : Nat → List Value → List (Addr × Obj) → Prop)
    (turn : ∀ i ys news v, i < n → Inv i ys news → P i v → ∃ (t : Addr) (ot : Obj) (v₁ v₂ : Value) (nt : Nat), v = .ref t ∧ (t, ot) ∈ news ∧ ot.cls = .type "tuple" ∧ ot.data = .seq #[v₁, v₂] nt ∧
      ∀ I oI C oC D m₂ h tk (E' : Value → Shared → Prop), NsObj oC m₂ → m₂ x = some v₁ → m₂ x₂ = some v₂ → Fr h₀ L h m → News h₀ L h ((I, oI) :: (C, oC) :: (D, lst ys) :: news) → Off3 I C D news → ((@Ne Nat I C) ∧ (@Ne Nat I D) ∧ (@Ne Nat C D)) →
      wpAny (model prog w) A (eval elt (compEnvC scope cl C env)) (CompEnd h₀ L m { s with heap := h, toks := tk } I oI C oC D (lst ys) S (fun y news' => Inv (i + 1) (ys ++ [y]) news')) E' { s with heap := h, toks := tk })
    (fin : ∀ ys news, Inv n ys news → Fin ys news) : ∀ (k i : Nat) (ys : List Value) (news : List (Addr × Obj)), k + i = n → Inv i ys news → CompRestP prog w A h₀ L m env elt x x₂ scope cl s S P Fin k i ys news := by
  intro k
  induction k with
  | zero => intro i ys news hk hI; exact CompRestP.zero (fin _ _ (by rwa [show n = i by omega]))
  | succ k ih =>
    intro i ys news hk hI
    refine CompRestP.succ fun v hv => ?_
    obtain ⟨t, ot, v₁, v₂, nt, e1, e2, e3, e4, e5⟩ := turn i ys news v (by omega) hI hv
    refine ⟨t, ot, v₁, v₂, nt, e1, e2, e3, e4, fun I oI C oC D m₂ h tk E' q1 q2 q3 q4 q5 q6 q7 => wpAny_mono (e5 I oI C oC D m₂ h tk E' q1 q2 q3 q4 q5 q6 q7) (fun y s₂ z => end_mono (fun y nw hz => ih (i + 1) _ _ (by omega) hz) z) fun _ _ z => z⟩
theorem comp_N {elt : Expr} {x : Str} {scope : Scope} {cl : List (Str × Addr)} {S : List (Addr × Obj) → Prop} {P : Nat → Value → Prop} {Fin : List Value → List (Addr × Obj) → Prop} (n : Nat) (Inv : Nat → List Value → List (Addr × Obj) → Prop)
    (turn : ∀ i ys news v, i < n → Inv i ys news → P i v → ∀ I oI C oC D m₂ h tk (E' : Value → Shared → Prop), NsObj oC m₂ → m₂ x = some v → Fr h₀ L h m → News h₀ L h ((I, oI) :: (C, oC) :: (D, lst ys) :: news) → Off3 I C D news → ((@Ne Nat I C) ∧ (@Ne Nat I D) ∧ (@Ne Nat C D)) →
      wpAny (model prog w) A (eval elt (compEnvC scope cl C env)) (CompEnd h₀ L m { s with heap := h, toks := tk } I oI C oC D (lst ys) S (fun y news' => Inv (i + 1) (ys ++ [y]) news')) E' { s with heap := h, toks := tk })
    (fin : ∀ ys news, Inv n ys news → Fin ys news) : ∀ (k i : Nat) (ys : List Value) (news : List (Addr × Obj)), k + i = n → Inv i ys news → CompRest prog w A h₀ L m env elt x scope cl s S P Fin k i ys news := by
  intro k
  induction k with
  | zero => intro i ys news hk hI; exact CompRest.zero (fin _ _ (by rwa [show n = i by omega]))
  | succ k ih =>
    intro i ys news hk hI
    refine CompRest.succ fun v I oI C oC D m₂ h tk E' hv q1 q2 q4 q5 q6 q7 => ?_
    exact wpAny_mono (turn i ys news v (by omega) hI hv I oI C oC D m₂ h tk E' q1 q2 q4 q5 q6 q7) (fun y s₂ z => end_mono (fun y nw hz => ih (i + 1) _ _ (by omega) hz) z) fun _ _ z => z
end
theorem Off3.app {I C D : Addr} : ∀ {l₁ l₂ : List (Addr × Obj)}, (∀ p ∈ l₁, p.1 ≠ I ∧ p.1 ≠ C ∧ p.1 ≠ D) → Off3 I C D l₂ → Off3 I C D (l₁ ++ l₂)
  | [], _, _, h => h
  | p :: r, _, h1, h => ⟨h1 p (.head _), Off3.app (fun q hq => h1 q (.tail _ hq)) h⟩
end Mine
end
section
namespace Mine
local macro_rules | `(tactic| omega) => `(tactic| first | lia | omega +splitNatSub)
theorem getD_set' (l : List Int) (i j : Nat) (a : Int) (h : i < l.length) : (l.set i a).getD j 0 = if i = j then a else l.getD j 0 := by
  simp only [List.getD_eq_getElem?_getD, List.getElem?_set]
  by_cases e : i = j
  · subst e; simp [h]
  · simp [e]
theorem set_perm (a : Int) : ∀ (l : List Int) (i : Nat), i < l.length → (l.getD i 0 :: l.set i a).Perm (a :: l)
  | [], _, h => absurd h (Nat.not_lt_zero _)
  | b :: l, 0, _ => by simpa using List.Perm.swap a b l
  | b :: l, i + 1, h => by
    have ih := set_perm a l i (by simpa using h)
    simp only [List.set_cons_succ, List.getD_cons_succ]
    exact (List.Perm.swap b _ _).trans ((ih.cons b).trans (List.Perm.swap a b l))
theorem set_swap {l : List Int} {i j : Nat} {x : Int} (hi : i < l.length) (hj : j < l.length) (hij : i ≠ j) : ((l.set i (l.getD j 0)).set j x).Perm (l.set i x) := by
  rw [List.perm_iff_count]
  intro a
  have h1 := (set_perm x (l.set i (l.getD j 0)) j (by simpa using hj)).count_eq a
  have h2 := (set_perm x l i hi).count_eq a
  have h3 := (set_perm (l.getD j 0) l i hi).count_eq a
  rw [getD_set' _ _ _ _ hi, if_neg hij] at h1
  simp only [List.count_cons] at h1 h2 h3
  omega
def IsHeap (l : List Int) : Prop := ∀ q, 0 < q → q < l.length → l.getD ((q - 1) / 2) 0 ≤ l.getD q 0
theorem IsHeap.head {l : List Int} (h : IsHeap l) : ∀ q, q < l.length → l.getD 0 0 ≤ l.getD q 0 := by
  intro q
  induction q using Nat.strongRecOn with
  | ind q ih =>
    intro hq
    rcases Nat.eq_zero_or_pos q with rfl | h0
    · exact Int.le_refl _
    · exact Int.le_trans (ih ((q - 1) / 2) (by omega) (by omega)) (h q h0 hq)
theorem sdn_perm (x : Int) : ∀ (p : Nat) (l : List Int), p < l.length → (sdn x l p).Perm (l.set p x) := by
  intro p
  induction p using Nat.strongRecOn with
  | ind p ih =>
    intro l hp
    unfold sdn
    split
    · split
      · exact (ih ((p - 1) / 2) (by omega) _ (by simp; omega)).trans (set_swap hp (by omega) (by omega))
      · exact List.Perm.refl _
    · exact List.Perm.refl _
theorem sdn_heap (x : Int) : ∀ (p : Nat) (l : List Int), p < l.length → (∀ q, 0 < q → q < l.length → q ≠ p → (q - 1) / 2 ≠ p → l.getD ((q - 1) / 2) 0 ≤ l.getD q 0) →
    (∀ q, 0 < q → q < l.length → (q - 1) / 2 = p → x ≤ l.getD q 0 ∧ (0 < p → l.getD ((p - 1) / 2) 0 ≤ l.getD q 0)) → IsHeap (sdn x l p) := by
  intro p
  induction p using Nat.strongRecOn with
  | ind p ih =>
    intro l hp h1 h2
    have fin : (0 < p → l.getD ((p - 1) / 2) 0 ≤ x) → IsHeap (l.set p x) := by
      intro hx q hq0 hq
      rw [List.length_set] at hq
      rw [getD_set' _ _ _ _ hp, getD_set' _ _ _ _ hp]
      by_cases e : p = q
      · subst e
        rw [if_neg (by omega), if_pos rfl]; exact hx hq0
      · by_cases e2 : p = (q - 1) / 2
        · rw [if_pos e2, if_neg e]; exact (h2 q hq0 hq e2.symm).1
        · rw [if_neg e2, if_neg e]; exact h1 q hq0 hq (Ne.symm e) (Ne.symm e2)
    unfold sdn
    split
    · rename_i h0
      split
      · rename_i hlt
        refine ih ((p - 1) / 2) (by omega) _ (by simp; omega) ?_ ?_
        · intro q hq0 hq e1 e2
          rw [List.length_set] at hq
          rw [getD_set' _ _ _ _ hp, getD_set' _ _ _ _ hp]
          by_cases e : p = q
          · omega
          · by_cases e3 : p = (q - 1) / 2
            · rw [if_pos e3, if_neg e]; exact (h2 q hq0 hq e3.symm).2 h0
            · rw [if_neg e3, if_neg e]; exact h1 q hq0 hq (Ne.symm e) (Ne.symm e3)
        · intro q hq0 hq e1
          rw [List.length_set] at hq
          have key : l.getD ((p - 1) / 2) 0 ≤ (l.set p (l.getD ((p - 1) / 2) 0)).getD q 0 := by
            rw [getD_set' _ _ _ _ hp]
            by_cases e : p = q
            · rw [if_pos e]; exact Int.le_refl _
            · rw [if_neg e]
              have := h1 q hq0 hq (Ne.symm e) (by omega)
              rwa [e1] at this
          refine ⟨by omega, fun h3 => ?_⟩
          rw [getD_set' _ _ _ _ hp, if_neg (by omega)]
          have := h1 ((p - 1) / 2) h3 (by omega) (by omega) (by omega)
          omega
      · rename_i hlt
        exact fin fun _ => by omega
    · rename_i h0
      exact fin fun h => absurd h h0
theorem push_heap {l : List Int} {k : Int} (h : IsHeap l) : IsHeap (sdn k (l ++ [k]) l.length) ∧ (sdn k (l ++ [k]) l.length).Perm (k :: l) := by
  constructor
  · refine sdn_heap k _ _ (by simp) ?_ ?_
    · intro q hq0 hq e1 e2
      simp only [List.length_append, List.length_cons, List.length_nil] at hq
      have a1 : (l ++ [k]).getD q 0 = l.getD q 0 := by simp [List.getD_eq_getElem?_getD, List.getElem?_append, show q < l.length by omega]
      have a2 : (l ++ [k]).getD ((q - 1) / 2) 0 = l.getD ((q - 1) / 2) 0 := by simp [List.getD_eq_getElem?_getD, List.getElem?_append, show (q - 1) / 2 < l.length by omega]
      rw [a1, a2]; exact h q hq0 (by omega)
    · intro q hq0 hq e1
      simp only [List.length_append, List.length_cons, List.length_nil] at hq
      omega
  · refine (sdn_perm k _ _ (by simp)).trans ?_
    have : (l ++ [k]).set l.length k = l ++ [k] := by simp
    rw [this]
    exact List.perm_append_comm
theorem supGo_perm (x : Int) : ∀ (n : Nat) (l : List Int) (p : Nat), l.length - p = n → p < l.length → ((supGo l p).1.set (supGo l p).2 x).Perm (l.set p x) := by
  intro n
  induction n using Nat.strongRecOn with
  | ind n ih =>
    intro l p hn hp
    unfold supGo
    split
    · split
      · have := ih (l.length - (2 * p + 2)) (by omega) (l.set p (l.getD (2 * p + 2) 0)) (2 * p + 2) (by simp) (by simp; omega)
        exact this.trans (set_swap hp (by omega) (by omega))
      · have := ih (l.length - (2 * p + 1)) (by omega) (l.set p (l.getD (2 * p + 1) 0)) (2 * p + 1) (by simp) (by simp; omega)
        exact this.trans (set_swap hp (by omega) (by omega))
    · exact List.Perm.refl _
/-- a heap but for a hole -/
def HoleH (l : List Int) (p : Nat) : Prop :=
  (∀ q, 0 < q → q < l.length → q ≠ p → (q - 1) / 2 ≠ p → l.getD ((q - 1) / 2) 0 ≤ l.getD q 0) ∧ (∀ q, 0 < q → q < l.length → (q - 1) / 2 = p → 0 < p → l.getD ((p - 1) / 2) 0 ≤ l.getD q 0)
theorem HoleH.down {l : List Int} {p c : Nat} (h : HoleH l p) (hp : p < l.length) (hc : c < l.length) (hcp : 0 < c) (hpar : (c - 1) / 2 = p) (hmin : ∀ q, 0 < q → q < l.length → (q - 1) / 2 = p → l.getD c 0 ≤ l.getD q 0) : HoleH (l.set p (l.getD c 0)) c := by
  refine ⟨fun q hq0 hq e1 e2 => ?_, fun q hq0 hq e1 hc0 => ?_⟩
  · rw [List.length_set] at hq
    rw [getD_set' _ _ _ _ hp, getD_set' _ _ _ _ hp]
    by_cases e : p = q
    · subst e
      rw [if_neg (by omega), if_pos rfl]
      exact h.2 c hcp hc hpar hq0
    · rw [if_neg e]
      by_cases e3 : p = (q - 1) / 2
      · rw [if_pos e3]; exact hmin q hq0 hq e3.symm
      · rw [if_neg e3]; exact h.1 q hq0 hq (Ne.symm e) (Ne.symm e3)
  · rw [List.length_set] at hq
    rw [getD_set' _ _ _ _ hp, getD_set' _ _ _ _ hp, if_pos hpar.symm, if_neg (by omega)]
    have := h.1 q hq0 hq (by omega) (by omega)
    rwa [e1] at this
theorem supGo_hole : ∀ (n : Nat) (l : List Int) (p : Nat), l.length - p = n → p < l.length → HoleH l p → HoleH (supGo l p).1 (supGo l p).2 ∧ ¬ 2 * (supGo l p).2 + 1 < (supGo l p).1.length := by
  intro n
  induction n using Nat.strongRecOn with
  | ind n ih =>
    intro l p hn hp hH
    unfold supGo
    split
    · rename_i h1
      split
      · rename_i h2
        refine ih (l.length - (2 * p + 2)) (by omega) (l.set p (l.getD (2 * p + 2) 0)) (2 * p + 2) (by simp) (by simp; omega) (hH.down hp (by omega) (by omega) (by omega) fun q hq0 hq e => ?_)
        rcases (show q = 2 * p + 1 ∨ q = 2 * p + 2 by omega) with rfl | rfl
        · omega
        · exact Int.le_refl _
      · rename_i h2
        refine ih (l.length - (2 * p + 1)) (by omega) (l.set p (l.getD (2 * p + 1) 0)) (2 * p + 1) (by simp) (by simp; omega) (hH.down hp (by omega) (by omega) (by omega) fun q hq0 hq e => ?_)
        rcases (show q = 2 * p + 1 ∨ q = 2 * p + 2 by omega) with rfl | rfl
        · exact Int.le_refl _
        · by_cases h3 : l.getD (2 * p + 1) 0 < l.getD (2 * p + 2) 0
          · omega
          · exact absurd ⟨hq, h3⟩ h2
    · rename_i h1
      exact ⟨hH, h1⟩
theorem sup_perm {l : List Int} (h0 : 0 < l.length) : (sup l).Perm l := by
  unfold sup
  have hl := supGo_len _ l 0 rfl h0
  refine (sdn_perm _ _ _ (by rw [List.length_set, hl.1]; exact hl.2)).trans ?_
  rw [List.set_set]
  refine (supGo_perm _ _ l 0 rfl h0).trans ?_
  cases l with
  | nil => simp at h0
  | cons a r => simp
theorem sup_heap {l : List Int} (h0 : 0 < l.length) (h : HoleH l 0) : IsHeap (sup l) := by
  unfold sup
  have hl := supGo_len _ l 0 rfl h0
  have hh := supGo_hole _ l 0 rfl h0 h
  refine sdn_heap _ _ _ (by rw [List.length_set, hl.1]; exact hl.2) ?_ ?_
  · intro q hq0 hq e1 e2
    rw [List.length_set] at hq
    have hp : (supGo l 0).2 < (supGo l 0).1.length := by rw [hl.1]; exact hl.2
    rw [getD_set' _ _ _ _ hp, getD_set' _ _ _ _ hp, if_neg (Ne.symm e1), if_neg (Ne.symm e2)]
    exact hh.1.1 q hq0 hq e1 e2
  · intro q hq0 hq e1
    rw [List.length_set] at hq
    have := hh.2
    omega
theorem pop_heap {l : List Int} (h0 : 0 < l.length) (h : IsHeap l) : IsHeap (hpopL l) ∧ l.Perm (l.getD 0 0 :: hpopL l) := by
  unfold hpopL
  by_cases h1 : l.length ≤ 1
  · rw [if_pos h1]
    refine ⟨fun q _ hq => absurd hq (Nat.not_lt_zero _), ?_⟩
    match l, h0, h1 with
    | [a], _, _ => exact List.Perm.refl _
  · rw [if_neg h1]
    have hd : 0 < l.dropLast.length := by rw [List.length_dropLast]; omega
    have hs : 0 < (l.dropLast.set 0 (l.getD (l.length - 1) 0)).length := by rw [List.length_set]; exact hd
    have ed : ∀ i, i < l.length - 1 → l.dropLast.getD i 0 = l.getD i 0 := by
      intro i hi
      have h2 : i < l.length := by omega
      simp [List.getD_eq_getElem?_getD, List.getElem?_dropLast, hi, h2]
    refine ⟨sup_heap hs ⟨?_, ?_⟩, ?_⟩
    · intro q hq0 hq e1 e2
      rw [List.length_set, List.length_dropLast] at hq
      rw [getD_set' _ _ _ _ hd, getD_set' _ _ _ _ hd, if_neg (Ne.symm e1), if_neg (Ne.symm e2), ed _ hq, ed _ (by omega)]
      exact h q hq0 (by omega)
    · intro q _ _ _ h9; omega
    · have hne : l ≠ [] := by intro e; rw [e] at h0; simp at h0
      have p1 := sup_perm hs
      have p2 := set_perm (l.getD (l.length - 1) 0) l.dropLast 0 hd
      rw [ed 0 (by omega)] at p2
      refine List.Perm.trans ?_ (p2.symm.trans (p1.symm.cons _))
      have e : l = l.dropLast ++ [l.getD (l.length - 1) 0] := by
        have q : l.getD (l.length - 1) 0 = l.getLast hne := by
          rw [List.getLast_eq_getElem, List.getD_eq_getElem?_getD, List.getElem?_eq_getElem (by omega)]; rfl
        rw [q]; exact (List.dropLast_concat_getLast hne).symm
      have p3 : (l.dropLast ++ [l.getD (l.length - 1) 0]).Perm (l.getD (l.length - 1) 0 :: l.dropLast) := List.perm_append_comm
      exact (List.Perm.of_eq e).trans p3
end Mine
end
section
namespace Mine
open Classical in
/-- how many classes are met anew -/
noncomputable def cc {α : Type} (r : α → α → Prop) : List α → List α → Nat
  | _, [] => 0
  | seen, x :: l => (if ∃ u ∈ seen, r u x then 0 else 1) + cc r (x :: seen) l
theorem cc_pos {α : Type} {r : α → α → Prop} {s l : List α} {x : α} (h : ∃ u ∈ s, r u x) : cc r s (x :: l) = cc r (x :: s) l := by
  rw [cc, if_pos h, Nat.zero_add]
theorem cc_neg {α : Type} {r : α → α → Prop} {s l : List α} {x : α} (h : ¬ ∃ u ∈ s, r u x) : cc r s (x :: l) = 1 + cc r (x :: s) l := by
  rw [cc, if_neg h]
theorem cc_seen {α : Type} {r : α → α → Prop} : ∀ (l s s' : List α), (∀ x, x ∈ l → ((∃ u ∈ s, r u x) ↔ (∃ u ∈ s', r u x))) → cc r s l = cc r s' l
  | [], _, _, _ => rfl
  | x :: l, s, s', h => by
    unfold cc
    have e1 := h x (.head _)
    rw [cc_seen l (x :: s) (x :: s') fun y hy => ?_]
    · congr 1
      by_cases q : ∃ u ∈ s, r u x
      · rw [if_pos q, if_pos (e1.mp q)]
      · rw [if_neg q, if_neg fun z => q (e1.mpr z)]
    · have := h y (.tail _ hy)
      simp only [List.mem_cons, exists_eq_or_imp]
      rw [this]
theorem cc_congr {α : Type} {r r' : α → α → Prop} : ∀ (l s : List α), (∀ x, x ∈ l → ∀ u, u ∈ s ∨ u ∈ l → (r u x ↔ r' u x)) → cc r s l = cc r' s l
  | [], _, _ => rfl
  | x :: l, s, h => by
    unfold cc
    rw [cc_congr l (x :: s) fun y hy u hu => h y (.tail _ hy) u (by simp only [List.mem_cons] at hu ⊢; rcases hu with (h | h) | h <;> simp [h])]
    congr 1
    have : (∃ u ∈ s, r u x) ↔ (∃ u ∈ s, r' u x) := by
      constructor
      · rintro ⟨u, hu, h1⟩; exact ⟨u, hu, (h x (.head _) u (.inl hu)).mp h1⟩
      · rintro ⟨u, hu, h1⟩; exact ⟨u, hu, (h x (.head _) u (.inl hu)).mpr h1⟩
    by_cases q : ∃ u ∈ s, r u x
    · rw [if_pos q, if_pos (this.mp q)]
    · rw [if_neg q, if_neg fun z => q (this.mpr z)]
theorem cc_perm {α : Type} {r : α → α → Prop} (sy : ∀ x y, r x y → r y x) (tr : ∀ x y z, r x y → r y z → r x z) {l l' : List α} (h : l.Perm l') : ∀ s, cc r s l = cc r s l' := by
  induction h with
  | nil => intro s; rfl
  | cons x _ ih => intro s; unfold cc; rw [ih]
  | swap x y l =>
    intro s
    have ey : ∀ a b, (∃ u ∈ a :: s, r u b) ↔ (r a b ∨ ∃ u ∈ s, r u b) := fun a b => by simp only [List.mem_cons, exists_eq_or_imp]
    have e := cc_seen (r := r) l (x :: y :: s) (y :: x :: s) fun z _ => by simp only [List.mem_cons, exists_eq_or_imp]; constructor <;> (rintro (h | h | h) <;> simp [h])
    by_cases qx : ∃ u ∈ s, r u x
    · by_cases qy : ∃ u ∈ s, r u y
      · rw [cc_pos qy, cc_pos ((ey _ _).mpr (.inr qx)), cc_pos qx, cc_pos ((ey _ _).mpr (.inr qy)), e]
      · rw [cc_neg qy, cc_pos ((ey _ _).mpr (.inr qx)), cc_pos qx, cc_neg ?_, e]
        intro h
        rcases (ey _ _).mp h with h | h
        · obtain ⟨u, hu, h1⟩ := qx; exact qy ⟨u, hu, tr _ _ _ h1 h⟩
        · exact qy h
    · by_cases qy : ∃ u ∈ s, r u y
      · rw [cc_pos qy, cc_neg ?_, cc_neg qx, cc_pos ((ey _ _).mpr (.inr qy)), e]
        intro h
        rcases (ey _ _).mp h with h | h
        · obtain ⟨u, hu, h1⟩ := qy; exact qx ⟨u, hu, tr _ _ _ h1 h⟩
        · exact qx h
      · rw [cc_neg qx, cc_neg qy]
        by_cases q : r x y
        · rw [cc_pos ((ey _ _).mpr (.inl (sy _ _ q))), cc_pos ((ey _ _).mpr (.inl q)), e]
        · rw [cc_neg ?_, cc_neg ?_, e]
          · intro h
            rcases (ey _ _).mp h with h | h
            · exact q h
            · exact qy h
          · intro h
            rcases (ey _ _).mp h with h | h
            · exact q (sy _ _ h)
            · exact qx h
  | trans _ _ ih1 ih2 => intro s; rw [ih1, ih2]
theorem cc_map {α β : Type} {r : β → β → Prop} (f : α → β) : ∀ (l s : List α), cc (fun x y => r (f x) (f y)) s l = cc r (s.map f) (l.map f)
  | [], _ => rfl
  | x :: l, s => by
    simp only [cc, List.map_cons]
    rw [cc_map f l (x :: s), List.map_cons]
    congr 1
    have : (∃ u ∈ s, r (f u) (f x)) ↔ (∃ u ∈ s.map f, r u (f x)) := by
      constructor
      · rintro ⟨u, hu, h⟩; exact ⟨f u, List.mem_map_of_mem hu, h⟩
      · rintro ⟨u, hu, h⟩; obtain ⟨a, ha, rfl⟩ := List.mem_map.mp hu; exact ⟨a, ha, h⟩
    by_cases q : ∃ u ∈ s, r (f u) (f x)
    · rw [if_pos q, if_pos (this.mp q)]
    · rw [if_neg q, if_neg fun z => q (this.mpr z)]
theorem cc_app {α : Type} {r : α → α → Prop} (v : α) : ∀ (l s : List α), cc r s (l ++ [v]) = cc r s l + (cc r (l ++ s) [v])
  | [], s => by simp [cc]
  | x :: l, s => by
    rw [List.cons_append]
    show _ + cc r (x :: s) (l ++ [v]) = _ + cc r (x :: s) l + _
    rw [cc_app v l (x :: s), Nat.add_assoc, cc_seen [v] (l ++ x :: s) (x :: l ++ s) fun z _ => by
      simp only [List.mem_append, List.mem_cons]
      constructor
      · rintro ⟨u, (h | h | h), h1⟩ <;> exact ⟨u, by simp [h], h1⟩
      · rintro ⟨u, ((h | h) | h), h1⟩ <;> exact ⟨u, by simp [h], h1⟩]
/-- two classes made one -/
theorem cc_merge {α : Type} [BEq α] [LawfulBEq α] {r r' : α → α → Prop} {l : List α} {a b : α} (rf : ∀ x, r x x) (sy : ∀ x y, r x y → r y x) (tr : ∀ x y z, r x y → r y z → r x z) (sy' : ∀ x y, r' x y → r' y x) (tr' : ∀ x y z, r' x y → r' y z → r' x z) (ha : a ∈ l) (hb : b ∈ l)
    (hab : ¬ r a b) (h : ∀ x y, r' x y ↔ (r x y ∨ (r x a ∧ r b y) ∨ (r x b ∧ r a y))) : cc r' [] l + 1 = cc r [] l := by
  have hne : a ≠ b := fun e => hab (e ▸ rf a)
  have p1 : l.Perm (a :: l.erase a) := List.perm_cons_erase ha
  have hb' : b ∈ l.erase a := (List.mem_erase_of_ne (Ne.symm hne)).mpr hb
  have p2 : l.Perm (a :: b :: (l.erase a).erase b) := p1.trans ((List.perm_cons_erase hb').cons a)
  rw [cc_perm sy tr p2, cc_perm sy' tr' p2]
  generalize (l.erase a).erase b = k
  rw [cc_neg (r := r') (s := []) (by simp), cc_neg (r := r) (s := []) (by simp), cc_pos ⟨a, by simp, (h a b).mpr (.inr (.inl ⟨rf a, rf b⟩))⟩, cc_neg (s := [a]) (by simpa using hab)]
  have : ∀ (k s : List α), a ∈ s → b ∈ s → cc r' s k = cc r s k := by
    intro k
    induction k with
    | nil => intro s _ _; rfl
    | cons x k ih =>
      intro s h1 h2
      unfold cc
      rw [ih _ (.tail _ h1) (.tail _ h2)]
      congr 1
      have : (∃ u ∈ s, r' u x) ↔ (∃ u ∈ s, r u x) := by
        constructor
        · rintro ⟨u, hu, h3⟩
          rcases (h u x).mp h3 with h4 | h4 | h4
          · exact ⟨u, hu, h4⟩
          · exact ⟨b, h2, h4.2⟩
          · exact ⟨a, h1, h4.2⟩
        · rintro ⟨u, hu, h3⟩; exact ⟨u, hu, (h u x).mpr (.inl h3)⟩
      by_cases q : ∃ u ∈ s, r' u x
      · rw [if_pos q, if_pos (this.mp q)]
      · rw [if_neg q, if_neg fun z => q (this.mpr z)]
  rw [this k [b, a] (by simp) (by simp)]
  omega
/-- joined by edges -/
inductive Con {α : Type} (e : α → α → Prop) : α → α → Prop
  | refl (x : α) : Con e x x
  | edge {x y : α} : e x y → Con e x y
  | symm {x y : α} : Con e x y → Con e y x
  | trans {x y z : α} : Con e x y → Con e y z → Con e x z
theorem Con.mono {α : Type} {e e' : α → α → Prop} (h : ∀ x y, e x y → Con e' x y) {x y : α} (c : Con e x y) : Con e' x y := by
  induction c with
  | refl x => exact .refl x
  | edge q => exact h _ _ q
  | symm _ ih => exact .symm ih
  | trans _ _ ih1 ih2 => exact .trans ih1 ih2
theorem Con.add {α : Type} {e e' : α → α → Prop} {a b : α} (h : ∀ x y, e' x y ↔ (e x y ∨ (x = a ∧ y = b))) {x y : α} :
    Con e' x y ↔ (Con e x y ∨ (Con e x a ∧ Con e b y) ∨ (Con e x b ∧ Con e a y)) := by
  constructor
  · intro c
    induction c with
    | refl x => exact .inl (.refl x)
    | edge q =>
      rcases (h _ _).mp q with q | ⟨rfl, rfl⟩
      · exact .inl (.edge q)
      · exact .inr (.inl ⟨.refl _, .refl _⟩)
    | symm _ ih =>
      rcases ih with h | ⟨h1, h2⟩ | ⟨h1, h2⟩
      · exact .inl h.symm
      · exact .inr (.inr ⟨h2.symm, h1.symm⟩)
      · exact .inr (.inl ⟨h2.symm, h1.symm⟩)
    | trans _ _ ih1 ih2 =>
      rcases ih1 with h | ⟨h1, h2⟩ | ⟨h1, h2⟩ <;> rcases ih2 with g | ⟨g1, g2⟩ | ⟨g1, g2⟩
      · exact .inl (.trans h g)
      · exact .inr (.inl ⟨.trans h g1, g2⟩)
      · exact .inr (.inr ⟨.trans h g1, g2⟩)
      · exact .inr (.inl ⟨h1, .trans h2 g⟩)
      · exact .inr (.inl ⟨h1, g2⟩)
      · exact .inl (.trans h1 g2)
      · exact .inr (.inr ⟨h1, .trans h2 g⟩)
      · exact .inl (.trans h1 g2)
      · exact .inr (.inr ⟨h1, g2⟩)
  · have up : ∀ {x y}, Con e x y → Con e' x y := fun c => Con.mono (fun x y q => .edge ((h x y).mpr (.inl q))) c
    have ab : Con e' a b := .edge ((h a b).mpr (.inr ⟨rfl, rfl⟩))
    rintro (q | ⟨q1, q2⟩ | ⟨q1, q2⟩)
    · exact up q
    · exact .trans (up q1) (.trans ab (up q2))
    · exact .trans (up q1) (.trans ab.symm (up q2))
/-- two rising lists with the same counts -/
theorem rise_eq : ∀ (l l' : List Int), l.Pairwise (· ≤ ·) → l'.Pairwise (· ≤ ·) → (∀ t : Int, l.countP (fun x => decide (x ≤ t)) = l'.countP (fun x => decide (x ≤ t))) → l = l'
  | [], [], _, _, _ => rfl
  | [], b :: l', _, _, h => by have := h b; simp at this
  | a :: l, [], _, _, h => by have := h a; simp at this
  | a :: l, b :: l', h1, h2, h => by
    have g1 := List.pairwise_cons.mp h1
    have g2 := List.pairwise_cons.mp h2
    have e : a = b := by
      rcases Int.lt_trichotomy a b with q | q | q
      · have := h a
        rw [List.countP_cons_of_pos (by simp), (List.countP_eq_zero (l := b :: l')).mpr] at this
        · omega
        · intro x hx
          rcases List.mem_cons.mp hx with rfl | hx
          · simp; omega
          · have := g2.1 x hx; simp; omega
      · exact q
      · have := h b
        rw [List.countP_cons_of_pos (l := l') (by simp), (List.countP_eq_zero (l := a :: l)).mpr] at this
        · omega
        · intro x hx
          rcases List.mem_cons.mp hx with rfl | hx
          · simp; omega
          · have := g1.1 x hx; simp; omega
    subst e
    rw [rise_eq l l' g1.2 g2.2 fun t => by have := h t; simpa [List.countP_cons] using this]
end Mine
end
section
namespace Mine
local macro_rules | `(tactic| omega) => `(tactic| first | lia | omega +splitNatSub)
local macro_rules | `(tactic| walk_at "pad2") => `(tactic| fail)
theorem absI_is (x : Int) : (0 ≤ x ∧ absI x = x) ∨ (x < 0 ∧ absI x = -x) := by
  unfold absI; split <;> omega
theorem absI_neg (x : Int) : absI (-x) = absI x := by
  unfold absI; split <;> split <;> omega
theorem absI_le {x e : Int} : absI x ≤ e ↔ (x ≤ e ∧ -x ≤ e) := by
  unfold absI; split <;> omega
theorem absI_pos {x : Int} (h : 0 ≤ x) : absI x = x := by
  unfold absI; split <;> omega
theorem absI_npos {x : Int} (h : x ≤ 0) : absI x = -x := by
  unfold absI; split <;> omega
theorem max3 {a b c m : Int} (h1 : a ≤ m) (h2 : b ≤ m) (h3 : c ≤ m) (h : m = a ∨ m = b ∨ m = c) : max (max a b) c = m := by omega
theorem twice_le {x e : Int} : 2 * x ≤ 2 * e ↔ x ≤ e := by omega
theorem due_symm (p q : Int × Int) : dueF p q = dueF q p := by
  have h : ∀ a b : Int, absI (a - b) = absI (b - a) := fun a b => by rw [← absI_neg (b - a), Int.neg_sub]
  unfold dueF
  rw [h q.1 p.1, h q.2 p.2, ← absI_neg (q.1 - p.1 + (q.2 - p.2)), Int.neg_add, Int.neg_sub, Int.neg_sub]
theorem due_nonneg (p q : Int × Int) : 0 ≤ dueF p q := by
  unfold dueF
  rcases absI_is (q.1 - p.1) with ⟨a1, a2⟩ | ⟨a1, a2⟩ <;> omega
/-- which cone -/
def kindF (p q : Int × Int) : Int :=
  (if q.1 - p.1 > 0 ∧ q.1 - p.1 + (q.2 - p.2) ≥ 0 then 1 else 0) + (if q.2 - p.2 ≥ 0 ∧ q.1 - p.1 + (q.2 - p.2) > 0 then 2 else 0)
theorem half {p q : Int × Int} (h : p ≠ q) : 1 ≤ kindF p q ∨ 1 ≤ kindF q p := by
  have h' : p.1 ≠ q.1 ∨ p.2 ≠ q.2 := by
    rcases Classical.em (p.1 = q.1) with e | e
    · right; intro e2; exact h (Prod.ext e e2)
    · exact .inl e
  unfold kindF
  split <;> split <;> split <;> split <;> omega
theorem due_le {p q : Int × Int} {e : Int} : dueF p q ≤ 2 * e ↔ (q.1 - p.1 ≤ e ∧ p.1 - q.1 ≤ e ∧ q.2 - p.2 ≤ e ∧ p.2 - q.2 ≤ e ∧ q.1 - p.1 + (q.2 - p.2) ≤ e ∧ p.1 - q.1 + (p.2 - q.2) ≤ e) := by
  unfold dueF
  rw [twice_le, Int.max_le, Int.max_le, absI_le, absI_le, absI_le, Int.neg_add, Int.neg_sub, Int.neg_sub]
  exact ⟨fun ⟨⟨⟨a, b⟩, c, d⟩, x, y⟩ => ⟨a, b, c, d, x, y⟩, fun ⟨a, b, c, d, x, y⟩ => ⟨⟨⟨a, b⟩, c, d⟩, x, y⟩⟩
theorem due_kind1 {p q : Int × Int} (h : kindF p q = 1) : dueF p q = 2 * (q.1 - p.1) ∧ q.1 - p.1 > 0 ∧ q.1 - p.1 + (q.2 - p.2) ≥ 0 ∧ q.2 - p.2 < 0 := by
  unfold kindF at h
  have h2 : q.1 - p.1 > 0 ∧ q.1 - p.1 + (q.2 - p.2) ≥ 0 ∧ q.2 - p.2 < 0 := by
    split at h <;> split at h <;> omega
  refine ⟨?_, h2⟩
  unfold dueF
  obtain ⟨u1, u2, u3⟩ := h2
  rw [absI_pos (Int.le_of_lt u1), absI_npos (Int.le_of_lt u3), absI_pos u2, max3 (m := q.1 - p.1) (by omega) (by omega) (by omega) (.inl rfl)]
theorem due_kind2 {p q : Int × Int} (h : kindF p q = 2) : dueF p q = 2 * (q.2 - p.2) ∧ q.1 - p.1 ≤ 0 ∧ q.1 - p.1 + (q.2 - p.2) > 0 := by
  unfold kindF at h
  have h2 : q.1 - p.1 ≤ 0 ∧ q.1 - p.1 + (q.2 - p.2) > 0 := by
    split at h <;> split at h <;> omega
  refine ⟨?_, h2⟩
  unfold dueF
  obtain ⟨u1, u2⟩ := h2
  rw [absI_npos u1, absI_pos (x := q.2 - p.2) (by omega), absI_pos (Int.le_of_lt u2), max3 (m := q.2 - p.2) (by omega) (by omega) (by omega) (.inr (.inl rfl))]
theorem due_kind3 {p q : Int × Int} (h : kindF p q = 3) : dueF p q = 2 * (q.1 - p.1 + (q.2 - p.2)) ∧ q.1 - p.1 > 0 ∧ q.2 - p.2 ≥ 0 := by
  unfold kindF at h
  have h2 : q.1 - p.1 > 0 ∧ q.2 - p.2 ≥ 0 := by
    split at h <;> split at h <;> omega
  refine ⟨?_, h2⟩
  unfold dueF
  obtain ⟨u1, u2⟩ := h2
  rw [absI_pos (Int.le_of_lt u1), absI_pos (x := q.2 - p.2) u2, absI_pos (by omega), max3 (m := q.1 - p.1 + (q.2 - p.2)) (by omega) (by omega) (by omega) (.inr (.inr rfl))]
theorem kind_le (p q : Int × Int) : 0 ≤ kindF p q ∧ kindF p q ≤ 3 := by
  unfold kindF; split <;> split <;> omega
/-- the nearest in a cone is nearer to the others there -/
theorem yao {p q r : Int × Int} (h1 : 1 ≤ kindF p q) (h2 : kindF p q = kindF p r) (h3 : dueF p q ≤ dueF p r) : dueF q r < dueF p r := by
  have hk := kind_le p q
  rcases (show kindF p q = 1 ∨ kindF p q = 2 ∨ kindF p q = 3 by omega) with k | k | k
  · have a := due_kind1 k
    have b := due_kind1 (h2 ▸ k)
    have := (due_le (p := q) (q := r) (e := r.1 - p.1 - 1)).mpr (by omega)
    omega
  · have a := due_kind2 k
    have b := due_kind2 (h2 ▸ k)
    have := (due_le (p := q) (q := r) (e := r.2 - p.2 - 1)).mpr (by omega)
    omega
  · have a := due_kind3 k
    have b := due_kind3 (h2 ▸ k)
    have := (due_le (p := q) (q := r) (e := r.1 - p.1 + (r.2 - p.2) - 1)).mpr (by omega)
    omega
abbrev pt (ps : List (Int × Int)) (i : Nat) : Int × Int := ps.getD i (0, 0)
abbrev dd (ps : List (Int × Int)) (i j : Nat) : Int := dueF (pt ps i) (pt ps j)
abbrev code (ps : List (Int × Int)) (i j : Nat) : Int := dd ps i j * 100 + (i : Int) * 10 + j
/-- the ties that the program makes -/
def TiesOk (ps : List (Int × Int)) (T : List Int) : Prop :=
  (∀ k ∈ T, ∃ i j : Nat, i < ps.length ∧ j < ps.length ∧ k = code ps i j) ∧
  (∀ i j, i < ps.length → j < ps.length → 1 ≤ kindF (pt ps i) (pt ps j) → ∃ j', j' < ps.length ∧ kindF (pt ps i) (pt ps j') = kindF (pt ps i) (pt ps j) ∧ dd ps i j' ≤ dd ps i j ∧ code ps i j' ∈ T)
def EdA (ps : List (Int × Int)) (ds : List Int) (i j : Nat) : Prop := i < ps.length ∧ j < ps.length ∧ code ps i j ∈ ds
def EdT (ps : List (Int × Int)) (ds : List Int) (t : Int) (i j : Nat) : Prop := EdA ps ds i j ∧ dd ps i j ≤ t
def Gr (ps : List (Int × Int)) (t : Int) (p q : Int × Int) : Prop := p ∈ ps ∧ q ∈ ps ∧ dueF p q ≤ t
theorem pt_mem {ps : List (Int × Int)} {i : Nat} (h : i < ps.length) : pt ps i ∈ ps := by
  rw [pt, List.getD_eq_getElem?_getD, List.getElem?_eq_getElem h]; exact List.getElem_mem h
theorem pt_inj {ps : List (Int × Int)} (hn : ps.Nodup) {i j : Nat} (hi : i < ps.length) (hj : j < ps.length) (h : pt ps i = pt ps j) : i = j := by
  refine (List.getElem?_inj hi hn).mp ?_
  rw [List.getElem?_eq_getElem hi, List.getElem?_eq_getElem hj]
  rw [pt, pt, List.getD_eq_getElem?_getD, List.getD_eq_getElem?_getD, List.getElem?_eq_getElem hi, List.getElem?_eq_getElem hj] at h
  exact congrArg some h
theorem yao_con {ps : List (Int × Int)} {T : List Int} (hn : ps.Nodup) (hT : TiesOk ps T) (t : Int) : ∀ (m : Nat) (i j : Nat), (dd ps i j).toNat = m → i < ps.length → j < ps.length → dd ps i j ≤ t → Con (EdT ps T t) i j := by
  intro m
  induction m using Nat.strongRecOn with
  | ind m ih =>
    intro i j hm hi hj hd
    by_cases e : i = j
    · subst e; exact .refl _
    have hp : pt ps i ≠ pt ps j := fun h => e (pt_inj hn hi hj h)
    have go : ∀ i j, (dd ps i j).toNat = m → i < ps.length → j < ps.length → dd ps i j ≤ t → 1 ≤ kindF (pt ps i) (pt ps j) → Con (EdT ps T t) i j := by
      intro i j hm hi hj hd hk
      obtain ⟨j', hj', hk', hd', hc⟩ := hT.2 i j hi hj hk
      have e1 : Con (EdT ps T t) i j' := .edge ⟨⟨hi, hj', hc⟩, by omega⟩
      have h9 : dd ps j' j < dd ps i j := yao (by omega) hk' hd'
      have h8 : 0 ≤ dd ps j' j := due_nonneg (pt ps j') (pt ps j)
      exact .trans e1 (ih (dd ps j' j).toNat (by omega) j' j rfl hj' hj (by omega))
    rcases half hp with hk | hk
    · exact go i j hm hi hj hd hk
    · have es : dd ps j i = dd ps i j := due_symm _ _
      exact (go j i (by rw [es]; exact hm) hj hi (by rw [es]; exact hd) hk).symm
theorem con_iff {ps : List (Int × Int)} {T ds : List Int} (hn : ps.Nodup) (hT : TiesOk ps T) (hp : ∀ k, k ∈ ds ↔ k ∈ T) (t : Int) {i j : Nat} (hi : i < ps.length) (hj : j < ps.length) : Con (EdT ps ds t) i j ↔ Con (Gr ps t) (pt ps i) (pt ps j) := by
  have up : ∀ {i j}, Con (EdT ps T t) i j → Con (EdT ps ds t) i j := fun c => Con.mono (fun x y q => .edge ⟨⟨q.1.1, q.1.2.1, (hp _).mpr q.1.2.2⟩, q.2⟩) c
  constructor
  · intro c
    have : ∀ {i j}, Con (EdT ps ds t) i j → Con (Gr ps t) (pt ps i) (pt ps j) := by
      intro i j c
      induction c with
      | refl x => exact .refl _
      | edge q => exact .edge ⟨pt_mem q.1.1, pt_mem q.1.2.1, q.2⟩
      | symm _ ih => exact .symm ih
      | trans _ _ ih1 ih2 => exact .trans ih1 ih2
    exact this c
  · intro c
    have : ∀ {p q}, Con (Gr ps t) p q → p = q ∨ ∃ i j, i < ps.length ∧ j < ps.length ∧ pt ps i = p ∧ pt ps j = q ∧ Con (EdT ps ds t) i j := by
      intro p q c
      induction c with
      | refl x => exact .inl rfl
      | edge q =>
        obtain ⟨h1, h2, h3⟩ := q
        obtain ⟨i, hi, rfl⟩ := List.getElem_of_mem h1
        obtain ⟨j, hj, rfl⟩ := List.getElem_of_mem h2
        have a1 : pt ps i = ps[i] := by rw [pt, List.getD_eq_getElem?_getD, List.getElem?_eq_getElem hi]; rfl
        have a2 : pt ps j = ps[j] := by rw [pt, List.getD_eq_getElem?_getD, List.getElem?_eq_getElem hj]; rfl
        refine .inr ⟨i, j, hi, hj, a1, a2, up (yao_con hn hT t _ i j rfl hi hj ?_)⟩
        rw [dd, a1, a2]; exact h3
      | symm _ ih =>
        rcases ih with rfl | ⟨i, j, h1, h2, h3, h4, h5⟩
        · exact .inl rfl
        · exact .inr ⟨j, i, h2, h1, h4, h3, h5.symm⟩
      | trans _ _ ih1 ih2 =>
        rcases ih1 with rfl | ⟨i, j, h1, h2, h3, h4, h5⟩
        · exact ih2
        · rcases ih2 with rfl | ⟨i', j', g1, g2, g3, g4, g5⟩
          · exact .inr ⟨i, j, h1, h2, h3, h4, h5⟩
          · have : j = i' := pt_inj hn h2 g1 (h4.trans g3.symm)
            subst this
            exact .inr ⟨i, j', h1, g2, h3, g4, .trans h5 g5⟩
    rcases this c with h | ⟨i', j', h1, h2, h3, h4, h5⟩
    · rw [pt_inj hn hi hj h]; exact .refl _
    · rw [pt_inj hn h1 hi h3, pt_inj hn h2 hj h4] at h5; exact h5
theorem map_pt (ps : List (Int × Int)) : (List.range ps.length).map (pt ps) = ps := by
  apply List.ext_getElem?
  intro i
  rw [List.getElem?_map]
  by_cases h : i < ps.length
  · rw [List.getElem?_range h, List.getElem?_eq_getElem h]
    show some (pt ps i) = _
    rw [pt, List.getD_eq_getElem?_getD, List.getElem?_eq_getElem h]; rfl
  · rw [List.getElem?_eq_none (by simpa using h), List.getElem?_eq_none (by simpa using h)]; rfl
theorem cc_both {ps : List (Int × Int)} {T ds : List Int} (hn : ps.Nodup) (hT : TiesOk ps T) (hp : ∀ k, k ∈ ds ↔ k ∈ T) (t : Int) : cc (Con (EdT ps ds t)) [] (List.range ps.length) = cc (Con (Gr ps t)) [] ps := by
  have h1 := cc_map (r := Con (Gr ps t)) (pt ps) (List.range ps.length) []
  rw [map_pt] at h1
  rw [List.map_nil] at h1
  rw [← h1]
  refine cc_congr _ _ fun x hx u hu => ?_
  have hu' : u ∈ List.range ps.length := by simpa using hu
  exact con_iff hn hT hp t (List.mem_range.mp hu') (List.mem_range.mp hx)
/-- the net's state -/
def KInv (ps : List (Int × Int)) (T homes taken ks : List Int) : Prop :=
  ∃ ds, (ds ++ ks).Perm T ∧ IsHeap ks ∧ (∀ a ∈ ds, ∀ b ∈ ks, a ≤ b) ∧ homes.length = ps.length ∧ (∀ i j, i < ps.length → j < ps.length → (homes.getD i 0 = homes.getD j 0 ↔ Con (EdA ps ds) i j)) ∧
    taken.Pairwise (· ≤ ·) ∧ (∀ f ∈ taken, ∀ b ∈ ks, f * 100 ≤ b) ∧ (∀ t : Int, taken.countP (fun x => decide (x ≤ t)) + cc (Con (EdT ps ds t)) [] (List.range ps.length) = ps.length)
theorem cc_eq_len {α : Type} {r : α → α → Prop} : ∀ (l s : List α), (∀ x y, r x y → x = y) → l.Nodup → (∀ x ∈ l, x ∉ s) → cc r s l = l.length
  | [], _, _, _, _ => rfl
  | x :: l, s, h, hn, hs => by
    have hn' := List.nodup_cons.mp hn
    rw [cc_neg (by rintro ⟨u, hu, h1⟩; exact hs x (.head _) (h u x h1 ▸ hu)), cc_eq_len l (x :: s) h hn'.2 fun y hy hm => ?_]
    · simp; omega
    · rcases List.mem_cons.mp hm with rfl | hm
      · exact hn'.1 hy
      · exact hs y (.tail _ hy) hm
theorem con_none {α : Type} {e : α → α → Prop} (h : ∀ x y, ¬ e x y) {x y : α} (c : Con e x y) : x = y := by
  induction c with
  | refl x => rfl
  | edge q => exact absurd q (h _ _)
  | symm _ ih => exact ih.symm
  | trans _ _ ih1 ih2 => exact ih1.trans ih2
theorem KInv.init {ps : List (Int × Int)} {T homes : List Int} (hh : IsHeap T) (hl : homes.length = ps.length) (hi : ∀ i, i < ps.length → homes.getD i 0 = i) : KInv ps T homes [] T := by
  refine ⟨[], List.Perm.refl _, hh, by simp, hl, fun i j h1 h2 => ?_, List.Pairwise.nil, by simp, fun t => ?_⟩
  · rw [hi i h1, hi j h2]
    constructor
    · intro h; rw [show i = j by omega]; exact .refl _
    · intro h; rw [con_none (fun x y q => by simp [EdA] at q) h]
  · rw [cc_eq_len _ _ (fun x y c => con_none (fun x y q => by simp [EdT, EdA] at q) c) List.nodup_range (by simp)]
    simp
theorem code_inj {ps : List (Int × Int)} {i j i' j' : Nat} (hi : i < 10) (hj : j < 10) (hi' : i' < 10) (hj' : j' < 10) (h : code ps i j = code ps i' j') : i = i' ∧ j = j' := by
  unfold code at h
  omega
theorem KInv.step {ps : List (Int × Int)} {T homes taken ks : List Int} (hn : ps.length ≤ 9) (hT : TiesOk ps T) (h : KInv ps T homes taken ks) (h0 : 0 < ks.length) {f : Int} {i j : Nat} (hi : i < 10) (hj : j < 10) (hk : ks.getD 0 0 = f * 100 + (i : Int) * 10 + j) :
    i < ps.length ∧ j < ps.length ∧ homes.length = ps.length ∧
    (homes.getD i 0 = homes.getD j 0 → KInv ps T homes taken (hpopL ks)) ∧
    (homes.getD i 0 ≠ homes.getD j 0 → KInv ps T (homes.map fun x => if x = homes.getD j 0 then homes.getD i 0 else x) (taken ++ [f]) (hpopL ks)) := by
  obtain ⟨ds, p1, p2, p3, p4, p5, p6, p7, p8⟩ := h
  have hpop := pop_heap h0 p2
  have hmem : ks.getD 0 0 ∈ ks := by
    rw [List.getD_eq_getElem?_getD, List.getElem?_eq_getElem h0]; exact List.getElem_mem h0
  have hmT : ks.getD 0 0 ∈ T := p1.subset (List.mem_append_right _ hmem)
  obtain ⟨i', j', hi', hj', hc⟩ := hT.1 _ hmT
  have hf : i = i' ∧ j = j' ∧ f = dd ps i' j' := by unfold code at hc; omega
  obtain ⟨rfl, rfl, hf⟩ := hf
  have hmin : ∀ b ∈ ks, ks.getD 0 0 ≤ b := by
    intro b hb
    obtain ⟨q, hq, rfl⟩ := List.getElem_of_mem hb
    have := p2.head q hq
    rwa [List.getD_eq_getElem?_getD (i := q), List.getElem?_eq_getElem hq] at this
  have sub : ∀ b ∈ hpopL ks, b ∈ ks := fun b hb => hpop.2.symm.subset (.tail _ hb)
  have q1 : ((ds ++ [ks.getD 0 0]) ++ hpopL ks).Perm T := by
    refine List.Perm.trans ?_ p1
    rw [List.append_assoc]
    exact List.Perm.append_left ds hpop.2.symm
  have q3 : ∀ a ∈ ds ++ [ks.getD 0 0], ∀ b ∈ hpopL ks, a ≤ b := by
    intro a ha b hb
    rcases List.mem_append.mp ha with ha | ha
    · exact p3 a ha b (sub b hb)
    · rw [List.mem_singleton.mp ha]; exact hmin b (sub b hb)
  have hA : ∀ x y, EdA ps (ds ++ [ks.getD 0 0]) x y ↔ (EdA ps ds x y ∨ (x = i ∧ y = j)) := by
    intro x y
    constructor
    · rintro ⟨a, b, c⟩
      rcases List.mem_append.mp c with c | c
      · exact .inl ⟨a, b, c⟩
      · rw [hc] at c
        exact .inr (code_inj (by omega) (by omega) (by omega) (by omega) (List.mem_singleton.mp c))
    · rintro (⟨a, b, c⟩ | ⟨rfl, rfl⟩)
      · exact ⟨a, b, List.mem_append_left _ c⟩
      · exact ⟨hi', hj', List.mem_append_right _ (by rw [hc]; exact List.mem_singleton.mpr rfl)⟩
  have hlow : ∀ x y, EdA ps ds x y → dd ps x y ≤ f := by
    rintro x y ⟨a, b, c⟩
    have := p3 _ c _ hmem
    unfold code at this
    omega
  have hT1 : ∀ t, t < f → ∀ x y, EdT ps (ds ++ [ks.getD 0 0]) t x y ↔ EdT ps ds t x y := by
    intro t ht x y
    constructor
    · rintro ⟨a, b⟩
      rcases (hA x y).mp a with a | ⟨rfl, rfl⟩
      · exact ⟨a, b⟩
      · omega
    · rintro ⟨a, b⟩; exact ⟨(hA x y).mpr (.inl a), b⟩
  have hT2 : ∀ t, f ≤ t → ∀ x y, EdT ps (ds ++ [ks.getD 0 0]) t x y ↔ (EdT ps ds t x y ∨ (x = i ∧ y = j)) := by
    intro t ht x y
    constructor
    · rintro ⟨a, b⟩
      rcases (hA x y).mp a with a | a
      · exact .inl ⟨a, b⟩
      · exact .inr a
    · rintro (⟨a, b⟩ | ⟨rfl, rfl⟩)
      · exact ⟨(hA x y).mpr (.inl a), b⟩
      · exact ⟨(hA _ _).mpr (.inr ⟨rfl, rfl⟩), by omega⟩
  have hT3 : ∀ t, f ≤ t → ∀ x y, EdT ps ds t x y ↔ EdA ps ds x y := by
    intro t ht x y
    exact ⟨fun h => h.1, fun h => ⟨h, by have := hlow x y h; omega⟩⟩
  have con_same : ∀ {e e' : Nat → Nat → Prop}, (∀ x y, e x y ↔ e' x y) → ∀ x y, Con e x y ↔ Con e' x y := by
    intro e e' h x y
    exact ⟨Con.mono fun x y q => .edge ((h x y).mp q), Con.mono fun x y q => .edge ((h x y).mpr q)⟩
  refine ⟨hi', hj', p4, fun he => ?_, fun he => ?_⟩
  · have hij : Con (EdA ps ds) i j := (p5 i j hi' hj').mp he
    have same : ∀ {e e' : Nat → Nat → Prop}, (∀ x y, e' x y ↔ (e x y ∨ (x = i ∧ y = j))) → Con e i j → ∀ x y, Con e' x y ↔ Con e x y := by
      intro e e' h hc x y
      constructor
      · refine Con.mono fun x y q => ?_
        rcases (h x y).mp q with q | ⟨rfl, rfl⟩
        · exact .edge q
        · exact hc
      · exact Con.mono fun x y q => .edge ((h x y).mpr (.inl q))
    refine ⟨ds ++ [ks.getD 0 0], q1, hpop.1, q3, p4, fun x y hx hy => ?_, p6, fun g hg b hb => p7 g hg b (sub b hb), fun t => ?_⟩
    · rw [same hA hij]; exact p5 x y hx hy
    · refine Eq.trans ?_ (p8 t)
      congr 1
      refine cc_congr _ _ fun x _ u _ => ?_
      by_cases ht : f ≤ t
      · exact same (hT2 t ht) ((con_same (hT3 t ht) _ _).mpr hij) u x
      · exact con_same (hT1 t (by omega)) u x
  · have hij : ¬ Con (EdA ps ds) i j := fun h => he ((p5 i j hi' hj').mpr h)
    refine ⟨ds ++ [ks.getD 0 0], q1, hpop.1, q3, by rw [List.length_map]; exact p4, fun x y hx hy => ?_, ?_, ?_, fun t => ?_⟩
    · rw [Con.add hA, ← p5 x y hx hy, ← p5 x i hx hi', ← p5 j y hj' hy, ← p5 x j hx hj', ← p5 i y hi' hy]
      have em : ∀ x, x < ps.length → (homes.map fun x => if x = homes.getD j 0 then homes.getD i 0 else x).getD x 0 = if homes.getD x 0 = homes.getD j 0 then homes.getD i 0 else homes.getD x 0 := by
        intro x hx
        have hx' : x < homes.length := by omega
        simp [List.getD_eq_getElem?_getD, List.getElem?_map, List.getElem?_eq_getElem hx']
      rw [em x hx, em y hy]
      generalize homes.getD x 0 = a at *
      generalize homes.getD y 0 = b at *
      generalize homes.getD i 0 = c at *
      generalize homes.getD j 0 = d at *
      split <;> split <;> omega
    · rw [List.pairwise_append]
      refine ⟨p6, by simp, fun a ha b hb => ?_⟩
      rw [List.mem_singleton.mp hb]
      have := p7 a ha _ hmem
      omega
    · intro g hg b hb
      rcases List.mem_append.mp hg with hg | hg
      · exact p7 g hg b (sub b hb)
      · rw [List.mem_singleton.mp hg]
        have := hmin b (sub b hb)
        omega
    · rw [List.countP_append]
      have h9 := p8 t
      by_cases ht : f ≤ t
      · have hij' : ¬ Con (EdT ps ds t) i j := fun h => hij ((con_same (hT3 t ht) _ _).mp h)
        have hm := cc_merge (r := Con (EdT ps ds t)) (r' := Con (EdT ps (ds ++ [ks.getD 0 0]) t)) (l := List.range ps.length) (a := i) (b := j) (fun x => .refl x) (fun x y h => .symm h) (fun x y z h1 h2 => .trans h1 h2) (fun x y h => .symm h) (fun x y z h1 h2 => .trans h1 h2)
          (List.mem_range.mpr hi') (List.mem_range.mpr hj') hij' (fun x y => Con.add (hT2 t ht))
        have : List.countP (fun x => decide (x ≤ t)) [f] = 1 := by simp [ht]
        omega
      · have : List.countP (fun x => decide (x ≤ t)) [f] = 0 := by simp; omega
        rw [this, cc_congr (r := Con (EdT ps (ds ++ [ks.getD 0 0]) t)) (r' := Con (EdT ps ds t)) _ _ fun x _ u _ => con_same (hT1 t (by omega)) u x]
        omega
theorem KInv.fin {ps : List (Int × Int)} {T homes taken ks : List Int} (hn : ps.Nodup) (hT : TiesOk ps T) (h : KInv ps T homes taken ks) (h0 : ks = []) : taken.Pairwise (· ≤ ·) ∧ ∀ t : Int, taken.countP (fun x => decide (x ≤ t)) + cc (Con (Gr ps t)) [] ps = ps.length := by
  obtain ⟨ds, p1, _, _, _, _, p6, _, p8⟩ := h
  subst h0
  rw [List.append_nil] at p1
  refine ⟨p6, fun t => ?_⟩
  rw [← cc_both hn hT (fun k => p1.mem_iff) t]; exact p8 t
/-- the growing tree's state -/
def PInv (ps ins outs : List (Int × Int)) (steps : List Int) : Prop :=
  (ins ++ outs).Perm ps ∧ ∀ t : Int, steps.countP (fun x => decide (x ≤ t)) + cc (Con (Gr ps t)) [] ins = ins.length
theorem PInv.init {ps : List (Int × Int)} {p : Int × Int} {r : List (Int × Int)} (h : ps = p :: r) : PInv ps [p] r [] := by
  subst h
  refine ⟨List.Perm.refl _, fun t => ?_⟩
  rw [cc_neg (by simp)]; rfl
theorem PInv.step {ps ins outs outs' : List (Int × Int)} {steps : List Int} (hn : ps.Nodup) (h : PInv ps ins outs steps) {v o : Int × Int} (ho : o ∈ ins) (hv : outs.Perm (v :: outs')) (hmin : ∀ a ∈ ins, ∀ b ∈ outs, dueF o v ≤ dueF a b) : PInv ps (ins ++ [v]) outs' (steps ++ [dueF o v]) := by
  obtain ⟨h1, h2⟩ := h
  have hnd : (ins ++ outs).Nodup := h1.nodup_iff.mpr hn
  have hvo : v ∈ outs := hv.symm.subset (.head _)
  have hvi : v ∉ ins := fun hm => (List.nodup_append.mp hnd).2.2 v hm v hvo rfl
  refine ⟨?_, fun t => ?_⟩
  · refine List.Perm.trans ?_ h1
    rw [List.append_assoc]
    exact List.Perm.append_left ins hv.symm
  · rw [cc_app, List.countP_append, List.length_append, List.append_nil]
    have h9 := h2 t
    have hop : o ∈ ps := h1.subset (List.mem_append_left _ ho)
    have hvp : v ∈ ps := h1.subset (List.mem_append_right _ hvo)
    by_cases ht : dueF o v ≤ t
    · rw [cc_pos ⟨o, ho, .edge ⟨hop, hvp, ht⟩⟩]
      have : List.countP (fun x => decide (x ≤ t)) [dueF o v] = 1 := by simp [ht]
      simp only [cc, List.length_cons, List.length_nil]
      omega
    · have key : ∀ {x y}, Con (Gr ps t) x y → (x ∈ ins ↔ y ∈ ins) := by
        intro x y c
        induction c with
        | refl x => exact Iff.rfl
        | edge q =>
          rename_i x y
          obtain ⟨a, b, c⟩ := q
          have g : ∀ x y, x ∈ ps → y ∈ ps → dueF x y ≤ t → x ∈ ins → y ∈ ins := by
            intro x y a b c hx
            rcases List.mem_append.mp (h1.symm.subset b) with hy | hy
            · exact hy
            · have := hmin x hx y hy
              omega
          exact ⟨g x y a b c, g y x b a (by rw [due_symm]; exact c)⟩
        | symm _ ih => exact ih.symm
        | trans _ _ ih1 ih2 => exact ih1.trans ih2
      rw [cc_neg (by rintro ⟨u, hu, hc⟩; exact hvi ((key hc).mp hu))]
      have : List.countP (fun x => decide (x ≤ t)) [dueF o v] = 0 := by simp; omega
      simp only [cc, List.length_cons, List.length_nil]
      omega
theorem law_plain {ps ins : List (Int × Int)} {T homes taken steps st : List Int} (hn : ps.Nodup) (hT : TiesOk ps T) (hK : KInv ps T homes taken []) (hP : PInv ps ins [] steps) (hp : st.Perm steps) (hs : st.Pairwise (· ≤ ·)) : taken = st := by
  have hk := hK.fin hn hT rfl
  obtain ⟨h1, h2⟩ := hP
  rw [List.append_nil] at h1
  refine rise_eq _ _ hk.1 hs fun t => ?_
  have e := hk.2 t
  have e2 := h2 t
  rw [cc_perm (fun x y h => .symm h) (fun x y z h1 h2 => .trans h1 h2) h1, h1.length_eq] at e2
  rw [hp.countP_eq]
  omega
end Mine
end
section
open PySem PySem.W PyProof.Rows PySem.Spec PySem.Calls
namespace Mine
/-- what the heap must still hold -/
def Holds (Z : List (Addr × Obj)) (h : Heap) : Prop := ∀ p ∈ Z, h.get? p.1 = some p.2
/-- a comparison that looks into the heap -/
def CmpZ (prog : Program) (w : World) (A : Around) (Z : List (Addr × Obj)) (P : Nat → Value → Prop) (key : Nat → Int) : Prop :=
  ∀ i j vi vj (s : Shared) (Q : Value → Shared → Prop) (E : Value → Shared → Prop), Holds Z s.heap → P i vi → P j vj → Q (.bool (decide (key i < key j))) s → wpAny (model prog w) A (richCompare .Lt vi vj) Q E s
theorem nlt {a n : Nat} (k : Nat) (h : a < n) (e : a = n + k) : False := by omega
def argL (key : Nat → Int) : Nat → Nat
  | 0 => 0
  | k + 1 => if key (k + 1) < key (argL key k) then k + 1 else argL key k
theorem argL_le (key : Nat → Int) : ∀ k, argL key k ≤ k
  | 0 => Nat.le_refl _
  | k + 1 => by
    unfold argL
    split
    · exact Nat.le_refl _
    · exact Nat.le_succ_of_le (argL_le key k)
theorem argL_min (key : Nat → Int) : ∀ k j, j ≤ k → key (argL key k) ≤ key j
  | 0, j, h => by rw [show j = 0 by omega]; exact Int.le_refl _
  | k + 1, j, h => by
    unfold argL
    split
    · rename_i q
      rcases Nat.lt_or_eq_of_le h with h | rfl
      · have := argL_min key k j (by omega); omega
      · exact Int.le_refl _
    · rename_i q
      rcases Nat.lt_or_eq_of_le h with h | rfl
      · exact argL_min key k j (by omega)
      · omega
section
variable {prog : Program} {w : World} {A : Around} {R : Result → Shared → Prop} {I : Addr} {fp wr : List Addr} {n : Nat} {P : Nat → Value → Prop} {St : Nat → Heap → Prop} {Z : List (Addr × Obj)}
theorem min_turns (W : Walks prog w A.in1 I fp wr n P St) (key : Nat → Int) (hcmp : CmpZ prog w A.in1 Z P key) (S : Addr) (hSf : S ∉ fp) (hZw : ∀ p ∈ Z, p.1 ∉ wr) (hZS : ∀ p ∈ Z, p.1 ≠ S) :
    ∀ (k j : Nat) (s : Shared) (vb : Value) (c : Nat), n - (j + 1) = k → j + 1 ≤ n → St (j + 1) s.heap → Holds Z s.heap → P (argL key j) vb →
    s.heap.get? S = some { cls := .type "list", dict := none, data := .seq #[vb, vb] c, slots := #[] } →
    (∀ v h' tk, P (argL key (n - 1)) v → (∀ b o, b ∉ wr → b ≠ S → s.heap.get? b = some o → h'.get? b = some o) → R (.ok (.ret v)) { s with heap := h', toks := tk }) →
    codeAny (model prog w) A (.builtin "min.loop" ⟨[.ref I, .none, .ref S], []⟩) R s := by
  have hSw : S ∉ wr := fun h => hSf (W.sub _ h)
  have hname : (toString "min" ++ toString ".loop" : String) = "min.loop" := by decide
  intro k
  induction k with
  | zero =>
    intro j s vb c hk hj hst hZ hPb hS hR
    have hin : j + 1 = n := by omega
    refine codeAny_builtin F.entry_min_loop ?_
    rw [Around.under_plainId F.plain_min_loop _]
    show wpAny _ A.in1 (seqItems? (.ref S) >>= _) _ _ s
    refine wpAny_bind (wpAny_seqItems hS rfl ?_)
    show wpAny _ A.in1 (tryCatch (pyNext (.ref I)) _ >>= _) _ _ s
    refine wpAny_bind (wpAny_tryCatch (W.done s _ _ (hin ▸ hst) fun h' tk hk' => ?_))
    have hS' := hk' S _ hSw hS
    show wpAny _ A.in1 (updateSeq S (fun _ => #[]) >>= _) _ _ _
    refine wpAny_bind ?_
    refine wpAny_updateSeq hS' rfl (wpAny_bind (wpAny_letGo (wpAny_pure ?_)))
    refine hR vb _ tk (by rw [← hin]; exact hPb) fun b o hbw hbS e => (Heap.get?_update_other _ _ (Ne.symm hbS)).trans (hk' b o hbw e)
  | succ k ih =>
    intro j s vb c hk hj hst hZ hPb hS hR
    have hlt : j + 1 < n := by omega
    refine codeAny_builtin F.entry_min_loop ?_
    rw [Around.under_plainId F.plain_min_loop _]
    show wpAny _ A.in1 (seqItems? (.ref S) >>= _) _ _ s
    refine wpAny_bind (wpAny_seqItems hS rfl ?_)
    show wpAny _ A.in1 (tryCatch (pyNext (.ref I)) _ >>= _) _ _ s
    refine wpAny_bind (wpAny_tryCatch (W.item (j + 1) s _ _ hlt hst fun v h' tk hP hst' hk' => ?_))
    have hS' := hk' S _ hSw hS
    have hZ' : Holds Z h' := fun p hp => hk' p.1 p.2 (hZw p hp) (hZ p hp)
    show wpAny _ A.in1 (tryCatch (holding [v, v] (richCompare .Lt v vb >>= _)) _ >>= _) _ _ _
    refine wpAny_bind (wpAny_tryCatch (wpAny_holding (wpAny_bind (hcmp (j + 1) (argL key j) v vb _ _ _ hZ' hP hPb ?_))))
    refine wpAny_bind (wpAny_holding (wpAny_truthy_bool ?_))
    refine wpAny_bind (wpAny_letGo (wpAny_pure ?_))
    by_cases hb : key (j + 1) < key (argL key j)
    · rw [decide_eq_true hb]
      simp only [if_true]
      refine wpAny_bind ?_
      refine wpAny_updateSeq hS' rfl (wpAny_bind (wpAny_letGo ?_))
      rw [hname]
      refine wpAny_pure ⟨plainId_quiet F.plain_min_loop _, ih (j + 1) _ v _ (by omega) hlt (W.frame _ _ _ hst' fun b hbf o e => ?_) (fun p hp => (Heap.get?_update_other _ _ (Ne.symm (hZS p hp))).trans (hZ' p hp)) (by rw [argL, if_pos hb]; exact hP) (Heap.get?_update_self _ hS' rfl)
        fun v' h'' tk'' hP' hk'' => ?_⟩
      · exact (Heap.get?_update_other _ _ (fun h : S = b => hSf (by rw [h]; exact hbf))).trans e
      · exact hR v' h'' tk'' hP' fun b o hbw hbS e => hk'' b o hbw hbS ((Heap.get?_update_other _ _ (Ne.symm hbS)).trans (hk' b o hbw e))
    · rw [decide_eq_false hb]
      simp only [Bool.false_eq_true, if_false]
      refine wpAny_bind (wpAny_letGo ?_)
      rw [hname]
      refine wpAny_pure ⟨plainId_quiet F.plain_min_loop _, ih (j + 1) _ vb c (by omega) hlt hst' hZ' (by rw [argL, if_neg hb]; exact hPb) hS' fun v' h'' tk'' hP' hk'' => ?_⟩
      exact hR v' h'' tk'' hP' fun b o hbw hbS e => hk'' b o hbw hbS (hk' b o hbw e)
theorem min_first (W : Walks prog w A.in1 I fp wr n P St) (key : Nat → Int) (hcmp : CmpZ prog w A.in1 Z P key) (S : Addr) (hSf : S ∉ fp) (hZw : ∀ p ∈ Z, p.1 ∉ wr) (hZS : ∀ p ∈ Z, p.1 ≠ S) (hn : 0 < n) {s : Shared} {c : Nat} (hst : St 0 s.heap) (hZ : Holds Z s.heap)
    (hS : s.heap.get? S = some { cls := .type "list", dict := none, data := .seq #[] c, slots := #[] })
    (hR : ∀ v h' tk, P (argL key (n - 1)) v → (∀ b o, b ∉ wr → b ≠ S → s.heap.get? b = some o → h'.get? b = some o) → R (.ok (.ret v)) { s with heap := h', toks := tk }) :
    codeAny (model prog w) A (.builtin "min.loop" ⟨[.ref I, .none, .ref S], []⟩) R s := by
  have hSw : S ∉ wr := fun h => hSf (W.sub _ h)
  have hname : (toString "min" ++ toString ".loop" : String) = "min.loop" := by decide
  refine codeAny_builtin F.entry_min_loop ?_
  rw [Around.under_plainId F.plain_min_loop _]
  show wpAny _ A.in1 (seqItems? (.ref S) >>= _) _ _ s
  refine wpAny_bind (wpAny_seqItems hS rfl ?_)
  show wpAny _ A.in1 (tryCatch (pyNext (.ref I)) _ >>= _) _ _ s
  refine wpAny_bind (wpAny_tryCatch (W.item 0 s _ _ hn hst fun v h' tk hP hst' hk' => ?_))
  have hS' := hk' S _ hSw hS
  show wpAny _ A.in1 (updateSeq S (fun _ => #[v, v]) >>= _) _ _ _
  refine wpAny_bind ?_
  refine wpAny_updateSeq hS' rfl ?_
  rw [hname]
  refine wpAny_pure ⟨plainId_quiet F.plain_min_loop _, min_turns W key hcmp S hSf hZw hZS _ 0 _ v _ rfl hn (W.frame _ _ _ hst' fun b hbf o e => ?_) (fun p hp => (Heap.get?_update_other _ _ (Ne.symm (hZS p hp))).trans (hk' p.1 p.2 (hZw p hp) (hZ p hp))) hP (Heap.get?_update_self _ hS' rfl) fun v' h'' tk'' hP' hk'' => ?_⟩
  · exact (Heap.get?_update_other _ _ (fun h : S = b => hSf (by rw [h]; exact hbf))).trans e
  · exact hR v' h'' tk'' hP' fun b o hbw hbS e => hk'' b o hbw hbS ((Heap.get?_update_other _ _ (Ne.symm hbS)).trans (hk' b o hbw e))
end
section
variable {prog : Program} {w : World} {A : Around} {E : Value → Shared → Prop} {s : Shared} {Z : List (Addr × Obj)}
theorem min_two_Z {a b : Value} {Q : Value → Shared → Prop} (hh : A.handled = none) (hZ : Holds Z s.heap) (key : Nat → Int) (hcmp : CmpZ prog w A.in1 Z (fun i v => #[a, b][i]? = some v) key)
    (yes : key 1 < key 0 → ∀ h' tk, (∀ c o, s.heap.get? c = some o → h'.get? c = some o) → Q b { s with heap := h', toks := tk })
    (no : ¬ key 1 < key 0 → ∀ h' tk, (∀ c o, s.heap.get? c = some o → h'.get? c = some o) → Q a { s with heap := h', toks := tk }) :
    wpAny (model prog w) A (call (.builtin "min") [a, b]) Q E s := by
  have hname : (toString "min" ++ toString ".loop" : String) = "min.loop" := by decide
  refine call_function_tree F.kind_min F.plain_min F.entry_min (F.args_min2 _ _) ?_
  show wpAny _ A.in1 (Builtin.Builtins.bindParams "min" ["key", "default"] 0 ⟨[], []⟩ >>= _) _ _ s
  refine wpAny_bind (wpAny_of_eq (show Builtin.Builtins.bindParams "min" ["key", "default"] 0 ⟨[], []⟩ = pure [none, none] from rfl) ?_)
  show wpAny _ A.in1 (newTuple [a, b] >>= _) _ _ s
  refine wpAny_bind (wpAny_newObj_type ?_)
  have hT : (s.heap.push { cls := .type "tuple", data := .seq #[a, b] }).IsTuple s.heap.objs.size #[a, b] := ⟨_, Heap.get?_push_size _ rfl, rfl, 0, rfl⟩
  have hsz : (s.heap.push { cls := .type "tuple", data := .seq #[a, b] }).objs.size = s.heap.objs.size + 1 := Heap.size_push ..
  refine wpAny_bind (wpAny_pyIter_tuple hT ?_)
  refine wpAny_bind (wpAny_newObj_type ?_)
  rw [hname]
  have hsz2 : ((s.heap.push { cls := .type "tuple", data := .seq #[a, b] }).push { cls := .type "tuple_iterator", data := .fields #[.ref s.heap.objs.size, .int 0 0] }).objs.size = s.heap.objs.size + 2 := by rw [Heap.size_push, hsz]
  refine wpAny_pure ⟨plainId_quiet F.plain_min_loop _, min_first (Z := Z) (Walks.tuple (A := A.in1) hh _ s.heap.objs.size (by rw [hsz]; exact Nat.ne_of_lt (Nat.lt_succ_self _)) #[a, b]) key hcmp _ ?_ ?_ ?_ (by simp) ?_ ?_ (Heap.get?_push_size _ rfl) ?_⟩
  · intro hm
    dsimp only at hm
    rw [hsz2, hsz] at hm
    simp at hm
  · intro p hp hm
    have := Heap.lt_size (hZ p hp)
    dsimp only at hm
    rw [hsz] at hm
    exact nlt 1 this (List.mem_singleton.mp hm)
  · intro p hp e
    have := Heap.lt_size (hZ p hp)
    dsimp only at e
    rw [hsz2] at e
    exact nlt 2 this e
  · exact ⟨⟨_, Heap.get?_push_of_some _ (Heap.get?_push_size _ rfl), rfl, rfl⟩, (hT.push _).push _⟩
  · intro p hp
    exact Heap.get?_push_of_some _ (Heap.get?_push_of_some _ (Heap.get?_push_of_some _ (hZ p hp)))
  · intro v h' tk hP hk
    have hold : ∀ c o, s.heap.get? c = some o → h'.get? c = some o := fun c o e => by
      have hlt := Heap.lt_size e
      refine hk c o (fun hm => ?_) (fun q => ?_) (Heap.get?_push_of_some _ (Heap.get?_push_of_some _ (Heap.get?_push_of_some _ e)))
      · dsimp only at hm
        rw [hsz] at hm
        exact nlt 1 hlt (List.mem_singleton.mp hm)
      · dsimp only at q
        rw [hsz2] at q
        exact nlt 2 hlt q
    have hP' : #[a, b][argL key 1]? = some v := hP
    by_cases q : key 1 < key 0
    · have e : argL key 1 = 1 := by simp [argL, q]
      rw [e] at hP'
      have : b = v := by simpa using hP'
      rw [← this]; exact yes q h' tk hold
    · have e : argL key 1 = 0 := by simp [argL, q]
      rw [e] at hP'
      have : a = v := by simpa using hP'
      rw [← this]; exact no q h' tk hold
theorem min_list_Z {l : Addr} {vs : List Value} {n : Nat} {Q : Value → Shared → Prop} (hh : A.handled = none) (hl : s.heap.get? l = some (listOf vs.toArray n)) (hne : 0 < vs.length) (hZ : Holds Z s.heap) (key : Nat → Int) (hcmp : CmpZ prog w A.in1 Z (fun i v => vs.toArray[i]? = some v) key)
    (h : ∀ i v h' tk, i < vs.length → vs[i]? = some v → (∀ j, j < vs.length → key i ≤ key j) → (∀ c o, s.heap.get? c = some o → h'.get? c = some o) → Q v { s with heap := h', toks := tk }) :
    wpAny (model prog w) A (call (.builtin "min") [.ref l]) Q E s := by
  have hname : (toString "min" ++ toString ".loop" : String) = "min.loop" := by decide
  refine call_function_tree F.kind_min F.plain_min F.entry_min (F.args_min1 _) ?_
  show wpAny _ A.in1 (Builtin.Builtins.bindParams "min" ["key", "default"] 0 ⟨[], []⟩ >>= _) _ _ s
  refine wpAny_bind (wpAny_of_eq (show Builtin.Builtins.bindParams "min" ["key", "default"] 0 ⟨[], []⟩ = pure [none, none] from rfl) ?_)
  refine wpAny_bind (wpAny_pure ?_)
  have hL : s.heap.IsList l vs.toArray := PySem.IsL.isList (n := n) hl
  have hlt := Heap.lt_size hl
  refine wpAny_bind (wpAny_pyIter_list hL ?_)
  refine wpAny_bind (wpAny_newObj_type ?_)
  rw [hname]
  have hsz : (s.heap.push { cls := .type "list_iterator", data := .fields #[.ref l, .int 0 0] }).objs.size = s.heap.objs.size + 1 := Heap.size_push ..
  refine wpAny_pure ⟨plainId_quiet F.plain_min_loop _, min_first (Z := Z) (Walks.list (A := A.in1) hh s.heap.objs.size l (Nat.ne_of_lt hlt) vs.toArray) key hcmp _ ?_ ?_ ?_ (by simpa using hne) ?_ ?_ (Heap.get?_push_size _ rfl) ?_⟩
  · intro hm
    dsimp only at hm
    rw [hsz] at hm
    rcases List.mem_cons.mp hm with e | hm
    · exact nlt 0 (Nat.lt_succ_self s.heap.objs.size) e.symm
    · exact nlt 1 hlt (List.mem_singleton.mp hm).symm
  · intro p hp hm
    have := Heap.lt_size (hZ p hp)
    exact nlt 0 this (List.mem_singleton.mp hm)
  · intro p hp e
    have := Heap.lt_size (hZ p hp)
    dsimp only at e
    rw [hsz] at e
    exact nlt 1 this e
  · exact ⟨⟨_, Heap.get?_push_of_some _ (Heap.get?_push_size _ rfl), rfl, rfl⟩, (hL.push _).push _⟩
  · intro p hp
    exact Heap.get?_push_of_some _ (Heap.get?_push_of_some _ (hZ p hp))
  · intro v h' tk hP hk
    have hold : ∀ c o, s.heap.get? c = some o → h'.get? c = some o := fun c o e => by
      have hlt := Heap.lt_size e
      refine hk c o (fun hm => ?_) (fun q => ?_) (Heap.get?_push_of_some _ (Heap.get?_push_of_some _ e))
      · exact nlt 0 hlt (List.mem_singleton.mp hm)
      · dsimp only at q
        rw [hsz] at q
        exact nlt 1 hlt q
    have e : vs.toArray.size = vs.length := List.size_toArray ..
    have h1 := argL_le key (vs.toArray.size - 1)
    refine h (argL key (vs.toArray.size - 1)) v h' tk (by omega) (by simpa using hP) (fun j hj => argL_min key _ j (by omega)) hold
end
end Mine
end
section
open PySem PySem.W PyProof.Rows PySem.Spec PySem.Calls
namespace Mine
local macro_rules | `(tactic| omega) => `(tactic| first | lia | omega +splitNatSub)
open PySem.SeqAt PySem.MeetsSeq PySem.MeetsSeq2 PySem.MeetsSeq3 PySem.SeqRoads2
section
variable {prog : Program} {w : World} {A : Around} {E : Value → Shared → Prop} {s : Shared} {h₀ : Heap} {L : Addr} {m : Str → Option Value} {news Z : List (Addr × Obj)}
theorem pair_lt {a b : Addr} {f j f' j' : Int} {t u t' u' : Nat} (hZ : Holds Z s.heap) (h1 : (a, tupO [.int f t, .int j u]) ∈ Z) (h2 : (b, tupO [.int f' t', .int j' u']) ∈ Z) (hu : A.units < cLine) (b1 : 0 ≤ j) (b2 : j < 10) (c1 : 0 ≤ j') (c2 : j' < 10) :
    LtAt A s (.ref a) (.ref b) (decide (f * 10 + j < f' * 10 + j')) := by
  intro prog w E Q h
  refine LtAt.tuples (xs := [.int f t, .int j u]) (ys := [.int f' t', .int j' u']) (hZ _ h1) (hZ _ h2) rfl hu
    (e := fun n => match n with | 0 => f == f' | _ => j == j') (lt := fun n => match n with | 0 => decide (f < f') | _ => decide (j < j')) ?_ ?_ prog w E Q ?_
  · intro n h1 h2
    match n, h1 with
    | 0, _ => exact EqAt.ints
    | 1, _ => exact EqAt.ints
  · intro n h1 h2 _
    match n, h1 with
    | 0, _ => exact LtAt.ints
    | 1, _ => exact LtAt.ints
  · have e : lexAux (fun n => match n with | 0 => f == f' | _ => j == j') (fun n => match n with | 0 => decide (f < f') | _ => decide (j < j')) (List.range [Value.int f t, .int j u].length) = decide (f * 10 + j < f' * 10 + j') := by
      show lexAux _ _ [0, 1] = _
      simp only [lexAux, beq_iff_eq]
      by_cases q1 : f = f'
      · by_cases q2 : j = j'
        · simp [q1, q2]
        · simp only [q1, q2, if_true, if_false]; exact decide_eq_decide.mpr (by omega)
      · simp only [q1, if_false]; exact decide_eq_decide.mpr (by omega)
    rw [e]; exact h
theorem min_pair {a b : Addr} {f j f' j' : Int} {t u t' u' : Nat} {Q : Value → Shared → Prop} (hh : A.handled = none) (hu : A.in1.units < cLine) (F : Fr h₀ L s.heap m) (N : News h₀ L s.heap news)
    (h1 : (a, tupO [.int f t, .int j u]) ∈ news) (h2 : (b, tupO [.int f' t', .int j' u']) ∈ news) (b1 : 0 ≤ j) (b2 : j < 10) (c1 : 0 ≤ j') (c2 : j' < 10)
    (yes : f' * 10 + j' < f * 10 + j → ∀ h' tk, Fr h₀ L h' m → News h₀ L h' news → Q (.ref b) { s with heap := h', toks := tk })
    (no : ¬ f' * 10 + j' < f * 10 + j → ∀ h' tk, Fr h₀ L h' m → News h₀ L h' news → Q (.ref a) { s with heap := h', toks := tk }) :
    wpAny (model prog w) A (call (.builtin "min") [.ref a, .ref b]) Q E s := by
  refine min_two_Z (Z := news) hh (fun p hp => (N p hp).1) (fun i => if i = 0 then f * 10 + j else f' * 10 + j') ?_ (fun q h' tk hk => yes (by simpa using q) h' tk (F.grownK hk) (N.grown hk)) (fun q h' tk hk => no (by simpa using q) h' tk (F.grownK hk) (N.grown hk))
  intro i k vi vk s' Q' E' hZ hi hk hQ
  have two : ∀ i v, (#[Value.ref a, Value.ref b] : Array Value)[i]? = some v → (i = 0 ∧ v = .ref a) ∨ (i = 1 ∧ v = .ref b) := by
    intro i v h
    match i with
    | 0 => left; exact ⟨rfl, by simpa using h.symm⟩
    | 1 => right; exact ⟨rfl, by simpa using h.symm⟩
    | i + 2 => simp at h
  rcases two i vi hi with ⟨rfl, rfl⟩ | ⟨rfl, rfl⟩ <;> rcases two k vk hk with ⟨rfl, rfl⟩ | ⟨rfl, rfl⟩
  · exact pair_lt hZ h1 h1 hu b1 b2 b1 b2 _ _ _ _ hQ
  · exact pair_lt hZ h1 h2 hu b1 b2 c1 c2 _ _ _ _ hQ
  · exact pair_lt hZ h2 h1 hu c1 c2 b1 b2 _ _ _ _ hQ
  · exact pair_lt hZ h2 h2 hu c1 c2 c1 c2 _ _ _ _ hQ
end
/-- the nearest in each cone so far -/
def NearOk (ps : List (Int × Int)) (i j : Nat) (np : List (Int × Int)) : Prop :=
  np.length = 4 ∧ ∀ k : Nat, k < 4 → (np.getD k (0, 0) = (99, 0) ∧ ∀ j', j' < j → kindF (pt ps i) (pt ps j') = k → k = 0) ∨
    (1 ≤ k ∧ ∃ j', j' < j ∧ j' < ps.length ∧ np.getD k (0, 0) = (dd ps i j', (j' : Int)) ∧ kindF (pt ps i) (pt ps j') = k ∧ ∀ j'', j'' < j → kindF (pt ps i) (pt ps j'') = k → dd ps i j' ≤ dd ps i j'')
theorem NearOk.init (ps : List (Int × Int)) (i : Nat) : NearOk ps i 0 [(99, 0), (99, 0), (99, 0), (99, 0)] := by
  refine ⟨rfl, fun k hk => .inl ⟨?_, fun j' h => absurd h (Nat.not_lt_zero _)⟩⟩
  match k, hk with
  | 0, _ => rfl
  | 1, _ => rfl
  | 2, _ => rfl
  | 3, _ => rfl
theorem NearOk.skip {ps : List (Int × Int)} {i j : Nat} {np : List (Int × Int)} (h : NearOk ps i j np) (hk : kindF (pt ps i) (pt ps j) = 0) : NearOk ps i (j + 1) np := by
  refine ⟨h.1, fun k hk4 => ?_⟩
  rcases h.2 k hk4 with ⟨h1, h2⟩ | ⟨h1, j', h2, h3, h4, h5, h6⟩
  · refine .inl ⟨h1, fun j' hj hkk => ?_⟩
    rcases Nat.lt_or_ge j' j with q | q
    · exact h2 j' q hkk
    · have : j' = j := by omega
      subst this; omega
  · refine .inr ⟨h1, j', by omega, h3, h4, h5, fun j'' hj hkk => ?_⟩
    rcases Nat.lt_or_ge j'' j with q | q
    · exact h6 j'' q hkk
    · have : j'' = j := by omega
      subst this; omega
theorem getD_setP (l : List (Int × Int)) (i j : Nat) (a : Int × Int) (h : i < l.length) : (l.set i a).getD j (0, 0) = if i = j then a else l.getD j (0, 0) := by
  simp only [List.getD_eq_getElem?_getD, List.getElem?_set]
  by_cases e : i = j
  · subst e; simp [h]
  · simp [e]
theorem NearOk.take {ps : List (Int × Int)} {i j k : Nat} {np : List (Int × Int)} (h : NearOk ps i j np) (hj : j < ps.length) (hk : kindF (pt ps i) (pt ps j) = k) (hk1 : 1 ≤ k) (hk4 : k < 4) (hd : dd ps i j ≤ (np.getD k (0, 0)).1) : NearOk ps i (j + 1) (np.set k (dd ps i j, (j : Int))) := by
  refine ⟨by rw [List.length_set]; exact h.1, fun q hq => ?_⟩
  rw [getD_setP _ _ _ _ (by rw [h.1]; exact hk4)]
  by_cases e : k = q
  · subst e
    rw [if_pos rfl]
    refine .inr ⟨hk1, j, by omega, hj, rfl, hk, fun j'' hj'' hkk => ?_⟩
    rcases Nat.lt_or_ge j'' j with z | z
    · rcases h.2 k hk4 with ⟨h1, h2⟩ | ⟨h1, j', h2, h3, h4, h5, h6⟩
      · have := h2 j'' z hkk; omega
      · rw [h4] at hd
        have := h6 j'' z hkk
        dsimp only at hd
        omega
    · have : j'' = j := by omega
      subst this; exact Int.le_refl _
  · rw [if_neg e]
    rcases h.2 q hq with ⟨h1, h2⟩ | ⟨h1, j', h2, h3, h4, h5, h6⟩
    · refine .inl ⟨h1, fun j' hj' hkk => ?_⟩
      rcases Nat.lt_or_ge j' j with z | z
      · exact h2 j' z hkk
      · have : j' = j := by omega
        subst this; omega
    · refine .inr ⟨h1, j', by omega, h3, h4, h5, fun j'' hj'' hkk => ?_⟩
      rcases Nat.lt_or_ge j'' j with z | z
      · exact h6 j'' z hkk
      · have : j'' = j := by omega
        subst this; omega
theorem NearOk.keep {ps : List (Int × Int)} {i j k : Nat} {np : List (Int × Int)} (h : NearOk ps i j np) (hk : kindF (pt ps i) (pt ps j) = k) (hk1 : 1 ≤ k) (hk4 : k < 4) (h99 : dd ps i j < 99) (hd : (np.getD k (0, 0)).1 ≤ dd ps i j) : NearOk ps i (j + 1) np := by
  refine ⟨h.1, fun q hq => ?_⟩
  rcases h.2 q hq with ⟨h1, h2⟩ | ⟨h1, j', h2, h3, h4, h5, h6⟩
  · refine .inl ⟨h1, fun j' hj' hkk => ?_⟩
    rcases Nat.lt_or_ge j' j with z | z
    · exact h2 j' z hkk
    · have : j' = j := by omega
      subst this
      have e : q = k := by omega
      subst e
      rw [h1] at hd
      dsimp only at hd
      omega
  · refine .inr ⟨h1, j', by omega, h3, h4, h5, fun j'' hj'' hkk => ?_⟩
    rcases Nat.lt_or_ge j'' j with z | z
    · exact h6 j'' z hkk
    · have : j'' = j := by omega
      subst this
      have e : q = k := by omega
      subst e
      rw [h4] at hd
      exact hd
theorem due_small {p q : Int × Int} (hp : 0 ≤ p.1 ∧ p.1 ≤ 3 ∧ 0 ≤ p.2 ∧ p.2 ≤ 3) (hq : 0 ≤ q.1 ∧ q.1 ≤ 3 ∧ 0 ≤ q.2 ∧ q.2 ≤ 3) : dueF p q < 99 := by
  have := (due_le (p := p) (q := q) (e := 12)).mpr (by omega)
  omega
end Mine
end
section
namespace Mine
/-- the ties made so far: those of the leads ahead of i, and of i's cones below c -/
def TInv (ps : List (Int × Int)) (i c : Nat) (T : List Int) : Prop :=
  IsHeap T ∧ (∀ k ∈ T, ∃ i' j' : Nat, i' < ps.length ∧ j' < ps.length ∧ k = code ps i' j') ∧
  (∀ i' j, (i' < i ∨ (i' = i ∧ kindF (pt ps i') (pt ps j) < (c : Int))) → i' < ps.length → j < ps.length → 1 ≤ kindF (pt ps i') (pt ps j) →
    ∃ j', j' < ps.length ∧ kindF (pt ps i') (pt ps j') = kindF (pt ps i') (pt ps j) ∧ dd ps i' j' ≤ dd ps i' j ∧ code ps i' j' ∈ T) ∧ T.length ≤ 4 * i + c
theorem TInv.init (ps : List (Int × Int)) : TInv ps 0 0 [] := by
  refine ⟨fun q h1 h2 => absurd h2 (by simp), fun k hk => absurd hk (by simp), fun i' j h h1 h2 h3 => ?_, by simp⟩
  exfalso; omega
theorem TInv.next {ps : List (Int × Int)} {i : Nat} {T : List Int} (h : TInv ps i 4 T) : TInv ps (i + 1) 0 T := by
  obtain ⟨h1, h2, h3, h4⟩ := h
  refine ⟨h1, h2, fun i' j hi a b k => ?_, by omega⟩
  have := kind_le (pt ps i') (pt ps j)
  exact h3 i' j (by omega) a b k
theorem TInv.skip {ps : List (Int × Int)} {i c : Nat} {T : List Int} {np : List (Int × Int)} (h : TInv ps i c T) (hn : NearOk ps i ps.length np) (hc : c < 4) (hb : ∀ p ∈ ps, 0 ≤ p.1 ∧ p.1 ≤ 3 ∧ 0 ≤ p.2 ∧ p.2 ≤ 3)
    (hf : ¬ (np.getD c (0, 0)).1 < 99) : TInv ps i (c + 1) T := by
  obtain ⟨h1, h2, h3, h4⟩ := h
  refine ⟨h1, h2, fun i' j hi a b k => ?_, by omega⟩
  by_cases e : i' < i ∨ (i' = i ∧ kindF (pt ps i') (pt ps j) < (c : Int))
  · exact h3 i' j e a b k
  · have e1 : i' = i := by omega
    subst e1
    have e2 : kindF (pt ps i') (pt ps j) = (c : Int) := by omega
    exfalso
    rcases hn.2 c hc with ⟨n1, n2⟩ | ⟨n1, j', n2, n3, n4, n5, n6⟩
    · have := n2 j b e2; omega
    · rw [n4] at hf
      exact hf (due_small (hb _ (pt_mem a)) (hb _ (pt_mem n3)))
theorem TInv.push {ps : List (Int × Int)} {i c : Nat} {T : List Int} {np : List (Int × Int)} (h : TInv ps i c T) (hn : NearOk ps i ps.length np) (hi : i < ps.length) (hc : c < 4)
    (hf : (np.getD c (0, 0)).1 < 99) : TInv ps i (c + 1) (sdn ((np.getD c (0, 0)).1 * 100 + (i : Int) * 10 + (np.getD c (0, 0)).2) (T ++ [(np.getD c (0, 0)).1 * 100 + (i : Int) * 10 + (np.getD c (0, 0)).2]) T.length) := by
  obtain ⟨h1, h2, h3, h4⟩ := h
  rcases hn.2 c hc with ⟨n1, n2⟩ | ⟨n1, j', n2, n3, n4, n5, n6⟩
  · rw [n1] at hf; exact absurd hf (by decide)
  · rw [n4]
    dsimp only
    have hp := push_heap (k := dd ps i j' * 100 + (i : Int) * 10 + (j' : Int)) h1
    refine ⟨hp.1, fun k hk => ?_, fun i' j hi' a b k => ?_, ?_⟩
    · rcases List.mem_cons.mp (hp.2.subset hk) with rfl | hk
      · exact ⟨i, j', hi, n3, rfl⟩
      · exact h2 k hk
    · by_cases e : i' < i ∨ (i' = i ∧ kindF (pt ps i') (pt ps j) < (c : Int))
      · obtain ⟨j2, q1, q2, q3, q4⟩ := h3 i' j e a b k
        exact ⟨j2, q1, q2, q3, hp.2.symm.subset (.tail _ q4)⟩
      · have e1 : i' = i := by omega
        subst e1
        have e2 : kindF (pt ps i') (pt ps j) = (c : Int) := by omega
        exact ⟨j', n3, by rw [n5, e2], n6 j b e2, hp.2.symm.subset (.head _)⟩
    · have := hp.2.length_eq
      rw [List.length_cons] at this
      omega
theorem TInv.fin {ps : List (Int × Int)} {T : List Int} (h : TInv ps ps.length 0 T) : TiesOk ps T ∧ IsHeap T ∧ T.length ≤ 4 * ps.length := by
  obtain ⟨h1, h2, h3, h4⟩ := h
  exact ⟨⟨h2, fun i j hi hj k => h3 i j (.inl hi) hi hj k⟩, h1, by omega⟩
end Mine
end
section
open PySem PySem.W PyProof.Rows PySem.Spec PySem.Calls
namespace Mine
section
variable {w : World} {mean : ExcName → Option Value} {mg mb : Str → Option Value} {dp un : Nat} {gd : Option (List Code)} {cn : Str} {cs : Scope} {a : Addr} {ccd : Value} {cl : List (Str × Addr)} {outer : List Env} {A₀ : Around} {base h₀ : Heap} {L : Addr} {m : Str → Option Value} {s : Shared} {Q E : Value → Shared → Prop} {R : List (Addr × Obj)}
theorem due_tells2 {v1 v2 : Value} {p q : Int × Int} {d : Int} {news : List (Addr × Obj)} (hd : Hold (dueF p q = d))
    (C : Cxt w mean mg mb A₀ base outer h₀ L m cs s.heap) (N : News h₀ L s.heap news) (hs : ∀ p ∈ R, p ∈ news) (hv : Pair R v1 p) (hv' : Pair R v2 q)
    (hdp : dp + 2 < recursionLimit) (hun : un + 16 < cLine)
    (ret : ∀ t h' tk', Fr h₀ L h' m → News h₀ L h' news → Q (.int d t) { s with heap := h', toks := tk' }) :
    wpAny (model PySem.Challenge.rw_qj0007_01.row.prog w) (ktrTop dp un gd cn cs L a ccd cl outer) (call (.ref 148) [v1, v2]) Q E s := by
  have hd' : dueF p q = d := hd
  subst hd'
  exact due_tells C N hs hv hv' hdp hun ret
theorem lev_lead2 {p q p' q' : Nat} {x y : Str} {t u z : Nat} {d : Int} {news : List (Addr × Obj)} (hd : Hold (dueF ((p : Int), (q : Int)) ((p' : Int), (q' : Int)) = d)) (hx : x.cps.toList = leadL p q) (hy : y.cps.toList = leadL p' q') (hne : ¬ (p = p' ∧ q = q')) (hp : p ≤ 3) (hq : q ≤ 3) (hp' : p' ≤ 3) (hq' : q' ≤ 3)
    (C : Cxt w mean mg mb A₀ base outer h₀ L m cs s.heap) (N : News h₀ L s.heap news)
    (hdp : dp + 5 < recursionLimit) (hun : un + 40 < cLine)
    (ret : ∀ t h' tk', Fr h₀ L h' m → News h₀ L h' (news) → Q (.int d t) { s with heap := h', toks := tk' }) :
    wpAny (model PySem.Challenge.rw_qj0007_01.row.prog w) (ktrTop dp un gd cn cs L a ccd cl outer) (call (.ref 129) [.str x t, .str y u, .int d z]) Q E s := by
  have hd' : dueF ((p : Int), (q : Int)) ((p' : Int), (q' : Int)) = d := hd
  subst hd'
  exact lev_lead hx hy hne hp hq hp' hq' C N hdp hun ret
end
end Mine
end
section
open PySem PySem.W PyProof.Rows PySem.Spec PySem.Calls
namespace Mine
section
variable {prog : Program} {w : World} {A : Around} {E : Value → Shared → Prop} {Q : Flow → Shared → Prop} {s : Shared} {env : Env} {h₀ : Heap}
def TPost {σ : Type} (h₀ : Heap) (L : Addr) (s : Shared) (wr : List Addr) (own : List (Addr × Obj)) (Led : σ → List (Addr × Obj)) (ps : σ → List (Str × Value)) (P : σ → Prop) (f : Flow) (s₂ : Shared) : Prop :=
  match f with
  | .next => FEnd h₀ L s wr own Led ps P s₂
  | _ => False
/-- a for over a list of the ledger, its target a tuple -/
theorem my_listT {σ : Type} {target : Expr} {body : List Stmt} {l : Addr} {vs : List Value} {n : Nat} {m₀ : Str → Option Value} (Led : σ → List (Addr × Obj)) (ps : σ → List (Str × Value)) (J : Nat → σ → Prop) (c₀ : σ)
    (hh : A.handled = none) (hm : (l, listOf vs.toArray n) ∈ Led c₀) (F : Fr h₀ env.locals s.heap m₀) (N : News h₀ env.locals s.heap (Led c₀))
    (hk : ∀ p ∈ ps c₀, m₀ p.1 = some p.2) (hJ : J 0 c₀)
    (turn : ∀ i v (c : σ) (u : Str → Option Value) (s₁ : Shared) own I oI, i < vs.length → vs[i]? = some v → J i c → (∀ p ∈ Led c, p.1 ≠ I) → (∀ p ∈ own, p.1 = I ∨ p.1 = l) → (I, oI) ∈ own → (∀ p ∈ own, p.2.cls ≠ .type "tuple") →
      Fr h₀ env.locals s₁.heap (kstB u (ps c)) → News h₀ env.locals s₁.heap (Led c ++ own) →
      wpAny (model prog w) A (assign target env v) (fun _ s₃ => wpAny (model prog w) A (execs body env) (TPost h₀ env.locals s₁ [I] own Led ps (J (i + 1))) E s₃) E s₁)
    (done : ∀ (c : σ) (u : Str → Option Value) h tk, J vs.length c → Fr h₀ env.locals h (kstB u (ps c)) → News h₀ env.locals h (Led c) → Q .next { s with heap := h, toks := tk }) :
    wpAny (model prog w) A (pyIter (.ref l)) (fun it s₂ => LoopAtT prog w A h₀ env target body Q E it s₂) E s := by
  have hl : s.heap.IsList l vs.toArray := PySem.IsL.isList (n := n) (N _ hm).1
  have hne : l ≠ s.heap.objs.size := Nat.ne_of_lt (Heap.lt_size (N _ hm).1)
  refine wpAny_pyIter_list hl ?_
  refine ⟨s.heap.objs.size, [s.heap.objs.size, l], [s.heap.objs.size], vs.toArray.size, _, _, m₀, Led c₀, fun i m nx => ∃ c : σ, nx = Led c ∧ (∀ p ∈ ps c, m p.1 = some p.2) ∧ J i c, rfl, Walks.list (A := A) hh s.heap.objs.size l hne vs.toArray, ?_, ?_, ?_, ?_, F.push _, N.grown fun b o e => Heap.get?_push_of_some _ e, ?_, ⟨c₀, rfl, hk, hJ⟩, ?_, ?_⟩
  · intro hm'
    rcases List.mem_cons.mp hm' with e | hm'
    · exact absurd F.ns.lt (e ▸ Nat.lt_irrefl _)
    · exact (N _ hm).2.1 (List.mem_singleton.mp hm').symm
  · intro b hb; rw [List.mem_singleton.mp hb]; exact next_is_new F
  · intro p hp hI
    exact absurd (Heap.lt_size (N p hp).1) ((List.mem_singleton.mp hI) ▸ Nat.lt_irrefl _)
  · exact ⟨⟨_, Heap.get?_push_size _ rfl, rfl, rfl⟩, hl.at fun o e => Heap.get?_push_of_some _ e⟩
  · intro i s' v Q' st hQ'
    exact letGo_listiter st.1 hQ'
  · rintro i v m₁ news₁ s₁ own hi hP ⟨c, rfl, hk1, hJ1⟩ hnw1 hown1 hown2 hown3 hst1 F1 N1
    rw [← kstB_self hk1] at F1
    obtain ⟨oI, hoI, hcI, _⟩ := id hst1.1
    obtain ⟨oL, hoL, hcL, _⟩ := id hst1.2
    have hno : ∀ p ∈ own, p.2.cls ≠ .type "tuple" := by
      intro p hp e
      have h2 := hown2 p hp
      rcases List.mem_cons.mp (hown1 p hp) with q | q
      · rw [q, hoI] at h2; rw [← Option.some.inj h2, hcI] at e; revert e; decide
      · rw [List.mem_singleton.mp q, hoL] at h2; rw [← Option.some.inj h2, hcL] at e; revert e; decide
    refine wpAny_mono (turn i v c m₁ s₁ own s.heap.objs.size oI (by simpa using hi) (by simpa using hP) hJ1 (fun p hp e => hnw1 p hp (List.mem_singleton.mpr e)) (fun p hp => ?_) (hown3 _ (.head _) (next_is_new F) _ hoI) hno F1 fun p hp => N1 p ?_) (fun _ s₃ q => ?_) fun _ _ x => x
    · have := hown1 p hp
      simpa using this
    · rcases List.mem_append.mp hp with h | h
      · exact List.mem_append_right _ h
      · exact List.mem_append_left _ h
    refine wpAny_mono q (fun f s₄ q => ?_) fun _ _ x => x
    cases f with
    | ret v => exact False.elim q
    | brk => exact False.elim q
    | cont => exact False.elim q
    | next =>
      obtain ⟨c', h', tk', m', news', rfl, F', N', hn, ho, hw, hk9, hp9⟩ := q
      exact ⟨rfl, h', tk', m', Led c', rfl, F', fun p hp => N' p ((List.mem_append.mp hp).elim (ho p) (hn p)), hw, c', rfl, hk9, hp9⟩
  · rintro h' tk m' news' F' N' _ ⟨c, rfl, hk1, hJ1⟩
    rw [List.size_toArray] at hJ1
    rw [← kstB_self hk1] at F'
    exact done c m' h' tk hJ1 F' N'
/-- a for over range(n), its iterator told from a tuple -/
theorem my_rangeC {σ : Type} {x : Str} {body : List Stmt} {r : Addr} {b : Int} {t u v : Tok} {m₀ : Str → Option Value} (n : Nat) (Led : σ → List (Addr × Obj)) (ps : σ → List (Str × Value)) (J : Nat → σ → Prop) (c₀ : σ)
    (hh : A.handled = none) (hr : IsRange s.heap r 0 b 1 t u v) (hb : b = n) (hn : n ≤ 100000) (F : Fr h₀ env.locals s.heap m₀) (N : News h₀ env.locals s.heap (Led c₀)) (hk : ∀ p ∈ ps c₀, m₀ p.1 = some p.2) (hJ : J 0 c₀)
    (turn : ∀ (i : Nat) (t : Nat) (c : σ) (u : Str → Option Value) h tk own I oI, i < n → J i c → (∀ p ∈ Led c, p.1 ≠ I) → (∀ p ∈ own, p.1 = I) → (I, oI) ∈ own → oI.cls ≠ .type "tuple" →
      Fr h₀ env.locals h (fun y => if y = x then some (.int (i : Int) t) else kstB u (ps c) y) → News h₀ env.locals h (Led c ++ own) →
      wpAny (model prog w) A (execs body env) (FPost h₀ env.locals { s with heap := h, toks := tk } [I] own Led ps (J (i + 1)) Q) E { s with heap := h, toks := tk })
    (done : ∀ (c : σ) (u : Str → Option Value) h tk, J n c → Fr h₀ env.locals h (kstB u (ps c)) → News h₀ env.locals h (Led c) → Q .next { s with heap := h, toks := tk }) :
    wpAny (model prog w) A (pyIter (.ref r)) (fun it s₂ => LoopAtV prog w A h₀ env x body Q E it s₂) E s := by
  subst hb
  refine wpAny_pyIter_range hr (small_one (by omega) (by omega) (by omega) (by omega)) ?_
  have hsz : Builtin.Range.rangeSize 0 (n : Int) 1 = (n : Int) := by rw [rangeSize_nat]; omega
  rw [hsz]
  refine my_forV Led ps J c₀ (Walks.range (n := n) hh s.heap.objs.size 0 1) ?_ ?_ ?_ (F.push _) (N.grown fun b o e => Heap.get?_push_of_some _ e) ?_ hk hJ ?_ done
  · intro hm; exact absurd F.ns.lt ((List.mem_singleton.mp hm) ▸ Nat.lt_irrefl _)
  · intro b hb; rw [List.mem_singleton.mp hb]; exact next_is_new F
  · show IsRangeIter _ _ _ _ _
    have := Heap.get?_push_size s.heap (o := { cls := .type "range_iterator", data := .fields #[rawInt 0, rawInt (n : Int), rawInt 1] }) rfl
    simpa [IsRangeIter] using this
  · exact mem_lt N
  · rintro i v c u h tk own hi ⟨t, rfl⟩ hj hnw hown1 hown3 hst F1 N1
    rw [show (0 + (i : Int) * 1) = i by omega] at F1
    exact turn i t c u h tk own s.heap.objs.size _ hi hj (fun p hp e => hnw p hp (List.mem_singleton.mpr e)) (fun p hp => List.mem_singleton.mp (hown1 p hp)) (hown3 _ (List.mem_singleton.mpr rfl) (next_is_new F) _ hst) (by show Value.type "range_iterator" ≠ Value.type "tuple"; decide) F1 N1
end
/-- triples lie among the tuples -/
theorem Trips.strip {R Z : List (Addr × Obj)} {vs : List Value} {ks : List Int} (h : Trips R vs ks) (hz : ∀ p ∈ R, p.2.cls = .type "tuple" → p ∈ Z) : Trips Z vs ks := by
  refine ⟨h.1, fun i hi => ?_⟩
  obtain ⟨a, f, i, j, t, u, x, e, hm, r⟩ := h.2 i hi
  exact ⟨a, f, i, j, t, u, x, e, hz _ hm rfl, r⟩
end Mine
end
section
open PySem PySem.W PyProof.Rows PySem.Spec PySem.Calls
namespace Mine
open LCg LCp
theorem name_it {D l : Addr} {o : Obj} {nw : List (Addr × Obj)} (h : D < l ∧ AllLt l nw) : ∃ l', l' = l ∧ ∀ p ∈ (D, o) :: nw, p.1 < l' :=
  ⟨l, rfl, fun p hp => by
    rcases List.mem_cons.mp hp with rfl | hp
    · exact h.1
    · exact of_allLt h.2 p hp⟩
theorem tneq {P : Prop} [Decidable P] (z : (true != decide P) = true) : ¬ P := by simpa using z
theorem fneq {P : Prop} [Decidable P] (z : (false != decide P) = true) : P := by simpa using z
theorem near_sub {a b : Addr × Obj} {Y own : List (Addr × Obj)} : ∀ z ∈ a :: b :: Y, z ∈ a :: b :: (Y ++ own) := fun z hz => by
  simp only [List.mem_cons, List.mem_append] at hz ⊢
  rcases hz with h | h | h <;> simp [h]
theorem name3 {l' D' D1 l : Addr} {Y : List (Addr × Obj)} (h : l' < D' ∧ D1 < D' ∧ l < D' ∧ AllLt D' Y) : ∃ nr, nr = D' ∧ ∃ t0, t0 = D1 ∧ t0 < nr ∧ l < nr ∧ ∀ p ∈ Y, p.1 < nr :=
  ⟨D', rfl, D1, rfl, h.2.1, h.2.2.1, of_allLt h.2.2.2⟩
theorem News.rot {h₀ h : Heap} {L : Addr} {a b c d : Addr × Obj} {r : List (Addr × Obj)} (N : News h₀ L h (a :: b :: c :: d :: r)) : News h₀ L h (a :: d :: c :: r) := News.sub N fun p hp => by
  simp only [List.mem_cons] at hp ⊢
  rcases hp with h | h | h | h <;> simp [h]
theorem nat_pt {z : Int × Int} (h : 0 ≤ z.1 ∧ z.1 ≤ 3 ∧ 0 ≤ z.2 ∧ z.2 ≤ 3) : ∃ p q : Nat, z = ((p : Int), (q : Int)) ∧ p ≤ 3 ∧ q ≤ 3 :=
  ⟨z.1.toNat, z.2.toNat, Prod.ext (by dsimp only; omega) (by dsimp only; omega), by omega, by omega⟩
theorem NearOk.bound {ps : List (Int × Int)} {i j : Nat} {np : List (Int × Int)} (h : NearOk ps i j np) (hl : ps.length ≤ 6) (k : Nat) (hk : k < 4) : 0 ≤ (np.getD k (0, 0)).2 ∧ (np.getD k (0, 0)).2 < 10 := by
  rcases h.2 k hk with ⟨h1, _⟩ | ⟨_, j', h2, h3, h4, _⟩
  · rw [h1]; decide
  · rw [h4]; dsimp only; omega
/-- a test is true, the heap unmoved -/
def BEnd (s : Shared) (b : Bool) (s' : Shared) : Prop := b = true ∧ ∃ tk, s' = { s with toks := tk }
theorem test_cut {M : Model} {A : Around} {E : Value → Shared → Prop} {s : Shared} {t : Sem Bool} {K : Bool → Shared → Prop} (h1 : wpAny M A t (fun b s' => BEnd s b s') E s) (h2 : ∀ tk, K true { s with toks := tk }) : wpAny M A t K E s :=
  wpAny_mono h1 (fun b s' h => by obtain ⟨rfl, tk, rfl⟩ := h; exact h2 tk) fun _ _ h => h
theorem set_same {vs : List Value} {k : Nat} {v : Value} (h : vs.getD k .none = v) (hk : k < vs.length) : vs.set k v = vs := by
  subst h
  rw [List.getD_eq_getElem?_getD, List.getElem?_eq_getElem hk]
  exact List.set_getElem_self hk
theorem near_sub2 {a b c : Addr × Obj} {Y own : List (Addr × Obj)} : ∀ z ∈ a :: b :: (c :: Y), z ∈ c :: a :: b :: (Y ++ own) := fun z hz => by
  simp only [List.mem_cons, List.mem_append] at hz ⊢
  rcases hz with h | h | h | h <;> simp [h]
theorem near_sub3 {a b c : Addr × Obj} {Y own : List (Addr × Obj)} : ∀ z ∈ a :: b :: Y, z ∈ c :: a :: b :: (Y ++ own) := fun z hz => by
  simp only [List.mem_cons, List.mem_append] at hz ⊢
  rcases hz with h | h | h <;> simp [h]
theorem near_off {D nr l I : Addr} {o oI o1 o2 : Obj} {Y own : List (Addr × Obj)} (h : nr < D ∧ l < D ∧ AllLt D (Y ++ own)) (hI : (I, oI) ∈ own) (hn : ∀ p ∈ (nr, o1) :: (l, o2) :: Y, p.1 ≠ I) {o3 : Obj} : ∀ p ∈ (nr, o3) :: (l, o2) :: (D, o) :: Y, p.1 ∉ [I] := by
  have h9 := of_allLt h.2.2 (I, oI) (List.mem_append_right _ hI)
  intro p hp hm
  rcases List.mem_cons.mp hp with rfl | hp
  · exact hn _ (.head _) (List.mem_singleton.mp hm)
  · rcases List.mem_cons.mp hp with rfl | hp
    · exact hn _ (.tail _ (.head _)) (List.mem_singleton.mp hm)
    · rcases List.mem_cons.mp hp with rfl | hp
      · exact Nat.ne_of_gt h9 (List.mem_singleton.mp hm)
      · exact hn _ (.tail _ (.tail _ hp)) (List.mem_singleton.mp hm)
theorem near_far {D nr l : Addr} {o : Obj} {Y own : List (Addr × Obj)} (h : nr < D ∧ l < D ∧ AllLt D (Y ++ own)) (y2 : ∀ p ∈ Y, p.1 ≠ nr ∧ p.1 ≠ l) : ∀ p ∈ (D, o) :: Y, p.1 ≠ nr ∧ p.1 ≠ l := by
  intro p hp
  rcases List.mem_cons.mp hp with rfl | hp
  · exact ⟨Nat.ne_of_gt h.1, Nat.ne_of_gt h.2.1⟩
  · exact y2 p hp
theorem near_upd {D nr l I : Addr} {o o1 o1' o2 : Obj} {Y own : List (Addr × Obj)} (h : nr < D ∧ l < D ∧ AllLt D (Y ++ own)) (hl : l < nr) (y2 : ∀ p ∈ Y, p.1 ≠ nr ∧ p.1 ≠ l) (ho : ∀ p ∈ own, p.1 = I) (hn : ∀ p ∈ (nr, o1) :: (l, o2) :: Y, p.1 ≠ I) :
    Upd nr o1 o1' ((D, o) :: (nr, o1) :: (l, o2) :: (Y ++ own)) ((D, o) :: (nr, o1') :: (l, o2) :: (Y ++ own)) := by
  refine .tail (Nat.ne_of_gt h.1) (.head fun p hp => ?_)
  rcases List.mem_cons.mp hp with rfl | hp
  · exact Nat.ne_of_lt hl
  · rcases List.mem_append.mp hp with hp | hp
    · exact (y2 p hp).1
    · intro e
      exact hn _ (.head _) ((e.symm.trans (ho p hp)))
theorem near_start {ps : List (Int × Int)} {i t0 nr l I : Nat} {tu tv : Nat} {o : Obj} {X own : List (Addr × Obj)} (hnr : t0 < nr ∧ l < nr ∧ ∀ p ∈ X ++ own, p.1 < nr) (hl1 : l < t0 ∧ AllLt t0 (X ++ own)) (s2 : ∀ p ∈ X, p.1 ≠ l) (ho : ∀ p ∈ own, p.1 = I) (hn : ∀ p ∈ (l, o) :: X, p.1 ≠ I) :
    (∀ p ∈ X ++ own, p ∈ (t0, tupO [.int 99 tu, .int 0 tv]) :: (X ++ own)) ∧ (∀ p ∈ (t0, tupO [.int 99 tu, .int 0 tv]) :: (X ++ own), p.1 ≠ nr ∧ p.1 ≠ l) ∧
    Pts ((t0, tupO [.int 99 tu, .int 0 tv]) :: (X ++ own)) [.ref t0, .ref t0, .ref t0, .ref t0] [(99, 0), (99, 0), (99, 0), (99, 0)] ∧ NearOk ps i 0 [(99, 0), (99, 0), (99, 0), (99, 0)] := by
  refine ⟨fun p hp => .tail _ hp, fun p hp => ?_, ⟨rfl, fun k hk => ?_⟩, NearOk.init ps i⟩
  · rcases List.mem_cons.mp hp with rfl | hp
    · exact ⟨Nat.ne_of_lt hnr.1, Nat.ne_of_gt hl1.1⟩
    · refine ⟨Nat.ne_of_lt (hnr.2.2 p hp), ?_⟩
      rcases List.mem_append.mp hp with hp | hp
      · exact s2 p hp
      · intro e; exact hn _ (.head _) (e.symm.trans (ho p hp))
  · match k, hk with
    | 0, _ => exact ⟨t0, tu, tv, rfl, .head _⟩
    | 1, _ => exact ⟨t0, tu, tv, rfl, .head _⟩
    | 2, _ => exact ⟨t0, tu, tv, rfl, .head _⟩
    | 3, _ => exact ⟨t0, tu, tv, rfl, .head _⟩
theorem tie_off {D nr l I : Addr} {o oN oL : Obj} {Z own : List (Addr × Obj)} (h : l < D ∧ nr < D ∧ AllLt D (Z ++ own)) (hl : l < nr) (z2 : ∀ p ∈ Z, p.1 ≠ l) (ho : ∀ p ∈ own, p.1 = I ∨ p.1 = nr) (hn : ∀ p ∈ (l, oL) :: (nr, oN) :: Z, p.1 ≠ I) :
    ∀ p ∈ (D, o) :: (nr, oN) :: (Z ++ own), p.1 ≠ l := by
  intro p hp
  rcases List.mem_cons.mp hp with rfl | hp
  · exact Nat.ne_of_gt h.1
  · rcases List.mem_cons.mp hp with rfl | hp
    · exact Nat.ne_of_gt hl
    · rcases List.mem_append.mp hp with hp | hp
      · exact z2 p hp
      · intro e
        rcases ho p hp with q | q
        · exact hn _ (.head _) (e.symm.trans q)
        · exact Nat.ne_of_lt hl (e.symm.trans q)
theorem tie_far {D nr l I : Addr} {o oI oN oL oL' : Obj} {Z own : List (Addr × Obj)} (h : l < D ∧ nr < D ∧ AllLt D (Z ++ own)) (hI : (I, oI) ∈ own) (hn : ∀ p ∈ (l, oL) :: (nr, oN) :: Z, p.1 ≠ I) : ∀ p ∈ (l, oL') :: (nr, oN) :: (D, o) :: Z, p.1 ∉ [I] := by
  intro p hp hm
  have e := List.mem_singleton.mp hm
  rcases List.mem_cons.mp hp with rfl | hp
  · exact hn _ (.head _) e
  · rcases List.mem_cons.mp hp with rfl | hp
    · exact hn _ (.tail _ (.head _)) e
    · rcases List.mem_cons.mp hp with rfl | hp
      · exact Nat.ne_of_gt (of_allLt h.2.2 (I, oI) (List.mem_append_right _ hI)) e
      · exact hn _ (.tail _ (.tail _ hp)) e
theorem tie_ne {D nr l : Addr} {o : Obj} {Z own : List (Addr × Obj)} (h : l < D ∧ nr < D ∧ AllLt D (Z ++ own)) (z2 : ∀ p ∈ Z, p.1 ≠ l) : ∀ p ∈ (D, o) :: Z, p.1 ≠ l := by
  intro p hp
  rcases List.mem_cons.mp hp with rfl | hp
  · exact Nat.ne_of_gt h.1
  · exact z2 p hp
theorem tie_strip {D nr : Addr} {o : Obj} {nv : List Value} {n : Nat} {Z own : List (Addr × Obj)} (h : ∀ p ∈ own, p.2.cls ≠ .type "tuple") : ∀ p ∈ (D, o) :: (nr, listOf nv.toArray n) :: (Z ++ own), p.2.cls = .type "tuple" → p ∈ (D, o) :: Z := by
  intro p hp hc
  rcases List.mem_cons.mp hp with rfl | hp
  · exact .head _
  · rcases List.mem_cons.mp hp with rfl | hp
    · exact absurd hc (by show Value.type "list" ≠ Value.type "tuple"; decide)
    · rcases List.mem_append.mp hp with hp | hp
      · exact .tail _ hp
      · exact absurd hc (h p hp)
theorem tie_sub {a b c : Addr × Obj} {Z own : List (Addr × Obj)} : ∀ z ∈ a :: b :: c :: Z, z ∈ a :: c :: b :: (Z ++ own) := fun z hz => by
  simp only [List.mem_cons, List.mem_append] at hz ⊢
  rcases hz with h | h | h | h <;> simp [h]
theorem tie_keep {a b : Addr × Obj} {f : Addr × Obj → Bool} {Z : List (Addr × Obj)} : ∀ z ∈ a :: Z.filter f, z ∈ a :: b :: Z := fun z hz => by
  simp only [List.mem_cons, List.mem_filter] at hz ⊢
  rcases hz with h | h <;> simp [h]
theorem tie_out {l I : Addr} {oL : Obj} {Z : List (Addr × Obj)} (h : l ≠ I) : ∀ z ∈ (l, oL) :: Z.filter (fun p => decide (p.1 ≠ I)), z.1 ∉ [I] := fun z hz hm => by
  rcases List.mem_cons.mp hz with rfl | hz
  · exact h (List.mem_singleton.mp hm)
  · exact of_decide_eq_true (List.mem_filter.mp hz).2 (List.mem_singleton.mp hm)
theorem News.swap {h₀ h : Heap} {L : Addr} {a b : Addr × Obj} {r : List (Addr × Obj)} (N : News h₀ L h (a :: b :: r)) : News h₀ L h (b :: a :: r) := News.sub N fun p hp => by
  simp only [List.mem_cons] at hp ⊢
  rcases hp with h | h | h <;> simp [h]
section
variable {prog : Program} {w : World} {A : Around} {E : Value → Shared → Prop} {s : Shared} {h₀ : Heap} {L D : Addr} {m : Str → Option Value} {news : List (Addr × Obj)} {vs : List Value} {n : Nat}
theorem item_R {value slice : PySem.Expr} {k : Int} {u : Tok} {v : Value} {Q : Value → Shared → Prop} (N : News h₀ L s.heap news) (hm : (D, listOf vs.toArray n) ∈ news) (he : vs.getD k.toNat .none = v) (h0 : 0 ≤ k) (h1 : k < vs.length) (hfit : vs.length ≤ 100000) (h : Q v s)
    (hs : subscripted slice false (.ref D) (.int k u) = operate [.ref D, .int k u] (getItem (.ref D) (.int k u)) := by with_unfolding_all rfl) :
    wpAny (model prog w) A (subscriptTail value slice (.ref D) (.int k u)) Q E s := item_L N hm h0 h1 hfit (he ▸ h) hs
end
section
variable {w : World} {mean : ExcName → Option Value} {mg mb : Str → Option Value} {dp un : Nat} {gd : Option (List Code)} {cn : Str} {cs : Scope} {a : Addr} {ccd : Value} {cl : List (Str × Addr)} {outer : List Env} {A₀ : Around} {base h₀ : Heap} {L : Addr} {m : Str → Option Value} {s : Shared} {Q E : Value → Shared → Prop} {R : List (Addr × Obj)}
local macro_rules | `(tactic| omega) => `(tactic| first | lia | omega +splitNatSub)
local macro_rules | `(tactic| k_all) => `(tactic| assumption)
local macro_rules | `(tactic| k_mem) => `(tactic| ((repeat (first | assumption | refine List.mem_cons_of_mem _ ?_ | refine List.mem_append_left _ ?_)); done))
local macro_rules | `(tactic| walk_at "call ref") => `(tactic| refine hold ?_)
local macro_rules | `(tactic| walk_at "pyIter ref") => `(tactic| refine hold ?_)
local macro_rules | `(tactic| walk_at "call builtin:len") => `(tactic| (k_here; (with_reducible show wpAny _ _ (call (Value.builtin "len") [Value.ref _]) _ _ _); k_dflt (refine' len_L ?k1 ?k2 ?k3 ?_; (case k1 => k_asm); (case k2 => k_mem); (case k3 => omega); k_whole); intro t' tk'))
local macro_rules | `(tactic| walk_at "binaryOp Mult ref int") => `(tactic| (k_here; (with_reducible show wpAny _ _ (binaryOp Operator.Mult (Value.ref _) (Value.int _ _)) _ _ _); k_dflt (refine' KMa.mul ?F ?N ?l ?lo ?hi ?z ?e ?_; (case F => k_asm); (case N => k_asm); (case l => is_list); (case lo => first | omega | decide); (case hi => first | omega | decide); (case z => (simp only [List.length_cons, List.length_nil]; decide)); (case e => (simp only [Int.reduceToNat, List.replicate_succ, List.replicate_zero, List.flatten_cons, List.flatten_nil, List.cons_append, List.nil_append, List.append_nil]; first | done | exact rfl)); k_whole); intro D' h' F' N' l1; (try k_lt l1); (try k_sweep)))
local macro_rules | `(tactic| walk_at "subscriptTail") => `(tactic| (k_here; (with_reducible show wpAny _ _ (subscriptTail _ _ (Value.ref _) (Value.int _ _)) _ _ _); k_dflt (refine' item_R ?k1 ?k2 ?k3 ?k4 ?k5 ?k6 ?_ ?k7; (case k1 => k_asm); (case k2 => k_mem); (case k3 => assumption); (case k4 => omega); (case k5 => omega); (case k6 => omega); (case k7 => with_unfolding_all rfl); k_whole)))
local macro_rules | `(tactic| walk_at "call builtin:min") => `(tactic| refine hold ?_)
local macro_rules | `(tactic| walk_at "subscriptTail Name Name ref int") => `(tactic| ((with_reducible show wpAny _ _ (subscriptTail (Expr.Name (Str.ofString "near") _) _ (Value.ref _) (Value.int _ _)) _ _ _); refine hold ?_))
local macro_rules | `(tactic| walk_at "setItem ref int") => `(tactic| refine hold ?_)
local macro_rules | `(tactic| walk_at "exec For Tuple Name cons nil") => `(tactic| refine hold ?_)
local macro_rules | `(tactic| walk_at "TPost") => `(tactic| dsimp only [TPost])
local macro_rules | `(tactic| walk_at "FPost") => `(tactic| dsimp only [FPost])
local macro_rules | `(tactic| walk_at "SrcLP") => `(tactic| refine hold ?_)
local macro_rules | `(tactic| walk_at "CompEnd") => `(tactic| refine hold ?_)
theorem ties_tells {S : Addr} {vs : List Value} {ps : List (Int × Int)} {n : Nat}
    (C : Cxt w mean mg mb A₀ base outer h₀ L m cs s.heap) (N : News h₀ L s.heap R) (hS : (S, listOf vs.toArray n) ∈ R) (hv : Pts R vs ps) (hps : ∀ p ∈ ps, 0 ≤ p.1 ∧ p.1 ≤ 3 ∧ 0 ≤ p.2 ∧ p.2 ≤ 3) (hlen : ps.length ≤ 6)
    (hdp : dp + 7 < recursionLimit) (hun : un + 56 < cLine)
    (ret : ∀ D (us : List Value) e T h' tk' R', Fr h₀ L h' m → News h₀ L h' ((D, listOf us.toArray e) :: R') → (∀ p ∈ R, p ∈ R') → (∀ p ∈ R', p.1 ≠ D) → Trips R' us T → TiesOk ps T → IsHeap T → T.length ≤ 24 → Q (.ref D) { s with heap := h', toks := tk' }) :
    wpAny (model PySem.Challenge.rw_qj0007_01.row.prog w) (ktrTop dp un gd cn cs L a ccd cl outer) (call (.ref 153) [.ref S]) Q E s := by
  w_top off
  obtain ⟨B, F, X, T, hk⟩ := C
  have hvl := hv.1
  revert X
  k_fill
  intro X
  refine wpAny_call ?_
  k_dflt ktr_enter
  k_steps
  refine unhold ?_
  rename Fr _ _ _ _ => lF
  rename News _ _ _ _ => lN
  refine SrcLP.ledger (by rfl) lF lN hS (by rw [sizeLine_eq, List.size_toArray]; omega) fun g => ?_
  refine comp_P vs.toArray.size (fun i ys nw => (∀ p ∈ R, p ∈ nw) ∧ Kns nw ys (ps.take i)) ?turn ?fin _ 0 [] R rfl ⟨fun p hp => hp, rfl, fun i hi => by simp at hi⟩
  case turn =>
    intro i ys nw v hi hI hP
    obtain ⟨hsub, hK⟩ := hI
    rw [List.size_toArray] at hi
    have hi' : i < ps.length := by omega
    have hp := hv.2 i hi'
    have hb := hps (ps.getD i (0, 0)) (by rw [List.getD_eq_getElem?_getD, List.getElem?_eq_getElem hi']; exact List.getElem_mem hi')
    have ev : vs.getD i .none = v := by
      have : vs[i]? = some v := by simpa using hP
      rw [List.getD_eq_getElem?_getD, this]; rfl
    rw [ev] at hp
    obtain ⟨ax, t, u, rfl, hm⟩ := hp
    obtain ⟨p1, e1⟩ : ∃ k : Nat, (ps.getD i (0, 0)).1 = k := ⟨_, (Int.toNat_of_nonneg hb.1).symm⟩
    obtain ⟨p2, e2⟩ : ∃ k : Nat, (ps.getD i (0, 0)).2 = k := ⟨_, (Int.toNat_of_nonneg hb.2.2.1).symm⟩
    rw [e1, e2] at hm
    have hm' := hsub _ hm
    refine ⟨ax, _, _, _, _, rfl, hm', rfl, rfl, ?_⟩
    clear lF lN
    intro I oI C oC D m₂ h tk E' hC hx hy F1 N1 off ne
    k_steps
    refine unhold ?_
    rename Fr _ _ _ _ => lF
    rename News _ _ _ _ => lN
    refine known_tells (by omega) (by omega) ⟨by assumption, lF, by assumption, by assumption, rfl⟩ lN (by show dp + 1 + 5 < recursionLimit; omega) (by ktr_units) ?_
    clear lF lN
    intro v h9 tk9 tl F9 N9 S9 K9
    k_steps
    refine unhold ?_
    rename Fr _ _ _ _ => lF
    rename News _ _ _ _ => lN
    have eK : Known (tl ++ nw) v (ps.getD i (0, 0)).1.toNat (ps.getD i (0, 0)).2.toNat := by
      rw [e1, e2, Int.toNat_natCast, Int.toNat_natCast]
      exact K9.mono fun p hp => List.mem_append_left _ hp
    refine CompEnd.intro lF lN (tl ++ nw) ?_ (Off3.app ?_ off) (.inr ⟨_, List.mem_append_right _ (hsub _ hS), rfl, _, rfl⟩) ⟨fun p hp => List.mem_append_right _ (hsub _ hp), ?_⟩
    · intro p hp
      simp only [List.mem_append, List.mem_cons] at hp ⊢
      rcases hp with hp | hp | hp | hp | hp <;> simp [hp]
    · intro p hp
      have h2 := (S9 p hp).2
      exact ⟨Nat.ne_of_gt (h2 (I, oI) (by simp)), Nat.ne_of_gt (h2 (C, oC) (by simp)), Nat.ne_of_gt (h2 (D, lst ys) (by simp))⟩
    · have := (hK.mono (R' := tl ++ nw) fun p hp => List.mem_append_right _ hp).append eK
      rwa [show ps.take i ++ [ps.getD i (0, 0)] = ps.take (i + 1) by rw [List.take_succ, List.getD_eq_getElem?_getD, List.getElem?_eq_getElem hi']; rfl] at this
  intro ys nw ⟨hsub, hK⟩ D h tk F1 N1 off
  clear lF lN
  rw [List.size_toArray, hvl, List.take_length] at hK
  have hS' := hsub _ hS
  k_steps
  refine unhold ?_
  rename IsRange _ _ _ _ _ _ _ _ => hR
  rename Fr _ _ _ _ => lF
  rename News _ _ _ _ => lN
  rename D < _ ∧ AllLt _ nw => hlt
  obtain ⟨l, rfl, hlt'⟩ := name_it (o := lst ys) hlt
  refine' my_rangeC ps.length (σ := List Value × Nat × List Int × List (Addr × Obj)) (fun c => (l, listOf c.1.toArray c.2.1) :: c.2.2.2)
    (fun c => [(Str.ofString "spots", Value.ref S), (Str.ofString "known", Value.ref D), (Str.ofString "ties", Value.ref l)])
    (fun i c => (∀ p ∈ (D, lst ys) :: nw, p ∈ c.2.2.2) ∧ (∀ p ∈ c.2.2.2, p.1 ≠ l) ∧ Trips c.2.2.2 c.1 c.2.2.1 ∧ TInv ps i 0 c.2.2.1)
    ([], 0, [], _) rfl hR ?q0 ?q1 lF lN ?q2 ?q3 ?q4 ?q5
  case q0 => omega
  case q1 => omega
  case q2 => kst_all
  case q3 => exact ⟨fun p hp => hp, fun p hp => Nat.ne_of_lt (hlt' p hp), ⟨rfl, fun i hi => absurd hi (Nat.not_lt_zero _)⟩, TInv.init ps⟩
  case q5 =>
    clear lF lN
    rintro ⟨us, e, ks, X⟩ u5 h8 tk8 ⟨s1, s2, s3, s4⟩ F3 N3
    dsimp only [kstB, envOf, List.cons_append] at F3 N3 s1 s2 s3 s4
    try dsimp only
    k_steps
    have fin := s4.fin
    exact ret _ us e ks _ _ X (by assumption) (by assumption) (fun p hp => s1 p (.tail _ (hsub p hp))) s2 s3 fin.1 fin.2.1 (by omega)
  clear lF lN
  rintro i ti ⟨us, e, ks, X⟩ u5 h8 tk8 own I oI hi ⟨s1, s2, s3, s4⟩ hnI hownI hImem hcI F3 N3
  dsimp only [kstB, envOf, List.cons_append] at F3 N3 s1 s2 s3 s4 hnI
  dsimp only
  refine hide fun Q1 hQ1 => ?_
  clear hR
  have hS'' : (S, listOf vs.toArray n) ∈ X := s1 _ (.tail _ hS')
  k_steps
  refine unhold ?_
  rename IsRange _ _ _ _ _ _ _ _ => hR
  rename Fr _ _ _ _ => lF
  rename News _ _ _ _ => lN
  rename l < _ ∧ AllLt _ (X ++ own) => hl1
  rename _ < _ ∧ _ < _ ∧ l < _ ∧ AllLt _ (X ++ own) => hl3
  obtain ⟨nr, rfl, t0, rfl, hnr⟩ := name3 hl3
  replace lN := News.rot lN
  have hKl := hK.1
  refine' my_range ps.length (σ := List Value × List (Int × Int) × List (Addr × Obj)) (fun c => (nr, listOf c.1.toArray 0) :: (l, listOf us.toArray e) :: c.2.2)
    (fun c => [(Str.ofString "spots", Value.ref S), (Str.ofString "known", Value.ref D), (Str.ofString "ties", Value.ref l), (Str.ofString "near", Value.ref nr), (Str.ofString "i", Value.int i ti)])
    (fun j c => (∀ p ∈ X ++ own, p ∈ c.2.2) ∧ (∀ p ∈ c.2.2, p.1 ≠ nr ∧ p.1 ≠ l) ∧ Pts c.2.2 c.1 c.2.1 ∧ NearOk ps i j c.2.1)
    ([.ref t0, .ref t0, .ref t0, .ref t0], [(99, 0), (99, 0), (99, 0), (99, 0)], _) rfl hR ?r0 ?r1 lF lN ?r2 ?r3 ?r4 ?r5
  case r0 => omega
  case r1 => omega
  case r2 => kst_all
  case r3 => exact near_start hnr hl1 s2 hownI hnI
  case r5 =>
    clear lF lN
    rintro ⟨nv, np, Y⟩ u6 h7 tk7 ⟨y1, y2, y3, y4⟩ F4 N4
    dsimp only [kstB, envOf] at F4 N4 y1 y2 y3 y4
    dsimp only
    k_steps
    refine unhold ?_
    rename Fr _ _ _ _ => lF
    refine For_invTF lF ?_ (by intro _; rfl)
    k_steps
    refine unhold ?_
    rename Fr _ _ _ _ => lF
    rename News _ _ _ _ => lN
    have hYX : ∀ p ∈ X, p ∈ Y := fun p hp => y1 p (List.mem_append_left _ hp)
    have hnv : nv.length = 4 := y3.1.trans y4.1
    refine' my_listT (l := nr) (vs := nv) (n := 0) (σ := List Value × Nat × List Int × List (Addr × Obj)) (fun c => (l, listOf c.1.toArray c.2.1) :: (nr, listOf nv.toArray 0) :: c.2.2.2)
      (fun c => [(Str.ofString "spots", Value.ref S), (Str.ofString "known", Value.ref D), (Str.ofString "ties", Value.ref l), (Str.ofString "near", Value.ref nr), (Str.ofString "i", Value.int i ti)])
      (fun k c => (∀ p ∈ Y, p ∈ c.2.2.2) ∧ (∀ p ∈ c.2.2.2, p.1 ≠ l) ∧ Trips c.2.2.2 c.1 c.2.2.1 ∧ TInv ps i k c.2.2.1)
      (us, e, ks, Y) (by rfl) (.tail _ (.head _)) lF (News.swap lN) ?x2 ⟨fun p hp => hp, fun p hp => (y2 p hp).2, s3.mono hYX, s4⟩ ?x4 ?x5
    case x2 => kst_all
    case x5 =>
      clear lF lN
      rintro ⟨us', e', ks', Z⟩ u9 h6 tk6 ⟨z1, z2, z3, z4⟩ F6 N6
      dsimp only [kstB, envOf, List.cons_append] at F6 N6 z1 z2 z3 z4
      try dsimp only
      rw [hnv] at z4
      have hIZ : (I, oI) ∈ Z := z1 _ (y1 _ (List.mem_append_right _ hImem))
      have hZI : ∀ p ∈ Z, p.2.cls = .type "tuple" → p ∈ Z.filter (fun p => decide (p.1 ≠ I)) := by
        intro p hp hc
        refine List.mem_filter.mpr ⟨hp, decide_eq_true fun e => ?_⟩
        have q1 := (N6 p (.tail _ (.tail _ hp))).1
        rw [e, (N6 _ (.tail _ (.tail _ hIZ))).1] at q1
        exact hcI ((congrArg Obj.cls (Option.some.inj q1)).trans hc)
      k_steps
      rename Fr _ _ _ _ => lF
      rename News _ _ _ _ => lN
      refine hQ1 _ _ ?_
      dsimp only [FPost]
      refine' FEnd.intro (us', e', ks', Z.filter (fun p => decide (p.1 ≠ I))) lF lN ?ea ?eb ?ec ?ed ⟨fun z hz => List.mem_filter.mpr ⟨z1 _ (hYX _ (s1 _ hz)), decide_eq_true (hnI z (.tail _ (s1 _ hz)))⟩, fun z hz => z2 z (List.mem_filter.mp hz).1, z3.strip hZI, TInv.next z4⟩
      case ed => kst_all
      case ea => exact tie_keep
      case eb => exact fun z hz => .tail _ (.tail _ (z1 z (y1 z (List.mem_append_right _ hz))))
      case ec => exact tie_out (hnI _ (.head _))
    clear lF lN
    rintro k v ⟨us', e', ks', Z⟩ u8 s₁ own3 I3 oI3 hk4 hv4 ⟨z1, z2, z3, z4⟩ hnI3 hown3 hI3 hno3 F5 N5
    dsimp only [kstB, envOf, List.cons_append] at F5 N5 z1 z2 z3 z4 hnI3
    try dsimp only
    refine hide fun Q3 hQ3 => ?_
    rw [hnv] at hk4
    have hvk : nv.getD k .none = v := by rw [List.getD_eq_getElem?_getD, hv4]; rfl
    obtain ⟨r, tf, tj, er, mr⟩ := y3.2 k (by rw [y4.1]; exact hk4)
    have hbj := y4.bound hlen k hk4
    have hsk := fun hf => z4.skip (np := np) y4 hk4 hps hf
    have hpu := fun hf => z4.push (np := np) y4 hi hk4 hf
    obtain ⟨f, jx, efj⟩ : ∃ f jx, np.getD k (0, 0) = (f, jx) := ⟨_, _, rfl⟩
    rw [hvk] at er
    subst er
    rw [efj] at mr hbj hsk hpu
    dsimp only at mr hbj hsk hpu
    replace mr := z1 _ mr
    k_steps
    refine hQ3 _ _ ?_
    dsimp only
    refine hide fun Q6 hQ6 => ?_
    k_steps
    · refine unhold ?_
      rename Fr _ _ _ _ => lF
      rename News _ _ _ _ => lN
      rename l < _ ∧ _ ∧ AllLt _ (Z ++ own3) => hl5
      rename f < 99 => hf
      refine heappush_tells (R := (_, tupO [.int f tf, .int i ti, .int jx tj]) :: (nr, listOf nv.toArray 0) :: (Z ++ own3)) ⟨by assumption, lF, by assumption, by assumption, rfl⟩ (News.swap lN) (tie_off hl5 hnr.2.1 z2 hown3 hnI3) (z3.mono fun z hz => .tail _ (.tail _ (List.mem_append_left _ hz)))
        ⟨_, f, i, jx, tf, ti, tj, rfl, .head _, by omega, by omega, hbj.1, hbj.2, rfl⟩ (by have := z4.2.2.2; omega) (by show dp + 1 + 3 < recursionLimit; omega) (by ktr_units) ?_
      clear lF lN
      intro vs9 n9 h9 tk9 F9 N9 T9
      k_steps
      rename Fr _ _ _ _ => lF
      rename News _ _ _ _ => lN
      refine hQ6 _ _ ?_
      dsimp only [TPost]
      refine' FEnd.intro (vs9, n9, _, (_, tupO [.int f tf, .int i ti, .int jx tj]) :: Z) lF lN ?ta ?tb (tie_far hl5 hI3 hnI3) ?td ⟨fun z hz => .tail _ (z1 z hz), tie_ne hl5 z2, T9.strip (tie_strip hno3), hpu hf⟩
      case td => kst_all
      case ta => exact tie_sub
      case tb => exact fun z hz => .tail _ (.tail _ (.tail _ (List.mem_append_right _ hz)))
    · rename Fr _ _ _ _ => lF
      rename News _ _ _ _ => lN
      rename ¬ f < 99 => hf
      refine hQ6 _ _ ?_
      dsimp only [TPost]
      refine' FEnd.intro (us', e', ks', Z) lF lN ?sa ?sb (fun z hz hm => hnI3 z hz (List.mem_singleton.mp hm)) ?sd ⟨z1, z2, z3, hsk hf⟩
      case sd => kst_all
      case sa => exact near_sub
      case sb => exact fun z hz => .tail _ (.tail _ (List.mem_append_right _ hz))
  clear lF lN hR
  rintro j tj ⟨nv, np, Y⟩ u6 h7 tk7 own2 I2 oI2 hj ⟨y1, y2, y3, y4⟩ hnI2 hownI2 hImem2 F4 N4
  dsimp only [kstB, envOf, List.cons_append] at F4 N4 y1 y2 y3 y4 hnI2
  dsimp only
  refine hide fun Q2 hQ2 => ?_
  have hYX : ∀ p ∈ X, p ∈ Y := fun p hp => y1 p (List.mem_append_left _ hp)
  have hYn : ∀ p ∈ nw, p ∈ Y := fun p hp => hYX p (s1 p (.tail _ hp))
  obtain ⟨p, q, ei, hp3, hq3⟩ := nat_pt (hps _ (pt_mem hi))
  obtain ⟨p', q', ej, hp3', hq3'⟩ := nat_pt (hps _ (pt_mem hj))
  have Pi := (hv.2 i hi).mono fun z hz => hYn z (hsub z hz)
  have Pj := (hv.2 j hj).mono fun z hz => hYn z (hsub z hz)
  have Ki := (hK.2 i hi).mono hYn
  have Kj := (hK.2 j hj).mono hYn
  rw [show ps.getD i (0, 0) = ((p : Int), (q : Int)) from ei] at Pi Ki
  rw [show ps.getD j (0, 0) = ((p' : Int), (q' : Int)) from ej] at Pj Kj
  dsimp only at Ki Kj
  rw [Int.toNat_natCast, Int.toNat_natCast] at Ki Kj
  obtain ⟨ai, tai, uai, eai, mai⟩ := id Pi
  obtain ⟨aj, taj, uaj, eaj, maj⟩ := id Pj
  dsimp only at mai maj
  rw [eai] at Pi
  rw [eaj] at Pj
  obtain ⟨bi, xi, tki, vi1, vi2, vi3, ebi, mbi, hxi, wi1, wi2, wi3⟩ := Ki
  obtain ⟨bj, xj, tkj, vj1, vj2, vj3, ebj, mbj, hxj, wj1, wj2, wj3⟩ := Kj
  obtain ⟨xi1, di1, ki1, _, _, _, _, _, _, _, _, _, _, _, _, _, _, rfl, mi11, mi12⟩ := id wi1
  obtain ⟨xi3, di3, ki3, _, _, _, _, _, _, _, _, _, _, _, _, _, _, rfl, mi31, mi32⟩ := id wi3
  have hSY := hYX _ hS''
  have hDY := hYX _ (s1 _ (.head _))
  obtain ⟨dv, edv, dv0, dv9⟩ : ∃ d : Int, Hold (dueF ((p : Int), (q : Int)) ((p' : Int), (q' : Int)) = d) ∧ 0 ≤ d ∧ d < 99 := ⟨_, hold rfl, due_nonneg _ _, due_small (p := ((p : Int), (q : Int))) (q := ((p' : Int), (q' : Int))) (by dsimp only; omega) (by dsimp only; omega)⟩
  have edd : Hold (dd ps i j = dv) := by
    show dueF (pt ps i) (pt ps j) = dv
    rw [show pt ps i = _ from ei, show pt ps j = _ from ej]; exact edv
  obtain ⟨bm, hbm⟩ : ∃ b, decide ((p' : Int) - p > 0 ∧ (p' : Int) - p + ((q' : Int) - q) ≥ 0) = b := ⟨_, rfl⟩
  obtain ⟨bw, hbw⟩ : ∃ b, decide ((q' : Int) - q ≥ 0 ∧ (p' : Int) - p + ((q' : Int) - q) > 0) = b := ⟨_, rfl⟩
  have hkind : kindF (pt ps i) (pt ps j) = (if bm = true then 1 else 0) + (if bw = true then 2 else 0) := by
    rw [kindF, show pt ps i = _ from ei, show pt ps j = _ from ej, ← hbm, ← hbw]
    simp only [decide_eq_true_eq]
  refine execs_app (l1 := [_, _, _, _, _]) ?_
  refine cutW F4 (σ := Nat) (fun _ => (nr, listOf nv.toArray 0) :: (l, listOf us.toArray e) :: (Y ++ own2))
    (fun _ => [(Str.ofString "more", Value.bool bm), (Str.ofString "wide", Value.bool bw), (Str.ofString "spots", Value.ref S), (Str.ofString "known", Value.ref D), (Str.ofString "ties", Value.ref l), (Str.ofString "near", Value.ref nr), (Str.ofString "i", Value.int i ti), (Str.ofString "j", Value.int j tj)]) (fun _ => True) ?chk ?rest
  case chk =>
    refine hide fun Q4 hQ4 => ?_
    k_steps
    refine unhold ?_
    rename Fr _ _ _ _ => lF
    rename News _ _ _ _ => lN
    refine less_tells (R := Y) ⟨by assumption, lF, by assumption, by assumption, rfl⟩ lN (fun z hz => .tail _ (.tail _ (List.mem_append_left _ hz))) wi1 wj2 (by show dp + 1 + 2 < recursionLimit; omega) (by ktr_units) ?_
    clear lF lN
    intro h5 tk5 F5 N5
    rw [show (decide (((1 + p + q : Nat) : Int) < ((p' + (q' + 2) : Nat) : Int)) && decide (((1 + p : Nat) : Int) ≤ (p' : Int))) = bm by rw [← hbm, ← Bool.decide_and]; exact decide_eq_decide.mpr (by omega)]
    k_steps
    refine unhold ?_
    rename Fr _ _ _ _ => lF
    rename News _ _ _ _ => lN
    refine less_tells (R := Y) ⟨by assumption, lF, by assumption, by assumption, rfl⟩ lN (fun z hz => .tail _ (.tail _ (List.mem_append_left _ hz))) wi3 wj3 (by show dp + 1 + 2 < recursionLimit; omega) (by ktr_units) ?_
    clear lN
    intro h4 tk4 F6 N6
    clear lF
    rw [show (decide (((q + p : Nat) : Int) < ((q' + p' : Nat) : Int)) && decide ((q : Int) ≤ (q' : Int))) = bw by rw [← hbw, ← Bool.decide_and]; exact decide_eq_decide.mpr (by omega)]
    cases bm <;> cases bw
    all_goals (first | have hM := of_decide_eq_true hbm | have hM := of_decide_eq_false hbm)
    all_goals (first | have hW := of_decide_eq_true hbw | have hW := of_decide_eq_false hbw)
    all_goals k_steps
    all_goals (try (exfalso; first | omega | (rename (true != decide _) = true => z; have z' := tneq z; omega) | (rename (false != decide _) = true => z; have z' := fneq z; omega)))
    all_goals (rename Fr _ _ _ _ => eF)
    all_goals (rename News _ _ _ _ => eN)
    all_goals (refine hQ4 _ _ ⟨rfl, ?_⟩)
    all_goals (refine WEnd.intro 0 eF eN (fun q hq => hq) (by kst_all) trivial)
  rintro _ u8 h8 tk8 _ F8 N8
  dsimp only [kstB] at F8
  dsimp only
  clear F4 N4
  by_cases h0 : (bm || bw) = true
  rotate_left
  · obtain ⟨rfl, rfl⟩ : bm = false ∧ bw = false := by cases bm <;> cases bw <;> simp_all
    k_steps
    rename Fr _ _ _ _ => eF
    rename News _ _ _ _ => eN
    refine hQ2 _ _ ?_
    dsimp only [FPost]
    refine' FEnd.intro (nv, np, Y) eF eN ?za0 ?zb0 ?zc0 ?zd0 ⟨y1, y2, y3, y4.skip hkind⟩
    case zd0 => kst_all
    case za0 => exact near_sub
    case zb0 => exact fun z hz => .tail _ (.tail _ (List.mem_append_right _ hz))
    case zc0 => exact fun z hz hm => hnI2 z hz (List.mem_singleton.mp hm)
  obtain ⟨kk, hkk, hk1, hk4⟩ : ∃ k : Nat, ((if bm = true then 1 else 0) + (if bw = true then 2 else 0) : Int) = k ∧ 1 ≤ k ∧ k < 4 := by
    cases bm <;> cases bw <;> first | exact absurd h0 (by decide) | exact ⟨1, rfl, by decide, by decide⟩ | exact ⟨2, rfl, by decide, by decide⟩ | exact ⟨3, rfl, by decide, by decide⟩
  rw [hkk] at hkind
  have hdif : ¬ (p = p' ∧ q = q') := fun ⟨e1, e2⟩ => by rw [← hbm, ← hbw, e1, e2] at h0; simp at h0
  refine wpAny_execs_cons ?_
  refine wpAny_If ?_
  refine test_cut ?tst ?_
  case tst =>
    cases bm <;> cases bw <;> first | exact absurd h0 (by decide) | skip
    all_goals k_steps
    all_goals exact ⟨rfl, _, rfl⟩
  intro tk1
  rw [if_pos rfl]
  refine execs_app (l1 := [_, _, _]) ?_
  refine cutW F8 (σ := Nat × Nat) (fun _ => (nr, listOf nv.toArray 0) :: (l, listOf us.toArray e) :: (Y ++ own2))
    (fun c => [(Str.ofString "kind", Value.int kk c.1), (Str.ofString "due", Value.int dv c.2), (Str.ofString "spots", Value.ref S), (Str.ofString "known", Value.ref D), (Str.ofString "ties", Value.ref l), (Str.ofString "near", Value.ref nr), (Str.ofString "i", Value.int i ti), (Str.ofString "j", Value.int j tj)]) (fun _ => True) ?mid ?last
  case mid =>
    refine hide fun Q5 hQ5 => ?_
    k_steps
    refine unhold ?_
    rename Fr _ _ _ _ => lF
    rename News _ _ _ _ => lN
    refine due_tells2 (R := Y) edv ⟨by assumption, lF, by assumption, by assumption, rfl⟩ lN (fun z hz => .tail _ (.tail _ (List.mem_append_left _ hz))) Pi Pj (by show dp + 1 + 2 < recursionLimit; omega) (by ktr_units) ?_
    clear lF lN
    intro t9 h9 tk9 F9 N9
    k_steps
    refine unhold ?_
    rename Fr _ _ _ _ => lF
    rename News _ _ _ _ => lN
    refine lev_lead2 edv hxi hxj hdif hp3 hq3 hp3' hq3' ⟨by assumption, lF, by assumption, by assumption, rfl⟩ lN (by show dp + 1 + 5 < recursionLimit; omega) (by ktr_units) ?_
    clear lF lN
    intro t10 h10 tk10 F10 N10
    dsimp only at F10 ⊢
    cases bm <;> cases bw <;> first | exact absurd h0 (by decide) | skip
    all_goals k_steps
    all_goals (first | exact absurd rfl ‹dv ≠ dv› | skip)
    all_goals (rename Fr _ _ _ _ => eF)
    all_goals (rename News _ _ _ _ => eN)
    all_goals (refine hQ5 _ _ ⟨rfl, ?_⟩)
    all_goals (rw [show ((kk : Nat) : Int) = _ from hkk.symm])
    · refine' WEnd.intro (_, _) eF eN (fun q hq => hq) ?ps1 trivial
      case ps1 => kst_all
    · refine' WEnd.intro (_, _) eF eN (fun q hq => hq) ?ps2 trivial
      case ps2 => kst_all
    · refine' WEnd.intro (_, _) eF eN (fun q hq => hq) ?ps3 trivial
      case ps3 => kst_all
  rintro ⟨u10, t9⟩ u11 h10 tk10 _ F10 N10
  dsimp only [kstB] at F10
  dsimp only
  clear F8 N8
  have hkn : kk < nv.length := by rw [y3.1, y4.1]; exact hk4
  obtain ⟨r, tf, tj', er, mr⟩ := y3.2 kk (by rw [y4.1]; exact hk4)
  have jb := y4.bound hlen kk hk4
  obtain ⟨fk, jk, efj⟩ : ∃ f j, np.getD kk (0, 0) = (f, j) := ⟨_, _, rfl⟩
  have hn4 : nv.length ≤ 100000 := by rw [y3.1, y4.1]; decide
  rw [efj] at mr jb
  dsimp only at mr jb
  k_steps
  refine unhold ?_
  rename Fr _ _ _ _ => lF
  rename News _ _ _ _ => lN
  refine item_R lN (.head _) (v := .ref r) (by rw [Int.toNat_natCast]; exact er) (Int.natCast_nonneg _) (Int.ofNat_lt.mpr hkn) hn4 ?_
  k_steps
  refine unhold ?_
  rename Fr _ _ _ _ => lF
  rename News _ _ _ _ => lN
  try dsimp only at lF ⊢
  rename _ ∧ _ ∧ AllLt _ (Y ++ own2) => hl4
  refine min_pair (by rfl) (by ktr_units) lF lN (a := r) (f := fk) (j := jk) (t := tf) (u := tj') (.tail _ (.tail _ (.tail _ (List.mem_append_left _ mr)))) (.head _) jb.1 jb.2 (by omega) (by omega) ?_ ?_
  · clear lF lN
    intro hlt11 h11 tk11 F11 N11
    k_steps
    refine unhold ?_
    refine' set_L (vs := nv) (n := 0) (k := (kk : Int)) F11 N11 (near_upd hl4 hnr.2.1 y2 hownI2 hnI2) (Int.natCast_nonneg _) (Int.ofNat_lt.mpr hkn) hn4 ?_
    clear F11 N11
    intro h12 F12 N12
    rw [Int.toNat_natCast] at N12
    k_steps
    refine hQ2 _ _ ?_
    dsimp only [FPost]
    refine' FEnd.intro (nv.set kk (.ref _), np.set kk (dd ps i j, (j : Int)), (_, tupO [.int dv t9, .int j tj]) :: Y) F12 N12 near_sub2 ?zb3 (near_off hl4 hImem2 hnI2) ?zd3 ⟨fun z hz => .tail _ (y1 z hz), near_far hl4 y2, ?zg3, y4.take (k := kk) hj hkind hk1 hk4 ?zf3⟩
    case zd3 => kst_all
    case zb3 => exact fun z hz => .tail _ (.tail _ (.tail _ (List.mem_append_right _ hz)))
    case zf3 => (have e9 : dd ps i j = dv := edd); (rw [e9, efj]); (show dv ≤ fk); (have := jb.2); omega
    case zg3 => exact (y3.mono fun z hz => .tail _ hz).set (k := (dd ps i j, (j : Int))) ⟨_, t9, tj, rfl, by rw [show dd ps i j = dv from edd]; exact .head _⟩ kk
  · clear lF lN
    intro hlt11 h11 tk11 F11 N11
    k_steps
    refine unhold ?_
    refine' set_L (vs := nv) (n := 0) (k := (kk : Int)) F11 N11 (near_upd hl4 hnr.2.1 y2 hownI2 hnI2) (Int.natCast_nonneg _) (Int.ofNat_lt.mpr hkn) hn4 ?_
    clear F11 N11
    intro h12 F12 N12
    rw [Int.toNat_natCast, set_same er hkn] at N12
    k_steps
    refine hQ2 _ _ ?_
    dsimp only [FPost]
    refine' FEnd.intro (nv, np, Y) F12 N12 near_sub3 ?yb3 (fun z hz hm => hnI2 z hz (List.mem_singleton.mp hm)) ?yd3 ⟨y1, y2, y3, y4.keep (k := kk) hkind hk1 hk4 ?yg3 ?yf3⟩
    case yd3 => kst_all
    case yb3 => exact fun z hz => .tail _ (.tail _ (.tail _ (List.mem_append_right _ hz)))
    case yg3 => rw [show dd ps i j = dv from edd]; exact dv9
    case yf3 => (have e9 : dd ps i j = dv := edd); (rw [e9, efj]); (show fk ≤ dv); (have := jb.1); omega
end
end Mine
end
section
open PySem PySem.W PyProof.Rows PySem.Spec PySem.Calls
namespace Mine
open LCg LCp
structure NSt where
  tv : List Value
  te : Nat
  ks : List Int
  hv : List Value
  hn : Nat
  H : Addr
  homes : List Int
  av : List Value
  an : Nat
  taken : List Int
  o1 : Obj
  o2 : Obj
theorem net_name {H a b T0 l : Addr} {R : List (Addr × Obj)} (h : H < l ∧ a < l ∧ b < l ∧ T0 < l ∧ AllLt l R) : ∃ TK, TK = l ∧ H < TK ∧ a < TK ∧ b < TK ∧ T0 < TK ∧ ∀ p ∈ R, p.1 < TK :=
  ⟨l, rfl, h.1, h.2.1, h.2.2.1, h.2.2.2.1, of_allLt h.2.2.2.2⟩
theorem net_perm {h₀ h : Heap} {L : Addr} {a b c d e : Addr × Obj} {r : List (Addr × Obj)} (N : News h₀ L h (a :: b :: c :: d :: e :: r)) : News h₀ L h (e :: a :: b :: c :: d :: r) := News.sub N fun p hp => by
  simp only [List.mem_cons] at hp ⊢
  rcases hp with h | h | h | h | h | h <;> simp [h]
theorem net_off {TK H T0 L' : Addr} {o1 o2 o3 o4 : Obj} {R : List (Addr × Obj)} (h1 : T0 < TK) (h2 : T0 < L') (h3 : T0 ≠ H) (hR : ∀ p ∈ R, p.1 ≠ T0) : ∀ p ∈ (TK, o1) :: (H, o2) :: (L' + 1 + 1, o3) :: (L' + 1, o4) :: R, p.1 ≠ T0 := by
  intro p hp
  rcases List.mem_cons.mp hp with rfl | hp
  · exact Nat.ne_of_gt h1
  · rcases List.mem_cons.mp hp with rfl | hp
    · exact Ne.symm h3
    · rcases List.mem_cons.mp hp with rfl | hp
      · exact Nat.ne_of_gt (Nat.lt_succ_of_lt (Nat.lt_succ_of_lt h2))
      · rcases List.mem_cons.mp hp with rfl | hp
        · exact Nat.ne_of_gt (Nat.lt_succ_of_lt h2)
        · exact hR p hp
theorem Trips.stripT {R Z : List (Addr × Obj)} {vs : List Value} {ks : List Int} (h : Trips R vs ks) (hz : ∀ a xs, (a, tupO xs) ∈ R → (a, tupO xs) ∈ Z) : Trips Z vs ks := by
  refine ⟨h.1, fun i hi => ?_⟩
  obtain ⟨a, f, i, j, t, u, x, e, hm, r⟩ := h.2 i hi
  exact ⟨a, f, i, j, t, u, x, e, hz _ _ hm, r⟩
theorem Trip.stripT {R Z : List (Addr × Obj)} {v : Value} {k : Int} (h : Trip R v k) (hz : ∀ a xs, (a, tupO xs) ∈ R → (a, tupO xs) ∈ Z) : Trip Z v k := by
  obtain ⟨a, f, i, j, t, u, x, e, hm, r⟩ := h
  exact ⟨a, f, i, j, t, u, x, e, hz _ _ hm, r⟩
theorem net_tup {TK H l1 l2 : Addr} {av hv : List Value} {an hn : Nat} {o1 o2 : Obj} {x1 x2 : Option Value} {R : List (Addr × Obj)} (h1 : o1.data = .cell x1) (h2 : o2.data = .cell x2) :
    ∀ a xs, (a, tupO xs) ∈ (TK, listOf av.toArray an) :: (H, listOf hv.toArray hn) :: (l1, o1) :: (l2, o2) :: R → (a, tupO xs) ∈ R := by
  intro a xs hp
  rcases List.mem_cons.mp hp with e | hp
  · exact absurd (congrArg (fun z => z.2.cls) e) (by show Value.type "tuple" ≠ Value.type "list"; decide)
  · rcases List.mem_cons.mp hp with e | hp
    · exact absurd (congrArg (fun z => z.2.cls) e) (by show Value.type "tuple" ≠ Value.type "list"; decide)
    · rcases List.mem_cons.mp hp with e | hp
      · have := congrArg (fun z => z.2.data) e
        dsimp only at this
        rw [h1] at this
        cases this
      · rcases List.mem_cons.mp hp with e | hp
        · have := congrArg (fun z => z.2.data) e
          dsimp only at this
          rw [h2] at this
          cases this
        · exact hp
theorem net_end {h₀ h : Heap} {L : Addr} {t a b c d : Addr × Obj} {r : List (Addr × Obj)} (N : News h₀ L h (t :: a :: b :: c :: d :: r)) : News h₀ L h (a :: t :: b :: c :: d :: r) := News.sub N fun p hp => by
  simp only [List.mem_cons] at hp ⊢
  rcases hp with h | h | h | h | h | h <;> simp [h]
theorem net_upd2 {TK H T0 L' : Addr} {a b c o1 o2 : Obj} {R : List (Addr × Obj)} (h2 : T0 < L') (h1 : L' + 1 < TK) (h3 : L' + 1 ≠ H) (hR : ∀ p ∈ R, p.1 < L') :
    UpdF (L' + 1) o2 ((T0, a) :: (TK, b) :: (H, c) :: (L' + 1 + 1, o1) :: (L' + 1, o2) :: R) (fun o' => (T0, a) :: (TK, b) :: (H, c) :: (L' + 1 + 1, o1) :: (L' + 1, o') :: R) :=
  .tail (Nat.ne_of_lt (Nat.lt_succ_of_lt h2)) (.tail (Nat.ne_of_gt h1) (.tail (Ne.symm h3) (.tail (Nat.ne_of_gt (Nat.lt_succ_self _)) (.head fun p hp => Nat.ne_of_lt (Nat.lt_succ_of_lt (hR p hp))))))
theorem net_upd1 {TK H T0 L' : Addr} {a b c o1 o2 : Obj} {R : List (Addr × Obj)} (h2 : T0 < L') (h1 : L' + 1 + 1 < TK) (h3 : L' + 1 + 1 ≠ H) (hR : ∀ p ∈ R, p.1 < L') :
    UpdF (L' + 1 + 1) o1 ((T0, a) :: (TK, b) :: (H, c) :: (L' + 1 + 1, o1) :: (L' + 1, o2) :: R) (fun o' => (T0, a) :: (TK, b) :: (H, c) :: (L' + 1 + 1, o') :: (L' + 1, o2) :: R) :=
  .tail (Nat.ne_of_lt (Nat.lt_succ_of_lt (Nat.lt_succ_of_lt h2))) (.tail (Nat.ne_of_gt h1) (.tail (Ne.symm h3) (.head fun p hp => by
    rcases List.mem_cons.mp hp with rfl | hp
    · exact Nat.ne_of_lt (Nat.lt_succ_self _)
    · exact Nat.ne_of_lt (Nat.lt_succ_of_lt (Nat.lt_succ_of_lt (hR p hp))))))
theorem net_updT {D TK H T0 l1 l2 : Addr} {d a b b' c o1 o2 : Obj} {R : List (Addr × Obj)} (h0 : TK ≠ D) (h1 : T0 < TK) (h2 : TK ≠ H) (h3 : l1 < TK) (h4 : l2 < TK) (hR : ∀ p ∈ R, p.1 < TK) :
    Upd TK b b' ((D, d) :: (T0, a) :: (TK, b) :: (H, c) :: (l1, o1) :: (l2, o2) :: R) ((D, d) :: (T0, a) :: (TK, b') :: (H, c) :: (l1, o1) :: (l2, o2) :: R) :=
  .tail (Ne.symm h0) (.tail (Nat.ne_of_lt h1) (.head fun p hp => by
    rcases List.mem_cons.mp hp with rfl | hp
    · exact Ne.symm h2
    · rcases List.mem_cons.mp hp with rfl | hp
      · exact Nat.ne_of_lt h3
      · rcases List.mem_cons.mp hp with rfl | hp
        · exact Nat.ne_of_lt h4
        · exact Nat.ne_of_lt (hR p hp)))
theorem net_keep {D t a b c d : Addr × Obj} {R : List (Addr × Obj)} : ∀ z ∈ t :: a :: D :: c :: d :: R, z ∈ D :: t :: a :: b :: c :: d :: R := fun z hz => by
  simp only [List.mem_cons] at hz ⊢
  rcases hz with h | h | h | h | h | h <;> simp [h]
theorem ints_snoc {vs : List Value} {ns : List Int} (h : IntsAre vs ns) (f : Int) (t : Nat) : IntsAre (vs ++ [.int f t]) (ns ++ [f]) := by
  induction h with
  | nil => exact .cons f t .nil
  | cons n t r ih => exact .cons n t ih
theorem net_frame {h₀ h : Heap} {L T0 : Addr} {m : Str → Option Value} {cnt : Int} {ct : Nat} (F : Fr h₀ L h m) (h1 : m (Str.ofString "ties") = some (.ref T0)) (h2 : m (Str.ofString "count") = some (.int cnt ct)) :
    ∃ u : Str → Option Value, Fr h₀ L h (fun y => if y = Str.ofString "ties" then some (.ref T0) else if y = Str.ofString "count" then some (.int cnt ct) else u y) := by
  refine ⟨m, ?_⟩
  have e : m = (fun y => if y = Str.ofString "ties" then some (.ref T0) else if y = Str.ofString "count" then some (.int cnt ct) else m y) := by
    funext y
    split
    · rename_i e; rw [e]; exact h1
    · split
      · rename_i e; rw [e]; exact h2
      · rfl
  rw [← e]; exact F
section
variable {prog : Program} {w : World} {A : Around} {E : Value → Shared → Prop} {s : Shared} {h₀ : Heap} {L D : Addr} {news : List (Addr × Obj)} {vs : List Value} {n : Nat}
theorem IntsAre.getD' : ∀ {vs : List Value} {ns : List Int}, IntsAre vs ns → ∀ k, k < ns.length → ∃ t, vs.getD k .none = .int (ns.getD k 0) t
  | _, _, .nil, k, h => absurd h (Nat.not_lt_zero _)
  | _, _, .cons n t r, 0, _ => ⟨t, rfl⟩
  | _, _, .cons n t r, k + 1, h => by
    obtain ⟨t', e⟩ := IntsAre.getD' r k (Nat.lt_of_succ_lt_succ h)
    exact ⟨t', by simpa using e⟩
theorem item_I {value slice : PySem.Expr} {k : Int} {u : Tok} {ns : List Int} {Q : Value → Shared → Prop} (N : News h₀ L s.heap news) (hm : (D, listOf vs.toArray n) ∈ news) (hI : IntsAre vs ns) (h0 : 0 ≤ k) (h1 : k < ns.length) (hfit : ns.length ≤ 100000) (h : ∀ t, Q (.int (ns.getD k.toNat 0) t) s)
    (hs : subscripted slice false (.ref D) (.int k u) = operate [.ref D, .int k u] (getItem (.ref D) (.int k u)) := by with_unfolding_all rfl) :
    wpAny (model prog w) A (subscriptTail value slice (.ref D) (.int k u)) Q E s := by
  obtain ⟨t, e⟩ := IntsAre.getD' hI k.toNat (by omega)
  have hl := hI.length
  exact item_L N hm h0 (by omega) (by omega) (e ▸ h t) hs
end
section
variable {w : World} {mean : ExcName → Option Value} {mg mb : Str → Option Value} {dp un : Nat} {gd : Option (List Code)} {cn : Str} {cs : Scope} {a : Addr} {ccd : Value} {cl : List (Str × Addr)} {outer : List Env} {A₀ : Around} {base h₀ : Heap} {L : Addr} {m : Str → Option Value} {s : Shared} {Q E : Value → Shared → Prop} {R : List (Addr × Obj)}
local macro_rules | `(tactic| omega) => `(tactic| first | lia | omega +splitNatSub)
local macro_rules | `(tactic| k_all) => `(tactic| assumption)
local macro_rules | `(tactic| walk_at "call builtin:list.append") => `(tactic| refine hold ?_)
local macro_rules | `(tactic| walk_at "storeName") => `(tactic| ((first | with_reducible show wpAny _ _ (storeName _ (Str.ofString "old") _) _ _ _ | with_reducible show wpAny _ _ (storeName _ (Str.ofString "new") _) _ _ _); refine hold ?_))
local macro_rules | `(tactic| walk_at "subscriptTail") => `(tactic| (k_here; (with_reducible show wpAny _ _ (subscriptTail _ _ (Value.ref _) (Value.int _ _)) _ _ _); k_dflt (refine' item_I ?k1 ?k2 ?k3 ?k4 ?k5 ?k6 ?_ ?k7; (case k1 => k_asm); (case k2 => k_mem); (case k3 => assumption); (case k4 => omega); (case k5 => omega); (case k6 => omega); (case k7 => with_unfolding_all rfl); k_whole); intro t'))
local macro_rules | `(tactic| k_mem) => `(tactic| ((repeat (first | assumption | refine List.mem_cons_of_mem _ ?_ | refine List.mem_append_left _ ?_)); done))
local macro_rules | `(tactic| walk_at "call builtin:len") => `(tactic| (k_here; (with_reducible show wpAny _ _ (call (Value.builtin "len") [Value.ref _]) _ _ _); k_dflt (refine' len_L ?k1 ?k2 ?k3 ?_; (case k1 => k_asm); (case k2 => k_mem); (case k3 => omega); k_whole); intro t' tk'))
local macro_rules | `(tactic| walk_at "call ref") => `(tactic| refine hold ?_)
local macro_rules | `(tactic| walk_at "pyIter ref") => `(tactic| refine hold ?_)
local macro_rules | `(tactic| walk_at "exec While Compare cons nil") => `(tactic| refine hold ?_)
local macro_rules | `(tactic| walk_at "WPost") => `(tactic| dsimp only [WPost])
local macro_rules | `(tactic| walk_at "call type:list") => `(tactic| refine hold ?_)
theorem net_tells {T0 : Addr} {vs : List Value} {ps : List (Int × Int)} {T : List Int} {e cnt ct : Nat}
    (C : Cxt w mean mg mb A₀ base outer h₀ L m cs s.heap) (N : News h₀ L s.heap ((T0, listOf vs.toArray e) :: R)) (hR : ∀ p ∈ R, p.1 ≠ T0) (hv : Trips R vs T) (hT : TiesOk ps T) (hH : IsHeap T) (hlen : T.length ≤ 24) (hps : ps.length ≤ 6) (hc : cnt = ps.length)
    (hdp : dp + 6 < recursionLimit) (hun : un + 48 < cLine)
    (ret : ∀ D (us : List Value) n homes taken h' tk' R', Fr h₀ L h' m → News h₀ L h' ((D, listOf us.toArray n) :: R') → (∀ p ∈ R, p ∈ R') → (∀ p ∈ R, p.1 ≠ D) → IntsAre us taken → KInv ps T homes taken [] → Q (.ref D) { s with heap := h', toks := tk' }) :
    wpAny (model PySem.Challenge.rw_qj0007_01.row.prog w) (ktrTop dp un gd cn cs L a ccd cl outer) (call (.ref 158) [.ref T0, .int cnt ct]) Q E s := by
  w_top off
  obtain ⟨B, F, X, T9, hk⟩ := C
  have hvl := hv.1
  revert X
  k_fill
  intro X
  refine wpAny_call ?_
  k_dflt (refine' code_defC ?k1 ?k2 ?k3 ?k4 ?k5 ?kA ?kF ?kK ?k6 ?k7 ?k8 ?k9 ?kB ?kD ?_ ?c2 ?c3 ?c4; (case kA => exact rfl); (case kF => exact rfl); (case kK => assumption); (case k1 => k_asm); (case k2 => k_asm); (case k3 => k_asm); (case k4 => k_asm); (case k5 => k_asm); (case k6 => k_is); (case k7 => k_is); (case k8 => ktr_room); (case k9 => exact BindsTo.of_eq rfl); (case kB => exact rfl); (case kD => decide +kernel); (case c2 => exact rfl); (case c3 => exact rfl); (case c4 => exact rfl); k_whole)
  intro g' L' h' tk' cells' FG' F' N' Y' B' X' T' l1
  have Y2 := CellsAre.two Y'
  obtain ⟨o1, o2, hE', d1, d2⟩ := Y2
  subst hE'
  clear Y'
  simp only [List.cons_append, List.nil_append] at N'
  obtain ⟨u, F1⟩ := net_frame F' rfl rfl
  clear F'
  replace d1 : o1.data = .cell none := d1
  replace d2 : o2.data = .cell none := d2
  (try dsimp only)
  (try k_fold)
  k_steps
  refine unhold ?_
  rename IsRange _ _ _ _ _ _ _ _ => rR
  rename Fr _ _ _ _ => lF
  rename News _ _ _ _ => lN
  refine list_range_L (n := ps.length) rfl lF lN rR (small_one (by omega) (by omega) (by omega) (by omega)) (by rw [rangeSize_nat]; omega) (by omega) ?_
  clear lF lN
  intro H h1 tk1 ys e1 F1 N1 l2 hI1
  k_steps
  refine unhold ?_
  rename Fr _ _ _ _ => lF
  rename News _ _ _ _ => lN
  rename H < _ ∧ _ ∧ _ ∧ _ ∧ AllLt _ R => hTK0
  obtain ⟨TK, rfl, hTK⟩ := net_name hTK0
  have hL1 : ∀ p ∈ R, p.1 < L' := fun p hp => l1 p (.tail _ hp)
  have hL2 : T0 < L' := l1 _ (.head _)
  have hH0 : L' + 1 + 1 < H := l2 _ (.head _)
  have hlr : (rangeInts 0 1 ps.length).length = ps.length := rangeInts_length ..
  refine' my_while (σ := NSt) (fun c => (T0, listOf c.tv.toArray c.te) :: (TK, listOf c.av.toArray c.an) :: (c.H, listOf c.hv.toArray c.hn) :: (L' + 1 + 1, c.o1) :: (L' + 1, c.o2) :: R)
    (fun c => [(Str.ofString "ties", Value.ref T0), (Str.ofString "taken", Value.ref TK), (Str.ofString "homes", Value.ref c.H)])
    (fun c => Trips R c.tv c.ks ∧ KInv ps T c.homes c.taken c.ks ∧ IntsAre c.hv c.homes ∧ IntsAre c.av c.taken ∧ c.taken.length + c.ks.length ≤ 24 ∧ (T0 ≠ c.H ∧ TK ≠ c.H ∧ L' + 1 + 1 ≠ c.H ∧ L' + 1 ≠ c.H) ∧ (∃ x, c.o1.data = .cell x) ∧ (∃ x, c.o2.data = .cell x))
    (fun c => c.ks.length) ⟨vs, e, T, ys, e1, H, rangeInts 0 1 ps.length, [], 0, [], o1, o2⟩ lF (net_perm lN) ?ps ⟨hv, KInv.init hH hlr (fun i hi => ?ini), hI1, .nil, ?len, ⟨Nat.ne_of_lt (Nat.lt_trans (Nat.lt_succ_of_lt (Nat.lt_succ_of_lt hL2)) hH0), Nat.ne_of_gt hTK.1, Nat.ne_of_lt hH0, Nat.ne_of_lt (Nat.lt_trans (Nat.lt_succ_self _) hH0)⟩, ⟨_, d1⟩, ⟨_, d2⟩⟩ ?turn
  case ps => kst_all
  case ini =>
    rw [List.getD_eq_getElem?_getD, rangeInts_get hi]
    simp
  case len => simpa using hlen
  clear lF lN hTK0 hI1
  rintro ⟨tv, te, ks, hv, hn, H, homes, av, an, taken, oc1, oc2⟩ u1 h2 tk2 ⟨p1, p2, p3, p4, p5, p6, ⟨x1, p8⟩, ⟨x2, p9⟩⟩ F2 N2
  dsimp only [kstB] at F2 N2 p1 p2 p3 p4 p5 p6 p8 p9 ⊢
  have hvl := p1.1
  refine hideW fun P1 R1 hP1 hR1 => ?_
  k_steps
  · refine unhold ?_
    rename Fr _ _ _ _ => lF
    rename News _ _ _ _ => lN
    have hpos : 0 < tv.length := by omega
    refine heappop_tells (R := (TK, listOf av.toArray an) :: (H, listOf hv.toArray hn) :: (L' + 1 + 1, oc1) :: (L' + 1, oc2) :: R) ⟨by assumption, lF, by assumption, by assumption, rfl⟩ lN (net_off hTK.2.2.2.1 hL2 p6.1 hR) (p1.mono fun z hz => .tail _ (.tail _ (.tail _ (.tail _ hz)))) (by omega) (by omega) (by show dp + 1 + 4 < recursionLimit; omega) (by ktr_units) ?_
    clear lF lN
    intro v vs9 n9 h9 tk9 F9 N9 t9 T9
    replace T9 := T9.stripT (net_tup p8 p9)
    replace t9 := t9.stripT (net_tup p8 p9)
    obtain ⟨b, f, fi, fj, q1, q2, q3, rfl, hm, b1, b2, b3, b4, hk9⟩ := t9
    obtain ⟨ni, rfl⟩ : ∃ n : Nat, fi = n := ⟨fi.toNat, by omega⟩
    obtain ⟨nj, rfl⟩ : ∃ n : Nat, fj = n := ⟨fj.toNat, by omega⟩
    have hH2 : IsHeap ks := by obtain ⟨_, _, hq, _⟩ := p2; exact hq
    have hpop := (pop_heap (l := ks) (by omega) hH2).2.length_eq
    rw [List.length_cons] at hpop
    obtain ⟨g1, g2, g3, g4, g5⟩ := p2.step (by omega) hT (by omega) (by omega) (by omega) hk9
    k_steps
    · refine unhold ?_
      rename Fr _ _ _ _ => lF
      rename News _ _ _ _ => lN
      refine storeX_C (c := L' + 1) lF lN rfl (net_upd2 hL2 hTK.2.2.1 p6.2.2.2 hL1) p9 ?_
      clear lF lN
      intro h3 oc2' F3 N3 p9'
      (try dsimp only)
      k_steps
      refine unhold ?_
      rename Fr _ _ _ _ => lF
      rename News _ _ _ _ => lN
      refine storeX_C (c := L' + 1 + 1) lF lN rfl (net_upd1 hL2 hTK.2.1 p6.2.2.1 hL1) p8 ?_
      clear lF lN
      intro h4 oc1' F4 N4 p8'
      (try dsimp only)
      k_steps
      refine unhold ?_
      rename Fr _ _ _ _ => lF
      rename News _ _ _ _ => lN
      rename IntsAre _ (List.map _ homes) => hI8
      rename T0 ≠ _ ∧ _ ∧ _ ∧ _ ∧ _ ∧ Off1 _ R => o9
      have hal := p4.length
      rw [Int.toNat_natCast, Int.toNat_natCast] at hI8
      rename homes.getD _ 0 ≠ homes.getD _ 0 => hne
      rw [Int.toNat_natCast, Int.toNat_natCast] at hne
      refine app_L lF lN (net_updT o9.2.1 hTK.2.2.2.1 p6.2.1 hTK.2.1 hTK.2.2.1 hTK.2.2.2.2) (by omega) ?_
      clear lF lN
      intro h5 F5 N5
      (try dsimp only)
      k_steps
      rename Fr _ _ _ _ => lF
      rename News _ _ _ _ => lN
      refine hP1 _ _ ?_
      dsimp only [WPost]
      refine' WEnd.intro ⟨vs9, n9, hpopL ks, ys, ys.length, _, _, av ++ [.int f q1], an + 1, taken ++ [f], oc1', oc2'⟩ lF lN ?na ?nb ⟨⟨T9, g5 hne, hI8, ints_snoc p4 f q1, ?nc, ⟨o9.1, o9.2.1, o9.2.2.2.1, o9.2.2.2.2.1⟩, ⟨_, p8'⟩, ⟨_, p9'⟩⟩, ?nd⟩
      case nb => kst_all
      case na => exact net_keep
      case nc => simp only [List.length_append, List.length_cons, List.length_nil]; omega
      case nd => (try dsimp only); omega
    · rename Fr _ _ _ _ => lF
      rename News _ _ _ _ => lN
      rename homes.getD _ 0 = homes.getD _ 0 => hne
      rw [Int.toNat_natCast, Int.toNat_natCast] at hne
      refine hP1 _ _ ?_
      dsimp only [WPost]
      refine' WEnd.intro ⟨vs9, n9, hpopL ks, hv, hn, H, homes, av, an, taken, oc1, oc2⟩ lF lN (fun q hq => hq) ?mb ⟨⟨T9, g4 hne, p3, p4, ?mc, p6, ⟨_, p8⟩, ⟨_, p9⟩⟩, ?md⟩
      case mb => kst_all
      case mc => (try dsimp only); omega
      case md => (try dsimp only); omega
  · refine hR1 _ ?_
    (try dsimp only)
    k_steps
    have hpos : ¬ 0 < tv.length := by omega
    have hz : ks = [] := List.length_eq_zero_iff.mp (by omega)
    subst hz
    exact ret TK av an homes taken _ _ _ (by assumption) (net_end (by assumption)) (fun z hz => .tail _ (.tail _ (.tail _ (.tail _ hz)))) (fun z hz => Nat.ne_of_lt (hTK.2.2.2.2 z hz)) p4 p2
end
end Mine
end
section
open PySem PySem.W PyProof.Rows PySem.Spec PySem.Calls
namespace Mine
open LCg LCp
section
variable {prog : Program} {w : World} {A : Around} {E : Value → Shared → Prop} {R : Result → Shared → Prop} {s : Shared}
abbrev twoC (elt : Expr) (t0 i0 t1 i1 : Expr) (scope : Scope) (pos : Pos) : Expr := .ListComp elt [⟨t0, i0, [], 0⟩, ⟨t1, i1, [], 0⟩] scope pos
theorem turn_one (elt t0 i0 t1 i1 : Expr) (scope : Scope) (pos : Pos) (it acc : Value) (env : Env) :
    compTurn (twoC elt t0 i0 t1 i1 scope pos) 1 it acc env = (standAt i1.pos >>= fun _ => pyNext it >>= fun r => match r with
      | none => pure (.done .next)
      | some v => letOwnedTupleGo t1 it v >>= fun _ => assign t1 env v >>= fun _ =>
        (eval elt env >>= fun x => call (.builtin "list.append") [acc, x] >>= fun _ => pure ()) >>= fun _ =>
          again (.compLoop (twoC elt t0 i0 t1 i1 scope pos) 1 it acc env)) := by rfl
theorem turn_zero (elt t0 i0 t1 i1 : Expr) (scope : Scope) (pos : Pos) (it acc : Value) (env : Env) :
    compTurn (twoC elt t0 i0 t1 i1 scope pos) 0 it acc env = (standAt i0.pos >>= fun _ => pyNext it >>= fun r => match r with
      | none => pure (.done .next)
      | some v => letOwnedTupleGo t0 it v >>= fun _ => assign t0 env v >>= fun _ =>
        eval i1 env >>= fun x => standAt i1.pos >>= fun _ => foldedSetIterable i1 env x >>= fun x => holding [x] (pyIter x) >>= fun y =>
          runOwn (.compStart (twoC elt t0 i0 t1 i1 scope pos) 1 y acc env) env >>= fun _ =>
          again (.compLoop (twoC elt t0 i0 t1 i1 scope pos) 0 it acc env)) := by rfl
theorem loop_one {elt t0 i0 t1 i1 : Expr} {scope : Scope} {pos : Pos} {it acc : Value} {env : Env} (I : Nat → Shared → Prop)
    (turn : ∀ n s (E' : Value → Shared → Prop), I n s → wpAny (model prog w) A (pyNext it) (fun r s₁ => match r with
      | none => R (.ok .next) s₁
      | some v => wpAny (model prog w) A (assign t1 env v) (fun _ s₂ => wpAny (model prog w) A (eval elt env) (fun x s₃ =>
          wpAny (model prog w) A (call (.builtin "list.append") [acc, x]) (fun _ s₄ => ∃ m, m < n ∧ I m s₄) E' s₃) E' s₂) E' s₁) E' s)
    (n : Nat) (h : I n s) (ht : ∀ v, letOwnedTupleGo t1 it v = pure () := by intro _; rfl) :
    codeAny (model prog w) A (.compLoop (twoC elt t0 i0 t1 i1 scope pos) 1 it acc env) R s := by
  refine codeAny_loop rfl I (fun n s hI => ?_) n h
  show wpAny _ _ ((compTurn (twoC elt t0 i0 t1 i1 scope pos) 1 it acc env).onRaise (fun x => do noteFrame x env; theTreesLotGoes x)) _ _ s
  refine wpAny_noted ?_
  rw [turn_one]
  refine wpAny_bind (wpAny_standAt (wpAny_bind (wpAny_mono (turn n s _ hI) (fun r s₁ h₁ => ?_) fun _ _ h' => h')))
  cases r with
  | none => exact wpAny_pure h₁
  | some v =>
    refine wpAny_bind (wpAny_of_eq (ht v) ?_)
    exact wpAny_bind (wpAny_mono h₁ (fun _ s₂ h₂ => wpAny_bind (wpAny_bind (wpAny_mono h₂ (fun x s₃ h₃ => wpAny_bind (wpAny_mono h₃
      (fun _ s₄ h₄ => wpAny_pure (wpAny_pure ⟨rfl, h₄⟩)) fun _ _ h' => h')) fun _ _ h' => h'))) fun _ _ h' => h')
theorem loop_zero {elt t0 i0 t1 i1 : Expr} {scope : Scope} {pos : Pos} {it acc : Value} {env : Env} (I : Nat → Shared → Prop)
    (turn : ∀ n s (E' : Value → Shared → Prop), I n s → wpAny (model prog w) A (pyNext it) (fun r s₁ => match r with
      | none => R (.ok .next) s₁
      | some v => wpAny (model prog w) A (assign t0 env v) (fun _ s₂ => wpAny (model prog w) A (eval i1 env) (fun x s₃ => wpAny (model prog w) A (pyIter x) (fun y s₄ =>
          codeAny (model prog w) A (.compStart (twoC elt t0 i0 t1 i1 scope pos) 1 y acc env) (fun r s₅ => match r with | .ok _ => ∃ m, m < n ∧ I m s₅ | .error _ => False) s₄) E' s₃) E' s₂) E' s₁) E' s)
    (n : Nat) (h : I n s) (hs : ∀ x, foldedSetIterable i1 env x = pure x) (ht : ∀ v, letOwnedTupleGo t0 it v = pure () := by intro _; rfl) :
    codeAny (model prog w) A (.compLoop (twoC elt t0 i0 t1 i1 scope pos) 0 it acc env) R s := by
  refine codeAny_loop rfl I (fun n s hI => ?_) n h
  show wpAny _ _ ((compTurn (twoC elt t0 i0 t1 i1 scope pos) 0 it acc env).onRaise (fun x => do noteFrame x env; theTreesLotGoes x)) _ _ s
  refine wpAny_noted ?_
  rw [turn_zero]
  refine wpAny_bind (wpAny_standAt (wpAny_bind (wpAny_mono (turn n s _ hI) (fun r s₁ h₁ => ?_) fun _ _ h' => h')))
  cases r with
  | none => exact wpAny_pure h₁
  | some v =>
    refine wpAny_bind (wpAny_of_eq (ht v) ?_)
    refine wpAny_bind (wpAny_mono h₁ (fun _ s₂ h₂ => wpAny_bind (wpAny_mono h₂ (fun x s₃ h₃ => wpAny_bind (wpAny_standAt (wpAny_bind (wpAny_of_eq (hs x) (wpAny_bind (wpAny_holding (wpAny_mono h₃ (fun y s₄ h₄ => wpAny_bind (wpAny_runOwn (codeAny_mono h₄ fun r s₅ h₅ => ?_))) fun _ _ h' => h'))))))) fun _ _ h' => h')) fun _ _ h' => h')
    cases r with
    | ok f => exact wpAny_pure ⟨rfl, h₅⟩
    | error e => exact False.elim h₅
theorem start_at {elt t0 i0 t1 i1 : Expr} {scope : Scope} {pos : Pos} {it acc : Value} {env : Env} {d : Nat} (hd : d = 0 ∨ d = 1)
    (h0 : codeAny (model prog w) A (.compLoop (twoC elt t0 i0 t1 i1 scope pos) d it acc env) R s)
    (h : ∀ E', wpAny (model prog w) A (pyIter it) (fun it' s' => codeAny (model prog w) A (.compLoop (twoC elt t0 i0 t1 i1 scope pos) d it' acc env) R s') E' s) :
    codeAny (model prog w) A (.compStart (twoC elt t0 i0 t1 i1 scope pos) d it acc env) R s := by
  rcases hd with rfl | rfl
  · refine codeAny_of_tree ?_
    show wpAny _ _ ((compStart (twoC elt t0 i0 t1 i1 scope pos) 0 it acc env).onRaise (fun x => do noteFrame x env; standAt theWindowsPlace)) _ _ s
    refine wpAny_notedAt ?_
    unfold compStart
    show wpAny _ _ (ask >>= _) _ _ s
    refine wpAny_bind (wpAny_askSetting (wpAny_ite ?_))
    split
    · first
        | exact wpAny_bind (wpAny_pure (wpAny_pure (And.intro rfl h0)))
        | exact wpAny_pure (And.intro rfl h0)
    · first
        | exact wpAny_bind (wpAny_rule (wpAny_bind (wpAny_standAt (wpAny_bind (wpAny_mono (h _) (fun it' s' h' => wpAny_pure (And.intro rfl h')) fun _ _ x => x)))))
        | (refine wpAny_bind (wpAny_rule ?_); show wpAny _ _ (standAt i0.pos >>= _) _ _ s; exact wpAny_bind (wpAny_standAt (wpAny_bind (wpAny_mono (h _) (fun it' s' h' => wpAny_pure (And.intro rfl h')) fun _ _ x => x))))
  · refine codeAny_of_tree ?_
    show wpAny _ _ ((compStart (twoC elt t0 i0 t1 i1 scope pos) 1 it acc env).onRaise (fun x => do noteFrame x env; standAt theWindowsPlace)) _ _ s
    refine wpAny_notedAt ?_
    unfold compStart
    show wpAny _ _ (ask >>= _) _ _ s
    refine wpAny_bind (wpAny_askSetting (wpAny_ite ?_))
    split
    · first
        | exact wpAny_bind (wpAny_pure (wpAny_pure (And.intro rfl h0)))
        | exact wpAny_pure (And.intro rfl h0)
    · first
        | exact wpAny_bind (wpAny_rule (wpAny_bind (wpAny_standAt (wpAny_bind (wpAny_mono (h _) (fun it' s' h' => wpAny_pure (And.intro rfl h')) fun _ _ x => x)))))
        | (refine wpAny_bind (wpAny_rule ?_); show wpAny _ _ (standAt i1.pos >>= _) _ _ s; exact wpAny_bind (wpAny_standAt (wpAny_bind (wpAny_mono (h _) (fun it' s' h' => wpAny_pure (And.intro rfl h')) fun _ _ x => x))))
end
section
variable {prog : Program} {w : World} {A : Around} {R : Result → Shared → Prop} {s : Shared} {h₀ : Heap} {L : Addr} {m : Str → Option Value} {env : Env}
theorem comp_inner {elt t0 i0 i1 : Expr} {x y : Str} {py : Pos} {scope : Scope} {cl : List (Str × Addr)} {pos : Pos} {I J C D b : Addr} {oI : Obj} {v : Value} {vb : List Value} {nb : Nat} {news : List (Addr × Obj)} (Inv : Nat → List Value → List (Addr × Obj) → Prop) (k0 : Nat)
    (hh : A.handled = none) (hkind : scope.kind = .function) (hy : scope.names.lookup y = some .local) (hxy : x ≠ y)
    (hIL : L ≠ I) (hI₀ : h₀.get? I = none) (hCL : C ≠ L) (hC₀ : h₀.get? C = none) (hDL : D ≠ L) (hD₀ : h₀.get? D = none) (hJL : L ≠ J) (hJ₀ : h₀.get? J = none)
    (hIC : I ≠ C) (hID : I ≠ D) (hCD : C ≠ D) (hJI : J ≠ I) (hJC : J ≠ C) (hJD : J ≠ D)
    (hb : (b, listOf vb.toArray nb) ∈ news) (hsz : k0 + vb.length ≤ 1000)
    (turn : ∀ j ys nw v' oJ oC m₂ h tk (E' : Value → Shared → Prop), j < vb.length → vb[j]? = some v' → Inv (k0 + j) ys nw → (∀ p ∈ news, p ∈ nw) → NsObj oC m₂ → m₂ x = some v → m₂ y = some v' → Fr h₀ L h m → News h₀ L h ((I, oI) :: (C, oC) :: (D, lst ys) :: (J, oJ) :: nw) →
      (∀ p ∈ nw, p.1 ≠ I ∧ p.1 ≠ C ∧ p.1 ≠ D ∧ p.1 ≠ J) →
      wpAny (model prog w) A (eval elt (compEnvC scope cl C env)) (fun z s' => ∃ h' tk' nw', s' = { s with heap := h', toks := tk' } ∧ Fr h₀ L h' m ∧ News h₀ L h' ((I, oI) :: (C, oC) :: (D, lst ys) :: (J, oJ) :: nw') ∧
        (∀ p ∈ nw', p.1 ≠ I ∧ p.1 ≠ C ∧ p.1 ≠ D ∧ p.1 ≠ J) ∧ (∀ p ∈ news, p ∈ nw') ∧ Inv (k0 + j + 1) (ys ++ [z]) nw') E' { s with heap := h, toks := tk })
    {h : Heap} {tk : Nat} {ys : List Value} {mC : Str → Option Value} {nw : List (Addr × Obj)}
    (hit : h.IsListIter J b 0) (hI : h.get? I = some oI) (F : Fr h₀ L h m) (hns : h.Ns C mC) (hx : mC x = some v) (N : News h₀ L h ((D, lst ys) :: nw)) (off : ∀ p ∈ nw, p.1 ≠ I ∧ p.1 ≠ C ∧ p.1 ≠ D ∧ p.1 ≠ J) (sub : ∀ p ∈ news, p ∈ nw) (inv : Inv k0 ys nw) (hlen : ys.length = k0)
    (fin : ∀ h tk ys mC nw, h.get? I = some oI → Fr h₀ L h m → h.Ns C mC → News h₀ L h ((D, lst ys) :: nw) → (∀ p ∈ nw, p.1 ≠ I ∧ p.1 ≠ C ∧ p.1 ≠ D ∧ p.1 ≠ J) → (∀ p ∈ news, p ∈ nw) → Inv (k0 + vb.length) ys nw → ys.length = k0 + vb.length → R (.ok .next) { s with heap := h, toks := tk }) :
    codeAny (model prog w) A (.compLoop (twoC elt t0 i0 (.Name y py) i1 scope pos) 1 (.ref J) (.ref D) (compEnvC scope cl C env)) R { s with heap := h, toks := tk } := by
  refine loop_one (fun k s' => ∃ h tk j ys mC nw, s' = { s with heap := h, toks := tk } ∧ j ≤ vb.length ∧ k = vb.length + 1 - j ∧ h.IsListIter J b j ∧ h.get? I = some oI ∧ Fr h₀ L h m ∧ h.Ns C mC ∧ mC x = some v ∧ News h₀ L h ((D, lst ys) :: nw) ∧
    (∀ p ∈ nw, p.1 ≠ I ∧ p.1 ≠ C ∧ p.1 ≠ D ∧ p.1 ≠ J) ∧ (∀ p ∈ news, p ∈ nw) ∧ Inv (k0 + j) ys nw ∧ ys.length = k0 + j) ?_ (vb.length + 1) ⟨h, tk, 0, ys, mC, nw, rfl, Nat.zero_le _, rfl, hit, hI, F, hns, hx, N, off, sub, inv, hlen⟩
  clear hit hI F hns hx N off sub inv hlen
  rintro k s' E' ⟨h, tk, j, ys, mC, nw, rfl, hj, rfl, hit, hI, F, hns, hx, N, off, sub, inv, hlen⟩
  have hl : h.IsList b vb.toArray := PySem.IsL.isList (n := nb) (N _ (.tail _ (sub _ hb))).1
  have hbJ : b ≠ J := (off _ (sub _ hb)).2.2.2
  have W := Walks.list (prog := prog) (w := w) (A := A) hh J b hbJ vb.toArray
  by_cases hlt : j < vb.length
  · refine W.item j _ _ _ (by simpa using hlt) ⟨hit, hl⟩ fun v' h₂ tk₂ hPv hst₂ hk₂ => ?_
    refine wpAny_assign_Name (wpAny_storeName_local (lookup_relabel_local hy) (hns.at' fun o e => hk₂ _ o (by simpa using Ne.symm hJC) e) (fun h₃ hn₃ hs₃ => ?_) (by simp [compEnvC, relabel, hkind]))
    obtain ⟨oC, heC, hoC⟩ := ns_obj hn₃
    have hit₃ : h₃.IsListIter J b (j + 1) := hst₂.1.at fun o e => hs₃.extBut J o hJC e
    obtain ⟨oJ, heJ, hoJ⟩ := id hit₃
    have F₃ : Fr h₀ L h₃ m := (fr_but F hk₂ hJL hJ₀).change hs₃ hCL hC₀
    have N₂ : News h₀ L h₂ ((D, lst ys) :: nw) := news_but N hk₂ fun p hp => by
      rcases List.mem_cons.mp hp with rfl | hp
      · exact Ne.symm hJD
      · exact (off p hp).2.2.2
    have hI₃ : h₃.get? I = some oI := hs₃.extBut _ _ hIC (hk₂ _ _ (by simpa using Ne.symm hJI) hI)
    have N₃ : News h₀ L h₃ ((I, oI) :: (C, oC) :: (D, lst ys) :: (J, oJ) :: nw) := fun p hp => by
      rcases List.mem_cons.mp hp with rfl | hp
      · exact ⟨hI₃, Ne.symm hIL, hI₀⟩
      · rcases List.mem_cons.mp hp with rfl | hp
        · exact ⟨heC, hCL, hC₀⟩
        · rcases List.mem_cons.mp hp with rfl | hp
          · have z := N₂ (D, lst ys) (.head _)
            exact ⟨hs₃.extBut _ _ (Ne.symm hCD) z.1, z.2⟩
          · rcases List.mem_cons.mp hp with rfl | hp
            · exact ⟨heJ, Ne.symm hJL, hJ₀⟩
            · have z := N₂ p (.tail _ hp)
              exact ⟨hs₃.extBut _ _ (off p hp).2.1 z.1, z.2⟩
    refine wpAny_mono (turn j ys nw v' oJ oC _ h₃ _ E' hlt (by simpa using hPv) inv sub hoC (by simp [hxy, hx]) (by simp) F₃ N₃ off) (fun z s₄ h₄ => ?_) fun _ _ e => e
    obtain ⟨h₄, tk₄, nw', rfl, F₄, N₄, off₄, sub₄, inv₄⟩ := h₄
    have zI := (N₄ (I, oI) (.head _)).1
    have zC := (N₄ (C, oC) (.tail _ (.head _))).1
    have zD := (N₄ (D, lst ys) (.tail _ (.tail _ (.head _)))).1
    have zJ := (N₄ (J, oJ) (.tail _ (.tail _ (.tail _ (.head _))))).1
    refine append_at (hsz := by rw [sizeLine_eq, List.size_toArray, hlen]; omega) zD fun h₅ hs₅ hD₅ => ?_
    refine ⟨vb.length + 1 - (j + 1), by omega, h₅, tk₄, j + 1, ys ++ [z], _, nw', rfl, hlt, rfl, ⟨oJ, hs₅.extBut _ _ hJD zJ, hoJ⟩, hs₅.extBut _ _ hID zI, F₄.change hs₅ hDL hD₀, (hoC.ns zC).sameBut hs₅ hCD, by simp [hxy, hx], fun p hp => ?_, off₄, sub₄, inv₄, by rw [List.length_append, hlen]; rfl⟩
    rcases List.mem_cons.mp hp with rfl | hp
    · exact ⟨hD₅.trans (congrArg some (lst_snoc ys z)), hDL, hD₀⟩
    · have z := N₄ p (.tail _ (.tail _ (.tail _ (.tail _ hp))))
      exact ⟨hs₅.extBut _ _ (off₄ p hp).2.2.1 z.1, z.2⟩
  · obtain rfl : j = vb.length := Nat.le_antisymm hj (Nat.not_lt.mp hlt)
    refine W.done _ _ _ (by rw [List.size_toArray]; exact ⟨hit, hl⟩) fun h₂ tk₂ hk₂ => ?_
    exact fin h₂ tk₂ ys mC nw (hk₂ _ _ (by simpa using Ne.symm hJI) hI) (fr_but F hk₂ hJL hJ₀) (hns.at' fun o e => hk₂ _ o (by simpa using Ne.symm hJC) e) (news_but N hk₂ fun p hp => by
      rcases List.mem_cons.mp hp with rfl | hp
      · exact Ne.symm hJD
      · exact (off p hp).2.2.2) off sub inv hlen
end
section
variable {prog : Program} {w : World} {A : Around} {E : Value → Shared → Prop} {s : Shared} {h₀ : Heap} {L : Addr} {m : Str → Option Value} {env : Env}
def TwoEnd (h₀ : Heap) (L : Addr) (m : Str → Option Value) (s : Shared) (I C D J : Addr) (oI oC oJ : Obj) (ys : List Value) (news : List (Addr × Obj)) (P : Value → List (Addr × Obj) → Prop) (z : Value) (s' : Shared) : Prop :=
  ∃ h' tk' nw', s' = { s with heap := h', toks := tk' } ∧ Fr h₀ L h' m ∧ News h₀ L h' ((I, oI) :: (C, oC) :: (D, lst ys) :: (J, oJ) :: nw') ∧
    (∀ p ∈ nw', p.1 ≠ I ∧ p.1 ≠ C ∧ p.1 ≠ D ∧ p.1 ≠ J) ∧ (∀ p ∈ news, p ∈ nw') ∧ P z nw'
/-- one element of a comprehension with two clauses -/
def TwoTurn (prog : Program) (w : World) (A : Around) (h₀ : Heap) (L : Addr) (m : Str → Option Value) (env : Env) (elt : Expr) (x y : Str) (scope : Scope) (cl : List (Str × Addr)) (s : Shared) (va vb : List Value) (news : List (Addr × Obj)) (Inv : Nat → List Value → List (Addr × Obj) → Prop) : Prop :=
  ∀ i j I C D J oI v ys nw v' oJ oC m₂ h tk (E' : Value → Shared → Prop), i < va.length → va[i]? = some v → j < vb.length → vb[j]? = some v' → Inv (i * vb.length + j) ys nw → (∀ p ∈ news, p ∈ nw) → NsObj oC m₂ → m₂ x = some v → m₂ y = some v' → Fr h₀ L h m →
    News h₀ L h ((I, oI) :: (C, oC) :: (D, lst ys) :: (J, oJ) :: nw) → (∀ p ∈ nw, p.1 ≠ I ∧ p.1 ≠ C ∧ p.1 ≠ D ∧ p.1 ≠ J) →
      wpAny (model prog w) A (eval elt (compEnvC scope cl C env)) (TwoEnd h₀ L m { s with heap := h, toks := tk } I C D J oI oC oJ ys news (fun z nw' => Inv (i * vb.length + j + 1) (ys ++ [z]) nw')) E' { s with heap := h, toks := tk }
theorem block_two {elt i0 i1 : Expr} {x y : Str} {px py : Pos} {scope : Scope} {cl : List (Str × Addr)} {pos : Pos} {s₂ : Shared} {I a b : Addr} {va vb : List Value} {na nb : Nat} {news : List (Addr × Obj)} {RR : Value → Addr → Result → Shared → Prop} (Inv : Nat → List Value → List (Addr × Obj) → Prop)
    (hh : A.handled = none) (hcell : ∀ z ∈ scope.names, z.2 ≠ .cell) (hkind : scope.kind = .function) (hx : scope.names.lookup x = some .local) (hy : scope.names.lookup y = some .local) (hxy : x ≠ y)
    (hit : s₂.heap.IsListIter I a 0) (F : Fr h₀ L s₂.heap m) (N : News h₀ L s₂.heap news) (hIL : L ≠ I) (hI₀ : h₀.get? I = none) (off : ∀ p ∈ news, p.1 ≠ I)
    (ha : (a, listOf va.toArray na) ∈ news) (hb : (b, listOf vb.toArray nb) ∈ news) (hsz : va.length ≤ 20) (hsz2 : vb.length ≤ 20) (inv : Inv 0 [] news)
    (hs1 : ∀ C x, foldedSetIterable i1 (compEnvC scope cl C env) x = pure x)
    (hB : ∀ I oI C oC D ys m₂ nw h tk (E' : Value → Shared → Prop), NsObj oC m₂ → Fr h₀ L h m → News h₀ L h ((I, oI) :: (C, oC) :: (D, lst ys) :: nw) → (∀ p ∈ news, p ∈ nw) →
      wpAny (model prog w) A (eval i1 (compEnvC scope cl C env)) (fun xv s' => xv = .ref b ∧ s' = { s₂ with heap := h, toks := tk }) E' { s₂ with heap := h, toks := tk })
    (turn : TwoTurn prog w A h₀ L m env elt x y scope cl s₂ va vb news Inv)
    (hRR : ∀ D C h tk m' ys nw, Fr h₀ L h m → News h₀ L h ((D, lst ys) :: nw) → (∀ p ∈ nw, p.1 ≠ C ∧ p.1 ≠ D) → h.Ns C m' → h₀.get? C = none → h₀.get? D = none → C ≠ L → D ≠ L → C ≠ D → (∀ p ∈ news, p ∈ nw) → Inv (va.length * vb.length) ys nw → RR (.ref D) C (.ok .next) { s₂ with heap := h, toks := tk }) :
    wpAny (model prog w) A (newList []) (fun acc s₃ => wpAny (model prog w) A (newFunctionEnv scope env.globals cl [] env.qual none .none (some env)) (fun cenv s₄ =>
      codeAny (model prog w) A (.compStart (twoC elt (.Name x px) i0 (.Name y py) i1 scope pos) 0 (.ref I) acc { cenv with scope := relabel scope env }) (RR acc cenv.locals) s₄) E s₃) E s₂ := by
  refine wpAny_newObj_type (wpAny_newFunctionEnv hcell (by intro y hy; simp at hy) (fun h₁ hns₁ hsb₁ => ?_) hkind)
  dsimp only at hns₁ hsb₁ ⊢
  generalize hH2 : s₂.heap.push { cls := .type "list", dict := none, data := .seq ([] : List Value).toArray } = H2 at hns₁ hsb₁ ⊢
  have hC : H2.objs.size = s₂.heap.objs.size + 1 := by rw [← hH2, Heap.size_push]
  have hDC : s₂.heap.objs.size ≠ H2.objs.size := by rw [hC]; exact Nat.ne_of_lt (Nat.lt_succ_self _)
  have below : ∀ b, b < s₂.heap.objs.size → b ≠ H2.objs.size ∧ b ≠ s₂.heap.objs.size := fun b hb => ⟨by rw [hC]; exact Nat.ne_of_lt (Nat.lt_succ_of_lt hb), Nat.ne_of_lt hb⟩
  have hIlt : I < s₂.heap.objs.size := by obtain ⟨_, e, _⟩ := id hit; exact Heap.lt_size e
  have old : ∀ b o, s₂.heap.get? b = some o → h₁.get? b = some o := fun b o e => hsb₁.extBut b o (below b (Heap.lt_size e)).1 (Heap.get?_push_of_some _ (hH2 ▸ Heap.get?_push_of_some _ e))
  have hacc : h₁.get? s₂.heap.objs.size = some (lst []) := hsb₁.extBut _ _ hDC (Heap.get?_push_of_some _ (hH2 ▸ Heap.get?_push_size _ rfl))
  have fresh : ∀ a, s₂.heap.objs.size ≤ a → s₂.heap.get? a = none := fun a ha => by
    cases e : s₂.heap.get? a with
    | none => rfl
    | some o' => exact absurd (Heap.lt_size e) (Nat.not_lt.mpr ha)
  have fresh₀ : ∀ a, s₂.heap.objs.size ≤ a → h₀.get? a = none := fun a ha => by
    cases e : h₀.get? a with
    | none => rfl
    | some o' => have := F.keep a o' e; rw [fresh a ha] at this; cases this
  have hD₀ : h₀.get? s₂.heap.objs.size = none := fresh₀ _ (Nat.le_refl _)
  have hC₀ : h₀.get? H2.objs.size = none := fresh₀ _ (by rw [hC]; exact Nat.le_succ _)
  have hLlt : L < s₂.heap.objs.size := F.ns.lt
  have hDL : s₂.heap.objs.size ≠ L := Ne.symm (below L hLlt).2
  have hCL : H2.objs.size ≠ L := Ne.symm (below L hLlt).1
  have hCI : I ≠ H2.objs.size := (below I hIlt).1
  have hDI : I ≠ s₂.heap.objs.size := (below I hIlt).2
  have off₀ : ∀ p ∈ news, p.1 ≠ I ∧ p.1 ≠ H2.objs.size ∧ p.1 ≠ s₂.heap.objs.size := fun p hp => ⟨off p hp, (below _ (Heap.lt_size (N p hp).1)).1, (below _ (Heap.lt_size (N p hp).1)).2⟩
  have hit₁ : h₁.IsListIter I a 0 := hit.at fun o e => old _ _ e
  generalize hCe : H2.objs.size = C at *
  generalize hDe : s₂.heap.objs.size = D at *
  have loop : ∀ s₃ : Shared, s₃ = { s₂ with heap := h₁, toks := s₂.toks + ([] : List (Str × Value)).length } →
      codeAny (model prog w) A (.compLoop (twoC elt (.Name x px) i0 (.Name y py) i1 scope pos) 0 (.ref I) (.ref D) (compEnvC scope cl C env)) (RR (.ref D) C) s₃ := by
    rintro s₃ rfl
    refine loop_zero (fun k s' => ∃ h tk i ys mC nw, s' = { s₂ with heap := h, toks := tk } ∧ i ≤ va.length ∧ k = va.length + 1 - i ∧ h.IsListIter I a i ∧ Fr h₀ L h m ∧ h.Ns C mC ∧ News h₀ L h ((D, lst ys) :: nw) ∧
      (∀ p ∈ nw, p.1 ≠ I ∧ p.1 ≠ C ∧ p.1 ≠ D) ∧ (∀ p ∈ news, p ∈ nw) ∧ Inv (i * vb.length) ys nw ∧ ys.length = i * vb.length) ?_ (va.length + 1)
      ⟨h₁, _, 0, [], _, news, rfl, Nat.zero_le _, rfl, hit₁, F.keeps old, hns₁, fun p hp => ?_, off₀, fun p hp => hp, by rw [Nat.zero_mul]; exact inv, by rw [Nat.zero_mul]; rfl⟩ (hs1 C)
    · clear hit₁ hit inv hns₁ hacc off₀
      rintro k s' E' ⟨h, tk, i, ys, mC, nw, rfl, hi, rfl, hit, F, hns, N, off, sub, inv, hlen⟩
      have hl : h.IsList a va.toArray := PySem.IsL.isList (n := na) (N _ (.tail _ (sub _ ha))).1
      have haI : a ≠ I := (off _ (sub _ ha)).1
      have W := Walks.list (prog := prog) (w := w) (A := A) hh I a haI va.toArray
      by_cases hlt : i < va.length
      · refine W.item i _ _ _ (by simpa using hlt) ⟨hit, hl⟩ fun v h₂ tk₂ hPv hst₂ hk₂ => ?_
        refine wpAny_assign_Name (wpAny_storeName_local (lookup_relabel_local hx) (hns.at' fun o e => hk₂ _ o (by simpa using Ne.symm hCI) e) (fun h₃ hn₃ hs₃ => ?_) (by simp [compEnvC, relabel, hkind]))
        obtain ⟨oC, heC, hoC⟩ := ns_obj hn₃
        have hit₃ : h₃.IsListIter I a (i + 1) := hst₂.1.at fun o e => hs₃.extBut I o hCI e
        obtain ⟨oI, heI, hoI⟩ := id hit₃
        have F₃ : Fr h₀ L h₃ m := (fr_but F hk₂ hIL hI₀).change hs₃ hCL hC₀
        have N₂ : News h₀ L h₂ ((D, lst ys) :: nw) := news_but N hk₂ fun p hp => by
          rcases List.mem_cons.mp hp with rfl | hp
          · exact Ne.symm hDI
          · exact (off p hp).1
        have N₄ : News h₀ L h₃ ((D, lst ys) :: nw) := fun p hp => by
          have z := N₂ p hp
          refine ⟨hs₃.extBut _ _ ?_ z.1, z.2⟩
          rcases List.mem_cons.mp hp with rfl | hp
          · exact hDC
          · exact (off p hp).2.1
        have N₃ : News h₀ L h₃ ((I, oI) :: (C, oC) :: (D, lst ys) :: nw) := fun p hp => by
          rcases List.mem_cons.mp hp with rfl | hp
          · exact ⟨heI, Ne.symm hIL, hI₀⟩
          · rcases List.mem_cons.mp hp with rfl | hp
            · exact ⟨heC, hCL, hC₀⟩
            · exact N₄ p hp
        refine wpAny_mono (hB I oI C oC D ys _ nw h₃ _ E' hoC F₃ N₃ sub) (fun xv s₄ h₄ => ?_) fun _ _ e => e
        obtain ⟨rfl, rfl⟩ := h₄
        have hl₃ : h₃.IsList b vb.toArray := PySem.IsL.isList (n := nb) (N₄ _ (.tail _ (sub _ hb))).1
        refine wpAny_pyIter_list hl₃ ?_
        have ltI : I < h₃.objs.size := Heap.lt_size heI
        have ltC : C < h₃.objs.size := Heap.lt_size heC
        have ltD : D < h₃.objs.size := Heap.lt_size (N₄ _ (.head _)).1
        have hJ₀ : h₀.get? h₃.objs.size = none := next_is_new F₃
        have inner : ∀ tk', codeAny (model prog w) A (.compLoop (twoC elt (.Name x px) i0 (.Name y py) i1 scope pos) 1 (.ref h₃.objs.size) (.ref D) (compEnvC scope cl C env))
            (fun r s₅ => match r with | .ok _ => ∃ m', m' < va.length + 1 - i ∧ ∃ h tk i ys mC nw, s₅ = { s₂ with heap := h, toks := tk } ∧ i ≤ va.length ∧ m' = va.length + 1 - i ∧ h.IsListIter I a i ∧ Fr h₀ L h m ∧ h.Ns C mC ∧ News h₀ L h ((D, lst ys) :: nw) ∧
              (∀ p ∈ nw, p.1 ≠ I ∧ p.1 ≠ C ∧ p.1 ≠ D) ∧ (∀ p ∈ news, p ∈ nw) ∧ Inv (i * vb.length) ys nw ∧ ys.length = i * vb.length | .error _ => False)
            { s₂ with heap := h₃.push { cls := .type "list_iterator", data := .fields #[.ref b, .int 0 0] }, toks := tk' } := by
          intro tk'
          refine comp_inner (s := s₂) (v := v) (oI := oI) (I := I) (vb := vb) (nb := nb) (news := news) Inv (i * vb.length) hh hkind hy hxy hIL hI₀ hCL hC₀ hDL hD₀ (Nat.ne_of_lt F₃.ns.lt) hJ₀ hCI hDI (Ne.symm hDC) (Nat.ne_of_gt ltI) (Nat.ne_of_gt ltC) (Nat.ne_of_gt ltD) hb ?_ ?_
            ⟨_, Heap.get?_push_size _ rfl, rfl, rfl⟩ (Heap.get?_push_of_some _ heI) (F₃.push _) ((hn₃.at' fun o e => Heap.get?_push_of_some _ e)) (by simp) (N₄.grown fun _ _ e => Heap.get?_push_of_some _ e) (fun p hp => ⟨(off p hp).1, (off p hp).2.1, (off p hp).2.2, Nat.ne_of_lt (Heap.lt_size (N₄ p (.tail _ hp)).1)⟩) sub inv hlen ?_
          · have : i * vb.length ≤ 20 * 20 := Nat.mul_le_mul (by omega) hsz2
            omega
          · intro j ys nw v' oJ oC m₂ h tk E' q1 q2 q3 q4 q5 q6 q7 q8 q9 q10
            exact turn i j I C D _ oI v ys nw v' oJ oC m₂ h tk E' hlt (by simpa using hPv) q1 q2 q3 q4 q5 q6 q7 q8 q9 q10
          · intro h tk ys mC nw r1 r2 r3 r4 r5 r6 r7 r8
            exact ⟨va.length + 1 - (i + 1), by omega, h, tk, i + 1, ys, mC, nw, rfl, hlt, rfl, ⟨oI, r1, hoI⟩, r2, r3, r4, fun p hp => ⟨(r5 p hp).1, (r5 p hp).2.1, (r5 p hp).2.2.1⟩, r6, by rw [Nat.succ_mul]; exact r7, by rw [Nat.succ_mul]; exact r8⟩
        exact start_at (.inr rfl) (inner _) fun E'' => wpAny_pyIter_listiter (l := b) (i := 0) ⟨_, Heap.get?_push_size _ rfl, rfl, rfl⟩ (inner _)
      · obtain rfl : i = va.length := Nat.le_antisymm hi (Nat.not_lt.mp hlt)
        refine W.done _ _ _ (by rw [List.size_toArray]; exact ⟨hit, hl⟩) fun h₂ tk₂ hk₂ => ?_
        exact hRR D C h₂ tk₂ mC ys nw (fr_but F hk₂ hIL hI₀) (news_but N hk₂ fun p hp => by
          rcases List.mem_cons.mp hp with rfl | hp
          · exact Ne.symm hDI
          · exact (off p hp).1) (fun p hp => (off p hp).2) (hns.at' fun o e => hk₂ _ o (by simpa using Ne.symm hCI) e) hC₀ hD₀ hCL hDL (Ne.symm hDC) sub inv
    · rcases List.mem_cons.mp hp with rfl | hp
      · exact ⟨hacc, hDL, hD₀⟩
      · exact ⟨old _ _ (N p hp).1, (N p hp).2⟩
  exact start_at (.inl rfl) (loop _ rfl) fun E'' => wpAny_pyIter_listiter hit₁ (loop _ rfl)
theorem ListComp_two {elt i0 i1 : Expr} {x y : Str} {px py : Pos} {scope : Scope} {cl : List (Str × Addr)} {pos : Pos} {a b : Addr} {va vb : List Value} {na nb : Nat} {news : List (Addr × Obj)} {Q : Value → Shared → Prop} (Inv : Nat → List Value → List (Addr × Obj) → Prop)
    (F : Fr h₀ L s.heap m) (N : News h₀ L s.heap news) (ha : (a, listOf va.toArray na) ∈ news) (hb : (b, listOf vb.toArray nb) ∈ news) (hsz : va.length ≤ 20) (hsz2 : vb.length ≤ 20) (inv : Inv 0 [] news) (hh : A.handled = none)
    (hA : wpAny (model prog w) A (eval i0 env) (fun xv s' => xv = .ref a ∧ s' = s) E s)
    (hB : ∀ (s₂ : Shared) I oI C oC D ys m₂ nw h tk (E' : Value → Shared → Prop), NsObj oC m₂ → Fr h₀ L h m → News h₀ L h ((I, oI) :: (C, oC) :: (D, lst ys) :: nw) → (∀ p ∈ news, p ∈ nw) →
      wpAny (model prog w) A (eval i1 (compEnvC scope cl C env)) (fun xv s' => xv = .ref b ∧ s' = { s₂ with heap := h, toks := tk }) E' { s₂ with heap := h, toks := tk })
    (turn : ∀ h, TwoTurn prog w A h₀ L m env elt x y scope cl { s with heap := h } va vb news Inv)
    (fin : ∀ D ys nw h tk, Fr h₀ L h m → News h₀ L h ((D, lst ys) :: nw) → (∀ p ∈ nw, p.1 ≠ D) → (∀ p ∈ news, p ∈ nw) → Inv (va.length * vb.length) ys nw → Q (.ref D) { s with heap := h, toks := tk })
    (hclos : closureFor scope env = pure cl) (hcell : ∀ z ∈ scope.names, z.2 ≠ .cell) (hkind : scope.kind = .function)
    (hnames : ∀ z ∈ scope.names, z.2 = .local → scope.names.lookup z.1 = some .local) (hx : scope.names.lookup x = some .local) (hy : scope.names.lookup y = some .local) (hxy : x ≠ y)
    (hs0 : ∀ x, foldedSetIterable i0 env x = pure x) (hs1 : ∀ C x, foldedSetIterable i1 (compEnvC scope cl C env) x = pure x) :
    wpAny (model prog w) A (eval (.ListComp elt [⟨.Name x px, i0, [], 0⟩, ⟨.Name y py, i1, [], 0⟩] scope pos) env) Q E s := by
  rw [eval_ListComp]
  refine wpAny_comprehension_free (use := none) rfl hs0 hclos hkind hnames (wpAny_mono hA (fun xv s₁ h₁ => ?_) fun _ _ e => e)
  obtain ⟨rfl, rfl⟩ := h₁
  have hl : s₁.heap.IsList a va.toArray := PySem.IsL.isList (n := na) (N _ ha).1
  refine wpAny_pyIter_list hl ?_
  have up : ∀ b o, s₁.heap.get? b = some o → (s₁.heap.push { cls := .type "list_iterator", data := .fields #[.ref a, .int 0 0] }).get? b = some o := fun b o e => Heap.get?_push_of_some _ e
  refine block_two Inv hh hcell hkind hx hy hxy ⟨_, Heap.get?_push_size _ rfl, rfl, rfl⟩ (F.keeps up) (N.grown up) (Nat.ne_of_lt F.ns.lt) (next_is_new F) (fun p hp => Nat.ne_of_lt (Heap.lt_size (N p hp).1)) ha hb hsz hsz2 inv hs1 (hB _) (turn _) ?_
  intro D C h tk m' ys nw F' N' off hn hC₀ hD₀ hCL hDL hCD sub iv
  refine ⟨m', hn, fun h'' hs'' => fin D ys nw h'' tk (F'.change hs'' hCL hC₀) (fun p hp => ?_) (fun p hp => (off p hp).2) sub iv⟩
  refine ⟨hs''.extBut _ _ ?_ (N' p hp).1, (N' p hp).2⟩
  rcases List.mem_cons.mp hp with rfl | hp
  · exact Ne.symm hCD
  · exact (off p hp).1
end
end Mine
end
section
open PySem PySem.W PyProof.Rows PySem.Spec PySem.Calls
namespace Mine
open PySem.SeqAt PySem.MeetsSeq PySem.MeetsSeq2 PySem.MeetsSeq3 PySem.SeqRoads2
open AutoSeq1 (wpAny_loadPart')
theorem remove_loopA (l : Addr) (items : Array Value) (n : Nat) (x : Value) (e : Nat → Bool) (j : Nat) (hj : j < items.size) (hit : e j = true) (k : Nat) (hs1 : items.size ≤ sizeLine) :
    ∀ i : Nat, j - i = k → i ≤ j → (∀ m, i ≤ m → m < j → e m = false) → Meets (Builtin.«list.remove.loop» ⟨[.ref l, x, rawInt i], []⟩)
      (fun A R s => s.heap.get? l = some { cls := .type "list", dict := none, data := .seq items n, slots := #[] } ∧ (∀ m (hm : m < items.size), EqAt A.in1 s items[m] x (e m)) ∧ R (.ok (.ret .none)) { s with heap := s.heap.update l (Obj.mapSeq fun xs => xs.eraseIdxIfInBounds j) }) := by
  induction k with
  | zero =>
    intro i hk hij hno prog w A R s h
    obtain ⟨hp, g, d, tk, os⟩ := s; obtain ⟨hl, he, h⟩ := h
    have hij' : i = j := by omega
    subst hij'
    wp_walk using wpAny_loadPart' hl
    have hi : items[((i : Nat) : Int).toNat]? = some items[i] := by simp [hj]
    rw [hi]
    refine wpAny_bind (he i hj prog w _ _ ?_)
    rw [hit]
    have hz' : (items.eraseIdxIfInBounds i).size ≤ sizeLine + 1 := Nat.le_trans (size_erased items _) (Nat.le_succ_of_le hs1)
    wp_walk using (wpAny_updateSeq hl rfl (hz := hs1) (_hz' := hz')), wpAny_loadPart' hl
    simpa using h
  | succ k ih =>
    intro i hk hij hno prog w A R s h
    obtain ⟨hp, g, d, tk, os⟩ := s; obtain ⟨hl, he, h⟩ := h
    have hlt : i < items.size := by omega
    wp_walk using wpAny_loadPart' hl
    have hi : items[((i : Nat) : Int).toNat]? = some items[i] := by simp [hlt]
    have hc : ((i : Int) + 1) = ((i + 1 : Nat) : Int) := by push_cast; rfl
    rw [hi]
    refine wpAny_bind (he i hlt prog w _ _ ?_)
    rw [hno i (Nat.le_refl _) (by omega)]
    wp_walk
    rw [hc]
    exact ⟨plainId_quiet plain_remove_loop _, codeAny_builtin entry_remove_loop (by
      rw [Around.under_plainId plain_remove_loop _]
      exact ih (i + 1) (by omega) (by omega) (fun m h1 h2 => hno m (by omega) h2) prog w A R _ ⟨hl, he, h⟩)⟩
theorem list_removeA (l : Addr) (items : Array Value) (n : Nat) (x : Value) (e : Nat → Bool) (j : Nat) (hj : j < items.size) (hit : e j = true) (hno : ∀ m, m < j → e m = false) (hs1 : items.size ≤ sizeLine) :
    Meets (Builtin.«list.remove» ⟨[.ref l, x], []⟩)
      (fun A R s => s.heap.get? l = some { cls := .type "list", dict := none, data := .seq items n, slots := #[] } ∧ (∀ m (hm : m < items.size), EqAt A.in1 s items[m] x (e m)) ∧ R (.ok (.ret .none)) { s with heap := s.heap.update l (Obj.mapSeq fun xs => xs.eraseIdxIfInBounds j) }) := by
  intro prog w A R s h
  obtain ⟨hp, g, d, tk, os⟩ := s; obtain ⟨hl, he, h⟩ := h
  wp_walk using wpAny_loadPart' hl
  exact ⟨plainId_quiet plain_remove_loop _, codeAny_builtin entry_remove_loop (by
    rw [Around.under_plainId plain_remove_loop _]
    exact remove_loopA l items n x e j hj hit _ hs1 0 rfl (Nat.zero_le _) (fun m _ h2 => hno m h2) prog w A R _ ⟨hl, he, h⟩)⟩
section
variable {prog : Program} {w : World} {A : Around} {E : Value → Shared → Prop} {s : Shared} {h₀ : Heap} {L D : Addr} {m : Str → Option Value} {news news' Z : List (Addr × Obj)} {vs : List Value} {n : Nat}
theorem pair_eq {a b : Addr} {f j f' j' : Int} {t u t' u' : Nat} (hZ : Holds Z s.heap) (h1 : (a, tupO [.int f t, .int j u]) ∈ Z) (h2 : (b, tupO [.int f' t', .int j' u']) ∈ Z) (hu : A.units < cLine) :
    EqAt A s (.ref a) (.ref b) (decide ((f, j) = (f', j'))) := by
  by_cases e : a = b
  · subst e
    have g1 : s.heap.get? a = some (tupO [.int f t, .int j u]) := hZ _ h1
    have g2 : s.heap.get? a = some (tupO [.int f' t', .int j' u']) := hZ _ h2
    have q := g1.symm.trans g2
    have q2 : tupO [.int f t, .int j u] = tupO [.int f' t', .int j' u'] := Option.some.inj q
    have q3 := congrArg Obj.data q2
    simp only [Data.seq.injEq] at q3
    have q4 := q3.1
    simp at q4
    rw [decide_eq_true (by rw [Prod.mk.injEq]; exact ⟨q4.1.1, q4.2.1⟩)]
    exact EqAt.same _
  · refine EqAt.of_refs e ?_
    have hx : s.heap.IsTuple a [Value.int f t, .int j u].toArray := ⟨_, hZ _ h1, rfl, 0, rfl⟩
    have hy : s.heap.IsTuple b [Value.int f' t', .int j' u'].toArray := ⟨_, hZ _ h2, rfl, 0, rfl⟩
    have hr := RcAt.tuples (A := A) (e := fun n => match n with | 0 => f == f' | _ => j == j') hx hy hu (fun n h1 h2 => by
      match n, h1 with
      | 0, _ => exact EqAt.ints
      | 1, _ => exact EqAt.ints)
    have ev : ((List.range (min [Value.int f t, .int j u].toArray.size [Value.int f' t', .int j' u'].toArray.size)).all (fun n => match n with | 0 => f == f' | _ => j == j') && [Value.int f t, .int j u].toArray.size == [Value.int f' t', .int j' u'].toArray.size) = decide ((f, j) = (f', j')) := by
      show (((f == f') && ((j == j') && true)) && true) = _
      by_cases q1 : f = f' <;> by_cases q2 : j = j' <;> simp [q1, q2]
    rw [← ev]; exact hr
theorem triple_lt {a b r r' : Addr} {d x y d' x' y' : Int} {t u z t' u' z' : Nat} (hZ : Holds Z s.heap) (h1 : (a, tupO [.int d t, .ref r]) ∈ Z) (h2 : (b, tupO [.int d' t', .ref r']) ∈ Z) (g1 : (r, tupO [.int x u, .int y z]) ∈ Z) (g2 : (r', tupO [.int x' u', .int y' z']) ∈ Z) (hu : A.units < cLine) (hu2 : A.in1.units < cLine)
    (bx : 0 ≤ x ∧ x ≤ 3 ∧ 0 ≤ y ∧ y ≤ 3) (bx' : 0 ≤ x' ∧ x' ≤ 3 ∧ 0 ≤ y' ∧ y' ≤ 3) :
    LtAt A s (.ref a) (.ref b) (decide (d * 100 + x * 10 + y < d' * 100 + x' * 10 + y')) := by
  intro prog w E Q h
  refine LtAt.tuples (xs := [.int d t, .ref r]) (ys := [.int d' t', .ref r']) (hZ _ h1) (hZ _ h2) rfl hu
    (e := fun n => match n with | 0 => d == d' | _ => decide ((x, y) = (x', y'))) (lt := fun n => match n with | 0 => decide (d < d') | _ => decide (x * 10 + y < x' * 10 + y')) ?_ ?_ prog w E Q ?_
  · intro n h1 h2
    match n, h1 with
    | 0, _ => exact EqAt.ints
    | 1, _ => exact pair_eq hZ g1 g2 hu2
  · intro n h1 h2 _
    match n, h1 with
    | 0, _ => exact LtAt.ints
    | 1, _ => exact pair_lt hZ g1 g2 hu2 (by omega) (by omega) (by omega) (by omega)
  · have e : lexAux (fun n => match n with | 0 => d == d' | _ => decide ((x, y) = (x', y'))) (fun n => match n with | 0 => decide (d < d') | _ => decide (x * 10 + y < x' * 10 + y')) (List.range [Value.int d t, .ref r].length) = decide (d * 100 + x * 10 + y < d' * 100 + x' * 10 + y') := by
      show lexAux _ _ [0, 1] = _
      simp only [lexAux, beq_iff_eq]
      by_cases q1 : d = d'
      · by_cases q2 : (x, y) = (x', y')
        · rw [Prod.mk.injEq] at q2
          simp [q1, q2.1, q2.2]
        · simp only [q1, q2, if_true, decide_false, if_false, Bool.false_eq_true]
          exact decide_eq_decide.mpr (by omega)
      · simp only [q1, if_false]
        exact decide_eq_decide.mpr (by omega)
    rw [e]; exact h
/-- the entries (distance, lead) so far -/
def MinOk (ins outs : List (Int × Int)) (ov : List Value) (k : Nat) (ys : List Value) (nw : List (Addr × Obj)) : Prop :=
  ys.length = k ∧ ∀ q, q < k → ∃ (t : Addr) (tk : Nat), ys.getD q .none = .ref t ∧ (t, tupO [.int (dueF (pt ins (q / outs.length)) (pt outs (q % outs.length))) tk, ov.getD (q % outs.length) .none]) ∈ nw
theorem MinOk.next {ins outs : List (Int × Int)} {ov ys : List Value} {nw nw' : List (Addr × Obj)} {i j : Nat} {t : Addr} {tk : Nat} (h : MinOk ins outs ov (i * outs.length + j) ys nw) (hj : j < outs.length) (hs : ∀ p ∈ nw, p ∈ nw')
    (hm : (t, tupO [.int (dueF (pt ins i) (pt outs j)) tk, ov.getD j .none]) ∈ nw') : MinOk ins outs ov (i * outs.length + j + 1) (ys ++ [.ref t]) nw' := by
  refine ⟨by simp [h.1], fun q hq => ?_⟩
  rcases Nat.lt_or_ge q (i * outs.length + j) with c | c
  · obtain ⟨t', tk', e, m'⟩ := h.2 q c
    refine ⟨t', tk', ?_, hs _ m'⟩
    rw [← e]
    have c' : q < ys.length := by rw [h.1]; exact c
    simp [List.getD_eq_getElem?_getD, List.getElem?_append, c']
  · obtain rfl : q = i * outs.length + j := by omega
    have e1 : (i * outs.length + j) / outs.length = i := by
      rw [Nat.mul_comm, Nat.mul_add_div (by omega), Nat.div_eq_of_lt hj, Nat.add_zero]
    have e2 : (i * outs.length + j) % outs.length = j := by
      rw [Nat.mul_comm, Nat.mul_add_mod, Nat.mod_eq_of_lt hj]
    refine ⟨t, tk, ?_, by rw [e1, e2]; exact hm⟩
    simp [List.getD_eq_getElem?_getD, ← h.1]
theorem min_P {l : Addr} {ys ov : List Value} {c : Nat} {ins outs : List (Int × Int)} {R : List (Addr × Obj)} {Q : Value → Shared → Prop} (hh : A.handled = none) (hu : A.in1.units < cLine) (hu2 : A.in1.in1.units < cLine) (F : Fr h₀ L s.heap m) (N : News h₀ L s.heap news) (hl : (l, listOf ys.toArray c) ∈ news)
    (hm : MinOk ins outs ov (ins.length * outs.length) ys news) (hp : Pts R ov outs) (hs : ∀ p ∈ R, p ∈ news) (hb : ∀ p ∈ outs, 0 ≤ p.1 ∧ p.1 ≤ 3 ∧ 0 ≤ p.2 ∧ p.2 ≤ 3) (hi : 0 < ins.length) (ho : 0 < outs.length)
    (h : ∀ i j t tk h' tk', i < ins.length → j < outs.length → (t, tupO [.int (dueF (pt ins i) (pt outs j)) tk, ov.getD j .none]) ∈ news → (∀ a ∈ ins, ∀ b ∈ outs, dueF (pt ins i) (pt outs j) ≤ dueF a b) → Fr h₀ L h' m → News h₀ L h' news → Q (.ref t) { s with heap := h', toks := tk' }) :
    wpAny (model prog w) A (call (.builtin "min") [.ref l]) Q E s := by
  have hpos : 0 < ins.length * outs.length := Nat.mul_pos hi ho
  have hmod : ∀ q, q % outs.length < outs.length := fun q => Nat.mod_lt _ ho
  have hbq : ∀ q, 0 ≤ (pt outs (q % outs.length)).1 ∧ (pt outs (q % outs.length)).1 ≤ 3 ∧ 0 ≤ (pt outs (q % outs.length)).2 ∧ (pt outs (q % outs.length)).2 ≤ 3 := fun q => hb _ (pt_mem (hmod q))
  refine min_list_Z (Z := news) hh (N _ hl).1 (by rw [hm.1]; exact hpos) (fun p hp => (N p hp).1) (fun q => dueF (pt ins (q / outs.length)) (pt outs (q % outs.length)) * 100 + (pt outs (q % outs.length)).1 * 10 + (pt outs (q % outs.length)).2) ?_ ?_
  · intro q q' v v' s' Q' E' hZ hv hv' hQ
    have get : ∀ q v, ys.toArray[q]? = some v → q < ins.length * outs.length ∧ ys.getD q .none = v := by
      intro q v hv
      have hv2 : ys[q]? = some v := by simpa using hv
      refine ⟨?_, by rw [List.getD_eq_getElem?_getD, hv2]; rfl⟩
      rw [← hm.1]; exact (List.getElem?_eq_some_iff.mp hv2).1
    obtain ⟨c1, e1⟩ := get q v hv
    obtain ⟨c2, e2⟩ := get q' v' hv'
    obtain ⟨t, tk, f1, m1⟩ := hm.2 q c1
    obtain ⟨t', tk', f2, m2⟩ := hm.2 q' c2
    rw [e1] at f1
    rw [e2] at f2
    subst f1 f2
    obtain ⟨r, u, z, g1, n1⟩ := hp.2 _ (hmod q)
    obtain ⟨r', u', z', g2, n2⟩ := hp.2 _ (hmod q')
    rw [g1] at m1
    rw [g2] at m2
    exact triple_lt hZ m1 m2 (hs _ n1) (hs _ n2) hu hu2 (hbq q) (hbq q') _ _ _ _ hQ
  · intro q v h' tk' hq hv hmin hk
    rw [hm.1] at hq hmin
    obtain ⟨t, tk, f1, m1⟩ := hm.2 q hq
    have ev : ys.getD q .none = v := by rw [List.getD_eq_getElem?_getD, hv]; rfl
    rw [ev] at f1
    subst f1
    have hdiv : q / outs.length < ins.length := by
      rw [Nat.div_lt_iff_lt_mul ho]; exact hq
    refine h (q / outs.length) (q % outs.length) t tk h' tk' hdiv (hmod q) m1 ?_ (F.grownK hk) (N.grown hk)
    intro a ha b hb'
    obtain ⟨ia, ia1, ia2⟩ := List.getElem_of_mem ha
    obtain ⟨jb, jb1, jb2⟩ := List.getElem_of_mem hb'
    have ea : pt ins ia = a := by rw [← ia2]; simp [pt, List.getD_eq_getElem?_getD, ia1]
    have eb : pt outs jb = b := by rw [← jb2]; simp [pt, List.getD_eq_getElem?_getD, jb1]
    have hlt : ia * outs.length + jb < ins.length * outs.length := by
      have : (ia + 1) * outs.length ≤ ins.length * outs.length := Nat.mul_le_mul_right _ ia1
      rw [Nat.succ_mul] at this
      omega
    have k := hmin (ia * outs.length + jb) hlt
    have e1 : (ia * outs.length + jb) / outs.length = ia := by
      rw [Nat.mul_comm, Nat.mul_add_div (by omega), Nat.div_eq_of_lt jb1, Nat.add_zero]
    have e2 : (ia * outs.length + jb) % outs.length = jb := by
      rw [Nat.mul_comm, Nat.mul_add_mod, Nat.mod_eq_of_lt jb1]
    rw [e1, e2, ea, eb] at k
    have b1 := hbq q
    have b2 := hb b hb'
    omega
theorem Pts.erase {R : List (Addr × Obj)} {vs : List Value} {ps : List (Int × Int)} (h : Pts R vs ps) (j : Nat) : Pts R (vs.eraseIdx j) (ps.eraseIdx j) := by
  refine ⟨by rw [List.length_eraseIdx, List.length_eraseIdx, h.1], fun i hi => ?_⟩
  simp only [List.getD_eq_getElem?_getD, List.getElem?_eraseIdx]
  rw [List.length_eraseIdx] at hi
  by_cases e : i < j
  · have := h.2 i (by split at hi <;> omega)
    simp only [List.getD_eq_getElem?_getD] at this
    simp only [e, if_true]; exact this
  · have := h.2 (i + 1) (by split at hi <;> omega)
    simp only [List.getD_eq_getElem?_getD] at this
    simp only [e, if_false]; exact this
theorem remove_P {ov : List Value} {outs : List (Int × Int)} {R : List (Addr × Obj)} {r : Addr} {j : Nat} {Q : Value → Shared → Prop} (F : Fr h₀ L s.heap m) (N : News h₀ L s.heap news) (hu : A.in1.units < cLine) (hp : Pts R ov outs) (hs : ∀ p ∈ R, p ∈ news) (hj : j < outs.length) (hr : ov.getD j .none = .ref r) (hnd : outs.Nodup) (hlen : outs.length ≤ 1000)
    (U : Upd D (listOf ov.toArray n) (listOf (ov.eraseIdx j).toArray (n + 1)) news news') (h : ∀ h', Fr h₀ L h' m → News h₀ L h' news' → Q .none { s with heap := h' }) : wpAny (model prog w) A (call (.builtin "list.remove") [.ref D, .ref r]) Q E s := by
  obtain ⟨pre, post, e1, rfl, a, b⟩ := U.split
  have N2 := N
  rw [e1] at N2
  have z := N2 (D, listOf ov.toArray n) (List.mem_append.mpr (.inr (.head _)))
  have hol : ov.length = outs.length := hp.1
  obtain ⟨r', t, u, er, mr⟩ := hp.2 j hj
  rw [hr] at er
  obtain rfl : r = r' := by injection er
  refine call_meets PySem.F.slot_list_remove ⟨_, z.1, rfl⟩ PySem.F.entry_list_remove (PySem.F.args_list_remove_2 _ _)
    (list_removeA D ov.toArray n (.ref r) (fun q => decide (pt outs q = pt outs j)) j (by rw [List.size_toArray]; omega) (decide_eq_true rfl) (fun q hq => decide_eq_false fun e => absurd (pt_inj hnd (by omega) hj e) (by omega)) (by rw [sizeLine_eq, List.size_toArray]; omega))
    ⟨z.1, fun q hq => ?_, h _ (F.change (Heap.SameBut.update ..) z.2.1 z.2.2) (kl_turn _ N2 a b ?_ ?_)⟩
  · rw [List.size_toArray] at hq
    obtain ⟨r2, t2, u2, er2, mr2⟩ := hp.2 q (by omega)
    have e2 : ov.toArray[q] = .ref r2 := by
      rw [← er2]; simp [List.getD_eq_getElem?_getD, hq]
    rw [e2]
    exact pair_eq (Z := news) (fun p hp => (N p hp).1) (hs _ mr2) (hs _ mr) hu
  · show ov.toArray.eraseIdxIfInBounds j = (ov.eraseIdx j).toArray
    have hj' : j < ov.toArray.size := by rw [List.size_toArray]; omega
    unfold Array.eraseIdxIfInBounds
    rw [dif_pos hj']
    apply Array.toList_inj.mp
    rw [Array.toList_eraseIdx]
  · rw [List.size_toArray, List.size_toArray, List.length_eraseIdx, if_pos (by omega)]
    omega
end
end Mine
end
section
open PySem PySem.W PyProof.Rows PySem.Spec PySem.Calls
namespace Mine
open LCg LCp
theorem pick_head {v : Value} {r : List Value} : (slicePick (v :: r).toArray none (some 1) none).toList = [v] := by
  have e : sliceBounds none (some 1) none (v :: r).toArray.size = (((0 : Nat) : Int), ((1 : Nat) : Int), 1) := by
    simp only [sliceBounds, Option.getD_none, show (1 : Int) > 0 by decide, if_true, if_neg (show ¬ ((1 : Int) < 0) by omega), List.size_toArray, List.length_cons]
    congr 1
    congr 1
    omega
  rw [kmk_pick_nat _ e]
  rfl
theorem pick_rest {v : Value} {r : List Value} : (slicePick (v :: r).toArray (some 1) none none).toList = r := by
  have e : sliceBounds (some 1) none none (v :: r).toArray.size = (((1 : Nat) : Int), ((r.length + 1 : Nat) : Int), 1) := by
    simp only [sliceBounds, Option.getD_none, show (1 : Int) > 0 by decide, if_true, if_neg (show ¬ ((1 : Int) < 0) by omega), List.size_toArray, List.length_cons]
    congr 1
    omega
  rw [kmk_pick_nat _ e]
  simp
theorem name_as {P : Addr → Prop} {D : Addr} (h : P D) : ∃ x, x = D ∧ P x := ⟨D, rfl, h⟩
theorem light_upd {OU IN S L' : Addr} {a b o1 o2 : Obj} {R : List (Addr × Obj)} (h1 : L' + 1 < OU) (h2 : L' + 1 < IN) (h3 : S < L') (hR : ∀ p ∈ R, p.1 < L') :
    UpdF (L' + 1) o1 ((OU, a) :: (IN, b) :: (L' + 1, o1) :: (S, o2) :: R) (fun o' => (OU, a) :: (IN, b) :: (L' + 1, o') :: (S, o2) :: R) :=
  .tail (Nat.ne_of_gt h1) (.tail (Nat.ne_of_gt h2) (.head fun p hp => by
    rcases List.mem_cons.mp hp with rfl | hp
    · exact Nat.ne_of_lt (Nat.lt_succ_of_lt h3)
    · exact Nat.ne_of_lt (Nat.lt_succ_of_lt (hR p hp))))
theorem light_perm {h₀ h : Heap} {L : Addr} {a b c d e : Addr × Obj} {r : List (Addr × Obj)} (N : News h₀ L h (c :: b :: a :: d :: e :: r)) : News h₀ L h (a :: b :: c :: d :: r) := News.sub N fun p hp => by
  simp only [List.mem_cons] at hp ⊢
  rcases hp with h | h | h | h | h <;> simp [h]
theorem two_perm {h₀ h : Heap} {L : Addr} {t a b c d : Addr × Obj} {r : List (Addr × Obj)} (N : News h₀ L h (t :: a :: b :: c :: d :: r)) : News h₀ L h (a :: b :: c :: d :: t :: r) := News.sub N fun p hp => by
  simp only [List.mem_cons] at hp ⊢
  rcases hp with h | h | h | h | h | h <;> simp [h]
theorem two_off {T I C D J : Addr} {o : Obj} {nw : List (Addr × Obj)} (h : I < T ∧ C < T ∧ D < T ∧ J < T ∧ AllLt T nw) (off : ∀ p ∈ nw, p.1 ≠ I ∧ p.1 ≠ C ∧ p.1 ≠ D ∧ p.1 ≠ J) : ∀ p ∈ (T, o) :: nw, p.1 ≠ I ∧ p.1 ≠ C ∧ p.1 ≠ D ∧ p.1 ≠ J := by
  intro p hp
  rcases List.mem_cons.mp hp with rfl | hp
  · exact ⟨Nat.ne_of_gt h.1, Nat.ne_of_gt h.2.1, Nat.ne_of_gt h.2.2.1, Nat.ne_of_gt h.2.2.2.1⟩
  · exact off p hp
theorem news_ne {h₀ h : Heap} {L : Addr} {news : List (Addr × Obj)} {a b : Addr} {o o' : Obj} (N : News h₀ L h news) (h1 : (a, o) ∈ news) (h2 : (b, o') ∈ news) (hc : o.cls ≠ o'.cls) : a ≠ b := by
  intro e
  have q1 := (N _ h1).1
  have q2 := (N _ h2).1
  dsimp only at q1 q2
  rw [e, q2] at q1
  exact hc (congrArg Obj.cls (Option.some.inj q1)).symm
theorem light_updI {t IN OU ST C : Addr} {x o o' a b c : Obj} {R : List (Addr × Obj)} (h : t ≠ IN) (h1 : IN < OU) (h2 : OU < ST) (h3 : C < IN) (hR : ∀ p ∈ R, p.1 < IN) :
    Upd IN o o' ((t, x) :: (IN, o) :: (OU, a) :: (ST, b) :: (C, c) :: R) ((t, x) :: (IN, o') :: (OU, a) :: (ST, b) :: (C, c) :: R) :=
  .tail h (.head fun p hp => by
    rcases List.mem_cons.mp hp with rfl | hp
    · exact Nat.ne_of_gt h1
    · rcases List.mem_cons.mp hp with rfl | hp
      · exact Nat.ne_of_gt (Nat.lt_trans h1 h2)
      · rcases List.mem_cons.mp hp with rfl | hp
        · exact Nat.ne_of_lt h3
        · exact Nat.ne_of_lt (hR p hp))
theorem light_updO {t IN OU ST C : Addr} {x o o' a b c : Obj} {R : List (Addr × Obj)} (h : t ≠ OU) (h1 : IN < OU) (h2 : OU < ST) (h3 : C < IN) (hR : ∀ p ∈ R, p.1 < IN) :
    Upd OU o o' ((t, x) :: (IN, a) :: (OU, o) :: (ST, b) :: (C, c) :: R) ((t, x) :: (IN, a) :: (OU, o') :: (ST, b) :: (C, c) :: R) :=
  .tail h (.tail (Nat.ne_of_lt h1) (.head fun p hp => by
    rcases List.mem_cons.mp hp with rfl | hp
    · exact Nat.ne_of_gt h2
    · rcases List.mem_cons.mp hp with rfl | hp
      · exact Nat.ne_of_lt (Nat.lt_trans h3 h1)
      · exact Nat.ne_of_lt (Nat.lt_trans (hR p hp) h1)))
theorem light_updS {t IN OU ST C : Addr} {x o o' a b c : Obj} {R : List (Addr × Obj)} (h : t ≠ ST) (h1 : IN < OU) (h2 : OU < ST) (h3 : C < IN) (hR : ∀ p ∈ R, p.1 < IN) :
    Upd ST o o' ((t, x) :: (IN, a) :: (OU, b) :: (ST, o) :: (C, c) :: R) ((t, x) :: (IN, a) :: (OU, b) :: (ST, o') :: (C, c) :: R) :=
  .tail h (.tail (Nat.ne_of_lt (Nat.lt_trans h1 h2)) (.tail (Nat.ne_of_lt h2) (.head fun p hp => by
    rcases List.mem_cons.mp hp with rfl | hp
    · exact Nat.ne_of_lt (Nat.lt_trans h3 (Nat.lt_trans h1 h2))
    · exact Nat.ne_of_lt (Nat.lt_trans (hR p hp) (Nat.lt_trans h1 h2)))))
theorem erase_perm : ∀ (l : List (Int × Int)) (j : Nat), j < l.length → l.Perm (l.getD j (0, 0) :: l.eraseIdx j)
  | [], j, h => absurd h (Nat.not_lt_zero _)
  | a :: l, 0, _ => List.Perm.refl _
  | a :: l, j + 1, h => by
    have ih := erase_perm l j (Nat.lt_of_succ_lt_succ h)
    show (a :: l).Perm (l.getD j (0, 0) :: a :: l.eraseIdx j)
    exact (List.Perm.cons a ih).trans (List.Perm.swap _ _ _)
structure LSt where
  iv : List Value
  ien : Nat
  ins : List (Int × Int)
  ov : List Value
  oen : Nat
  outs : List (Int × Int)
  sv : List Value
  sen : Nat
  steps : List Int
  oc : Obj
theorem frame_one {h₀ h : Heap} {L S : Addr} {x : Str} {m : Str → Option Value} (F : Fr h₀ L h m) (h1 : m x = some (.ref S)) :
    ∃ u : Str → Option Value, Fr h₀ L h (fun y => if y = x then some (.ref S) else u y) := by
  refine ⟨m, ?_⟩
  have e : m = (fun y => if y = x then some (.ref S) else m y) := by
    funext y
    split
    · rename_i e; rw [e]; exact h1
    · rfl
  rw [← e]; exact F
section
variable {w : World} {mean : ExcName → Option Value} {mg mb : Str → Option Value} {dp un : Nat} {gd : Option (List Code)} {cn : Str} {cs : Scope} {a : Addr} {ccd : Value} {cl : List (Str × Addr)} {outer : List Env} {A₀ : Around} {base h₀ : Heap} {L : Addr} {m : Str → Option Value} {s : Shared} {Q E : Value → Shared → Prop} {R : List (Addr × Obj)}
local macro_rules | `(tactic| omega) => `(tactic| first | lia | omega +splitNatSub)
local macro_rules | `(tactic| k_all) => `(tactic| assumption)
local macro_rules | `(tactic| walk_at "call builtin:len") => `(tactic| (k_here; (with_reducible show wpAny _ _ (call (Value.builtin "len") [Value.ref _]) _ _ _); k_dflt (refine' len_L ?k1 ?k2 ?k3 ?_; (case k1 => k_asm); (case k2 => k_mem); (case k3 => omega); k_whole); intro t' tk'))
local macro_rules | `(tactic| k_mem) => `(tactic| ((repeat (first | assumption | refine List.mem_cons_of_mem _ ?_ | refine List.mem_append_left _ ?_)); done))
local macro_rules | `(tactic| walk_at "storeName") => `(tactic| ((with_reducible show wpAny _ _ (storeName _ (Str.ofString "outside") _) _ _ _); refine hold ?_))
local macro_rules | `(tactic| walk_at "subscriptTail Name Slice ref ref") => `(tactic| (k_here; (with_reducible show wpAny _ _ (subscriptTail _ (PySem.Expr.Slice _ _ none _) (Value.ref _) (Value.ref _)) _ _ _); k_dflt (refine' kmk_slice_lit ?F ?N ?l ?p ?q ?e ?_ ?s ?t ?z; (case F => k_asm); (case N => k_asm); (case l => kmk_list); (case p => kmk_part); (case q => kmk_part); (case e => first | exact pick_head | exact pick_rest); (case s => with_unfolding_all rfl); (case t => kmk_pure); (case z => (rw [sizeLine_eq, List.size_toArray]; omega))); intro D' h' F' N' l1; (try k_lt l1); (try k_sweep)))
local macro_rules | `(tactic| walk_at "call ref") => `(tactic| refine hold ?_)
local macro_rules | `(tactic| walk_at "pyIter ref") => `(tactic| refine hold ?_)
local macro_rules | `(tactic| walk_at "exec While Compare cons nil") => `(tactic| refine hold ?_)
local macro_rules | `(tactic| walk_at "TwoEnd") => `(tactic| refine hold ?_)
local macro_rules | `(tactic| walk_at "call builtin:min") => `(tactic| refine hold ?_)
local macro_rules | `(tactic| walk_at "call builtin:list.append") => `(tactic| refine hold ?_)
local macro_rules | `(tactic| walk_at "call builtin:list.remove") => `(tactic| refine hold ?_)
local macro_rules | `(tactic| walk_at "WPost") => `(tactic| dsimp only [WPost])
theorem light_tells {S : Addr} {vs : List Value} {ps : List (Int × Int)} {n : Nat}
    (C : Cxt w mean mg mb A₀ base outer h₀ L m cs s.heap) (N : News h₀ L s.heap ((S, listOf vs.toArray n) :: R)) (hR : ∀ p ∈ R, p.1 ≠ S) (hv : Pts R vs ps) (hps : ∀ p ∈ ps, 0 ≤ p.1 ∧ p.1 ≤ 3 ∧ 0 ≤ p.2 ∧ p.2 ≤ 3) (hnd : ps.Nodup) (hpos : 0 < ps.length) (hlen : ps.length ≤ 6)
    (hdp : dp + 6 < recursionLimit) (hun : un + 48 < cLine)
    (ret : ∀ D (us : List Value) e st steps ins h' tk' R', Fr h₀ L h' m → News h₀ L h' ((D, listOf us.toArray e) :: R') → (∀ p ∈ R, p ∈ R') → IntsAre us st → PInv ps ins [] steps → st.Perm steps → st.Pairwise (· ≤ ·) → Q (.ref D) { s with heap := h', toks := tk' }) :
    wpAny (model PySem.Challenge.rw_qj0007_01.row.prog w) (ktrTop dp un gd cn cs L a ccd cl outer) (call (.ref 163) [.ref S]) Q E s := by
  w_top off
  obtain ⟨B, F, X, T9, hk⟩ := C
  obtain ⟨p0, pr, rfl⟩ : ∃ p r, ps = p :: r := by
    cases ps with
    | nil => exact absurd hpos (Nat.not_lt_zero _)
    | cons p r => exact ⟨p, r, rfl⟩
  obtain ⟨v0, vr, rfl⟩ : ∃ v r, vs = v :: r := by
    cases vs with
    | nil => exact absurd hv.1 (by simp)
    | cons p r => exact ⟨p, r, rfl⟩
  have hvl := hv.1
  revert X
  k_fill
  intro X
  refine wpAny_call ?_
  k_dflt (refine' code_defC ?k1 ?k2 ?k3 ?k4 ?k5 ?kA ?kF ?kK ?k6 ?k7 ?k8 ?k9 ?kB ?kD ?_ ?c2 ?c3 ?c4; (case kA => exact rfl); (case kF => exact rfl); (case kK => assumption); (case k1 => k_asm); (case k2 => k_asm); (case k3 => k_asm); (case k4 => k_asm); (case k5 => k_asm); (case k6 => k_is); (case k7 => k_is); (case k8 => ktr_room); (case k9 => exact BindsTo.of_eq rfl); (case kB => exact rfl); (case kD => decide +kernel); (case c2 => exact rfl); (case c3 => exact rfl); (case c4 => exact rfl); k_whole)
  intro g' L' h' tk' cells' FG' F' N' Y' B' X' T' l1
  have Y2 := CellsAre.one Y'
  obtain ⟨o1, hE', d1⟩ := Y2
  subst hE'
  clear Y'
  simp only [List.cons_append, List.nil_append] at N'
  obtain ⟨u, F1⟩ := frame_one (x := Str.ofString "spots") F' rfl
  clear F'
  replace d1 : o1.data = .cell none := d1
  (try dsimp only)
  (try k_fold)
  k_steps
  refine unhold ?_
  rename Fr _ _ _ _ => lF
  rename News _ _ _ _ => lN
  rename L' + 1 < _ ∧ S < _ ∧ AllLt _ R => z1
  obtain ⟨IN, rfl, z2⟩ := name_as (P := fun x => L' + 1 < x ∧ S < x ∧ AllLt x R) z1
  rename IN < _ ∧ L' + 1 < _ ∧ S < _ ∧ AllLt _ R => z3
  obtain ⟨OU, rfl, z4⟩ := name_as (P := fun x => IN < x ∧ L' + 1 < x ∧ S < x ∧ AllLt x R) z3
  clear z1 z3
  have hL1 : ∀ p ∈ R, p.1 < L' := fun p hp => l1 p (.tail _ hp)
  have hL2 : S < L' := l1 _ (.head _)
  refine storeX_C (c := L' + 1) lF lN rfl (light_upd z4.2.1 z2.1 hL2 hL1) d1 ?_
  clear lF lN
  intro h3 oc F3 N3 d3
  (try dsimp only)
  k_steps
  refine unhold ?_
  rename Fr _ _ _ _ => lF
  rename News _ _ _ _ => lN
  rename OU < _ ∧ IN < _ ∧ L' + 1 < _ ∧ S < _ ∧ AllLt _ R => z5
  obtain ⟨ST, rfl, z6⟩ := name_as (P := fun x => OU < x ∧ IN < x ∧ L' + 1 < x ∧ S < x ∧ AllLt x R) z5
  clear z5
  have hp0 : Pts R [v0] [p0] := ⟨rfl, fun i hi => by
    have : i = 0 := by simpa using hi
    subst this
    exact hv.2 0 (by simp)⟩
  have hpr : Pts R vr pr := ⟨by simpa using hvl, fun i hi => by
    have := hv.2 (i + 1) (by simpa using hi)
    simpa using this⟩
  refine' my_while (σ := LSt) (fun c => (IN, listOf c.iv.toArray c.ien) :: (OU, listOf c.ov.toArray c.oen) :: (ST, listOf c.sv.toArray c.sen) :: (L' + 1, c.oc) :: R)
    (fun c => [(Str.ofString "inside", Value.ref IN), (Str.ofString "steps", Value.ref ST)])
    (fun c => Pts R c.iv c.ins ∧ Pts R c.ov c.outs ∧ IntsAre c.sv c.steps ∧ PInv (p0 :: pr) c.ins c.outs c.steps ∧ 0 < c.ins.length ∧ c.steps.length ≤ c.ins.length ∧ c.oc.data = .cell (some (.ref OU)))
    (fun c => c.outs.length) ⟨[v0], 0, [p0], vr, 0, pr, [], 0, [], oc⟩ lF (light_perm lN) ?ps ⟨hp0, hpr, .nil, PInv.init rfl, by simp, by simp, d3⟩ ?turn
  case ps => kst_all
  clear lF lN
  rintro ⟨iv, ien, ins, ov, oen, outs, sv, sen, steps, oc2⟩ u1 h4 tk4 ⟨p1, p2, p3, p4, p5, p6, p7⟩ F4 N4
  dsimp only [kstB] at F4 N4 p1 p2 p3 p4 p5 p6 p7 ⊢
  have hil := p1.1
  have hol := p2.1
  have hsum : ins.length + outs.length = pr.length + 1 := by
    have := p4.1.length_eq
    simpa using this
  have hlen' : pr.length + 1 ≤ 6 := by simpa using hlen
  refine hideW fun P1 R1 hP1 hR1 => ?_
  k_steps
  · rename Fr _ _ _ _ => lF
    rename News _ _ _ _ => lN
    refine' ListComp_two (x := Str.ofString "one") (y := Str.ofString "two") (cl := [(Str.ofString "outside", L' + 1)]) (fun k ys nw => MinOk ins outs ov k ys nw) lF lN (a := IN) (b := OU) (va := iv) (vb := ov) (.head _) (.tail _ (.head _)) (by omega) (by omega) ⟨rfl, fun q hq => absurd hq (Nat.not_lt_zero _)⟩ ?y0 ?hA ?hB ?tn ?fin ?y1 ?y2 ?y3 ?y4 ?y5 ?y6 ?y7 ?y8 ?y9
    case y0 => rfl
    case y1 => rfl
    case y2 => decide
    case y3 => rfl
    case y4 => decide
    case y5 => rfl
    case y6 => rfl
    case y7 => decide +kernel
    case y8 => intro _; rfl
    case y9 => intro _ _; rfl
    case hA => k_steps
    case hB =>
      intro s₂ I oI C oC D ys m₂ nw h tk E' hC F5 N5 sub5
      exact wpAny_Name (wpAny_loadName_cell (by rfl) (by rfl) (by rfl) ⟨oc2, N5.get (.tail _ (.tail _ (.tail _ (sub5 _ (.tail _ (.tail _ (.tail _ (.head _)))))))), p7⟩ ⟨rfl, rfl⟩) (by decide +kernel)
    case tn =>
      intro hz i j I C D J oI v ys nw v' oJ oC m₂ h tk E' hi hvi hj hvj inv sub5 hC hx hy F5 N5 off5
      clear lF lN
      have Pi := p1.2 i (by omega)
      have Pj := p2.2 j (by omega)
      rw [show iv.getD i .none = v by rw [List.getD_eq_getElem?_getD, hvi]; rfl] at Pi
      have hvj2 : ov.getD j .none = v' := by rw [List.getD_eq_getElem?_getD, hvj]; rfl
      rw [hvj2] at Pj
      obtain ⟨r1, t1, t2, rfl, hm1⟩ := id Pi
      obtain ⟨r2, t3, t4, rfl, hm2⟩ := id Pj
      have subR : ∀ p ∈ R, p ∈ nw := fun p hp => sub5 p (.tail _ (.tail _ (.tail _ (.tail _ hp))))
      k_steps
      refine unhold ?_
      rename Fr _ _ _ _ => lF
      rename News _ _ _ _ => lN
      refine due_tells (R := R) ⟨by assumption, lF, by assumption, by assumption, rfl⟩ lN (fun z hz => .tail _ (.tail _ (.tail _ (.tail _ (subR z hz))))) Pi Pj (by show dp + 1 + 2 < recursionLimit; omega) (by ktr_units) ?_
      clear lF lN
      intro t9 h9 tk9 F9 N9
      k_steps
      refine unhold ?_
      rename Fr _ _ _ _ => lF
      rename News _ _ _ _ => lN
      rename _ ∧ _ ∧ _ ∧ _ ∧ AllLt _ nw => hl5
      rw [hol] at inv
      refine ⟨_, _, (_, tupO [.int (dueF (pt ins i) (pt outs j)) t9, .ref r2]) :: nw, rfl, lF, two_perm lN, two_off hl5 off5, fun z hz => .tail _ (sub5 z hz), (by show MinOk ins outs ov (i * ov.length + j + 1) _ _; rw [hol]; exact MinOk.next inv (by omega) (fun z hz => .tail _ hz) (by rw [hvj2]; exact .head _))⟩
    case fin =>
      intro D ys nw h tk F5 N5 off5 sub5 inv
      clear lF lN
      rw [hil, hol] at inv
      k_steps
      refine unhold ?_
      rename Fr _ _ _ _ => lF
      rename News _ _ _ _ => lN
      have hpo : 0 < outs.length := by omega
      have hbo : ∀ p ∈ outs, 0 ≤ p.1 ∧ p.1 ≤ 3 ∧ 0 ≤ p.2 ∧ p.2 ≤ 3 := fun p hp => hps p (p4.1.subset (List.mem_append_right _ hp))
      have hnd2 : outs.Nodup := (List.nodup_append.mp (p4.1.nodup_iff.mpr hnd)).2.1
      refine min_P (R := R) (by rfl) (by ktr_units) (by ktr_units) lF lN (.head _) (ins := ins) (outs := outs) (ov := ov) ⟨inv.1, fun q hq => ?mo⟩ p2 (fun z hz => .tail _ (sub5 _ (.tail _ (.tail _ (.tail _ (.tail _ hz)))))) hbo (by omega) hpo ?mn
      case mo =>
        obtain ⟨t, tk', e1, e2⟩ := inv.2 q hq
        exact ⟨t, tk', e1, .tail _ e2⟩
      clear lF lN
      intro i j t td h6 tk6 hi hj htm hmin F6 N6
      obtain ⟨r, t3, t4, er, mr⟩ := p2.2 j hj
      rw [er] at htm
      have hIN : (IN, listOf iv.toArray ien) ∈ (D, lst ys) :: nw := .tail _ (sub5 _ (.head _))
      have hOU : (OU, listOf ov.toArray oen) ∈ (D, lst ys) :: nw := .tail _ (sub5 _ (.tail _ (.head _)))
      have hST : (ST, listOf sv.toArray sen) ∈ (D, lst ys) :: nw := .tail _ (sub5 _ (.tail _ (.tail _ (.head _))))
      have tIN : t ≠ IN := news_ne N6 htm hIN (by show Value.type "tuple" ≠ Value.type "list"; decide)
      have tOU : t ≠ OU := news_ne N6 htm hOU (by show Value.type "tuple" ≠ Value.type "list"; decide)
      have tST : t ≠ ST := news_ne N6 htm hST (by show Value.type "tuple" ≠ Value.type "list"; decide)
      have N7 : News g' L' h6 ((t, tupO [.int (dueF (pt ins i) (pt outs j)) td, .ref r]) :: (IN, listOf iv.toArray ien) :: (OU, listOf ov.toArray oen) :: (ST, listOf sv.toArray sen) :: (L' + 1, oc2) :: R) := News.sub N6 fun z hz => by
        rcases List.mem_cons.mp hz with rfl | hz
        · exact htm
        · exact .tail _ (sub5 z hz)
      clear N6 inv off5
      obtain ⟨dv, edv⟩ : ∃ d, Hold (dueF (pt ins i) (pt outs j) = d) := ⟨_, hold rfl⟩
      rw [show dueF (pt ins i) (pt outs j) = dv from edv] at N7 hmin htm
      k_steps
      refine unhold ?_
      rename Fr _ _ _ _ => lF
      rename News _ _ _ _ => lN
      have hRI : ∀ p ∈ R, p.1 < IN := of_allLt z2.2.2
      have hsl := p3.length
      refine app_L lF lN (light_updS tST z4.1 z6.1 z2.1 hRI) (by omega) ?_
      clear lF lN
      intro h7 F7 N8
      (try dsimp only)
      k_steps
      refine unhold ?_
      rename Fr _ _ _ _ => lF
      rename News _ _ _ _ => lN
      refine app_L lF lN (light_updI tIN z4.1 z6.1 z2.1 hRI) (by omega) ?_
      clear lF lN
      intro h8 F8 N9
      (try dsimp only)
      k_steps
      refine unhold ?_
      rename Fr _ _ _ _ => lF
      rename News _ _ _ _ => lN
      refine remove_P (j := j) (outs := outs) (R := R) lF lN (by ktr_units) p2 (fun z hz => .tail _ (.tail _ (.tail _ (.tail _ (.tail _ hz))))) hj er hnd2 (by omega) (light_updO tOU z4.1 z6.1 z2.1 hRI) ?_
      clear lF lN
      intro h9 F9 N10
      (try dsimp only)
      k_steps
      rename Fr _ _ _ _ => lF
      rename News _ _ _ _ => lN
      have hpm : outs.Perm (pt outs j :: outs.eraseIdx j) := erase_perm outs j hj
      have hst := p4.step hnd (pt_mem hi) hpm (fun a ha b hb => by rw [show dueF (pt ins i) (pt outs j) = dv from edv]; exact hmin a ha b hb)
      rw [show dueF (pt ins i) (pt outs j) = dv from edv] at hst
      refine hP1 _ _ ?_
      dsimp only [WPost]
      refine' WEnd.intro ⟨iv ++ [.ref r], ien + 1, ins ++ [pt outs j], ov.eraseIdx j, oen + 1, outs.eraseIdx j, sv ++ [.int dv td], sen + 1, steps ++ [dv], oc2⟩ lF lN (fun z hz => .tail _ hz) ?wb ⟨⟨p1.append ⟨r, t3, t4, rfl, mr⟩, p2.erase j, ints_snoc p3 dv td, hst, ?wc, ?wd, p7⟩, ?we⟩
      case wb => kst_all
      case wc => simp
      case wd => simp only [List.length_append, List.length_cons, List.length_nil]; omega
      case we => (show (outs.eraseIdx j).length < outs.length); rw [List.length_eraseIdx, if_pos hj]; omega
  · refine hR1 _ ?_
    (try dsimp only)
    k_steps
    rename Fr _ _ _ _ => lF
    rename News _ _ _ _ => lN
    rename IntsAre _ _ => hI9
    rename List.Pairwise _ _ => hs9
    rename List.Perm _ steps => hp9
    have hz : outs = [] := List.length_eq_zero_iff.mp (by omega)
    subst hz
    exact ret _ _ _ _ steps ins _ _ _ (by assumption) (by assumption) (fun z hz => .tail _ (.tail _ (.tail _ (.tail _ hz)))) hI9 p4 hp9 hs9
end
end Mine
end
section
open PySem PySem.W PyProof.Rows PySem.Spec PySem.Calls
namespace Mine
open LCg LCp
theorem ints_of_all : ∀ (l : List Value), (∀ v ∈ l, ∃ n t, v = Value.int n t) → ∃ ns, IntsAre l ns
  | [], _ => ⟨[], .nil⟩
  | v :: l, h => by
    obtain ⟨n, t, rfl⟩ := h v (.head _)
    obtain ⟨ns, hi⟩ := ints_of_all l fun v hv => h v (.tail _ hv)
    exact ⟨n :: ns, .cons n t hi⟩
theorem ints_mem {vs : List Value} {ns : List Int} (h : IntsAre vs ns) : ∀ v ∈ vs, ∃ n t, v = Value.int n t := by
  induction h with
  | nil => intro v hv; cases hv
  | cons n t r ih =>
    intro v hv
    rcases List.mem_cons.mp hv with rfl | hv
    · exact ⟨n, t, rfl⟩
    · exact ih v hv
theorem nodup_len : ∀ (l l' : List Int), l.Nodup → (∀ x ∈ l, x ∈ l') → l.length ≤ l'.length
  | [], _, _, _ => Nat.zero_le _
  | a :: l, l', hn, h => by
    have hn' := List.nodup_cons.mp hn
    have ha := h a (.head _)
    have ih := nodup_len l (l'.erase a) hn'.2 fun x hx => (List.mem_erase_of_ne (fun e : x = a => hn'.1 (by rw [← e]; exact hx))).mpr (h x (.tail _ hx))
    rw [List.length_erase_of_mem ha] at ih
    have := List.length_pos_of_mem ha
    rw [List.length_cons]; omega
theorem free_spot (zs : List Int) (z : Int) (h0 : 0 ≤ z) (h1 : z < 16) (hl : zs.length ≤ 5) : ∃ k : Nat, (z + 5 * (k : Int)) % 16 ∉ zs := by
  apply Classical.byContradiction
  intro h
  have h' : ∀ k : Nat, (z + 5 * (k : Int)) % 16 ∈ zs := fun k => Classical.byContradiction fun hk => h ⟨k, hk⟩
  have := nodup_len [(z + 5 * 0) % 16, (z + 5 * 1) % 16, (z + 5 * 2) % 16, (z + 5 * 3) % 16, (z + 5 * 4) % 16, (z + 5 * 5) % 16] zs (by simp only [List.nodup_cons, List.mem_cons, List.not_mem_nil, or_false, not_or, List.nodup_nil, and_true, not_false_eq_true]; omega) (by
    intro x hx
    simp only [List.mem_cons, List.not_mem_nil, or_false] at hx
    rcases hx with rfl | rfl | rfl | rfl | rfl | rfl
    · exact h' 0
    · exact h' 1
    · exact h' 2
    · exact h' 3
    · exact h' 4
    · exact h' 5)
  simp only [List.length_cons, List.length_nil] at this
  omega
theorem any_mem {zs : List Int} {x : Int} (h : (zs.any fun y => y == x) = true) : x ∈ zs := by
  obtain ⟨y, hy, e⟩ := List.any_eq_true.mp h
  rw [← (eq_of_beq e : y = x)]; exact hy
theorem any_not {zs : List Int} {x : Int} (h : (zs.any fun y => y == x) = false) : x ∉ zs := fun hx => by
  have : (zs.any fun y => y == x) = true := List.any_eq_true.mpr ⟨x, hx, beq_self_eq_true x⟩
  rw [h] at this; cases this
theorem nodup_snoc {zs : List Int} {x : Int} (h : zs.Nodup) (hx : x ∉ zs) : (zs ++ [x]).Nodup :=
  List.nodup_append.mpr ⟨h, by simp, fun a ha b hb e => hx (by rw [← List.mem_singleton.mp hb, ← e]; exact ha)⟩
theorem spot_off {SP I : Addr} {o : Obj} {R own : List (Addr × Obj)} (h : ∀ p ∈ R, p.1 < SP) (ho : ∀ p ∈ own, p.1 = I) (hn : ∀ p ∈ (SP, o) :: R, p.1 ≠ I) : ∀ p ∈ R ++ own, p.1 ≠ SP := by
  intro p hp
  rcases List.mem_append.mp hp with hp | hp
  · exact Nat.ne_of_lt (h p hp)
  · intro e; exact hn _ (.head _) (e.symm.trans (ho p hp))
theorem spot_far {SP I : Addr} {o o' : Obj} {R : List (Addr × Obj)} (hn : ∀ p ∈ (SP, o) :: R, p.1 ≠ I) : ∀ p ∈ (SP, o') :: R, p.1 ≠ I := by
  intro p hp
  rcases List.mem_cons.mp hp with rfl | hp
  · exact hn (SP, o) (.head _)
  · exact hn p (.tail _ hp)
def pz (z : Int) : Int × Int := (z.fmod 4, z.fdiv 4)
theorem pz_is {z : Int} (h : 0 ≤ z ∧ z < 16) : pz z = (z % 4, z / 4) := by
  unfold pz
  rw [Int.fmod_eq_emod_of_nonneg _ (by decide), Int.fdiv_eq_ediv_of_nonneg _ (by decide)]
theorem spot_bounds {zs : List Int} (h : ∀ z ∈ zs, 0 ≤ z ∧ z < 16) : ∀ p ∈ zs.map pz, 0 ≤ p.1 ∧ p.1 ≤ 3 ∧ 0 ≤ p.2 ∧ p.2 ≤ 3 := by
  intro p hp
  obtain ⟨z, hz, rfl⟩ := List.mem_map.mp hp
  have := h z hz
  rw [pz_is this]
  dsimp only
  omega
theorem spot_nodup : ∀ {zs : List Int}, zs.Nodup → (∀ z ∈ zs, 0 ≤ z ∧ z < 16) → (zs.map pz).Nodup
  | [], _, _ => List.nodup_nil
  | z :: r, h, hb => by
    have h' := List.nodup_cons.mp h
    refine List.nodup_cons.mpr ⟨fun hm => ?_, spot_nodup h'.2 fun x hx => hb x (.tail _ hx)⟩
    obtain ⟨y, hy, e⟩ := List.mem_map.mp hm
    have b1 := hb z (.head _)
    have b2 := hb y (.tail _ hy)
    rw [pz_is b1, pz_is b2, Prod.mk.injEq] at e
    have : y = z := by omega
    exact h'.1 (this ▸ hy)
theorem off1_mem {D : Addr} : ∀ {l : List (Addr × Obj)}, Off1 D l → ∀ p ∈ l, p.1 ≠ D
  | [], _, p, h => nomatch h
  | _ :: _, x, p, h => by
    rcases List.mem_cons.mp h with rfl | h
    · exact x.1
    · exact off1_mem x.2 p h
theorem mod_name (x : Int) : ∃ Z, x.fmod 16 = Z ∧ 0 ≤ Z ∧ Z < 16 :=
  ⟨x % 16, Int.fmod_eq_emod_of_nonneg x (by decide), Int.emod_nonneg x (by decide), Int.emod_lt_of_pos x (by decide)⟩
section
variable {prog : Program} {w : World} {A : Around} {E : Value → Shared → Prop} {s : Shared} {h₀ : Heap} {L l : Addr} {m : Str → Option Value} {news : List (Addr × Obj)} {vs : List Value} {ns : List Int}
theorem slice3_I {value slice : PySem.Expr} {vl vu vk : Value} {lo hi st : Option Int} {ops : List Value} {Q : Value → Shared → Prop} (F : Fr h₀ L s.heap m) (N : News h₀ L s.heap news) (hl : s.heap.IsList l vs.toArray) (hI : IntsAre vs ns) (pl : IsPart vl lo) (pu : IsPart vu hi) (pk : IsPart vk st) (h0 : st ≠ some 0) (hsz : vs.length ≤ 1000)
    (h : ∀ D h' ws ms, Fr h₀ L h' m → News h₀ L h' ((D, listOf (List.toArray ws) 0) :: news) → (∀ p ∈ news, p.1 < D) → IntsAre ws ms → Q (.ref D) { s with heap := h' })
    (hs : subscripted slice false (.ref l) (.ref s.heap.objs.size) = operate ops (getItem (.ref l) (.ref s.heap.objs.size)) := by with_unfolding_all rfl)
    (ht : ∀ r, letTemporaryGo value (.ref l) r = pure () := by intro _; with_unfolding_all rfl) :
    wpAny (model prog w) A (subscriptTail value slice (.ref l) (.ref s.heap.objs.size)) Q E { s with heap := s.heap.push { cls := .type "slice", data := .fields #[vl, vu, vk] } } := by
  refine slice_list3 F N hl pl pu pk h0 (fun h' F' N' => ?_) hs ht (by rw [sizeLine_eq, List.size_toArray]; omega)
  obtain ⟨ms, hm⟩ := ints_of_all (slicePick vs.toArray lo hi st).toList fun v hv => by
    unfold slicePick at hv
    rw [List.toList_toArray] at hv
    obtain ⟨i, _, hi⟩ := List.mem_filterMap.mp hv
    have hi' : vs[i]? = some v := by simpa using hi
    exact ints_mem hI v (List.mem_of_getElem? hi')
  exact h _ h' _ ms F' (by rw [Array.toArray_toList]; exact N') (fun p hp => Nat.lt_succ_of_lt (Heap.lt_size (N p hp).1)) hm
end
section
variable {w : World} {mean : ExcName → Option Value} {mg mb : Str → Option Value} {dp un : Nat} {gd : Option (List Code)} {cn : Str} {cs : Scope} {a : Addr} {ccd : Value} {cl : List (Str × Addr)} {outer : List Env} {A₀ : Around} {base h₀ : Heap} {L : Addr} {m : Str → Option Value} {s : Shared} {Q E : Value → Shared → Prop} {R : List (Addr × Obj)}
local macro_rules | `(tactic| k_all) => `(tactic| assumption)
local macro_rules | `(tactic| walk_at "call ref") => `(tactic| refine hold ?_)
local macro_rules | `(tactic| walk_at "pyIter ref") => `(tactic| refine hold ?_)
local macro_rules | `(tactic| walk_at "exec While Compare cons nil") => `(tactic| refine hold ?_)
local macro_rules | `(tactic| walk_at "WPost") => `(tactic| dsimp only [WPost])
local macro_rules | `(tactic| walk_at "FPost") => `(tactic| dsimp only [FPost])
local macro_rules | `(tactic| walk_at "eval ListComp") => `(tactic| refine hold ?_)
local macro_rules | `(tactic| walk_at "CompSrc") => `(tactic| refine hold ?_)
local macro_rules | `(tactic| walk_at "SrcL") => `(tactic| refine hold ?_)
local macro_rules | `(tactic| walk_at "CompEnd") => `(tactic| refine hold ?_)
local macro_rules | `(tactic| walk_at "call builtin:sum") => `(tactic| refine hold ?_)
local macro_rules | `(tactic| walk_at "call builtin:list.append") => `(tactic| refine hold ?_)
local macro_rules | `(tactic| walk_at "compareOp In") => `(tactic| refine hold ?_)
local macro_rules | `(tactic| walk_at "subscriptTail Name Slice ref ref") => `(tactic| refine hold ?_)
theorem spots_tells {S : Addr} {vs : List Value} {ns : List Int}
    (C : Cxt w mean mg mb A₀ base outer h₀ L m cs s.heap) (N : News h₀ L s.heap R) (hS : h₀.IsList S vs.toArray) (hI : IntsAre vs ns) (hlen : ns.length ≤ 63)
    (hdp : dp + 4 < recursionLimit) (hun : un + 48 < cLine)
    (ret : ∀ D (us : List Value) e ps h' tk' R', Fr h₀ L h' m → News h₀ L h' ((D, listOf us.toArray e) :: R') → (∀ p ∈ R, p ∈ R') → (∀ p ∈ R', p.1 ≠ D) → Pts R' us ps → (∀ p ∈ ps, 0 ≤ p.1 ∧ p.1 ≤ 3 ∧ 0 ≤ p.2 ∧ p.2 ≤ 3) → ps.Nodup → 0 < ps.length → ps.length ≤ 6 → Q (.ref D) { s with heap := h', toks := tk' }) :
    wpAny (model PySem.Challenge.rw_qj0007_01.row.prog w) (ktrTop dp un gd cn cs L a ccd cl outer) (call (.ref 134) [.ref S]) Q E s := by
  w_top off
  obtain ⟨B, F, X, T, hk⟩ := C
  have hvl := hI.length
  revert X
  k_fill
  intro X
  refine wpAny_call ?_
  k_dflt ktr_enter
  rename Fr h₀ L _ m => FG
  rename Heap => hx'
  rename Addr => Lx'
  rename Heap => g
  replace hS := hS.at fun o e => FG.keep _ o e
  k_steps
  · refine unhold ?_
    rename IsRange _ _ _ _ _ _ _ _ => hR
    rename Fr _ _ _ _ => lF
    rename News _ _ _ _ => lN
    rename ∀ p ∈ R, p.1 < _ => hSP0
    obtain ⟨SP, rfl, hSP⟩ := name_as (P := fun x => ∀ p ∈ R, p.1 < x) hSP0
    clear hSP0
    refine' my_range 6 (σ := List Value × Nat × List Int) (fun c => (SP, listOf c.1.toArray c.2.1) :: R)
      (fun c => [(Str.ofString "script", Value.ref S), (Str.ofString "spots", Value.ref SP), (Str.ofString "count", Value.int 6 _)])
      (fun i c => IntsAre c.1 c.2.2 ∧ c.2.2.length = i ∧ c.2.2.Nodup ∧ ∀ z ∈ c.2.2, 0 ≤ z ∧ z < 16)
      ([], 0, []) rfl hR (by rfl) (by decide) lF lN ?p61 ⟨.nil, rfl, List.nodup_nil, fun z hz => absurd hz (by simp)⟩ ?p62 ?p63
    case p61 => kst_all
    case p63 =>
      clear lF lN
      rintro ⟨us, e, zs⟩ u h8 tk8 ⟨z1, z2, z3, z4⟩ F3 N3
      dsimp only [kstB, envOf, List.cons_append] at F3 N3 z1 z2 z3 z4
      try dsimp only
      k_steps
      refine unhold ?_
      rename Fr _ _ _ _ => lF
      refine LCg.ListComp_U (F₀ := lF) (by rfl) (by decide) (by rfl) (by decide) (by rfl) ?_
      k_steps
      refine unhold ?_
      rename Fr _ _ _ _ => lF
      rename News _ _ _ _ => lN
      have hul := z1.length
      refine CompSrc.ledger (by rfl) lF lN (.head _) (by rw [sizeLine_eq, List.size_toArray]; omega) fun gg => ?_
      refine comp_N us.toArray.size (fun i ys nw => (∀ p ∈ (SP, listOf us.toArray e) :: R, p ∈ nw) ∧ Pts nw ys ((zs.take i).map pz)) ?u61 ?u62 _ 0 [] _ rfl ⟨fun p hp => hp, rfl, fun i hi => by simp at hi⟩
      case u61 =>
        intro i ys nw v hi hI6 hP I oI C oC D m₂ h tk E' hC hx F5 N5 off ne
        obtain ⟨hsub, hpt⟩ := hI6
        rw [List.size_toArray] at hi
        clear lF lN
        have hv6 : us[i]? = some v := by simpa using hP
        obtain ⟨tz, ez⟩ := IntsAre.getD' z1 i (by omega)
        rw [show us.getD i .none = v by rw [List.getD_eq_getElem?_getD, hv6]; rfl] at ez
        subst ez
        obtain ⟨zz, ezz⟩ : ∃ q, zs.getD i 0 = q := ⟨_, rfl⟩
        rw [ezz] at hx
        k_steps
        refine unhold ?_
        rename Fr _ _ _ _ => lF
        rename News _ _ _ _ => lN
        rename I < _ ∧ C < _ ∧ D < _ ∧ AllLt _ nw => hT5
        obtain ⟨T5, rfl, hT5⟩ := name_as (P := fun x => I < x ∧ C < x ∧ D < x ∧ AllLt x nw) hT5
        obtain ⟨tA, tB, lN2⟩ : ∃ tA tB, News _ _ _ ((T5, tupO [.int (pz zz).1 tA, .int (pz zz).2 tB]) :: (I, oI) :: (C, oC) :: (D, lst ys) :: nw) := ⟨_, _, lN⟩
        refine CompEnd.intro lF lN2 ((T5, tupO [.int (pz zz).1 tA, .int (pz zz).2 tB]) :: nw) ?v61 ⟨⟨Nat.ne_of_gt hT5.1, Nat.ne_of_gt hT5.2.1, Nat.ne_of_gt hT5.2.2.1⟩, off⟩ (.inr ⟨_, .tail _ (hsub _ (.head _)), rfl, _, rfl⟩) ⟨fun p hp => .tail _ (hsub p hp), ?v62⟩
        case v61 =>
          intro p hp
          simp only [List.mem_cons] at hp ⊢
          rcases hp with hp | hp | hp | hp | hp <;> first | exact .inl hp | exact .inr (.inl hp) | exact .inr (.inr (.inl hp)) | exact .inr (.inr (.inr (.inl hp))) | exact .inr (.inr (.inr (.inr hp)))
        case v62 =>
          have hzi : i < zs.length := by omega
          have e3 : (zs.take (i + 1)).map pz = (zs.take i).map pz ++ [pz zz] := by
            rw [List.take_add_one, List.map_append, ← ezz, List.getD_eq_getElem?_getD, List.getElem?_eq_getElem hzi]; rfl
          show Pts _ _ ((zs.take (i + 1)).map pz)
          rw [e3]
          exact (hpt.mono fun p hp => .tail _ hp).append ⟨_, _, _, rfl, .head _⟩
      case u62 =>
        intro ys nw hI6 D h tk F5 N5 off5
        obtain ⟨hsub, hpt⟩ := hI6
        rw [List.size_toArray, hul, List.take_length] at hpt
        clear lF lN
        k_steps
        exact ret D ys _ (zs.map pz) _ _ nw (by assumption) (by assumption) (fun p hp => hsub p (.tail _ hp)) (fun p hp => off1_mem off5 p hp) hpt (spot_bounds z4) (spot_nodup z3 z4) (by rw [List.length_map, z2]; decide) (by rw [List.length_map, z2]; decide)
    clear lF lN hR
    rintro k tk0 ⟨us, e, zs⟩ u h8 tk8 own I oI hk8 ⟨z1, z2, z3, z4⟩ hnI hownI hImem F3 N3
    dsimp only [kstB, envOf, List.cons_append] at F3 N3 z1 z2 z3 z4 hnI
    dsimp only
    refine hide fun Q1 hQ1 => ?_
    k_steps
    refine unhold ?_
    rename Fr _ _ _ _ => lF
    rename News _ _ _ _ => lN
    refine slice3_I lF lN (hS.at fun o e => lF.keep _ o e) hI (.int _ _) .none (.int _ _) (by decide) (by omega) ?_
    clear lF lN
    intro SL h9 ws ms F9 N9 l9 hm9
    (try dsimp only)
    k_steps
    refine unhold ?_
    rename Fr _ _ _ _ => lF
    rename News _ _ _ _ => lN
    refine LSm.sum_ints lF lN (by rfl) (PySem.IsL.isList (n := 0) (lN _ (.head _)).1) hm9 ?_
    clear lF lN
    intro h10 tk10 t10 F10 N10
    (try dsimp only)
    k_steps
    refine unhold ?_
    rename Fr _ _ _ _ => lF
    rename News _ _ _ _ => lN
    obtain ⟨Z, eZ, Z0, Z1⟩ := mod_name ([0, 9, 7, 14, 12, 3].getD ((k : Nat) : Int).toNat 0 + ms.sum)
    rw [eZ] at lF
    obtain ⟨kk, hkk⟩ := free_spot zs Z Z0 Z1 (by omega)
    refine' my_while (σ := Int × Nat × Nat) (fun c => (SP, listOf us.toArray e) :: (R ++ own)) (fun c => [(Str.ofString "spot", Value.int c.1 c.2.1), (Str.ofString "script", Value.ref S), (Str.ofString "spots", Value.ref SP), (Str.ofString "count", Value.int 6 _)])
      (fun c => 0 ≤ c.1 ∧ c.1 < 16 ∧ (c.1 + 5 * (c.2.2 : Int)) % 16 ∉ zs) (fun c => c.2.2) (Z, _, kk) lF (News.sub lN fun z hz => .tail _ (.tail _ hz)) ?q61 ⟨Z0, Z1, hkk⟩ ?q62
    case q61 => kst_all
    clear lF lN
    rintro ⟨sp, stk, q⟩ u7 h7 tk7 ⟨w1, w2, w3⟩ F7 N7
    dsimp only [kstB] at F7 N7 w1 w2 w3 ⊢
    refine hideW fun P1 R1 hP1 hR1 => ?_
    k_steps
    · rename (zs.any _) = true => hin
      rename Fr _ _ _ _ => lF
      rename News _ _ _ _ => lN
      obtain ⟨Y, eY, Y0, Y1⟩ := mod_name (sp + 5)
      rw [eY] at lF
      have eY2 : (sp + 5) % 16 = Y := by rw [← eY, Int.fmod_eq_emod_of_nonneg _ (by decide)]
      have hq : q ≠ 0 := by
        rintro rfl
        have e1 : (sp + 5 * ((0 : Nat) : Int)) % 16 = sp := by omega
        rw [e1] at w3
        exact w3 (any_mem hin)
      refine hP1 _ _ ?_
      dsimp only [WPost]
      refine' WEnd.intro (Y, _, q - 1) lF lN (fun z hz => hz) ?r61 ⟨⟨Y0, Y1, ?r62⟩, ?r63⟩
      case r61 => kst_all
      case r62 =>
        have e2 : (Y + 5 * ((q - 1 : Nat) : Int)) % 16 = (sp + 5 * (q : Int)) % 16 := by omega
        show (Y + 5 * ((q - 1 : Nat) : Int)) % 16 ∉ zs
        rw [e2]; exact w3
      case r63 => (show q - 1 < q); omega
    · rename (zs.any _) = false => hout
      refine hR1 _ ?_
      (try dsimp only)
      k_steps
      refine unhold ?_
      rename Fr _ _ _ _ => lF
      rename News _ _ _ _ => lN
      have hul := z1.length
      refine app_L lF lN (.head (spot_off hSP hownI hnI)) (by omega) ?_
      clear lF lN
      intro h11 F11 N11
      (try dsimp only)
      k_steps
      rename Fr _ _ _ _ => lF
      rename News _ _ _ _ => lN
      refine hQ1 _ _ ?_
      dsimp only [FPost]
      refine' FEnd.intro (us ++ [.int sp stk], e + 1, zs ++ [sp]) lF lN ?s61 ?s62 (fun z hz hm => spot_far hnI z hz (List.mem_singleton.mp hm)) ?s63 ⟨ints_snoc z1 sp stk, ?s64, nodup_snoc z3 (any_not hout), fun z hz => ?s65⟩
      case s63 => kst_all
      case s61 => exact fun z hz => (List.mem_cons.mp hz).elim (fun h => h ▸ .head _) fun h => .tail _ (List.mem_append_left _ h)
      case s62 => exact fun z hz => .tail _ (List.mem_append_right _ hz)
      case s64 => rw [List.length_append, z2]; rfl
      case s65 =>
        rcases List.mem_append.mp hz with hz | hz
        · exact z4 z hz
        · rw [List.mem_singleton.mp hz]; exact ⟨w1, w2⟩
  · refine unhold ?_
    rename IsRange _ _ _ _ _ _ _ _ => hR
    rename Fr _ _ _ _ => lF
    rename News _ _ _ _ => lN
    rename ∀ p ∈ R, p.1 < _ => hSP0
    obtain ⟨SP, rfl, hSP⟩ := name_as (P := fun x => ∀ p ∈ R, p.1 < x) hSP0
    clear hSP0
    refine' my_range 5 (σ := List Value × Nat × List Int) (fun c => (SP, listOf c.1.toArray c.2.1) :: R)
      (fun c => [(Str.ofString "script", Value.ref S), (Str.ofString "spots", Value.ref SP), (Str.ofString "count", Value.int 5 _)])
      (fun i c => IntsAre c.1 c.2.2 ∧ c.2.2.length = i ∧ c.2.2.Nodup ∧ ∀ z ∈ c.2.2, 0 ≤ z ∧ z < 16)
      ([], 0, []) rfl hR (by rfl) (by decide) lF lN ?p51 ⟨.nil, rfl, List.nodup_nil, fun z hz => absurd hz (by simp)⟩ ?p52 ?p53
    case p51 => kst_all
    case p53 =>
      clear lF lN
      rintro ⟨us, e, zs⟩ u h8 tk8 ⟨z1, z2, z3, z4⟩ F3 N3
      dsimp only [kstB, envOf, List.cons_append] at F3 N3 z1 z2 z3 z4
      try dsimp only
      k_steps
      refine unhold ?_
      rename Fr _ _ _ _ => lF
      refine LCg.ListComp_U (F₀ := lF) (by rfl) (by decide) (by rfl) (by decide) (by rfl) ?_
      k_steps
      refine unhold ?_
      rename Fr _ _ _ _ => lF
      rename News _ _ _ _ => lN
      have hul := z1.length
      refine CompSrc.ledger (by rfl) lF lN (.head _) (by rw [sizeLine_eq, List.size_toArray]; omega) fun gg => ?_
      refine comp_N us.toArray.size (fun i ys nw => (∀ p ∈ (SP, listOf us.toArray e) :: R, p ∈ nw) ∧ Pts nw ys ((zs.take i).map pz)) ?u51 ?u52 _ 0 [] _ rfl ⟨fun p hp => hp, rfl, fun i hi => by simp at hi⟩
      case u51 =>
        intro i ys nw v hi hI6 hP I oI C oC D m₂ h tk E' hC hx F5 N5 off ne
        obtain ⟨hsub, hpt⟩ := hI6
        rw [List.size_toArray] at hi
        clear lF lN
        have hv6 : us[i]? = some v := by simpa using hP
        obtain ⟨tz, ez⟩ := IntsAre.getD' z1 i (by omega)
        rw [show us.getD i .none = v by rw [List.getD_eq_getElem?_getD, hv6]; rfl] at ez
        subst ez
        obtain ⟨zz, ezz⟩ : ∃ q, zs.getD i 0 = q := ⟨_, rfl⟩
        rw [ezz] at hx
        k_steps
        refine unhold ?_
        rename Fr _ _ _ _ => lF
        rename News _ _ _ _ => lN
        rename I < _ ∧ C < _ ∧ D < _ ∧ AllLt _ nw => hT5
        obtain ⟨T5, rfl, hT5⟩ := name_as (P := fun x => I < x ∧ C < x ∧ D < x ∧ AllLt x nw) hT5
        obtain ⟨tA, tB, lN2⟩ : ∃ tA tB, News _ _ _ ((T5, tupO [.int (pz zz).1 tA, .int (pz zz).2 tB]) :: (I, oI) :: (C, oC) :: (D, lst ys) :: nw) := ⟨_, _, lN⟩
        refine CompEnd.intro lF lN2 ((T5, tupO [.int (pz zz).1 tA, .int (pz zz).2 tB]) :: nw) ?v51 ⟨⟨Nat.ne_of_gt hT5.1, Nat.ne_of_gt hT5.2.1, Nat.ne_of_gt hT5.2.2.1⟩, off⟩ (.inr ⟨_, .tail _ (hsub _ (.head _)), rfl, _, rfl⟩) ⟨fun p hp => .tail _ (hsub p hp), ?v52⟩
        case v51 =>
          intro p hp
          simp only [List.mem_cons] at hp ⊢
          rcases hp with hp | hp | hp | hp | hp <;> first | exact .inl hp | exact .inr (.inl hp) | exact .inr (.inr (.inl hp)) | exact .inr (.inr (.inr (.inl hp))) | exact .inr (.inr (.inr (.inr hp)))
        case v52 =>
          have hzi : i < zs.length := by omega
          have e3 : (zs.take (i + 1)).map pz = (zs.take i).map pz ++ [pz zz] := by
            rw [List.take_add_one, List.map_append, ← ezz, List.getD_eq_getElem?_getD, List.getElem?_eq_getElem hzi]; rfl
          show Pts _ _ ((zs.take (i + 1)).map pz)
          rw [e3]
          exact (hpt.mono fun p hp => .tail _ hp).append ⟨_, _, _, rfl, .head _⟩
      case u52 =>
        intro ys nw hI6 D h tk F5 N5 off5
        obtain ⟨hsub, hpt⟩ := hI6
        rw [List.size_toArray, hul, List.take_length] at hpt
        clear lF lN
        k_steps
        exact ret D ys _ (zs.map pz) _ _ nw (by assumption) (by assumption) (fun p hp => hsub p (.tail _ hp)) (fun p hp => off1_mem off5 p hp) hpt (spot_bounds z4) (spot_nodup z3 z4) (by rw [List.length_map, z2]; decide) (by rw [List.length_map, z2]; decide)
    clear lF lN hR
    rintro k tk0 ⟨us, e, zs⟩ u h8 tk8 own I oI hk8 ⟨z1, z2, z3, z4⟩ hnI hownI hImem F3 N3
    dsimp only [kstB, envOf, List.cons_append] at F3 N3 z1 z2 z3 z4 hnI
    dsimp only
    refine hide fun Q1 hQ1 => ?_
    k_steps
    refine unhold ?_
    rename Fr _ _ _ _ => lF
    rename News _ _ _ _ => lN
    refine slice3_I lF lN (hS.at fun o e => lF.keep _ o e) hI (.int _ _) .none (.int _ _) (by decide) (by omega) ?_
    clear lF lN
    intro SL h9 ws ms F9 N9 l9 hm9
    (try dsimp only)
    k_steps
    refine unhold ?_
    rename Fr _ _ _ _ => lF
    rename News _ _ _ _ => lN
    refine LSm.sum_ints lF lN (by rfl) (PySem.IsL.isList (n := 0) (lN _ (.head _)).1) hm9 ?_
    clear lF lN
    intro h10 tk10 t10 F10 N10
    (try dsimp only)
    k_steps
    refine unhold ?_
    rename Fr _ _ _ _ => lF
    rename News _ _ _ _ => lN
    obtain ⟨Z, eZ, Z0, Z1⟩ := mod_name ([0, 9, 7, 14, 12, 3].getD ((k : Nat) : Int).toNat 0 + ms.sum)
    rw [eZ] at lF
    obtain ⟨kk, hkk⟩ := free_spot zs Z Z0 Z1 (by omega)
    refine' my_while (σ := Int × Nat × Nat) (fun c => (SP, listOf us.toArray e) :: (R ++ own)) (fun c => [(Str.ofString "spot", Value.int c.1 c.2.1), (Str.ofString "script", Value.ref S), (Str.ofString "spots", Value.ref SP), (Str.ofString "count", Value.int 5 _)])
      (fun c => 0 ≤ c.1 ∧ c.1 < 16 ∧ (c.1 + 5 * (c.2.2 : Int)) % 16 ∉ zs) (fun c => c.2.2) (Z, _, kk) lF (News.sub lN fun z hz => .tail _ (.tail _ hz)) ?q51 ⟨Z0, Z1, hkk⟩ ?q52
    case q51 => kst_all
    clear lF lN
    rintro ⟨sp, stk, q⟩ u7 h7 tk7 ⟨w1, w2, w3⟩ F7 N7
    dsimp only [kstB] at F7 N7 w1 w2 w3 ⊢
    refine hideW fun P1 R1 hP1 hR1 => ?_
    k_steps
    · rename (zs.any _) = true => hin
      rename Fr _ _ _ _ => lF
      rename News _ _ _ _ => lN
      obtain ⟨Y, eY, Y0, Y1⟩ := mod_name (sp + 5)
      rw [eY] at lF
      have eY2 : (sp + 5) % 16 = Y := by rw [← eY, Int.fmod_eq_emod_of_nonneg _ (by decide)]
      have hq : q ≠ 0 := by
        rintro rfl
        have e1 : (sp + 5 * ((0 : Nat) : Int)) % 16 = sp := by omega
        rw [e1] at w3
        exact w3 (any_mem hin)
      refine hP1 _ _ ?_
      dsimp only [WPost]
      refine' WEnd.intro (Y, _, q - 1) lF lN (fun z hz => hz) ?r51 ⟨⟨Y0, Y1, ?r52⟩, ?r53⟩
      case r51 => kst_all
      case r52 =>
        have e2 : (Y + 5 * ((q - 1 : Nat) : Int)) % 16 = (sp + 5 * (q : Int)) % 16 := by omega
        show (Y + 5 * ((q - 1 : Nat) : Int)) % 16 ∉ zs
        rw [e2]; exact w3
      case r53 => (show q - 1 < q); omega
    · rename (zs.any _) = false => hout
      refine hR1 _ ?_
      (try dsimp only)
      k_steps
      refine unhold ?_
      rename Fr _ _ _ _ => lF
      rename News _ _ _ _ => lN
      have hul := z1.length
      refine app_L lF lN (.head (spot_off hSP hownI hnI)) (by omega) ?_
      clear lF lN
      intro h11 F11 N11
      (try dsimp only)
      k_steps
      rename Fr _ _ _ _ => lF
      rename News _ _ _ _ => lN
      refine hQ1 _ _ ?_
      dsimp only [FPost]
      refine' FEnd.intro (us ++ [.int sp stk], e + 1, zs ++ [sp]) lF lN ?s51 ?s52 (fun z hz hm => spot_far hnI z hz (List.mem_singleton.mp hm)) ?s53 ⟨ints_snoc z1 sp stk, ?s54, nodup_snoc z3 (any_not hout), fun z hz => ?s55⟩
      case s53 => kst_all
      case s51 => exact fun z hz => (List.mem_cons.mp hz).elim (fun h => h ▸ .head _) fun h => .tail _ (List.mem_append_left _ h)
      case s52 => exact fun z hz => .tail _ (List.mem_append_right _ hz)
      case s54 => rw [List.length_append, z2]; rfl
      case s55 =>
        rcases List.mem_append.mp hz with hz | hz
        · exact z4 z hz
        · rw [List.mem_singleton.mp hz]; exact ⟨w1, w2⟩
end
end Mine
end
section
open PySem PySem.W PyProof.Rows PySem.Spec PySem.Calls
namespace Mine
open PySem.SeqAt PySem.MeetsSeq PySem.MeetsSeq2 PySem.MeetsSeq3 PySem.SeqRoads2
theorem list_same {prog : Program} {w : World} {A : Around} {E : Value → Shared → Prop} {s : Shared} {l b : Addr} {vs us : List Value} {ns : List Int} {Q : Value → Shared → Prop} (hl : s.heap.IsList l vs.toArray) (hb : s.heap.IsList b us.toArray) (h1 : IntsAre vs ns) (h2 : IntsAre us ns) (hu : A.units < cLine) (h : Q (.bool true) s) :
    wpAny (model prog w) A (richCompare .Eq (.ref l) (.ref b)) Q E s := by
  have e1 := h1.length
  have e2 := h2.length
  refine RcAt.lists (A := A) (e := fun _ => true) hl hb (by rw [List.size_toArray, List.size_toArray, e1, e2]) hu (fun j j1 j2 => ?_) prog w E Q ?_
  · rw [List.size_toArray] at j1 j2
    obtain ⟨t, g1⟩ := IntsAre.getD' h1 j (by omega)
    obtain ⟨t', g2⟩ := IntsAre.getD' h2 j (by omega)
    have f1 : vs.toArray[j] = .int (ns.getD j 0) t := by rw [← g1]; simp [List.getD_eq_getElem?_getD, j1]
    have f2 : us.toArray[j] = .int (ns.getD j 0) t' := by rw [← g2]; simp [List.getD_eq_getElem?_getD, j2]
    rw [f1, f2]
    have := EqAt.ints (A := A.in1) (s := s) (a := ns.getD j 0) (b := ns.getD j 0) (t := t) (u := t')
    rw [beq_self_eq_true] at this
    exact this
  · rw [show (List.range vs.toArray.size).all (fun _ => true) = true by simp]
    exact h
local macro_rules | `(tactic| k_qdec) => `(tactic| decide +kernel)
local macro_rules | `(tactic| k_all) => `(tactic| assumption)
local macro_rules | `(tactic| k_mem) => `(tactic| ((repeat (first | assumption | refine List.mem_cons_of_mem _ ?_ | refine List.mem_append_left _ ?_)); done))
local macro_rules | `(tactic| walk_at "call ref") => `(tactic| refine hold ?_)
local macro_rules | `(tactic| walk_at "compareOp Eq") => `(tactic| refine hold ?_)
local macro_rules | `(tactic| walk_at "call builtin:len") => `(tactic| (k_here; (with_reducible show wpAny _ _ (call (Value.builtin "len") [Value.ref _]) _ _ _); k_dflt (refine' len_L ?k1 ?k2 ?k3 ?_; (case k1 => k_asm); (case k2 => k_mem); (case k3 => omega); k_whole); intro t' tk'))
theorem law_holds : PySem.Challenge.rw_qj0007_01.Holds := hd (by
  w_top off
  k_go0
  (all_goals try k_fold)
  k_steps
  refine unhold ?_
  rename Fr _ _ _ _ => lF
  rename News _ _ _ _ => lN
  rename Heap.IsList _ _ _ => hL
  rename IntsAre _ _ => hI
  refine spots_tells ⟨by assumption, lF, by assumption, by assumption, rfl⟩ lN hL hI (by omega) (by decide) (by decide) ?_
  clear lF lN
  intro D us e ps h1 tk1 R1 F1 N1 sub1 off1 pt1 bd1 nd1 pos1 len1
  (try dsimp only)
  have hul := pt1.1
  k_steps
  refine unhold ?_
  rename Fr _ _ _ _ => lF
  rename News _ _ _ _ => lN
  refine ties_tells (R := (D, listOf us.toArray e) :: R1) ⟨by assumption, lF, by assumption, by assumption, rfl⟩ lN (.head _) (pt1.mono fun p hp => .tail _ hp) bd1 len1 (by decide) (by decide) ?_
  clear lF lN
  intro D2 us2 e2 T h2 tk2 R2 F2 N2 sub2 off2 tr2 to2 hp2 len2
  (try dsimp only)
  have hDm : (D, listOf us.toArray e) ∈ R2 := sub2 _ (.head _)
  k_steps
  refine unhold ?_
  rename Fr _ _ _ _ => lF
  rename News _ _ _ _ => lN
  refine net_tells (ps := ps) (T := T) ⟨by assumption, lF, by assumption, by assumption, rfl⟩ lN off2 tr2 to2 hp2 len2 len1 hul (by decide) (by decide) ?_
  clear lF lN
  intro D3 us3 n3 homes taken h3 tk3 R3 F3 N3 sub3 off3 in3 kv3
  (try dsimp only)
  k_steps
  refine unhold ?_
  rename Fr _ _ _ _ => lF
  rename News _ _ _ _ => lN
  refine light_tells (R := (D3, listOf us3.toArray n3) :: R1) (ps := ps) (n := e) (vs := us) ⟨by assumption, lF, by assumption, by assumption, rfl⟩ (News.sub lN fun z hz => ?_) ?_ (pt1.mono fun p hp => .tail _ hp) bd1 nd1 pos1 len1 (by decide) (by decide) ?_
  · rcases List.mem_cons.mp hz with rfl | hz
    · exact .tail _ (sub3 _ hDm)
    · rcases List.mem_cons.mp hz with rfl | hz
      · exact .head _
      · exact .tail _ (sub3 _ (sub2 _ (.tail _ hz)))
  · intro p hp
    rcases List.mem_cons.mp hp with rfl | hp
    · exact Ne.symm (off3 _ hDm)
    · exact off1 p hp
  clear lF lN
  intro D4 us4 e4 st steps ins h4 tk4 R4 F4 N4 sub4 in4 pv4 pm4 so4
  (try dsimp only)
  obtain rfl : taken = st := law_plain nd1 to2 kv3 pv4 pm4 so4
  have hD3 : (D3, listOf us3.toArray n3) ∈ R4 := sub4 _ (.head _)
  refine cmp_ofEq (list_same (PySem.IsL.isList (n := n3) (N4 _ (.tail _ hD3)).1) (PySem.IsL.isList (n := e4) (N4 _ (.head _)).1) in3 in4 (by ktr_units) ?_)
  k_steps)
end Mine
end
theorem PySem.Challenge.cw_qj0007_01_holds : PySem.Challenge.rw_qj0007_01.Holds := by
  exact Mine.law_holds
