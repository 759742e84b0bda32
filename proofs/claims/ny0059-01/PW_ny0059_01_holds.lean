import PyProof.Rows.All
import Wide.All
import OpenK.AllK
import Wide.FinOn
import PySem.Challenge.RW_ny0059_01
set_option Elab.async false
set_option linter.all false

section PartHD
open PySem PySem.W PyProof.Rows
namespace Mine
set_option maxRecDepth 100000 in
set_option maxHeartbeats 8000000 in
open_top hd for PySem.Challenge.rw_ny0059_01
end Mine
end PartHD

section PartBase
open PySem PySem.W PyProof.Rows PySem.Calls
namespace Mine
open AutoSeq1 (wpAny_loadPart')
open MeetsSeq MeetsSeq2 MeetsSeq3 SeqRoads2 SeqAt

/-- what the comparison's loop of two lists of ints tells, by its code: 0 is <, 4 is > -/
def tells (code : Nat) (ns ms : List Int) : Bool := if code = 0 then decide (ns < ms) else decide (ms < ns)

theorem lt_cons_same (a : Int) (ns ms : List Int) : (a :: ns < a :: ms) ↔ (ns < ms) := by
  simp [List.cons_lt_cons_iff]
theorem lt_cons_ne {a b : Int} (h : a ≠ b) (ns ms : List Int) : (a :: ns < b :: ms) ↔ (a < b) := by
  simp [List.cons_lt_cons_iff, h]

set_option maxHeartbeats 4000000 in
theorem cmp_loop (l b : Addr) (vs us : List Value) (n n2 : Nat) (dd dd2 : Option Addr) (sl sl2 : Array (Option Value)) (ns ms : List Int) (hi : IntsAre vs ns) (hj : IntsAre us ms) (code : Nat) (op : CmpOp)
    (hco : (code = 0 ∧ op = .Lt) ∨ (code = 4 ∧ op = .Gt)) (k : Nat) :
    ∀ i : Nat, vs.length - i = k → i ≤ vs.length → i ≤ us.length → Meets (Builtin.«list.__eq__.loop» ⟨[.ref l, .ref b, rawInt i, rawInt code], []⟩)
      (fun A R s => s.heap.get? l = some { cls := .type "list", dict := dd, data := .seq vs.toArray n, slots := sl } ∧ s.heap.get? b = some { cls := .type "list", dict := dd2, data := .seq us.toArray n2, slots := sl2 } ∧
        R (.ok (.ret (.bool (tells code (ns.drop i) (ms.drop i))))) s) := by
  have hln := hi.length
  have hlm := hj.length
  induction k with
  | zero =>
    intro i hk h1 h2 prog w A R s h
    obtain ⟨hp, g, d, tk, os⟩ := s; obtain ⟨hl, hb, h⟩ := h
    have hie : i = vs.length := by omega
    subst hie
    have hi1 : vs.toArray[((vs.length : Nat) : Int).toNat]? = none := by simp
    have hd : ns.drop vs.length = [] := by rw [hln]; simp
    rw [hd] at h
    rcases hco with ⟨rfl, rfl⟩ | ⟨rfl, rfl⟩
    · wp_walk using wpAny_loadPart' hl, wpAny_loadPart' hb
      rw [hi1]
      wp_walk using wpAny_loadPart' hl, wpAny_loadPart' hb
      show R (.ok (.ret (.bool (decide (vs.toArray.size < us.toArray.size))))) _
      have e : decide (vs.toArray.size < us.toArray.size) = tells 0 [] (ms.drop vs.length) := by
        unfold tells
        rw [if_pos rfl]
        rcases hm : ms.drop vs.length with _ | ⟨x, xs⟩
        · have := congrArg List.length hm
          simp at this
          simp; omega
        · have := congrArg List.length hm
          simp at this
          simp; omega
      rw [e]; exact h
    · wp_walk using wpAny_loadPart' hl, wpAny_loadPart' hb
      rw [hi1]
      wp_walk using wpAny_loadPart' hl, wpAny_loadPart' hb
      show R (.ok (.ret (.bool (decide (vs.toArray.size > us.toArray.size))))) _
      have e : decide (vs.toArray.size > us.toArray.size) = tells 4 [] (ms.drop vs.length) := by
        unfold tells
        simp; omega
      rw [e]; exact h
  | succ k ih =>
    intro i hk h1 h2 prog w A R s h
    obtain ⟨hp, g, d, tk, os⟩ := s; obtain ⟨hl, hb, h⟩ := h
    have hlt : i < vs.length := by omega
    obtain ⟨a, hna⟩ : ∃ a, ns[i]? = some a := ⟨_, List.getElem?_eq_getElem (by omega)⟩
    obtain ⟨ta, hva⟩ := hi.get i a hna
    have hi1 : vs.toArray[((i : Nat) : Int).toNat]? = some (.int a ta) := by simpa using hva
    have hdn : ns.drop i = a :: ns.drop (i + 1) := by
      have hq : i < ns.length := by omega
      rw [List.drop_eq_getElem_cons hq]
      rw [List.getElem?_eq_getElem hq] at hna
      rw [Option.some.inj hna]
    rw [hdn] at h
    by_cases hue : i = us.length
    · have hi2 : us.toArray[((i : Nat) : Int).toNat]? = none := by simp; omega
      have hd : ms.drop i = [] := by rw [hue, hlm]; simp
      rw [hd] at h
      rcases hco with ⟨rfl, rfl⟩ | ⟨rfl, rfl⟩
      · wp_walk using wpAny_loadPart' hl, wpAny_loadPart' hb
        rw [hi1, hi2]
        wp_walk using wpAny_loadPart' hl, wpAny_loadPart' hb
        show R (.ok (.ret (.bool (decide (vs.toArray.size < us.toArray.size))))) _
        have e : decide (vs.toArray.size < us.toArray.size) = tells 0 (a :: ns.drop (i + 1)) [] := by
          unfold tells
          simp; omega
        rw [e]; exact h
      · wp_walk using wpAny_loadPart' hl, wpAny_loadPart' hb
        rw [hi1, hi2]
        wp_walk using wpAny_loadPart' hl, wpAny_loadPart' hb
        show R (.ok (.ret (.bool (decide (vs.toArray.size > us.toArray.size))))) _
        have e : decide (vs.toArray.size > us.toArray.size) = tells 4 (a :: ns.drop (i + 1)) [] := by
          unfold tells
          simp; omega
        rw [e]; exact h
    · have hlt2 : i < us.length := by omega
      obtain ⟨c, hmc⟩ : ∃ c, ms[i]? = some c := ⟨_, List.getElem?_eq_getElem (by omega)⟩
      obtain ⟨tc, huc⟩ := hj.get i c hmc
      have hi2 : us.toArray[((i : Nat) : Int).toNat]? = some (.int c tc) := by simpa using huc
      have hdm : ms.drop i = c :: ms.drop (i + 1) := by
        have hq : i < ms.length := by omega
        rw [List.drop_eq_getElem_cons hq]
        rw [List.getElem?_eq_getElem hq] at hmc
        rw [Option.some.inj hmc]
      rw [hdm] at h
      have hc : ((i : Int) + 1) = ((i + 1 : Nat) : Int) := by push_cast; rfl
      by_cases hac : a = c
      · subst hac
        have e : tells code (a :: ns.drop (i + 1)) (a :: ms.drop (i + 1)) = tells code (ns.drop (i + 1)) (ms.drop (i + 1)) := by
          unfold tells; simp only [lt_cons_same]
        rw [e] at h
        rcases hco with ⟨rfl, rfl⟩ | ⟨rfl, rfl⟩
        all_goals
          wp_walk using wpAny_loadPart' hl, wpAny_loadPart' hb
          rw [hi1, hi2]
          refine wpAny_bind (EqAt.int_int a ta a tc prog w _ _ ?_)
          rw [beq_self_eq_true]
          wp_walk
          rw [hc]
          exact ⟨plainId_quiet plain_eq_loop _, codeAny_builtin entry_eq_loop (by
            rw [Around.under_plainId plain_eq_loop _]
            exact ih (i + 1) (by omega) (by omega) (by omega) prog w A R _ ⟨hl, hb, h⟩)⟩
      · have hbne : (a == c) = false := by simpa using hac
        rcases hco with ⟨rfl, rfl⟩ | ⟨rfl, rfl⟩
        · have e : tells 0 (a :: ns.drop (i + 1)) (c :: ms.drop (i + 1)) = decide (a < c) := by
            unfold tells; simp only [if_true, lt_cons_ne hac]
          rw [e] at h
          wp_walk using wpAny_loadPart' hl, wpAny_loadPart' hb
          rw [hi1, hi2]
          refine wpAny_bind (EqAt.int_int a ta c tc prog w _ _ ?_)
          rw [hbne]
          wp_walk using wpAny_loadPart' hl, wpAny_loadPart' hb
          rw [hi1, hi2]
          refine wpAny_bind ?_
          refine PyProof.Rows.lt_int ?_
          wp_walk
          exact h
        · have e : tells 4 (a :: ns.drop (i + 1)) (c :: ms.drop (i + 1)) = decide (c < a) := by
            unfold tells; simp only [lt_cons_ne (Ne.symm hac)]; rfl
          rw [e] at h
          wp_walk using wpAny_loadPart' hl, wpAny_loadPart' hb
          rw [hi1, hi2]
          refine wpAny_bind (EqAt.int_int a ta c tc prog w _ _ ?_)
          rw [hbne]
          wp_walk using wpAny_loadPart' hl, wpAny_loadPart' hb
          rw [hi1, hi2]
          refine wpAny_bind ?_
          refine PyProof.Rows.gt_int ?_
          wp_walk
          exact h

theorem list_lt (l b : Addr) (vs us : List Value) (n n2 : Nat) (dd dd2 : Option Addr) (sl sl2 : Array (Option Value)) (ns ms : List Int) (hi : IntsAre vs ns) (hj : IntsAre us ms) :
    Meets (Builtin.«list.__lt__» ⟨[.ref l, .ref b], []⟩)
      (fun A R s => s.heap.get? l = some { cls := .type "list", dict := dd, data := .seq vs.toArray n, slots := sl } ∧ s.heap.get? b = some { cls := .type "list", dict := dd2, data := .seq us.toArray n2, slots := sl2 } ∧
        R (.ok (.ret (.bool (decide (ns < ms))))) s) := by
  intro prog w A R s h
  obtain ⟨hp, g, d, tk, os⟩ := s; obtain ⟨hl, hb, h⟩ := h
  have f3 := AutoSeq1.sub_list_list
  wp_walk using wpAny_loadPart' hl, wpAny_loadPart' hb
  exact ⟨plainId_quiet plain_eq_loop _, codeAny_builtin entry_eq_loop (by
    rw [Around.under_plainId plain_eq_loop _]
    exact cmp_loop l b vs us n n2 dd dd2 sl sl2 ns ms hi hj 0 .Lt (.inl ⟨rfl, rfl⟩) _ 0 rfl (Nat.zero_le _) (Nat.zero_le _) prog w A R _ ⟨hl, hb, by simpa [tells] using h⟩)⟩
theorem list_gt (l b : Addr) (vs us : List Value) (n n2 : Nat) (dd dd2 : Option Addr) (sl sl2 : Array (Option Value)) (ns ms : List Int) (hi : IntsAre vs ns) (hj : IntsAre us ms) :
    Meets (Builtin.«list.__gt__» ⟨[.ref l, .ref b], []⟩)
      (fun A R s => s.heap.get? l = some { cls := .type "list", dict := dd, data := .seq vs.toArray n, slots := sl } ∧ s.heap.get? b = some { cls := .type "list", dict := dd2, data := .seq us.toArray n2, slots := sl2 } ∧
        R (.ok (.ret (.bool (decide (ms < ns))))) s) := by
  intro prog w A R s h
  obtain ⟨hp, g, d, tk, os⟩ := s; obtain ⟨hl, hb, h⟩ := h
  have f3 := AutoSeq1.sub_list_list
  wp_walk using wpAny_loadPart' hl, wpAny_loadPart' hb
  exact ⟨plainId_quiet plain_eq_loop _, codeAny_builtin entry_eq_loop (by
    rw [Around.under_plainId plain_eq_loop _]
    exact cmp_loop l b vs us n n2 dd dd2 sl sl2 ns ms hi hj 4 .Gt (.inr ⟨rfl, rfl⟩) _ 0 rfl (Nat.zero_le _) (Nat.zero_le _) prog w A R _ ⟨hl, hb, by simpa [tells] using h⟩)⟩

section
variable {prog : Program} {w : World} {A : Around} {E : Value → Shared → Prop} {s : Shared} {Q : Value → Shared → Prop} {a b : Addr} {vs us : List Value} {n n2 : Nat} {ns ms : List Int}
theorem rows_lt (ha : s.heap.get? a = some (listOf vs.toArray n)) (hb : s.heap.get? b = some (listOf us.toArray n2)) (hi : IntsAre vs ns) (hj : IntsAre us ms) (hu : A.units < cLine) (h : Q (.bool (decide (ns < ms))) s) :
    wpAny (model prog w) A (compareOp .Lt (.ref a) (.ref b)) Q E s :=
  cmp_ofLt (richCompare_meets_room (op := .Lt) ⟨_, ha, rfl⟩ ⟨_, hb, rfl⟩ F.slot_list_lt F.entry_list_lt (F.args_list_lt_2 _ _) (list_lt a b vs us n n2 _ _ _ _ ns ms hi hj)
    ⟨ha, hb, show Value.bool (decide (ns < ms)) ≠ Value.notImplemented ∧ Q (.bool (decide (ns < ms))) s from ⟨(fun x => nomatch x), h⟩⟩ hu)
theorem rows_gt (ha : s.heap.get? a = some (listOf vs.toArray n)) (hb : s.heap.get? b = some (listOf us.toArray n2)) (hi : IntsAre vs ns) (hj : IntsAre us ms) (hu : A.units < cLine) (h : Q (.bool (decide (ms < ns))) s) :
    wpAny (model prog w) A (compareOp .Gt (.ref a) (.ref b)) Q E s :=
  cmp_ofGt (richCompare_meets_room (op := .Gt) ⟨_, ha, rfl⟩ ⟨_, hb, rfl⟩ F.slot_list_gt F.entry_list_gt (F.args_list_gt_2 _ _) (list_gt a b vs us n n2 _ _ _ _ ns ms hi hj)
    ⟨ha, hb, show Value.bool (decide (ms < ns)) ≠ Value.notImplemented ∧ Q (.bool (decide (ms < ns))) s from ⟨(fun x => nomatch x), h⟩⟩ hu)
end
end Mine
end PartBase

section PartC1
open PySem PySem.W PyProof.Rows PySem.Calls
namespace Mine
abbrev Led := List (Addr × Obj)

def Con (w : World) (k : Nat) (f : Addr) (args : List Value) (led : Led) (post : Value → Led → Prop) : Prop :=
  ∀ (A A₀ : Around) (base h₀ : Heap) (outer : List Env) (env : Env) (L : Addr) (m : Str → Option Value) (loose : List Str) (mean : ExcName → Option Value) (mg mb : Str → Option Value) (s : Shared) (Q E : Value → Shared → Prop),
    Below A₀ base outer h₀ → Fr h₀ L s.heap m → (Mine.hd.heap_39 w.params).In h₀ → News h₀ L s.heap led → Top Mine.hd.view_39 loose mean mg mb h₀ → 
    A.frames = some (env :: outer) → env.frame = some L → env.scope.kind = .function → A.handled = none → A.depth + k < recursionLimit → A.units + 8 * k + 1000 < cLine →
    (∀ r led' h' tk', Fr h₀ L h' m → News h₀ L h' led' → post r led' → Q r { s with heap := h', toks := tk' }) →
    wpAny (model PySem.Challenge.rw_ny0059_01.prog w) A (call (.ref f) args) Q E s

def RowIn (led : Led) (v : Value) (r : List Int) : Prop := ∃ a vs n, v = .ref a ∧ (a, listOf vs.toArray n) ∈ led ∧ IntsAre vs r

set_option maxRecDepth 100000 in
set_option maxHeartbeats 8000000 in
theorem c_cmp (w : World) (led : Led) (x y : Value) (r1 r2 : List Int) (hx : RowIn led x r1) (hy : RowIn led y r2) :
    Con w 2 28 [x, y] led (fun r led' => led' = led ∧ ∃ tk, r = .int (b2i (decide (r2 < r1)) - b2i (decide (r1 < r2))) tk) := by
  unfold Con
  k_fill
  intro A A₀ base h₀ outer env L m loose mean mg mb s Q E B F X N T hA hf hke hh hd hu hret
  obtain ⟨a, vs, n, rfl, ma, ia⟩ := hx
  obtain ⟨b, us, n2, rfl, mb', ib⟩ := hy
  refine wpAny_call ?_
  k_dflt (refine' code_def B F X N T hA hf hke ?k6 ?k7 ?k8 ?k9 ?kB ?_ ?c2 ?c3 ?c4 ?c5; (case k6 => k_is); (case k7 => k_is); (case k8 => omega); (case k9 => exact BindsTo.of_eq rfl); (case kB => exact locs rfl); (case c5 => decide); (case c2 => exact rfl); (case c3 => exact rfl); (case c4 => exact rfl))
  intro g' L' h' FG' F' N' B' X' T'
  have hcL := cLine_is
  k_steps
  refine rows_gt (N'.get ma) (N'.get mb') ia ib (by simp only [units_deeper]; omega) ?_
  k_steps
  refine rows_lt (N'.get ma) (N'.get mb') ia ib (by simp only [units_deeper]; omega) ?_
  k_steps
  exact hret _ _ _ _ (by assumption) (by assumption) ⟨rfl, _, rfl⟩
end Mine
end PartC1

section PartHeap
namespace Mine

section heap
variable {α : Type} [Inhabited α] [DecidableEq α]

/-- an order by a test for less -/
structure Ord (lt : α → α → Bool) : Prop where
  asymm : ∀ a b, lt a b = true → lt b a = false
  trans : ∀ a b c, lt b a = false → lt c b = false → lt c a = false

abbrev at' (l : List α) (i : Nat) : α := l.getD i default
abbrev par (c : Nat) : Nat := (c - 1) / 2

theorem at_set (l : List α) (i j : Nat) (x : α) (hi : i < l.length) : at' (l.set i x) j = if j = i then x else at' l j := by
  unfold at'
  simp only [List.getD_eq_getElem?_getD, List.getElem?_set]
  by_cases h : i = j
  · subst h; simp [hi]
  · have h' : ¬ j = i := fun e => h e.symm
    simp [h, h']

def Bag (l l' : List α) : Prop := ∀ a, l.count a = l'.count a
theorem Bag.refl (l : List α) : Bag l l := fun _ => rfl
theorem Bag.symm {l l' : List α} (h : Bag l l') : Bag l' l := fun a => (h a).symm
theorem Bag.trans {l l' l'' : List α} (h : Bag l l') (k : Bag l' l'') : Bag l l'' := fun a => (h a).trans (k a)
theorem Bag.perm {l l' : List α} (h : Bag l l') : l.Perm l' := List.perm_iff_count.mpr h
theorem Bag.of_perm {l l' : List α} (h : l.Perm l') : Bag l l' := fun a => h.count_eq a
theorem Bag.length {l l' : List α} (h : Bag l l') : l.length = l'.length := h.perm.length_eq
theorem Bag.mem {l l' : List α} (h : Bag l l') {a : α} : a ∈ l ↔ a ∈ l' := h.perm.mem_iff

theorem count_set (l : List α) (i : Nat) (x a : α) (hi : i < l.length) : (l.set i x).count a + (if at' l i = a then 1 else 0) = l.count a + (if x = a then 1 else 0) := by
  induction l generalizing i with
  | nil => exact absurd hi (Nat.not_lt_zero _)
  | cons y l ih =>
    cases i with
    | zero =>
      simp only [List.set_cons_zero, List.count_cons, at', List.getD_cons_zero, beq_iff_eq]
      omega
    | succ i =>
      have := ih i (Nat.lt_of_succ_lt_succ hi)
      simp only [List.set_cons_succ, List.count_cons, at', List.getD_cons_succ, beq_iff_eq] at this ⊢
      omega

theorem at_mem (l : List α) (i : Nat) (hi : i < l.length) : at' l i ∈ l := by
  unfold at'
  simp only [List.getD_eq_getElem?_getD, List.getElem?_eq_getElem hi, Option.getD_some]
  exact List.getElem_mem hi

/-- the hole at i is filled from j, the hole goes to j -/
theorem bag_move (l : List α) (i j : Nat) (x : α) (hi : i < l.length) (hj : j < l.length) (hij : i ≠ j) : Bag ((l.set i (at' l j)).set j x) (l.set i x) := by
  intro a
  have h1 := count_set (l.set i (at' l j)) j x a (by simpa using hj)
  have h2 := count_set l i (at' l j) a hi
  have h3 := count_set l i x a hi
  rw [at_set _ _ _ _ hi, if_neg (Ne.symm hij)] at h1
  omega

variable {lt : α → α → Bool}

/-- every edge whose upper end lies at s or behind is in order -/
def HeapFrom (lt : α → α → Bool) (s : Nat) (l : List α) : Prop := ∀ c, 0 < c → c < l.length → s ≤ par c → lt (at' l c) (at' l (par c)) = false

inductive Desc (s : Nat) : Nat → Prop
  | refl : Desc s s
  | step {c : Nat} : 0 < c → Desc s (par c) → Desc s c
theorem Desc.le {s c : Nat} (h : Desc s c) : s ≤ c := by
  induction h with
  | refl => exact Nat.le_refl _
  | step _ _ ih => unfold par at ih; omega
theorem Desc.up {s c : Nat} (h : Desc s c) (hc : s < c) : Desc s (par c) := by
  cases h with
  | refl => exact absurd hc (Nat.lt_irrefl _)
  | step _ h => exact h

/-- the hole at pos on its way down -/
structure Hole (lt : α → α → Bool) (s : Nat) (l : List α) (pos : Nat) : Prop where
  inn : pos < l.length
  desc : Desc s pos
  edge : ∀ c, 0 < c → c < l.length → s ≤ par c → c ≠ pos → par c ≠ pos → lt (at' l c) (at' l (par c)) = false
  over : ∀ c, 0 < c → c < l.length → par c = pos → s < pos → lt (at' l c) (at' l (par pos)) = false

theorem Hole.start {s : Nat} {l : List α} (h : HeapFrom lt (s + 1) l) (hs : s < l.length) : Hole lt s l s where
  inn := hs
  desc := .refl
  edge := fun c h0 h1 h2 _ h4 => h c h0 h1 (by omega)
  over := fun _ _ _ _ h => absurd h (Nat.lt_irrefl _)

theorem Hole.down (O : Ord lt) {s pos c : Nat} {l : List α} (h : Hole lt s l pos) (hc : c < l.length) (hp : par c = pos) (h0 : 0 < c)
    (least : ∀ d, 0 < d → d < l.length → par d = pos → lt (at' l d) (at' l c) = false) : Hole lt s (l.set pos (at' l c)) c := by
  have hs : s ≤ pos := h.desc.le
  have hcp : c ≠ pos := by unfold par at hp; omega
  refine ⟨by simpa using hc, .step h0 (by rw [hp]; exact h.desc), ?_, ?_⟩
  · intro d d0 d1 d2 d3 d4
    simp only [List.length_set] at d1
    rw [at_set _ _ _ _ h.inn, at_set _ _ _ _ h.inn]
    by_cases e : d = pos
    · subst e
      have hq : ¬ par d = d := by unfold par; omega
      rw [if_pos rfl, if_neg hq]
      exact h.over c h0 hc hp (by unfold par at d2; omega)
    · rw [if_neg e]
      by_cases e2 : par d = pos
      · rw [if_pos e2]
        exact least d d0 d1 e2
      · rw [if_neg e2]
        exact h.edge d d0 d1 d2 e e2
  · intro d d0 d1 d2 _
    simp only [List.length_set] at d1
    rw [at_set _ _ _ _ h.inn, at_set _ _ _ _ h.inn]
    have e1 : ¬ d = pos := by unfold par at d2 hp; omega
    rw [if_neg e1, hp, if_pos rfl]
    have := h.edge d d0 d1 (by rw [d2]; unfold par at hp; omega) e1 (by rw [d2]; exact hcp)
    rwa [d2] at this

/-- the hole at pos on its way up, x in hand -/
structure Rise (lt : α → α → Bool) (s : Nat) (l : List α) (pos : Nat) (x : α) : Prop extends Hole lt s l pos where
  under : ∀ c, 0 < c → c < l.length → par c = pos → lt (at' l c) x = false

theorem Rise.of_leaf {s : Nat} {l : List α} {pos : Nat} {x : α} (h : Hole lt s l pos) (hl : l.length ≤ 2 * pos + 1) : Rise lt s (l.set pos x) pos x where
  inn := by simpa using h.inn
  desc := h.desc
  edge := fun c h0 h1 h2 h3 h4 => by
    simp only [List.length_set] at h1
    rw [at_set _ _ _ _ h.inn, at_set _ _ _ _ h.inn, if_neg h3, if_neg h4]
    exact h.edge c h0 h1 h2 h3 h4
  over := fun c h0 h1 h2 _ => by simp only [List.length_set] at h1; unfold par at h2; omega
  under := fun c h0 h1 h2 => by simp only [List.length_set] at h1; unfold par at h2; omega

theorem Rise.up (O : Ord lt) {s pos : Nat} {l : List α} {x : α} (h : Rise lt s l pos x) (hs : s < pos) (hx : lt x (at' l (par pos)) = true) : Rise lt s (l.set pos (at' l (par pos))) (par pos) x := by
  have h0 : 0 < pos := by omega
  have hd : Desc s (par pos) := h.desc.up hs
  have hsp : s ≤ par pos := hd.le
  have hpp : par pos ≠ pos := by unfold par; omega
  have hin : par pos < l.length := by have := h.inn; unfold par; omega
  have hle := O.asymm _ _ hx
  refine ⟨⟨by simpa using hin, hd, ?_, ?_⟩, ?_⟩
  · intro c c0 c1 c2 c3 c4
    simp only [List.length_set] at c1
    rw [at_set _ _ _ _ h.inn, at_set _ _ _ _ h.inn]
    by_cases e : c = pos
    · subst e; exact absurd rfl c4
    · rw [if_neg e]
      by_cases e2 : par c = pos
      · rw [if_pos e2]
        exact h.over c c0 c1 e2 hs
      · rw [if_neg e2]
        exact h.edge c c0 c1 c2 e e2
  · intro c c0 c1 c2 c3
    simp only [List.length_set] at c1
    have hup : ¬ par (par pos) = pos := by unfold par; omega
    rw [at_set _ _ _ _ h.inn, at_set _ _ _ _ h.inn, if_neg hup]
    have hpe := h.edge (par pos) (by omega) hin (hd.up c3).le hpp hup
    by_cases e : c = pos
    · rw [if_pos e]; exact hpe
    · rw [if_neg e]
      have := h.edge c c0 c1 (by rw [c2]; exact hsp) e (by rw [c2]; exact hpp)
      rw [c2] at this
      exact O.trans _ _ _ hpe this
  · intro c c0 c1 c2
    simp only [List.length_set] at c1
    rw [at_set _ _ _ _ h.inn]
    by_cases e : c = pos
    · rw [if_pos e]; exact hle
    · rw [if_neg e]
      have := h.edge c c0 c1 (by rw [c2]; exact hsp) e (by rw [c2]; exact hpp)
      rw [c2] at this
      exact O.trans _ _ _ hle this

theorem Rise.rest {s pos : Nat} {l : List α} {x : α} (h : Rise lt s l pos x) (hx : s < pos → lt x (at' l (par pos)) = false) : HeapFrom lt s (l.set pos x) := by
  intro c c0 c1 c2
  simp only [List.length_set] at c1
  rw [at_set _ _ _ _ h.inn, at_set _ _ _ _ h.inn]
  have hs := h.desc.le
  by_cases e : c = pos
  · subst e
    have hq : ¬ par c = c := by unfold par; omega
    rw [if_pos rfl, if_neg hq]
    exact hx (by unfold par at c2; omega)
  · rw [if_neg e]
    by_cases e2 : par c = pos
    · rw [if_pos e2]; exact h.under c c0 c1 e2
    · rw [if_neg e2]; exact h.edge c c0 c1 c2 e e2

theorem HeapFrom.least (O : Ord lt) {l : List α} (h : HeapFrom lt 0 l) (hirr : ∀ a, lt a a = false) : ∀ i, i < l.length → lt (at' l i) (at' l 0) = false := by
  intro i
  induction i using Nat.strongRecOn with
  | _ i ih =>
    intro hi
    by_cases e : i = 0
    · subst e; exact hirr _
    · have hp : par i < i := by unfold par; omega
      exact O.trans _ _ _ (ih (par i) hp (by omega)) (h i (by omega) hi (Nat.zero_le _))
theorem HeapFrom.mono {s s' : Nat} {l : List α} (h : HeapFrom lt s l) (hs : s ≤ s') : HeapFrom lt s' l := fun c c0 c1 c2 => h c c0 c1 (by omega)
theorem HeapFrom.top {l : List α} {s : Nat} (hs : l.length ≤ 2 * s + 1) : HeapFrom lt s l := fun c c0 c1 c2 => by unfold par at c2; omega
/-- the last goes to the root -/
theorem HeapFrom.swap {l : List α} {y : α} (h : HeapFrom lt 0 (l ++ [y])) (hl : 0 < l.length) : HeapFrom lt 1 (l.set 0 y) := by
  intro c c0 c1 c2
  simp only [List.length_set] at c1
  rw [at_set _ _ _ _ hl, at_set _ _ _ _ hl, if_neg (by omega), if_neg (by omega)]
  have := h c c0 (by simp; omega) (Nat.zero_le _)
  have e1 : at' (l ++ [y]) c = at' l c := by unfold at'; simp [List.getD_eq_getElem?_getD, List.getElem?_append_left c1]
  have hp : par c < l.length := by unfold par; omega
  have e2 : at' (l ++ [y]) (par c) = at' l (par c) := by unfold at'; simp [List.getD_eq_getElem?_getD, List.getElem?_append_left hp]
  rwa [e1, e2] at this
end heap
end Mine
end PartHeap

section PartC2
open PySem PySem.W PyProof.Rows PySem.Calls
namespace Mine
local macro_rules | `(tactic| k_steps) => `(tactic| repeat' ((fail_if_success (with_reducible show wpAny _ _ (exec (Stmt.While _ _ _ _) _) _ _ _)); (fail_if_success (with_reducible show wpAny _ _ (exec (Stmt.For _ _ _ _ _) _) _ _ _)); (fail_if_success (with_reducible show wpAny _ _ (call (Value.ref _) _ _) _ _ _)); (fail_if_success (with_reducible show wpAny _ _ (compareOp _ (Value.ref _) (Value.ref _)) _ _ _)); (fail_if_success (with_reducible show wpAny _ _ (subscriptTail _ _ (Value.ref _) _) _ _ _)); (fail_if_success (with_reducible show wpAny _ _ (setItem (Value.ref _) _ _) _ _ _)); (first | (k_unfold; (try dsimp only)) | (k_end; kc_close) | walk1 | (dsimp only; walk1) | (leave1; walk_say "STEP leave1"; (try dsimp only)) | fail "no step")))

abbrev Item := Value × List Int
abbrev vals (ps : List Item) : List Value := ps.map (·.1)
/-- each value of the list is a row that the ledger bears -/
def RowsIn (led : Led) (ps : List Item) : Prop := ∀ p ∈ ps, RowIn led p.1 p.2

section
variable {prog : Program} {w : World} {A : Around} {E : Value → Shared → Prop} {s : Shared} {h₀ : Heap} {L D : Addr} {m : Str → Option Value} {led : Led} {vs : List Value} {n : Nat} {k : Int} {t u : Tok} {v : Value}
theorem g_set {Q : Unit → Shared → Prop} (F : Fr h₀ L s.heap m) (N : News h₀ L s.heap ((D, listOf vs.toArray n) :: led)) (hne : ∀ p ∈ led, p.1 ≠ D) (h0 : 0 ≤ k) (h1 : k.toNat < vs.length) (hfit : k < 2 ^ 63)
    (h : ∀ h', Fr h₀ L h' m → News h₀ L h' ((D, listOf (vs.set k.toNat v).toArray n) :: led) → Q () { s with heap := h' }) :
    wpAny (model prog w) A (setItem (.ref D) (.int k t) v) Q E s := by
  have z := N _ (.head _)
  have hs : vs.toArray.size = vs.length := List.size_toArray ..
  refine ki_setAt z.1 h0 hfit (by omega) (h _ (F.change (Heap.SameBut.update ..) z.2.1 z.2.2) (ki_turn (pre := []) _ N (fun _ hp => nomatch hp) hne ?_ ?_))
  · show vs.toArray.setIfInBounds k.toNat v = (vs.set k.toNat v).toArray
    apply Array.toList_inj.mp
    simp
  · simp
theorem g_sub {value slice : PySem.Expr} {Q : Value → Shared → Prop} (N : News h₀ L s.heap led) (hm : (D, listOf vs.toArray n) ∈ led) (h0 : 0 ≤ k) (hfit : k < 2 ^ 63) (hx : vs[k.toNat]? = some v) (h : Q v s)
    (hs : subscripted slice false (.ref D) (.int k u) = operate [.ref D, .int k u] (getItem (.ref D) (.int k u)) := by with_unfolding_all rfl) :
    wpAny (model prog w) A (subscriptTail value slice (.ref D) (.int k u)) Q E s :=
  have hl : s.heap.IsList D vs.toArray := PySem.IsL.isList (n := n) (N _ hm).1
  tail_any hl.typeIs slot_list_getitem.lookup (wpAny_getItem_list hl h0 hfit (by simpa using hx) h) hs
end


def ilt (a b : Item) : Bool := decide (a.2 < b.2)
theorem ilt_ord : Ord ilt where
  asymm := fun a b h => by
    simp only [ilt, decide_eq_true_eq, decide_eq_false_iff_not] at h ⊢
    exact fun k => List.lt_asymm h k
  trans := fun a b c h k => by
    simp only [ilt, decide_eq_false_iff_not] at h k ⊢
    exact List.le_trans h k
theorem ilt_irr (a : Item) : ilt a a = false := by
  simp only [ilt, decide_eq_false_iff_not]
  exact List.lt_irrefl _

theorem vals_at {ps : List Item} {i : Nat} (h : i < ps.length) : (vals ps)[i]? = some (at' ps i).1 := by
  simp [vals, at', h]
theorem vals_set (ps : List Item) (i : Nat) (x : Item) : (vals ps).set i x.1 = vals (ps.set i x) := by
  simp [vals, List.map_set]
theorem bag_set_self (ps : List Item) (i : Nat) (h : i < ps.length) : Bag (ps.set i (at' ps i)) ps := by
  intro a
  have := count_set ps i (at' ps i) a h
  omega
theorem RowsIn.set {led : Led} {ps : List Item} (h : RowsIn led ps) (i : Nat) (x : Item) (hx : RowIn led x.1 x.2) : RowsIn led (ps.set i x) := by
  intro p hp
  rcases List.mem_or_eq_of_mem_set hp with h' | h'
  · exact h p h'
  · rw [h']; exact hx
theorem RowsIn.bag {led : Led} {ps qs : List Item} (h : RowsIn led ps) (b : Bag qs ps) : RowsIn led qs := fun p hp => h p (b.mem.mp hp)

set_option maxRecDepth 100000 in
set_option maxHeartbeats 8000000 in
theorem c_siftdown (w : World) (led : Led) (H : Addr) (n : Nat) (ps : List Item) (s0 pos : Nat) (t1 t2 : Tok) (hne : ∀ p ∈ led, p.1 ≠ H) (hr : RowsIn led ps) (hlen : ps.length < 100000)
    (hR : Rise ilt s0 ps pos (at' ps pos)) :
    Con w 3 49 [.ref H, .int s0 t1, .int pos t2] ((H, listOf (vals ps).toArray n) :: led) (fun r led' => r = .none ∧ ∃ ps', led' = (H, listOf (vals ps').toArray n) :: led ∧ Bag ps' ps ∧ HeapFrom ilt s0 ps') := by
  unfold Con
  k_fill
  intro A A₀ base h₀ outer env L m loose mean mg mb s Q E B F X N T hA hf hke hh hd hu hret
  refine wpAny_call ?_
  k_dflt (refine' code_def B F X N T hA hf hke ?k6 ?k7 ?k8 ?k9 ?kB ?_ ?c2 ?c3 ?c4 ?c5; (case k6 => k_is); (case k7 => k_is); (case k8 => omega); (case k9 => exact BindsTo.of_eq rfl); (case kB => exact locs rfl); (case c5 => decide); (case c2 => exact rfl); (case c3 => exact rfl); (case c4 => exact rfl))
  intro g' L' h' FG' F' N' B' X' T'
  have hcL := cLine_is
  have hpos := hR.inn
  obtain ⟨xa, xs, xn, hxv, hxm, hxi⟩ := hr (at' ps pos) (at_mem _ _ hpos)
  k_steps
  refine g_sub N' (.head _) (v := .ref xa) (by omega) (by omega) (by rw [Int.toNat_natCast, vals_at hpos, hxv]) ?_
  k_steps
  (rename Fr _ _ _ _ => F1); (rename News _ _ _ _ => N1)
  refine ksw_while (σ := List Item × Nat × Tok) (fun c => (H, listOf (vals c.1).toArray n) :: led) (fun c => [("pos", .int c.2.1 c.2.2)]) (fun _ => True) ["parentpos", "parent"]
    (fun c => RowsIn led c.1 ∧ c.1.length = ps.length ∧ Bag (c.1.set c.2.1 (at' ps pos)) ps ∧ Rise ilt s0 c.1 c.2.1 (at' ps pos)) (fun c => c.2.1) (ps, pos, t2) F1 N1 trivial ?_ ⟨hr, rfl, bag_set_self ps pos hpos, hR⟩ ?_
  · intro p hp
    rw [List.mem_singleton.mp hp]
    rfl
  · rintro ⟨qs, q, t⟩ u h tk - ⟨hq, hql, hbag, hrise⟩ F2 N2
    dsimp only at hq hql hbag hrise F2 N2
    have hqi := hrise.inn
    have e : ((q : Int) - 1).fdiv (2 ^ Int.toNat 1) = ((par q : Nat) : Int) ∨ q = 0 := by
      rcases Nat.eq_zero_or_pos q with h0 | h0
      · exact .inr h0
      · left
        show ((q : Int) - 1).fdiv 2 = _
        rw [Int.fdiv_eq_ediv_of_nonneg _ (by decide)]
        unfold par; omega
    k_steps
    · rename_i hlt h3 F3 N3
      have e := e.resolve_right (by omega)
      have hp : par q < qs.length := by unfold par; omega
      obtain ⟨ya, ys, yn, hyv, hym, hyi⟩ := hq (at' qs (par q)) (at_mem _ _ hp)
      refine g_sub N3 (.head _) (v := .ref ya) (by rw [e]; omega) (by rw [e]; unfold par; omega) (by rw [e, Int.toNat_natCast, vals_at hp, hyv]) ?_
      k_steps
      (rename News _ _ _ _ => N4)
      refine rows_lt (N4.get (.tail _ hxm)) (N4.get (.tail _ hym)) hxi hyi (by simp only [units_deeper]; omega) ?_
      k_steps
      · rename_i hxy
        (rename News _ _ _ _ => N5); (rename Fr _ _ _ _ => F5)
        refine g_set F5 N5 hne (by omega) (by simpa [vals] using hqi) (by omega) ?_
        intro h6 F6 N6
        k_steps
        (rename News _ _ _ _ => N7); (rename Fr _ _ _ _ => F7)
        rw [Int.toNat_natCast, ← hyv, vals_set] at N7
        rw [e] at F7
        refine ksw_end (qs.set q (at' qs (par q)), par q, _) F7 N7 (fun _ h => h) trivial (fun p hp => by rw [List.mem_singleton.mp hp]; rfl) (by intro z h2 h3; simp only [List.forall_mem_cons, List.not_mem_nil, false_implies, implies_true, and_true, ne_eq, List.contains_cons, List.contains_nil, Bool.or_false, Bool.or_eq_false_iff, beq_eq_false_iff_ne] at h2 h3; simp [kstB, h2, h3]) ⟨hq.set _ _ (hq _ (at_mem _ _ hp)), by simpa using hql, (bag_move qs q (par q) _ hqi hp (by unfold par; omega)).trans hbag, hrise.up ilt_ord (by omega) (by simpa [ilt] using hxy)⟩ (by show par q < q; unfold par; omega)
      · rename_i hxy
        (rename News _ _ _ _ => N5); (rename Fr _ _ _ _ => F5)
        refine g_set F5 N5 hne (by omega) (by simpa [vals] using hqi) (by omega) ?_
        intro h6 F6 N6
        k_steps
        (rename News _ _ _ _ => N7); (rename Fr _ _ _ _ => F7)
        rw [Int.toNat_natCast, ← hxv, vals_set] at N7
        exact hret _ _ _ _ F7 N7 ⟨rfl, _, rfl, hbag, hrise.rest fun _ => by simpa [ilt] using hxy⟩
    · rename_i hlt
      refine g_set F2 N2 hne (by omega) (by simpa [vals] using hqi) (by omega) ?_
      intro h4 F4 N4
      k_steps
      (rename News _ _ _ _ => N7); (rename Fr _ _ _ _ => F7)
      rw [Int.toNat_natCast, ← hxv, vals_set] at N7
      exact hret _ _ _ _ F7 N7 ⟨rfl, _, rfl, hbag, hrise.rest fun h => absurd h (by omega)⟩
end Mine
end PartC2

section PartC3
open PySem PySem.W PyProof.Rows PySem.Calls
namespace Mine
local macro_rules | `(tactic| k_steps) => `(tactic| repeat' ((fail_if_success (with_reducible show wpAny _ _ (exec (Stmt.While _ _ _ _) _) _ _ _)); (fail_if_success (with_reducible show wpAny _ _ (exec (Stmt.For _ _ _ _ _) _) _ _ _)); (fail_if_success (with_reducible show wpAny _ _ (call (Value.ref _) _ _) _ _ _)); (fail_if_success (with_reducible show wpAny _ _ (compareOp _ (Value.ref _) (Value.ref _)) _ _ _)); (fail_if_success (with_reducible show wpAny _ _ (subscriptTail _ _ (Value.ref _) _) _ _ _)); (fail_if_success (with_reducible show wpAny _ _ (setItem (Value.ref _) _ _) _ _ _)); (first | (k_unfold; (try dsimp only)) | (k_end; kc_close) | walk1 | (dsimp only; walk1) | (leave1; walk_say "STEP leave1"; (try dsimp only)) | fail "no step")))

theorem Con.use {w : World} {k : Nat} {f : Addr} {args : List Value} {led : Led} {post : Value → Led → Prop} (C : Con w k f args led post)
    {A A₀ : Around} {base h₀ : Heap} {outer : List Env} {env : Env} {L : Addr} {m : Str → Option Value} {loose : List Str} {mean : ExcName → Option Value} {mg mb : Str → Option Value} {s : Shared} {Q E : Value → Shared → Prop}
    (B : Below A₀ base outer h₀) (F : Fr h₀ L s.heap m) (X : (Mine.hd.heap_39 w.params).In h₀) (N : News h₀ L s.heap led) (T : Top Mine.hd.view_39 loose mean mg mb h₀)
    (hA : A.frames = some (env :: outer)) (hf : env.frame = some L) (hke : env.scope.kind = .function) (hh : A.handled = none) (hd : A.depth + k < recursionLimit) (hu : A.units + 8 * k + 1000 < cLine)
    (hret : ∀ r led' h' tk', Fr h₀ L h' m → News h₀ L h' led' → post r led' → Q r { s with heap := h', toks := tk' }) :
    wpAny (model PySem.Challenge.rw_ny0059_01.prog w) A (call (.ref f) args) Q E s :=
  C A A₀ base h₀ outer env L m loose mean mg mb s Q E B F X N T hA hf hke hh hd hu hret

section
variable {prog : Program} {w : World} {A : Around} {E : Value → Shared → Prop} {s : Shared} {h₀ : Heap} {L D : Addr} {m : Str → Option Value} {led : Led} {vs : List Value} {n : Nat}
theorem g_len {Q : Value → Shared → Prop} (N : News h₀ L s.heap led) (hm : (D, listOf vs.toArray n) ∈ led) (hz : vs.length < 2 ^ 62) (h : Q (.int vs.length (s.toks + 1)) { s with toks := s.toks + 1 + 1 }) :
    wpAny (model prog w) A (call (.builtin "len") [.ref D]) Q E s :=
  len_list (PySem.IsL.isList (n := n) (N _ hm).1) (by rw [List.size_toArray]; omega) (by rw [List.size_toArray]; exact h)
theorem g_truthy {Q : Bool → Shared → Prop} (N : News h₀ L s.heap led) (hm : (D, listOf vs.toArray n) ∈ led) (hz : vs.length < 2 ^ 62) (h : Q (!vs.isEmpty) { s with toks := s.toks + 1 + 1 }) :
    wpAny (model prog w) A (truthy (.ref D)) Q E s :=
  wpAny_truthy_list (PySem.IsL.isList (n := n) (N _ hm).1) (by rw [List.size_toArray]; omega) (by cases vs <;> simpa using h)
end

theorem least1 {qs : List Item} {q : Nat} (h : qs.length ≤ 2 * q + 2) : ∀ d, 0 < d → d < qs.length → par d = q → ilt (at' qs d) (at' qs (2 * q + 1)) = false := by
  intro d d0 d1 d2
  have e : d = 2 * q + 1 := by unfold par at d2; omega
  rw [e]; exact ilt_irr _
theorem least2 {qs : List Item} {q : Nat} (h : (at' qs (2 * q + 1)).2 < (at' qs (2 * q + 2)).2) : ∀ d, 0 < d → d < qs.length → par d = q → ilt (at' qs d) (at' qs (2 * q + 1)) = false := by
  intro d d0 d1 d2
  have e : d = 2 * q + 1 ∨ d = 2 * q + 2 := by unfold par at d2; omega
  rcases e with e | e
  · rw [e]; exact ilt_irr _
  · rw [e]; exact ilt_ord.asymm _ _ (by simpa [ilt] using h)
theorem least3 {qs : List Item} {q : Nat} (h : ¬ (at' qs (2 * q + 1)).2 < (at' qs (2 * q + 2)).2) : ∀ d, 0 < d → d < qs.length → par d = q → ilt (at' qs d) (at' qs (2 * q + 2)) = false := by
  intro d d0 d1 d2
  have e : d = 2 * q + 1 ∨ d = 2 * q + 2 := by unfold par at d2; omega
  rcases e with e | e
  · rw [e]; simpa [ilt] using h
  · rw [e]; exact ilt_irr _

set_option maxRecDepth 100000 in
set_option maxHeartbeats 8000000 in
theorem c_siftup (w : World) (led : Led) (H : Addr) (n : Nat) (ps : List Item) (s0 : Nat) (t1 : Tok) (hne : ∀ p ∈ led, p.1 ≠ H) (hr : RowsIn led ps) (hlen : ps.length < 100000)
    (hpos : s0 < ps.length) (hH : HeapFrom ilt (s0 + 1) ps) :
    Con w 4 56 [.ref H, .int s0 t1] ((H, listOf (vals ps).toArray n) :: led) (fun r led' => r = .none ∧ ∃ ps', led' = (H, listOf (vals ps').toArray n) :: led ∧ Bag ps' ps ∧ HeapFrom ilt s0 ps') := by
  unfold Con
  k_fill
  intro A A₀ base h₀ outer env L m loose mean mg mb s Q E B F X N T hA hf hke hh hd hu hret
  refine wpAny_call ?_
  k_dflt (refine' code_def B F X N T hA hf hke ?k6 ?k7 ?k8 ?k9 ?kB ?_ ?c2 ?c3 ?c4 ?c5; (case k6 => k_is); (case k7 => k_is); (case k8 => omega); (case k9 => exact BindsTo.of_eq rfl); (case kB => exact locs rfl); (case c5 => decide); (case c2 => exact rfl); (case c3 => exact rfl); (case c4 => exact rfl))
  intro g' L' h' FG' F' N' B' X' T'
  have hcL := cLine_is
  obtain ⟨xa, xs, xn, hxv, hxm, hxi⟩ := hr (at' ps s0) (at_mem _ _ hpos)
  k_steps
  refine g_len N' (.head _) (by simp [vals]; omega) ?_
  k_steps
  (rename News _ _ _ _ => N1)
  refine g_sub N1 (.head _) (v := .ref xa) (by omega) (by omega) (by rw [Int.toNat_natCast, vals_at hpos, hxv]) ?_
  k_steps
  (rename Fr _ _ _ _ => F1); (rename News _ _ _ _ => N1)
  refine' ksw_while (σ := List Item × Nat × Tok × Tok) (fun c => (H, listOf (vals c.1).toArray n) :: led) (fun c => [("pos", .int c.2.1 c.2.2.1), ("childpos", .int (2 * (c.2.1 : Int) + 1) c.2.2.2)]) (fun _ => True) ["rightpos"]
    (fun c => RowsIn led c.1 ∧ c.1.length = ps.length ∧ Bag (c.1.set c.2.1 (at' ps s0)) ps ∧ Hole ilt s0 c.1 c.2.1) (fun c => ps.length - c.2.1) (ps, s0, t1, _) F1 N1 trivial ?kk ?kp ?turn
  case kk =>
    intro p hp
    rcases List.mem_cons.mp hp with rfl | hp
    · rfl
    · rw [List.mem_singleton.mp hp]
      rfl
  case kp => exact ⟨hr, rfl, bag_set_self ps s0 hpos, Hole.start hH hpos⟩
  case turn =>
    rintro ⟨qs, q, t, t'⟩ u h tk - ⟨hq, hql, hbag, hhole⟩ F2 N2
    dsimp only at hq hql hbag hhole F2 N2
    have hqi := hhole.inn
    have hvl : (vals ps).length = ps.length := by simp [vals]
    k_steps
    · rename_i hl1 h3 F3 N3 hl2
      have hc1 : 2 * q + 1 < qs.length := by omega
      have hc2 : 2 * q + 2 < qs.length := by omega
      obtain ⟨ya, ys, yn, hyv, hym, hyi⟩ := hq (at' qs (2 * q + 1)) (at_mem _ _ hc1)
      obtain ⟨za, zs, zn, hzv, hzm, hzi⟩ := hq (at' qs (2 * q + 2)) (at_mem _ _ hc2)
      refine g_sub N3 (.head _) (v := .ref ya) (by omega) (by omega) (by rw [show (2 * (q : Int) + 1).toNat = 2 * q + 1 by omega, vals_at hc1, hyv]) ?_
      k_steps
      refine g_sub N3 (.head _) (v := .ref za) (by omega) (by omega) (by rw [show (2 * (q : Int) + 1 + 1).toNat = 2 * q + 2 by omega, vals_at hc2, hzv]) ?_
      k_steps
      refine rows_lt (N3.get (.tail _ hym)) (N3.get (.tail _ hzm)) hyi hzi (by simp only [units_deeper]; omega) ?_
      k_steps
      · (rename ((at' qs (2 * q + 1)).2 < (at' qs (2 * q + 2)).2) => hlt)
        (rename News _ _ _ _ => N4); (rename Fr _ _ _ _ => F4)
        refine g_sub N4 (.head _) (v := .ref ya) (by omega) (by omega) (by rw [show (2 * (q : Int) + 1).toNat = (2 * q + 1) by omega, vals_at hc1, hyv]) ?_
        k_steps
        refine g_set F4 N4 hne (by omega) (by simpa [vals] using hqi) (by omega) ?_
        intro h6 F6 N6
        k_steps
        (rename News _ _ _ _ => N7); (rename Fr _ _ _ _ => F7)
        rw [Int.toNat_natCast, ← hyv, vals_set] at N7
        rw [show (2 * (q : Int) + 1) = ((2 * q + 1 : Nat) : Int) by omega] at F7
        refine ksw_end (qs.set q (at' qs (2 * q + 1)), (2 * q + 1), _, _) F7 N7 (fun _ h => h) trivial (by
            intro p hp
            rcases List.mem_cons.mp hp with rfl | hp
            · rfl
            · rw [List.mem_singleton.mp hp]
              rfl) (by intro z h2 h3; simp only [List.forall_mem_cons, List.not_mem_nil, false_implies, implies_true, and_true, ne_eq, List.contains_cons, List.contains_nil, Bool.or_false, Bool.or_eq_false_iff, beq_eq_false_iff_ne] at h2 h3; simp [kstB, h2, h3]) ⟨hq.set _ _ (hq _ (at_mem _ _ hc1)), by simpa using hql, (bag_move qs q (2 * q + 1) _ hqi hc1 (by omega)).trans hbag, hhole.down ilt_ord hc1 (by unfold par; omega) (by omega) (least2 hlt)⟩ (by show ps.length - (2 * q + 1) < ps.length - q; omega)
      · (rename (¬ (at' qs (2 * q + 1)).2 < (at' qs (2 * q + 2)).2) => hlt)
        (rename News _ _ _ _ => N4); (rename Fr _ _ _ _ => F4)
        refine g_sub N4 (.head _) (v := .ref za) (by omega) (by omega) (by rw [show (2 * (q : Int) + 1 + 1).toNat = (2 * q + 2) by omega, vals_at hc2, hzv]) ?_
        k_steps
        refine g_set F4 N4 hne (by omega) (by simpa [vals] using hqi) (by omega) ?_
        intro h6 F6 N6
        k_steps
        (rename News _ _ _ _ => N7); (rename Fr _ _ _ _ => F7)
        rw [Int.toNat_natCast, ← hzv, vals_set] at N7
        rw [show (2 * (q : Int) + 1 + 1) = ((2 * q + 2 : Nat) : Int) by omega] at F7
        refine ksw_end (qs.set q (at' qs (2 * q + 2)), (2 * q + 2), _, _) F7 N7 (fun _ h => h) trivial (by
            intro p hp
            rcases List.mem_cons.mp hp with rfl | hp
            · rfl
            · rw [List.mem_singleton.mp hp]
              rfl) (by intro z h2 h3; simp only [List.forall_mem_cons, List.not_mem_nil, false_implies, implies_true, and_true, ne_eq, List.contains_cons, List.contains_nil, Bool.or_false, Bool.or_eq_false_iff, beq_eq_false_iff_ne] at h2 h3; simp [kstB, h2, h3]) ⟨hq.set _ _ (hq _ (at_mem _ _ hc2)), by simpa using hql, (bag_move qs q (2 * q + 2) _ hqi hc2 (by omega)).trans hbag, hhole.down ilt_ord hc2 (by unfold par; omega) (by omega) (least3 hlt)⟩ (by show ps.length - (2 * q + 2) < ps.length - q; omega)
    · (rename (¬ (2 * (q : Int) + 1 + 1 < _)) => hl2)
      have hc1 : 2 * q + 1 < qs.length := by omega
      obtain ⟨ya, ys, yn, hyv, hym, hyi⟩ := hq (at' qs (2 * q + 1)) (at_mem _ _ hc1)
      · skip
        (rename News _ _ _ _ => N4); (rename Fr _ _ _ _ => F4)
        refine g_sub N4 (.head _) (v := .ref ya) (by omega) (by omega) (by rw [show (2 * (q : Int) + 1).toNat = (2 * q + 1) by omega, vals_at hc1, hyv]) ?_
        k_steps
        refine g_set F4 N4 hne (by omega) (by simpa [vals] using hqi) (by omega) ?_
        intro h6 F6 N6
        k_steps
        (rename News _ _ _ _ => N7); (rename Fr _ _ _ _ => F7)
        rw [Int.toNat_natCast, ← hyv, vals_set] at N7
        rw [show (2 * (q : Int) + 1) = ((2 * q + 1 : Nat) : Int) by omega] at F7
        refine ksw_end (qs.set q (at' qs (2 * q + 1)), (2 * q + 1), _, _) F7 N7 (fun _ h => h) trivial (by
            intro p hp
            rcases List.mem_cons.mp hp with rfl | hp
            · rfl
            · rw [List.mem_singleton.mp hp]
              rfl) (by intro z h2 h3; simp only [List.forall_mem_cons, List.not_mem_nil, false_implies, implies_true, and_true, ne_eq, List.contains_cons, List.contains_nil, Bool.or_false, Bool.or_eq_false_iff, beq_eq_false_iff_ne] at h2 h3; simp [kstB, h2, h3]) ⟨hq.set _ _ (hq _ (at_mem _ _ hc1)), by simpa using hql, (bag_move qs q (2 * q + 1) _ hqi hc1 (by omega)).trans hbag, hhole.down ilt_ord hc1 (by unfold par; omega) (by omega) (least1 (by omega))⟩ (by show ps.length - (2 * q + 1) < ps.length - q; omega)
    · rename_i hl1
      refine g_set F2 N2 hne (by omega) (by simpa [vals] using hqi) (by omega) ?_
      intro h6 F6 N6
      k_steps
      (rename News _ _ _ _ => N7); (rename Fr _ _ _ _ => F7)
      rw [Int.toNat_natCast, ← hxv, vals_set] at N7
      refine Con.use (c_siftdown w led H n (qs.set q (at' ps s0)) s0 q t1 t hne (hr.bag hbag) (by simp; omega) ?_) B' F7 X' N7 T' (Around.frames_deeper hA) rfl rfl hh (by simp only [depth_deeper]; omega) (by simp only [units_deeper]; omega) ?_
      · rw [at_set _ _ _ _ hqi, if_pos rfl]
        exact Rise.of_leaf hhole (by omega)
      · rintro r led' h8 tk8 F8 N8 ⟨rfl, ps', rfl, hb8, hh8⟩
        k_steps
        (rename News _ _ _ _ => N9); (rename Fr _ _ _ _ => F9)
        exact hret _ _ _ _ F9 N9 ⟨rfl, _, rfl, hb8.trans hbag, hh8⟩
end Mine
end PartC3

section PartC5
open PySem PySem.W PyProof.Rows PySem.Calls
namespace Mine
local macro_rules | `(tactic| k_steps) => `(tactic| repeat' ((fail_if_success (with_reducible show wpAny _ _ (exec (Stmt.While _ _ _ _) _) _ _ _)); (fail_if_success (with_reducible show wpAny _ _ (exec (Stmt.For _ _ _ _ _) _) _ _ _)); (fail_if_success (with_reducible show wpAny _ _ (call (Value.ref _) _ _) _ _ _)); (fail_if_success (with_reducible show wpAny _ _ (compareOp _ (Value.ref _) (Value.ref _)) _ _ _)); (fail_if_success (with_reducible show wpAny _ _ (subscriptTail _ _ (Value.ref _) _) _ _ _)); (fail_if_success (with_reducible show wpAny _ _ (setItem (Value.ref _) _ _) _ _ _)); (first | (k_unfold; (try dsimp only)) | (k_end; kc_close) | walk1 | (dsimp only; walk1) | (leave1; walk_say "STEP leave1"; (try dsimp only)) | fail "no step")))

section
variable {prog : Program} {w : World} {A : Around} {E : Value → Shared → Prop} {s : Shared} {h₀ : Heap} {L D : Addr} {m : Str → Option Value} {led : Led} {vs : List Value} {n : Nat} {y : Value}
theorem g_pop {Q : Value → Shared → Prop} (F : Fr h₀ L s.heap m) (N : News h₀ L s.heap ((D, listOf (vs ++ [y]).toArray n) :: led)) (hne : ∀ p ∈ led, p.1 ≠ D) (hz : vs.length < 100000)
    (h : ∀ h', Fr h₀ L h' m → News h₀ L h' ((D, listOf vs.toArray (n + 1)) :: led) → Q y { s with heap := h' }) : wpAny (model prog w) A (call (.builtin "list.pop") [.ref D]) Q E s :=
  kl_pop F N (p := vs) (y := y) (by simpa using kpa_last y vs) (.head hne) (by simp only [List.length_append, List.length_cons, List.length_nil, sizeLine_eq]; omega) h
end

theorem heap_all_least {l : List Item} (h : HeapFrom ilt 0 l) : ∀ z ∈ l, ilt z (at' l 0) = false := by
  intro z hz
  obtain ⟨i, hi, e⟩ := List.getElem_of_mem hz
  have := h.least ilt_ord ilt_irr i hi
  have e2 : at' l i = z := by simp [at', hi, e]
  rwa [e2] at this
theorem at_zero_append {qs : List Item} {y : Item} (h : 0 < qs.length) : at' (qs ++ [y]) 0 = at' qs 0 := by
  rcases qs with _ | ⟨x, qs⟩
  · exact absurd h (Nat.lt_irrefl _)
  · rfl
theorem bag_pop {qs ps' : List Item} {y : Item} (h : 0 < qs.length) (b : Bag ps' (qs.set 0 y)) : Bag (at' qs 0 :: ps') (qs ++ [y]) := by
  intro a
  have h1 := count_set qs 0 y a h
  have h2 := b a
  simp only [List.count_cons, List.count_append, List.count_nil, beq_iff_eq, Nat.zero_add]
  omega

set_option maxRecDepth 100000 in
set_option maxHeartbeats 8000000 in
theorem c_heappop (w : World) (led : Led) (H : Addr) (n : Nat) (ps : List Item) (hne : ∀ p ∈ led, p.1 ≠ H) (hr : RowsIn led ps) (hlen : ps.length < 100000)
    (hpos : 0 < ps.length) (hH : HeapFrom ilt 0 ps) :
    Con w 5 35 [.ref H] ((H, listOf (vals ps).toArray n) :: led) (fun r led' => r = (at' ps 0).1 ∧ ∃ ps', led' = (H, listOf (vals ps').toArray (n + 1)) :: led ∧ Bag (at' ps 0 :: ps') ps ∧ HeapFrom ilt 0 ps') := by
  unfold Con
  k_fill
  intro A A₀ base h₀ outer env L m loose mean mg mb s Q E B F X N T hA hf hke hh hd hu hret
  refine wpAny_call ?_
  k_dflt (refine' code_def B F X N T hA hf hke ?k6 ?k7 ?k8 ?k9 ?kB ?_ ?c2 ?c3 ?c4 ?c5; (case k6 => k_is); (case k7 => k_is); (case k8 => omega); (case k9 => exact BindsTo.of_eq rfl); (case kB => exact locs rfl); (case c5 => decide); (case c2 => exact rfl); (case c3 => exact rfl); (case c4 => exact rfl))
  intro g' L' h' FG' F' N' B' X' T'
  have hcL := cLine_is
  obtain ⟨qs, y, rfl⟩ : ∃ qs y, ps = qs ++ [y] := ⟨ps.dropLast, ps.getLast (by intro e; rw [e] at hpos; exact absurd hpos (Nat.lt_irrefl _)), (List.dropLast_concat_getLast _).symm⟩
  have hql : qs.length < 100000 := by simp at hlen; omega
  have hrq : RowsIn led qs := fun p hp => hr p (List.mem_append.mpr (.inl hp))
  have hry : RowIn led y.1 y.2 := hr y (List.mem_append.mpr (.inr (List.mem_singleton.mpr rfl)))
  have hvs : vals (qs ++ [y]) = vals qs ++ [y.1] := by simp [vals]
  rw [hvs] at N'
  k_steps
  refine g_pop F' N' hne (by simpa [vals] using hql) ?_
  intro h1 F1 N1
  k_steps
  · (rename (_ = true) => he)
    have hq : qs = [] := by simpa [vals] using he
    subst hq
    exact hret _ _ _ _ (by assumption) (by assumption) ⟨rfl, [], rfl, Bag.refl _, fun c _ hc => absurd hc (Nat.not_lt_zero _)⟩
  · (rename (_ = false) => he)
    have hq : 0 < qs.length := by
      rcases qs with _ | ⟨x, qs⟩
      · simp [vals] at he
      · simp
    (rename Fr _ _ _ _ => F2); (rename News _ _ _ _ => N2)
    refine g_sub N2 (.head _) (v := (at' qs 0).1) (by omega) (by omega) (by exact vals_at hq) ?_
    k_steps
    (rename Fr _ _ _ _ => F3); (rename News _ _ _ _ => N3)
    refine g_set F3 N3 hne (by omega) (by simpa [vals] using hq) (by omega) ?_
    intro h4 F4 N4
    k_steps
    (rename Fr _ _ _ _ => F5); (rename News _ _ _ _ => N5)
    rw [Int.toNat_zero, vals_set] at N5
    refine Con.use (c_siftup w led H (n + 1) (qs.set 0 y) 0 _ hne (hrq.set 0 y hry) (by simpa using hql) (by simpa using hq) (hH.swap hq)) B' F5 X' N5 T' (Around.frames_deeper hA) rfl rfl hh (by simp only [depth_deeper]; omega) (by simp only [units_deeper]; omega) ?_
    rintro r led' h8 tk8 F8 N8 ⟨rfl, ps', rfl, hb8, hh8⟩
    k_steps
    (rename News _ _ _ _ => N9); (rename Fr _ _ _ _ => F9)
    exact hret _ _ _ _ F9 N9 ⟨by rw [at_zero_append hq], ps', rfl, by rw [at_zero_append hq]; exact bag_pop hq hb8, hh8⟩
end Mine
end PartC5

section PartLoops
open PySem PySem.W PyProof.Rows PySem.Calls
namespace Mine

/-- what holds between two turns -/
def LJ {σ : Type} (LedOf : σ → Led) (ps : σ → List (Str × Value)) (stored : List Str) (x : Str) (m₀ : Str → Option Value) (P : Nat → σ → Prop) (i : Nat) (m : Str → Option Value) (nx : Led) : Prop :=
  ∃ c, nx = LedOf c ∧ (∀ p ∈ ps c, m p.1 = some p.2) ∧ (∀ z, z ≠ x → (∀ p ∈ ps c, z ≠ p.1) → stored.contains z = false → m z = m₀ z) ∧ P i c

section
variable {prog : Program} {w : World} {A : Around} {E : Value → Shared → Prop} {s : Shared} {env : Env} {h₀ : Heap} {x : Str} {body : List Stmt} {Q : Flow → Shared → Prop}
theorem my_loop {σ : Type} {I : Addr} {fp wr : List Addr} {n : Nat} {Pv : Nat → Value → Prop} {St : Nat → Heap → Prop} {m₀ : Str → Option Value} (LedOf : σ → Led) (ps : σ → List (Str × Value)) (stored : List Str) (P : Nat → σ → Prop) (c₀ : σ)
    (W : Walks prog w A I fp wr n Pv St) (hfw : ∀ a ∈ fp, a ∈ wr) (hwf : ∀ b ∈ wr, b ∈ fp) (hob : ∀ i h, St i h → ∀ b ∈ wr, ∃ o, h.get? b = some o) (hLf : env.locals ∉ fp) (hwr : ∀ b ∈ wr, h₀.get? b = none) (hnw : ∀ p ∈ LedOf c₀, p.1 ∉ wr) (hst : St 0 s.heap)
    (F : Fr h₀ env.locals s.heap m₀) (N : News h₀ env.locals s.heap (LedOf c₀)) (hk : ∀ p ∈ ps c₀, m₀ p.1 = some p.2) (hp : P 0 c₀)
    (turn : ∀ (c : σ) i v (u : Str → Option Value) h tk own, i < n → Pv i v → OwnOff own ((LedOf c).map (·.1)) → P i c → Fr h₀ env.locals h (fun y => if y = x then some v else kstB (fun z => if stored.contains z then u z else m₀ z) (ps c) y) → News h₀ env.locals h (LedOf c ++ own) →
      wpAny (model prog w) A (execs body env) (InvPostG h₀ env.locals (LJ LedOf ps stored x m₀ P (i + 1)) own { s with heap := h, toks := tk } Q) E { s with heap := h, toks := tk })
    (done : ∀ (c : σ) (u : Str → Option Value) h tk, P n c → Fr h₀ env.locals h (fun y => if y = x then u y else kstB (fun z => if stored.contains z then u z else m₀ z) (ps c) y) → News h₀ env.locals h (LedOf c) → Q .next { s with heap := h, toks := tk }) :
    LoopAtV prog w A h₀ env x body Q E (.ref I) s := by
  refine kdr_loop (LJ LedOf ps stored x m₀ P) W hfw hwf hob hLf hwr hnw hst F N ⟨c₀, rfl, hk, fun _ _ _ _ => rfl, hp⟩ ?_ ?_
  · rintro i v m₁ nx h tk own hi hv hoff ⟨c, rfl, h1, h2, hp'⟩ F₁ N₁
    exact turn c i v m₁ h tk own hi hv hoff hp' (kst_fr h1 h2 F₁) N₁
  · rintro m₁ nx h tk ⟨c, rfl, h1, h2, hp'⟩ F₁ N₁
    exact done c m₁ h tk hp' (kst_frOut h1 h2 F₁) N₁
/-- a turn's end -/
theorem my_end {σ : Type} {LedOf : σ → Led} {ps : σ → List (Str × Value)} {stored : List Str} {P : Nat → σ → Prop} {i : Nat} {m₀ m' : Str → Option Value} {L : Addr} {own news' : Led} {s₁ : Shared} {h' : Heap} {tk : Nat} (c : σ)
    (F : Fr h₀ L h' m') (N : News h₀ L h' news') (hn : ∀ p ∈ LedOf c, p ∈ news') (ho : ∀ p ∈ own, p ∈ news') (ha : OwnOff own ((LedOf c).map (·.1))) (hk : ∀ p ∈ ps c, m' p.1 = some p.2)
    (hr : ∀ z, z ≠ x → (∀ p ∈ ps c, z ≠ p.1) → stored.contains z = false → m' z = m₀ z) (hp : P i c) :
    InvEndG h₀ L (LJ LedOf ps stored x m₀ P i) own s₁ { s₁ with heap := h', toks := tk } :=
  InvEndG.intro F N ⟨c, rfl, hk, hr, hp⟩ ha hn ho

/-- over a range's iterator -/
theorem loop_range {σ : Type} {I : Addr} {a₀ st : Int} {n : Nat} {m₀ : Str → Option Value} (LedOf : σ → Led) (ps : σ → List (Str × Value)) (stored : List Str) (P : Nat → σ → Prop) (c₀ : σ)
    (hh : A.handled = none) (hit : IsRangeIter s.heap I a₀ n st) (hI : h₀.get? I = none) (hLI : env.locals ≠ I) (hnw : ∀ p ∈ LedOf c₀, p.1 ≠ I)
    (F : Fr h₀ env.locals s.heap m₀) (N : News h₀ env.locals s.heap (LedOf c₀)) (hk : ∀ p ∈ ps c₀, m₀ p.1 = some p.2) (hp : P 0 c₀)
    (turn : ∀ (c : σ) (i : Nat) t (u : Str → Option Value) h tk own, i < n → OwnOff own ((LedOf c).map (·.1)) → P i c → Fr h₀ env.locals h (fun y => if y = x then some (.int (a₀ + i * st) t) else kstB (fun z => if stored.contains z then u z else m₀ z) (ps c) y) → News h₀ env.locals h (LedOf c ++ own) →
      wpAny (model prog w) A (execs body env) (InvPostG h₀ env.locals (LJ LedOf ps stored x m₀ P (i + 1)) own { s with heap := h, toks := tk } Q) E { s with heap := h, toks := tk })
    (done : ∀ (c : σ) (u : Str → Option Value) h tk, P n c → Fr h₀ env.locals h (fun y => if y = x then u y else kstB (fun z => if stored.contains z then u z else m₀ z) (ps c) y) → News h₀ env.locals h (LedOf c) → Q .next { s with heap := h, toks := tk }) :
    LoopAtV prog w A h₀ env x body Q E (.ref I) s := by
  refine my_loop LedOf ps stored P c₀ (Walks.range hh I a₀ st n) (fun _ h => h) (fun _ h => h) ?_ ?_ ?_ ?_ (by simpa using hit) F N hk hp ?_ done
  · intro i h hi b hb
    rw [List.mem_singleton.mp hb]
    exact ⟨_, hi⟩
  · intro hm
    exact hLI (List.mem_singleton.mp hm)
  · intro b hb
    rw [List.mem_singleton.mp hb]
    exact hI
  · intro p hp' hb
    exact hnw p hp' (List.mem_singleton.mp hb)
  · rintro c i v u h tk own hi ⟨t, rfl⟩ hoff hp' F₁ N₁
    exact turn c i t u h tk own hi hoff hp' F₁ N₁
end

section
variable {prog : Program} {w : World} {A : Around} {E : Value → Shared → Prop} {s : Shared}
theorem call_range_reversed {r : Addr} {b : Int} {t u v : Tok} {Q : Value → Shared → Prop} (hl : IsRange s.heap r 0 b 1 t u v) (h0 : 0 ≤ b) (hb : b < 2 ^ 62)
    (h : Q (.ref s.heap.objs.size) { s with heap := s.heap.push { cls := .type "range_iterator", data := .fields #[rawInt (b - 1), rawInt b, rawInt (-1)] } }) : wpAny (model prog w) A (call (.builtin "range.__reversed__") [.ref r]) Q E s := by
  have hT : s.TypeIs (.ref r) "range" := ⟨_, hl, rfl⟩
  refine wpAny_call_entry F.slot_range_reversed hT F.entry_range_reversed ?_ (F.args_range_reversed_1 _)
  unfold Builtin.«range.__reversed__»
  refine wpAny_bind (wpAny_of_eq (a := Value.ref r) rfl ?_)
  unfold Builtin.Range.rangeFields
  wp_walk using AutoSeq1.wpAny_loadPart' hl
  have esz : Builtin.Range.rangeSize 0 b 1 = b := by
    unfold Builtin.Range.rangeSize
    simp
    omega
  have hfit : (Builtin.Range.rangeFitsLong 0 && Builtin.Range.rangeFitsLong b && Builtin.Range.rangeFitsLong 1 && Builtin.Range.rangeFitsLong (-1) && Builtin.Range.rangeFitsLong (0 - 1) && Builtin.Range.rangeFitsLong b) = true := by
    unfold Builtin.Range.rangeFitsLong
    simp
    omega
  rw [esz, hfit]
  have e1 : 0 + (b - 1) * 1 = b - 1 := by omega
  rw [e1]
  simp only [Bool.not_true, Bool.false_eq_true, if_false, if_true]
  exact wpAny_bind (wpAny_newObj_type (wpAny_pure ⟨_, rfl, h⟩))

theorem code_reversed_range {r : Addr} {b : Int} {t u v : Tok} {Q₁ : Value → Shared → Prop} (hl : IsRange s.heap r 0 b 1 t u v) (h0 : 0 ≤ b) (hb : b < 2 ^ 62)
    (h : Q₁ (.ref s.heap.objs.size) { s with heap := s.heap.push { cls := .type "range_iterator", data := .fields #[rawInt (b - 1), rawInt b, rawInt (-1)] } }) :
    codeAny (model prog w) A (.call (.builtin "reversed.__new__") ⟨[.type "reversed", .ref r], []⟩) (wants Q₁ E) s := by
  have hT : s.TypeIs (.ref r) "range" := ⟨_, hl, rfl⟩
  refine codeAny_of_tree ?_
  show wpAny _ A.in1 (do checkBuiltinCall "reversed.__new__" ⟨[.type "reversed", .ref r], []⟩; again (.builtin "reversed.__new__" ⟨[.type "reversed", .ref r], []⟩)) _ _ s
  refine wpAny_bind (wpAny_of_eq (F.newCall_reversed_1 _) (wpAny_pure ⟨plainId_quiet F.plain_reversed_new _, codeAny_builtin F.entry_reversed_new ?_⟩))
  rw [Around.under_plainId F.plain_reversed_new _]
  unfold Builtin.«reversed.__new__»
  refine wpAny_bind (wpAny_of_eq (newClass_reversed _) ?_)
  try dsimp only
  refine wpAny_bind (wpAny_of_eq (a := ()) (by first | rfl | kernel_rfl) ?_)
  refine wpAny_bind (wpAny_of_eq (a := ()) (by first | rfl | kernel_rfl) ?_)
  try dsimp only
  refine wpAny_bind (wpAny_specialOf hT F.slot_range_reversed.lookup ?_)
  try dsimp only
  refine wpAny_bind (wpAny_of_eq (F.slot_range_reversed.bind _) ?_)
  try dsimp only
  first
  | rw [if_neg (show ¬ ((Value.builtin "range.__reversed__" == Value.none) = true) from Bool.false_ne_true)]
  | (show wpAny _ _ (if (Value.builtin "range.__reversed__" == Value.none) = true then _ else _) _ _ _; rw [if_neg (show ¬ ((Value.builtin "range.__reversed__" == Value.none) = true) from Bool.false_ne_true)])
  refine wpAny_bind (wpAny_rule ?_)
  refine wpAny_bind (m := runValue (.call (.builtin "range.__reversed__") ⟨[.ref r], []⟩)) (show wpAny _ _ (call (.builtin "range.__reversed__") [.ref r]) _ _ _ from call_range_reversed hl h0 hb ?_)
  first
  | exact wpAny_pure h
  | exact wpAny_bind (wpAny_pure (wpAny_pure h))

theorem sub_ri_reversed : isSubtype (.type "range_iterator") (.type "reversed") = pure false := by rw [isSubtype_type]; kernel_rfl
theorem call_reversed_range {r : Addr} {b : Int} {t u v : Tok} {Q : Value → Shared → Prop} (hl : IsRange s.heap r 0 b 1 t u v) (h0 : 0 ≤ b) (hb : b < 2 ^ 62)
    (h : Q (.ref s.heap.objs.size) { s with heap := s.heap.push { cls := .type "range_iterator", data := .fields #[rawInt (b - 1), rawInt b, rawInt (-1)] } }) : wpAny (model prog w) A (call (.type "reversed") [.ref r]) Q E s := by
  refine callType_other (U := "range_iterator") (Q₁ := fun obj s₁ => obj = .ref s.heap.objs.size ∧ s₁ = { s with heap := s.heap.push { cls := .type "range_iterator", data := .fields #[rawInt (b - 1), rawInt b, rawInt (-1)] } }) (by decide +kernel) F.create_reversed ⟨_, _, F.mro_reversed⟩ F.made_reversed sub_ri_reversed (F.typeCall_reversed_1 _) (code_reversed_range hl h0 hb ⟨rfl, rfl⟩) ?_
  rintro obj s₁ ⟨rfl, rfl⟩
  exact ⟨⟨_, Heap.get?_push_size _ rfl, rfl⟩, h⟩
end
end Mine
end PartLoops

section PartC4
open PySem PySem.W PyProof.Rows PySem.Calls
namespace Mine
local macro_rules | `(tactic| k_steps) => `(tactic| repeat' ((fail_if_success (with_reducible show wpAny _ _ (exec (Stmt.While _ _ _ _) _) _ _ _)); (fail_if_success (with_reducible show wpAny _ _ (pyIter _) _ _ _)); (fail_if_success (with_reducible show wpAny _ _ (call (Value.ref _) _ _) _ _ _)); (fail_if_success (with_reducible show wpAny _ _ (compareOp _ (Value.ref _) (Value.ref _)) _ _ _)); (fail_if_success (with_reducible show wpAny _ _ (subscriptTail _ _ (Value.ref _) _) _ _ _)); (fail_if_success (with_reducible show wpAny _ _ (setItem (Value.ref _) _ _) _ _ _)); (first | (k_unfold; (try dsimp only)) | (k_end; kc_close) | walk1 | (dsimp only; walk1) | (leave1; walk_say "STEP leave1"; (try dsimp only)) | fail "no step")))

theorem RowIn.mono {led led' : Led} {v : Value} {r : List Int} (h : RowIn led v r) (hs : ∀ p ∈ led, p ∈ led') : RowIn led' v r :=
  let ⟨a, vs, n, e, hm, hi⟩ := h
  ⟨a, vs, n, e, hs _ hm, hi⟩
theorem RowsIn.mono {led led' : Led} {ps : List Item} (h : RowsIn led ps) (hs : ∀ p ∈ led, p ∈ led') : RowsIn led' ps := fun p hp => (h p hp).mono hs

set_option maxRecDepth 100000 in
set_option maxHeartbeats 8000000 in
theorem c_heapify (w : World) (led : Led) (H : Addr) (n : Nat) (ps : List Item) (hne : ∀ p ∈ led, p.1 ≠ H) (hr : RowsIn led ps) (hlen : ps.length < 100000) :
    Con w 5 42 [.ref H] ((H, listOf (vals ps).toArray n) :: led) (fun r led' => r = .none ∧ ∃ ps', led' = (H, listOf (vals ps').toArray n) :: led ∧ Bag ps' ps ∧ HeapFrom ilt 0 ps') := by
  unfold Con
  k_fill
  intro A A₀ base h₀ outer env L m loose mean mg mb s Q E B F X N T hA hf hke hh hd hu hret
  refine wpAny_call ?_
  k_dflt (refine' code_def B F X N T hA hf hke ?k6 ?k7 ?k8 ?k9 ?kB ?_ ?c2 ?c3 ?c4 ?c5; (case k6 => k_is); (case k7 => k_is); (case k8 => omega); (case k9 => exact BindsTo.of_eq rfl); (case kB => exact locs rfl); (case c5 => decide); (case c2 => exact rfl); (case c3 => exact rfl); (case c4 => exact rfl))
  intro g' L' h' FG' F' N' B' X' T'
  have hcL := cLine_is
  k_steps
  refine g_len N' (.head _) (by simp [vals]; omega) ?_
  k_steps
  (rename IsRange _ _ _ _ _ _ _ _ => hR); (rename Fr _ _ _ _ => F1); (rename News _ _ _ _ => N1)
  obtain ⟨k, hk⟩ : ∃ k : Nat, k = ps.length / 2 := ⟨_, rfl⟩
  have ek : ((vals ps).length : Int).fdiv 2 = (k : Int) := by
    rw [Int.fdiv_eq_ediv_of_nonneg _ (by decide)]
    simp [vals]; omega
  rw [ek] at hR
  refine call_reversed_range hR (by omega) (by omega) ?_
  refine wpAny_pyIter_rangeiter (Heap.get?_push_size _ rfl) ?_
  refine loop_range (σ := List Item) (n := k) (fun c => (H, listOf (vals c).toArray n) :: led) (fun _ => []) [] (fun i c => Bag c ps ∧ HeapFrom ilt (k - i) c) ps hh (Heap.get?_push_size _ rfl) (next_is_new F1) (Nat.ne_of_lt F1.ns.lt) (fun p hp => Nat.ne_of_lt (Heap.lt_size (N1 p hp).1)) (F1.push _) (fun p hp => ⟨Heap.get?_push_of_some _ (N1 p hp).1, (N1 p hp).2⟩) (fun _ hp => nomatch hp) ⟨Bag.refl _, HeapFrom.top (by omega)⟩ ?_ ?_
  · rintro c i t u h tk own hi hoff ⟨hb, hh'⟩ F2 N2
    have hcl := hb.length
    have ej : (k : Int) - 1 + (i : Int) * (-1) = ((k - 1 - i : Nat) : Int) := by omega
    rw [ej] at F2
    k_steps
    have hne2 : ∀ p ∈ led ++ own, p.1 ≠ H := fun p hp => (List.mem_append.mp hp).elim (hne p) fun hp => hoff p hp H (.head _)
    refine Con.use (c_siftup w (led ++ own) H n c (k - 1 - i) t hne2 ((hr.bag hb).mono fun p hp => List.mem_append.mpr (.inl hp)) (by omega) (by omega) (by rw [show k - 1 - i + 1 = k - i by omega]; exact hh')) B' F2 X' N2 T' (Around.frames_deeper hA) rfl rfl hh (by simp only [depth_deeper]; omega) (by simp only [units_deeper]; omega) ?_
    rintro r led' h8 tk8 F8 N8 ⟨rfl, ps', rfl, hb8, hh8⟩
    k_steps
    (rename News _ _ _ _ => N9); (rename Fr _ _ _ _ => F9)
    refine my_end ps' F9 N9 (fun p hp => ?_) (fun p hp => List.mem_cons_of_mem _ (List.mem_append.mpr (.inr hp))) hoff (fun _ hp => nomatch hp) (fun z hz _ _ => ?_) ⟨hb8.trans hb, by rw [show k - (i + 1) = k - 1 - i by omega]; exact hh8⟩
    · exact (List.mem_cons.mp hp).elim (fun e => e ▸ .head _) fun hp => List.mem_cons_of_mem _ (List.mem_append.mpr (.inl hp))
    · simp [kstB, hz]
  · rintro c u h tk ⟨hb, hh'⟩ F2 N2
    k_steps
    (rename News _ _ _ _ => N9); (rename Fr _ _ _ _ => F9)
    exact hret _ _ _ _ F9 N9 ⟨rfl, c, rfl, hb, by rw [Nat.sub_self] at hh'; exact hh'⟩
end Mine
end PartC4

section PartC6a
open PySem PySem.W PyProof.Rows PySem.Calls
namespace Mine

def WMid {σ : Type} (h₀ : Heap) (L : Addr) (s : Shared) (LedOf : σ → Led) (ps : σ → List (Str × Value)) (stored : List Str) (m₀ : Str → Option Value) (P X : σ → Prop) (f : Flow) (s' : Shared) : Prop :=
  f = .next ∧ ∃ (c : σ) (u : Str → Option Value) (h : Heap) (tk : Nat), s' = { s with heap := h, toks := tk } ∧ P c ∧ X c ∧ Fr h₀ L h (kstB (fun z => if stored.contains z then u z else m₀ z) (ps c)) ∧ News h₀ L h (LedOf c)
section
variable {prog : Program} {w : World} {A : Around} {E : Value → Shared → Prop} {Q : Flow → Shared → Prop} {s : Shared} {env : Env} {h₀ : Heap} {L : Addr}
theorem my_while {σ : Type} {test : Expr} {body : List Stmt} {pos : Pos} {m₀ : Str → Option Value} (LedOf : σ → Led) (ps : σ → List (Str × Value)) (stored : List Str) (P X : σ → Prop) (μ : σ → Nat) (c₀ : σ)
    (F : Fr h₀ L s.heap m₀) (N : News h₀ L s.heap (LedOf c₀)) (hk : ∀ p ∈ ps c₀, m₀ p.1 = some p.2) (hp : P c₀)
    (turn : ∀ (c : σ) (u : Str → Option Value) h tk, P c → Fr h₀ L h (kstB (fun z => if stored.contains z then u z else m₀ z) (ps c)) → News h₀ L h (LedOf c) →
      wpAny (model prog w) A (isTrue test env (eval test env)) (fun b s₂ =>
        if b = true then wpAny (model prog w) A (execs body env) (KswPost h₀ L s LedOf ps (fun _ => True) stored m₀ P μ (WMid h₀ L s LedOf ps stored m₀ P X) c) E s₂ else WMid h₀ L s LedOf ps stored m₀ P X .next s₂) E { s with heap := h, toks := tk })
    (done : ∀ (c : σ) (u : Str → Option Value) h tk, P c → X c → Fr h₀ L h (kstB (fun z => if stored.contains z then u z else m₀ z) (ps c)) → News h₀ L h (LedOf c) → Q .next { s with heap := h, toks := tk })
    (hE : PassesOwn (model prog w) A env E := by passes_own) :
    wpAny (model prog w) A (exec (.While test body [] pos) env) Q E s := by
  refine wpAny_mono (ksw_while LedOf ps (fun _ => True) stored P μ c₀ F N trivial hk hp (fun c u h tk _ p F N => turn c u h tk p F N) hE) ?_ fun _ _ x => x
  rintro f s' ⟨rfl, c, u, h, tk, rfl, hp, hx, F, N⟩
  exact done c u h tk hp hx F N
end

/-- the rows' bag, of a list of items -/
abbrev keys (ps : List Item) : List (List Int) := ps.map (·.2)

theorem allLt_ne {d : Addr} {led : Led} (h : AllLt d led) : ∀ p ∈ led, p.1 ≠ d := by
  induction led with
  | nil => intro p hp; exact nomatch hp
  | cons q r ih =>
    intro p hp
    rcases List.mem_cons.mp hp with e | hp
    · rw [e]; exact Nat.ne_of_lt h.1
    · exact ih h.2 p hp
theorem nsub {h₀ h : Heap} {L : Addr} {led led' : Led} (N : News h₀ L h led) (hs : ∀ p ∈ led', p ∈ led) : News h₀ L h led' := fun p hp => N p (hs p hp)

structure SS where
  fs : List Item
  ss : List Item
  hs : List Item
  ts : List Item
  a : Nat
  b : Nat
  c : Nat
  d : Nat
structure SInv (led : Led) (ps1 ps2 : List Item) (c : SS) : Prop where
  rf : RowsIn led c.fs
  rs : RowsIn led c.ss
  rh : RowsIn led c.hs
  rt : RowsIn led c.ts
  hf : HeapFrom ilt 0 c.fs
  hs : HeapFrom ilt 0 c.ss
  lf : c.fs.length + c.hs.length ≤ ps1.length
  ls : c.ss.length + c.ts.length ≤ ps2.length
  c1 : ∀ x, (keys c.hs).count x + ((keys c.fs).count x - (keys c.ss).count x) = (keys ps1).count x - (keys ps2).count x
  c2 : ∀ x, (keys c.ts).count x + ((keys c.ss).count x - (keys c.fs).count x) = (keys ps2).count x - (keys ps1).count x

theorem keys_bag {f : Item} {fs fs' : List Item} (b : Bag (f :: fs') fs) (x : List Int) : (keys fs).count x = (keys fs').count x + if f.2 = x then 1 else 0 := by
  have := (b.perm.map (·.2)).count_eq x
  simp only [keys, List.map_cons, List.count_cons, beq_iff_eq] at this ⊢
  omega
theorem keys_snoc (hs : List Item) (f : Item) (x : List Int) : (keys (hs ++ [f])).count x = (keys hs).count x + if f.2 = x then 1 else 0 := by
  simp only [keys, List.map_append, List.map_cons, List.map_nil, List.count_append, List.count_cons, List.count_nil, beq_iff_eq]
  omega
theorem RowsIn.of_pop {led : Led} {f : Item} {fs fs' : List Item} (h : RowsIn led fs) (b : Bag (f :: fs') fs) : RowIn led f.1 f.2 ∧ RowsIn led fs' :=
  ⟨h f (b.mem.mp (.head _)), fun p hp => h p (b.mem.mp (.tail _ hp))⟩
theorem RowsIn.snoc {led : Led} {f : Item} {hs : List Item} (h : RowsIn led hs) (hf : RowIn led f.1 f.2) : RowsIn led (hs ++ [f]) := fun p hp =>
  (List.mem_append.mp hp).elim (h p) fun hp => by rw [List.mem_singleton.mp hp]; exact hf
theorem not_in_greater {ss : List Item} (h : HeapFrom ilt 0 ss) {k : List Int} (hlt : k < (at' ss 0).2) : (keys ss).count k = 0 := by
  refine List.count_eq_zero.mpr fun hm => ?_
  obtain ⟨y, hy, e⟩ := List.mem_map.mp hm
  have := heap_all_least h y hy
  simp only [ilt, decide_eq_false_iff_not] at this
  exact this (by rw [e]; exact hlt)

theorem SInv.popF {led : Led} {ps1 ps2 : List Item} {c : SS} (h : SInv led ps1 ps2 c) {f : Item} {fs' : List Item} (b : Bag (f :: fs') c.fs) (hh : HeapFrom ilt 0 fs') (h0 : (keys c.ss).count f.2 = 0) (a' c' : Nat) :
    SInv led ps1 ps2 { c with fs := fs', hs := c.hs ++ [f], a := a', c := c' } where
  rf := (h.rf.of_pop b).2
  rs := h.rs
  rh := h.rh.snoc (h.rf.of_pop b).1
  rt := h.rt
  hf := hh
  hs := h.hs
  lf := by have := b.length; have := h.lf; simp at *; omega
  ls := h.ls
  c1 := fun x => by
    have h1 := h.c1 x
    have h2 := keys_bag b x
    have h3 := keys_snoc c.hs f x
    by_cases e : f.2 = x
    · subst e; simp only [if_true] at h2 h3; simp only; omega
    · simp only [e, if_false] at h2 h3; simp only; omega
  c2 := fun x => by
    have h1 := h.c2 x
    have h2 := keys_bag b x
    by_cases e : f.2 = x
    · subst e; simp only [if_true] at h2; simp only; omega
    · simp only [e, if_false] at h2; simp only; omega
theorem SInv.popS {led : Led} {ps1 ps2 : List Item} {c : SS} (h : SInv led ps1 ps2 c) {f : Item} {ss' : List Item} (b : Bag (f :: ss') c.ss) (hh : HeapFrom ilt 0 ss') (h0 : (keys c.fs).count f.2 = 0) (b' d' : Nat) :
    SInv led ps1 ps2 { c with ss := ss', ts := c.ts ++ [f], b := b', d := d' } where
  rf := h.rf
  rs := (h.rs.of_pop b).2
  rh := h.rh
  rt := h.rt.snoc (h.rs.of_pop b).1
  hf := h.hf
  hs := hh
  lf := h.lf
  ls := by have := b.length; have := h.ls; simp at *; omega
  c1 := fun x => by
    have h1 := h.c1 x
    have h2 := keys_bag b x
    by_cases e : f.2 = x
    · subst e; simp only [if_true] at h2; simp only; omega
    · simp only [e, if_false] at h2; simp only; omega
  c2 := fun x => by
    have h1 := h.c2 x
    have h2 := keys_bag b x
    have h3 := keys_snoc c.ts f x
    by_cases e : f.2 = x
    · subst e; simp only [if_true] at h2 h3; simp only; omega
    · simp only [e, if_false] at h2 h3; simp only; omega
theorem SInv.popB {led : Led} {ps1 ps2 : List Item} {c : SS} (h : SInv led ps1 ps2 c) {f g : Item} {fs' ss' : List Item} (b : Bag (f :: fs') c.fs) (hh : HeapFrom ilt 0 fs') (b2 : Bag (g :: ss') c.ss) (hh2 : HeapFrom ilt 0 ss') (e : f.2 = g.2) (a' b' : Nat) :
    SInv led ps1 ps2 { c with fs := fs', ss := ss', a := a', b := b' } where
  rf := (h.rf.of_pop b).2
  rs := (h.rs.of_pop b2).2
  rh := h.rh
  rt := h.rt
  hf := hh
  hs := hh2
  lf := by have := b.length; have := h.lf; simp at *; omega
  ls := by have := b2.length; have := h.ls; simp at *; omega
  c1 := fun x => by
    have h1 := h.c1 x
    have h2 := keys_bag b x
    have h3 := keys_bag b2 x
    rw [← e] at h3
    simp only; omega
  c2 := fun x => by
    have h1 := h.c2 x
    have h2 := keys_bag b x
    have h3 := keys_bag b2 x
    rw [← e] at h3
    simp only; omega

section
variable {prog : Program} {w : World} {A : Around} {E : Value → Shared → Prop} {s : Shared} {h₀ : Heap} {L : Addr} {Q : Value → Shared → Prop} {a b : Addr} {vs : List Value} {n n2 : Nat} {led : Led}
open SeqAt in
theorem g_ne_nil (N : News h₀ L s.heap led) (ma : (a, listOf vs.toArray n) ∈ led) (mb : (b, listOf #[] n2) ∈ led) (hu : A.units < cLine) (h : Q (.bool (!vs.isEmpty)) s) : wpAny (model prog w) A (compareOp .NotEq (.ref a) (.ref b)) Q E s := by
  have la : s.heap.IsList a vs.toArray := PySem.IsL.isList (n := n) (N _ ma).1
  have lb : s.heap.IsList b #[] := PySem.IsL.isList (n := n2) (N _ mb).1
  cases vs with
  | nil =>
    refine cmp_ofNotEq (RcNeAt.lists (e := fun _ => true) la lb rfl hu (fun j h1 _ => absurd h1 (Nat.not_lt_zero _)) prog w E Q ?_)
    simpa using h
  | cons v vs =>
    refine cmp_ofNotEq (RcNeAt.lists_lengths la lb (by simp) hu prog w E Q ?_)
    simpa using h
end
section
variable {prog : Program} {w : World} {A : Around} {E : Value → Shared → Prop} {s : Shared} {h₀ : Heap} {L D : Addr} {m : Str → Option Value} {led : Led} {vs : List Value} {n : Nat} {x : Value}
theorem g_append {Q : Value → Shared → Prop} (F : Fr h₀ L s.heap m) (N : News h₀ L s.heap ((D, listOf vs.toArray n) :: led)) (hne : ∀ p ∈ led, p.1 ≠ D) (hz : vs.length < 1000000)
    (h : ∀ h', Fr h₀ L h' m → News h₀ L h' ((D, listOf (vs ++ [x]).toArray (n + 1)) :: led) → Q .none { s with heap := h' }) : wpAny (model prog w) A (call (.builtin "list.append") [.ref D, x]) Q E s :=
  append_K F N (.head hne) (fun h' F' N' => h h' F' (by simpa using N')) (by simp only [List.size_toArray, sizeLine_eq]; omega)
end
section
variable {led : Led} {Fa Sa Ha Ta : Addr} {o1 o2 o3 : Obj}
theorem ne3 {D a b c : Addr} (h1 : a ≠ D) (h2 : b ≠ D) (h3 : c ≠ D) (h : ∀ p ∈ led, p.1 ≠ D) : ∀ p ∈ (a, o1) :: (b, o2) :: (c, o3) :: led, p.1 ≠ D := by
  intro p hp
  simp only [List.mem_cons] at hp
  rcases hp with e | e | e | e
  · rw [e]; exact h1
  · rw [e]; exact h2
  · rw [e]; exact h3
  · exact h p e
theorem neF3 (hFS : Fa < Sa) (hFH : Fa < Ha) (hFT : Fa < Ta) (h : ∀ p ∈ led, p.1 ≠ Fa) : ∀ p ∈ (Sa, o1) :: (Ha, o2) :: (Ta, o3) :: led, p.1 ≠ Fa := ne3 (Nat.ne_of_gt hFS) (Nat.ne_of_gt hFH) (Nat.ne_of_gt hFT) h
theorem neS3 (hFS : Fa < Sa) (hSH : Sa < Ha) (hST : Sa < Ta) (h : ∀ p ∈ led, p.1 ≠ Sa) : ∀ p ∈ (Fa, o1) :: (Ha, o2) :: (Ta, o3) :: led, p.1 ≠ Sa := ne3 (Nat.ne_of_lt hFS) (Nat.ne_of_gt hSH) (Nat.ne_of_gt hST) h
theorem neH3 (hFH : Fa < Ha) (hSH : Sa < Ha) (hHT : Ha < Ta) (h : ∀ p ∈ led, p.1 ≠ Ha) : ∀ p ∈ (Fa, o1) :: (Sa, o2) :: (Ta, o3) :: led, p.1 ≠ Ha := ne3 (Nat.ne_of_lt hFH) (Nat.ne_of_lt hSH) (Nat.ne_of_gt hHT) h
theorem neT3 (hFT : Fa < Ta) (hST : Sa < Ta) (hHT : Ha < Ta) (h : ∀ p ∈ led, p.1 ≠ Ta) : ∀ p ∈ (Sa, o1) :: (Fa, o2) :: (Ha, o3) :: led, p.1 ≠ Ta := ne3 (Nat.ne_of_lt hST) (Nat.ne_of_lt hFT) (Nat.ne_of_lt hHT) h
end
section
variable {prog : Program} {w : World} {A : Around} {E : Value → Shared → Prop} {s : Shared} {h₀ : Heap} {L : Addr} {led : Led} {x y : Value} {r1 r2 : List Int} {Q : Value → Shared → Prop}
theorem rows_ne (N : News h₀ L s.heap led) (hx : RowIn led x r1) (hy : RowIn led y r2) (hu : A.units + 64 < cLine) (h : Q (.bool (!decide (r1 = r2))) s) : wpAny (model prog w) A (compareOp .NotEq x y) Q E s := by
  obtain ⟨a, vs, n, rfl, ma, ia⟩ := hx
  obtain ⟨b, us, n2, rfl, mb, ib⟩ := hy
  refine ne_dataH_same (reads_of_ints (PySem.IsL.isList (n := n) (N _ ma).1) ia) (reads_of_ints (PySem.IsL.isList (n := n2) (N _ mb).1) ib) (shaped_ints _) (shaped_ints _) hu (by simp only [SeqAt.noMix]; exact noMix_ints _ _) ?_
  simp only [PySem.Spec.same]
  rw [same_ints]
  exact h
theorem rows_eq (N : News h₀ L s.heap led) (hx : RowIn led x r1) (hy : RowIn led y r2) (hu : A.units + 64 < cLine) (h : Q (.bool (decide (r1 = r2))) s) : wpAny (model prog w) A (compareOp .Eq x y) Q E s := by
  obtain ⟨a, vs, n, rfl, ma, ia⟩ := hx
  obtain ⟨b, us, n2, rfl, mb, ib⟩ := hy
  refine eq_dataH_same (reads_of_ints (PySem.IsL.isList (n := n) (N _ ma).1) ia) (reads_of_ints (PySem.IsL.isList (n := n2) (N _ mb).1) ib) (shaped_ints _) (shaped_ints _) hu (by simp only [SeqAt.noMix]; exact noMix_ints _ _) ?_
  simp only [PySem.Spec.same]
  rw [same_ints]
  exact h
end
end Mine
end PartC6a

section PartC6
open PySem PySem.W PyProof.Rows PySem.Calls
namespace Mine
local macro_rules | `(tactic| k_steps) => `(tactic| repeat' ((fail_if_success (with_reducible show wpAny _ _ (exec (Stmt.While _ _ _ _) _) _ _ _)); (fail_if_success (with_reducible show wpAny _ _ (pyIter _) _ _ _)); (fail_if_success (with_reducible show wpAny _ _ (call (Value.ref _) _ _) _ _ _)); (fail_if_success (with_reducible show wpAny _ _ (compareOp _ (Value.ref _) (Value.ref _)) _ _ _)); (fail_if_success (with_reducible show wpAny _ _ (subscriptTail _ _ (Value.ref _) _) _ _ _)); (fail_if_success (with_reducible show wpAny _ _ (setItem (Value.ref _) _ _) _ _ _)); (fail_if_success (with_reducible show wpAny _ _ (call (Value.builtin "list.append") _ _) _ _ _)); (first | (k_unfold; (try dsimp only)) | (k_end; kc_close) | walk1 | (dsimp only; walk1) | (leave1; walk_say "STEP leave1"; (try dsimp only)) | fail "no step")))

set_option maxRecDepth 100000 in
set_option maxHeartbeats 8000000 in
theorem c_side (w : World) (led : Led) (a1 a2 : Addr) (n1 n2 : Nat) (ps1 ps2 : List Item) (m1 : (a1, listOf (vals ps1).toArray n1) ∈ led) (m2 : (a2, listOf (vals ps2).toArray n2) ∈ led) (hr1 : RowsIn led ps1) (hr2 : RowsIn led ps2) (hlen1 : ps1.length < 50000) (hlen2 : ps2.length < 50000) :
    Con w 7 82 [.ref a1, .ref a2] led (fun r led' => (∀ p ∈ led, p ∈ led') ∧ ∃ t hA tA hs ts k0 k1 k2, r = .ref t ∧ (t, ({ cls := .type "tuple", data := .seq #[.ref hA, .ref tA] k0 } : Obj)) ∈ led' ∧ (hA, listOf (vals hs).toArray k1) ∈ led' ∧ (tA, listOf (vals ts).toArray k2) ∈ led' ∧ RowsIn led hs ∧ RowsIn led ts ∧
      (∀ x, (keys hs).count x = (keys ps1).count x - (keys ps2).count x) ∧ (∀ x, (keys ts).count x = (keys ps2).count x - (keys ps1).count x)) := by
  unfold Con
  k_fill
  intro A A₀ base h₀ outer env L m loose mean mg mb s Q E B F X N T hA hf hke hh hd hu hret
  refine wpAny_call ?_
  k_dflt (refine' code_def B F X N T hA hf hke ?k6 ?k7 ?k8 ?k9 ?kB ?_ ?c2 ?c3 ?c4 ?c5; (case k6 => k_is); (case k7 => k_is); (case k8 => omega); (case k9 => exact BindsTo.of_eq rfl); (case kB => exact locs rfl); (case c5 => decide); (case c2 => exact rfl); (case c3 => exact rfl); (case c4 => exact rfl))
  intro g' L' h' FG' F' N' B' X' T'
  have hcL := cLine_is
  k_steps
  refine list_copyK F' N' (l := a1) (PySem.IsL.isList (n := n1) (N' _ m1).1) ?_ (by simp [vals, sizeLine_eq]; omega)
  intro Fa k1 h1 F1 N1 lt1
  k_steps
  (rename Fr _ _ _ _ => F2); (rename News _ _ _ _ => N2)
  refine list_copyK F2 N2 (l := a2) (PySem.IsL.isList (n := n2) (N2 _ (.tail _ m2)).1) ?_ (by simp [vals, sizeLine_eq]; omega)
  intro Sa k2 h3 F3 N3 lt3
  k_steps
  (rename Fr _ _ _ _ => F4); (rename News _ _ _ _ => N4)
  have hFS : Fa < Sa := lt3 _ (.head _)
  have hneF : ∀ p ∈ led, p.1 ≠ Fa := fun p hp => Nat.ne_of_lt (lt1 p hp)
  have hneS : ∀ p ∈ led, p.1 ≠ Sa := fun p hp => Nat.ne_of_lt (lt3 p (.tail _ hp))
  refine Con.use (c_heapify w ((Sa, listOf (vals ps2).toArray k2) :: led) Fa k1 ps1 (fun p hp => (List.mem_cons.mp hp).elim (fun e => by rw [e]; exact Nat.ne_of_gt hFS) (hneF p)) (hr1.mono fun p hp => .tail _ hp) (by omega)) B' F4 X' (nsub N4 (fun p hp => by simp only [List.mem_cons] at hp ⊢; rcases hp with h | h | h <;> simp [h])) T' (Around.frames_deeper hA) rfl rfl hh (by simp only [depth_deeper]; omega) (by simp only [units_deeper]; omega) ?_
  rintro r led' h5 tk5 F5 N5 ⟨rfl, fs, rfl, hbf, hhf⟩
  k_steps
  refine Con.use (c_heapify w ((Fa, listOf (vals fs).toArray k1) :: led) Sa k2 ps2 (fun p hp => (List.mem_cons.mp hp).elim (fun e => by rw [e]; exact Nat.ne_of_lt hFS) (hneS p)) (hr2.mono fun p hp => .tail _ hp) (by omega)) B' F5 X' (nsub N5 (fun p hp => by simp only [List.mem_cons] at hp ⊢; rcases hp with h | h | h <;> simp [h])) T' (Around.frames_deeper hA) rfl rfl hh (by simp only [depth_deeper]; omega) (by simp only [units_deeper]; omega) ?_
  rintro r led' h6 tk6 F6 N6 ⟨rfl, ss, rfl, hbs, hhs⟩
  k_steps
  first
    | (rename_i Ha hh1 lh hh2 tk1 Ta hh3 lt0 hh4 F7 N7; have chk : Ha < Ta := lt0.1; have chk2 : AllLt Ha led := lh.2.2; clear chk chk2)
    | (rename_i Ha hh1 lh hh2 Ta hh3 lt0 hh4 F7 N7; have chk : Ha < Ta := lt0.1; have chk2 : AllLt Ha led := lh.2.2; clear chk chk2)
  obtain ⟨hSH, hFH, hLH⟩ := lh
  obtain ⟨hHT, hST, hFT, hLT⟩ := lt0
  have hneH : ∀ p ∈ led, p.1 ≠ Ha := allLt_ne hLH
  have hneT : ∀ p ∈ led, p.1 ≠ Ta := allLt_ne hLT
  refine my_while (σ := SS) (fun c => (Fa, listOf (vals c.fs).toArray c.a) :: (Sa, listOf (vals c.ss).toArray c.b) :: (Ha, listOf (vals c.hs).toArray c.c) :: (Ta, listOf (vals c.ts).toArray c.d) :: led) (fun _ => []) ["way"] (SInv led ps1 ps2) (fun c => c.fs = [] ∨ c.ss = []) (fun c => c.fs.length + c.ss.length) ⟨fs, ss, [], [], k1, k2, 0, 0⟩ F7 (nsub N7 (fun p hp => by simp only [List.mem_cons] at hp ⊢; rcases hp with h | h | h | h | h <;> simp [h, vals])) (fun _ hp => nomatch hp) ?_ ?_ ?_
  · refine ⟨hr1.bag hbf, hr2.bag hbs, fun _ h => (nomatch h), fun _ h => (nomatch h), hhf, hhs, by have := hbf.length; simp; omega, by have := hbs.length; simp; omega, fun x => ?_, fun x => ?_⟩
    · have h1 := (hbf.perm.map (·.2)).count_eq x
      have h2 := (hbs.perm.map (·.2)).count_eq x
      simp [keys, h1, h2]
    · have h1 := (hbf.perm.map (·.2)).count_eq x
      have h2 := (hbs.perm.map (·.2)).count_eq x
      simp [keys, h1, h2]
  · rintro c u h tk I F2 N2
    k_steps
    (rename Fr _ _ _ _ => F3); (rename News _ _ _ _ => N3)
    refine g_ne_nil N3 (.tail _ (.head _)) (.head _) (by simp only [units_deeper]; omega) ?_
    by_cases hfe : c.fs = []
    · rw [show (vals c.fs).isEmpty = true by rw [hfe]; rfl]
      k_steps
      exact ⟨rfl, c, u, _, _, rfl, I, .inl hfe, F3, nsub N3 (fun p hp => .tail _ hp)⟩
    · rw [show (vals c.fs).isEmpty = false by rw [List.isEmpty_eq_false_iff]; simpa [vals] using hfe]
      k_steps
      (rename Fr _ _ _ _ => F4); (rename News _ _ _ _ => N4)
      refine g_ne_nil N4 (.tail _ (.tail _ (.tail _ (.head _)))) (.head _) (by simp only [units_deeper]; omega) ?_
      by_cases hse : c.ss = []
      · rw [show (vals c.ss).isEmpty = true by rw [hse]; rfl]
        k_steps
        exact ⟨rfl, c, u, _, _, rfl, I, .inr hse, F4, nsub N4 (fun p hp => .tail _ (.tail _ hp))⟩
      · rw [show (vals c.ss).isEmpty = false by rw [List.isEmpty_eq_false_iff]; simpa [vals] using hse]
        k_steps
        have hf0 : 0 < c.fs.length := List.length_pos_iff.mpr hfe
        have hs0 : 0 < c.ss.length := List.length_pos_iff.mpr hse
        have hrf := I.rf (at' c.fs 0) (at_mem _ _ hf0)
        have hrs := I.rs (at' c.ss 0) (at_mem _ _ hs0)
        have N5 := nsub (led' := (Fa, listOf (vals c.fs).toArray c.a) :: (Sa, listOf (vals c.ss).toArray c.b) :: (Ha, listOf (vals c.hs).toArray c.c) :: (Ta, listOf (vals c.ts).toArray c.d) :: led) N4 (fun p hp => .tail _ (.tail _ hp))
        clear N4
        have hinn : ∀ p ∈ led, p ∈ (Fa, listOf (vals c.fs).toArray c.a) :: (Sa, listOf (vals c.ss).toArray c.b) :: (Ha, listOf (vals c.hs).toArray c.c) :: (Ta, listOf (vals c.ts).toArray c.d) :: led := fun p hp => .tail _ (.tail _ (.tail _ (.tail _ hp)))
        refine g_sub N5 (.head _) (v := (at' c.fs 0).1) (by omega) (by omega) (by exact vals_at hf0) ?_
        k_steps
        refine g_sub N5 (.tail _ (.head _)) (v := (at' c.ss 0).1) (by omega) (by omega) (by exact vals_at hs0) ?_
        k_steps
        refine Con.use (c_cmp w _ _ _ _ _ (hrf.mono hinn) (hrs.mono hinn)) B' F4 X' N5 T' (Around.frames_deeper hA) rfl rfl hh (by simp only [depth_deeper]; omega) (by simp only [units_deeper]; omega) ?_
        rintro r led' h8 tk8 F8 N8 ⟨rfl, tkr, rfl⟩
        by_cases hgt : (at' c.ss 0).2 < (at' c.fs 0).2
        · have hnlt : ¬ (at' c.fs 0).2 < (at' c.ss 0).2 := fun h => List.lt_asymm hgt h
          rw [decide_eq_true hgt, decide_eq_false hnlt, b2i_true, b2i_false]
          k_steps
          (rename Fr _ _ _ _ => F9); (rename News _ _ _ _ => N9)
          refine Con.use (c_heappop w ((Fa, listOf (vals c.fs).toArray c.a) :: (Ha, listOf (vals c.hs).toArray c.c) :: (Ta, listOf (vals c.ts).toArray c.d) :: led) Sa c.b c.ss (neS3 hFS hSH hST hneS) (I.rs.mono fun p hp => .tail _ (.tail _ (.tail _ hp))) (by have := I.ls; omega) hs0 I.hs) B' F9 X' (nsub N9 (fun p hp => by simp only [List.mem_cons] at hp ⊢; rcases hp with h | h | h | h | h <;> simp [h])) T' (Around.frames_deeper hA) rfl rfl hh (by simp only [depth_deeper]; omega) (by simp only [units_deeper]; omega) ?_
          rintro r led' h10 tk10 F10 N10 ⟨rfl, ss', rfl, hb10, hh10⟩
          k_steps
          refine g_append F10 (nsub (led' := (Ta, listOf (vals c.ts).toArray c.d) :: (Sa, listOf (vals ss').toArray (c.b + 1)) :: (Fa, listOf (vals c.fs).toArray c.a) :: (Ha, listOf (vals c.hs).toArray c.c) :: led) N10 (fun p hp => by simp only [List.mem_cons] at hp ⊢; rcases hp with h | h | h | h | h <;> simp [h])) (neT3 hFT hST hHT hneT) (by have := I.ls; simp [vals]; omega) ?_
          intro h11 F11 N11
          k_steps
          (rename Fr _ _ _ _ => F12); (rename News _ _ _ _ => N12)
          rw [show vals c.ts ++ [(at' c.ss 0).1] = vals (c.ts ++ [at' c.ss 0]) by simp [vals]] at N12
          refine ksw_end { c with ss := ss', ts := c.ts ++ [at' c.ss 0], b := c.b + 1, d := c.d + 1 } F12 N12 (fun p hp => by simp only [List.mem_cons] at hp ⊢; rcases hp with h | h | h | h | h <;> simp [h]) trivial (fun _ hp => nomatch hp) (by intro z h2 h3; simp only [List.contains_cons, List.contains_nil, Bool.or_false, beq_eq_false_iff_ne, ne_eq] at h3; simp [kstB, h3]) (I.popS hb10 hh10 (not_in_greater I.hf hgt) _ _) (by have := hb10.length; simp at this; show c.fs.length + ss'.length < c.fs.length + c.ss.length; omega)
        · by_cases hlt : (at' c.fs 0).2 < (at' c.ss 0).2
          · rw [decide_eq_true hlt, decide_eq_false hgt, b2i_true, b2i_false]
            k_steps
            (rename Fr _ _ _ _ => F9); (rename News _ _ _ _ => N9)
            refine Con.use (c_heappop w ((Sa, listOf (vals c.ss).toArray c.b) :: (Ha, listOf (vals c.hs).toArray c.c) :: (Ta, listOf (vals c.ts).toArray c.d) :: led) Fa c.a c.fs (neF3 hFS hFH hFT hneF) (I.rf.mono fun p hp => .tail _ (.tail _ (.tail _ hp))) (by have := I.lf; omega) hf0 I.hf) B' F9 X' (nsub N9 (fun p hp => by simp only [List.mem_cons] at hp ⊢; rcases hp with h | h | h | h | h <;> simp [h])) T' (Around.frames_deeper hA) rfl rfl hh (by simp only [depth_deeper]; omega) (by simp only [units_deeper]; omega) ?_
            rintro r led' h10 tk10 F10 N10 ⟨rfl, fs', rfl, hb10, hh10⟩
            k_steps
            refine g_append F10 (nsub (led' := (Ha, listOf (vals c.hs).toArray c.c) :: (Fa, listOf (vals fs').toArray (c.a + 1)) :: (Sa, listOf (vals c.ss).toArray c.b) :: (Ta, listOf (vals c.ts).toArray c.d) :: led) N10 (fun p hp => by simp only [List.mem_cons] at hp ⊢; rcases hp with h | h | h | h | h <;> simp [h])) (neH3 hFH hSH hHT hneH) (by have := I.lf; simp [vals]; omega) ?_
            intro h11 F11 N11
            k_steps
            (rename Fr _ _ _ _ => F12); (rename News _ _ _ _ => N12)
            rw [show vals c.hs ++ [(at' c.fs 0).1] = vals (c.hs ++ [at' c.fs 0]) by simp [vals]] at N12
            refine ksw_end { c with fs := fs', hs := c.hs ++ [at' c.fs 0], a := c.a + 1, c := c.c + 1 } F12 N12 (fun p hp => by simp only [List.mem_cons] at hp ⊢; rcases hp with h | h | h | h | h <;> simp [h]) trivial (fun _ hp => nomatch hp) (by intro z h2 h3; simp only [List.contains_cons, List.contains_nil, Bool.or_false, beq_eq_false_iff_ne, ne_eq] at h3; simp [kstB, h3]) (I.popF hb10 hh10 (not_in_greater I.hs hlt) _ _) (by have := hb10.length; simp at this; show fs'.length + c.ss.length < c.fs.length + c.ss.length; omega)
          · rw [decide_eq_false hlt, decide_eq_false hgt, b2i_false]
            k_steps
            (rename Fr _ _ _ _ => F9); (rename News _ _ _ _ => N9)
            refine Con.use (c_heappop w ((Sa, listOf (vals c.ss).toArray c.b) :: (Ha, listOf (vals c.hs).toArray c.c) :: (Ta, listOf (vals c.ts).toArray c.d) :: led) Fa c.a c.fs (neF3 hFS hFH hFT hneF) (I.rf.mono fun p hp => .tail _ (.tail _ (.tail _ hp))) (by have := I.lf; omega) hf0 I.hf) B' F9 X' (nsub N9 (fun p hp => by simp only [List.mem_cons] at hp ⊢; rcases hp with h | h | h | h | h <;> simp [h])) T' (Around.frames_deeper hA) rfl rfl hh (by simp only [depth_deeper]; omega) (by simp only [units_deeper]; omega) ?_
            rintro r led' h10 tk10 F10 N10 ⟨rfl, fs', rfl, hb10, hh10⟩
            k_steps
            refine Con.use (c_heappop w ((Fa, listOf (vals fs').toArray (c.a + 1)) :: (Ha, listOf (vals c.hs).toArray c.c) :: (Ta, listOf (vals c.ts).toArray c.d) :: led) Sa c.b c.ss (neS3 hFS hSH hST hneS) (I.rs.mono fun p hp => .tail _ (.tail _ (.tail _ hp))) (by have := I.ls; omega) hs0 I.hs) B' F10 X' (nsub N10 (fun p hp => by simp only [List.mem_cons] at hp ⊢; rcases hp with h | h | h | h | h <;> simp [h])) T' (Around.frames_deeper hA) rfl rfl hh (by simp only [depth_deeper]; omega) (by simp only [units_deeper]; omega) ?_
            rintro r led' h11 tk11 F11 N11 ⟨rfl, ss', rfl, hb11, hh11⟩
            have hee : (at' c.fs 0).2 = (at' c.ss 0).2 := List.le_antisymm hgt hlt
            refine rows_ne N11 (hrf.mono fun p hp => .tail _ (.tail _ (.tail _ (.tail _ hp)))) (hrs.mono fun p hp => .tail _ (.tail _ (.tail _ (.tail _ hp)))) (by simp only [units_deeper]; omega) ?_
            rw [decide_eq_true hee]
            k_steps
            (rename Fr _ _ _ _ => F12); (rename News _ _ _ _ => N12)
            refine ksw_end { c with fs := fs', ss := ss', a := c.a + 1, b := c.b + 1 } F12 N12 (fun p hp => by simp only [List.mem_cons] at hp ⊢; rcases hp with h | h | h | h | h <;> simp [h]) trivial (fun _ hp => nomatch hp) (by intro z h2 h3; simp only [List.contains_cons, List.contains_nil, Bool.or_false, beq_eq_false_iff_ne, ne_eq] at h3; simp [kstB, h3]) (I.popB hb10 hh10 hb11 hh11 hee _ _) (by have := hb10.length; have := hb11.length; simp at *; show fs'.length + ss'.length < c.fs.length + c.ss.length; omega)
  · rintro c0 u h tk I0 hX F2 N2
    k_steps
    refine my_while (σ := SS) (fun c => (Fa, listOf (vals c.fs).toArray c.a) :: (Sa, listOf (vals c.ss).toArray c.b) :: (Ha, listOf (vals c.hs).toArray c.c) :: (Ta, listOf (vals c.ts).toArray c.d) :: led) (fun _ => []) [] (fun c => SInv led ps1 ps2 c ∧ (c.fs = [] ∨ c.ss = [])) (fun c => c.fs = []) (fun c => c.fs.length) c0 F2 N2 (fun _ hp => nomatch hp) ⟨I0, hX⟩ ?_ ?_
    · rintro c u h tk ⟨I, hX⟩ F2 N2
      k_steps
      (rename Fr _ _ _ _ => F3); (rename News _ _ _ _ => N3)
      refine g_ne_nil N3 (.tail _ (.head _)) (.head _) (by simp only [units_deeper]; omega) ?_
      by_cases hfe : c.fs = []
      · rw [show (vals c.fs).isEmpty = true by rw [hfe]; rfl]
        k_steps
        exact ⟨rfl, c, u, _, _, rfl, ⟨I, hX⟩, hfe, F3, nsub N3 (fun p hp => .tail _ hp)⟩
      · rw [show (vals c.fs).isEmpty = false by rw [List.isEmpty_eq_false_iff]; simpa [vals] using hfe]
        k_steps
        have hf0 : 0 < c.fs.length := List.length_pos_iff.mpr hfe
        have hse : c.ss = [] := hX.resolve_left hfe
        have N5 := nsub (led' := (Fa, listOf (vals c.fs).toArray c.a) :: (Sa, listOf (vals c.ss).toArray c.b) :: (Ha, listOf (vals c.hs).toArray c.c) :: (Ta, listOf (vals c.ts).toArray c.d) :: led) N3 (fun p hp => .tail _ hp)
        clear N3
        refine Con.use (c_heappop w ((Sa, listOf (vals c.ss).toArray c.b) :: (Ha, listOf (vals c.hs).toArray c.c) :: (Ta, listOf (vals c.ts).toArray c.d) :: led) Fa c.a c.fs (neF3 hFS hFH hFT hneF) (I.rf.mono fun p hp => .tail _ (.tail _ (.tail _ hp))) (by have := I.lf; omega) hf0 I.hf) B' F3 X' N5 T' (Around.frames_deeper hA) rfl rfl hh (by simp only [depth_deeper]; omega) (by simp only [units_deeper]; omega) ?_
        rintro r led' h10 tk10 F10 N10 ⟨rfl, fs', rfl, hb10, hh10⟩
        k_steps
        refine g_append F10 (nsub (led' := (Ha, listOf (vals c.hs).toArray c.c) :: (Fa, listOf (vals fs').toArray (c.a + 1)) :: (Sa, listOf (vals c.ss).toArray c.b) :: (Ta, listOf (vals c.ts).toArray c.d) :: led) N10 (fun p hp => by simp only [List.mem_cons] at hp ⊢; rcases hp with h | h | h | h | h <;> simp [h])) (neH3 hFH hSH hHT hneH) (by have := I.lf; simp [vals]; omega) ?_
        intro h11 F11 N11
        k_steps
        (rename Fr _ _ _ _ => F12); (rename News _ _ _ _ => N12)
        rw [show vals c.hs ++ [(at' c.fs 0).1] = vals (c.hs ++ [at' c.fs 0]) by simp [vals]] at N12
        refine ksw_end { c with fs := fs', hs := c.hs ++ [at' c.fs 0], a := c.a + 1, c := c.c + 1 } F12 N12 (fun p hp => by simp only [List.mem_cons] at hp ⊢; rcases hp with h | h | h | h | h <;> simp [h]) trivial (fun _ hp => nomatch hp) (by intro z h2 h3; simp only [List.contains_nil] at h3; simp [kstB]) ⟨I.popF hb10 hh10 (by rw [hse]; rfl) _ _, .inr hse⟩ (by have := hb10.length; simp at this; show fs'.length < c.fs.length; omega)
    · rintro c1 u1 h1 tk1 ⟨I1, -⟩ hfe F3 N3
      k_steps
      refine my_while (σ := SS) (fun c => (Fa, listOf (vals c.fs).toArray c.a) :: (Sa, listOf (vals c.ss).toArray c.b) :: (Ha, listOf (vals c.hs).toArray c.c) :: (Ta, listOf (vals c.ts).toArray c.d) :: led) (fun _ => []) [] (fun c => SInv led ps1 ps2 c ∧ c.fs = []) (fun c => c.ss = []) (fun c => c.ss.length) c1 F3 N3 (fun _ hp => nomatch hp) ⟨I1, hfe⟩ ?_ ?_
      · rintro c u h tk ⟨I, hX⟩ F2 N2
        k_steps
        (rename Fr _ _ _ _ => F3); (rename News _ _ _ _ => N3)
        refine g_ne_nil N3 (.tail _ (.tail _ (.head _))) (.head _) (by simp only [units_deeper]; omega) ?_
        by_cases hse : c.ss = []
        · rw [show (vals c.ss).isEmpty = true by rw [hse]; rfl]
          k_steps
          exact ⟨rfl, c, u, _, _, rfl, ⟨I, hX⟩, hse, F3, nsub N3 (fun p hp => .tail _ hp)⟩
        · rw [show (vals c.ss).isEmpty = false by rw [List.isEmpty_eq_false_iff]; simpa [vals] using hse]
          k_steps
          have hs0 : 0 < c.ss.length := List.length_pos_iff.mpr hse
          have N5 := nsub (led' := (Fa, listOf (vals c.fs).toArray c.a) :: (Sa, listOf (vals c.ss).toArray c.b) :: (Ha, listOf (vals c.hs).toArray c.c) :: (Ta, listOf (vals c.ts).toArray c.d) :: led) N3 (fun p hp => .tail _ hp)
          clear N3
          refine Con.use (c_heappop w ((Fa, listOf (vals c.fs).toArray c.a) :: (Ha, listOf (vals c.hs).toArray c.c) :: (Ta, listOf (vals c.ts).toArray c.d) :: led) Sa c.b c.ss (neS3 hFS hSH hST hneS) (I.rs.mono fun p hp => .tail _ (.tail _ (.tail _ hp))) (by have := I.ls; omega) hs0 I.hs) B' F3 X' (nsub N5 (fun p hp => by simp only [List.mem_cons] at hp ⊢; rcases hp with h | h | h | h | h <;> simp [h])) T' (Around.frames_deeper hA) rfl rfl hh (by simp only [depth_deeper]; omega) (by simp only [units_deeper]; omega) ?_
          rintro r led' h10 tk10 F10 N10 ⟨rfl, ss', rfl, hb10, hh10⟩
          k_steps
          refine g_append F10 (nsub (led' := (Ta, listOf (vals c.ts).toArray c.d) :: (Sa, listOf (vals ss').toArray (c.b + 1)) :: (Fa, listOf (vals c.fs).toArray c.a) :: (Ha, listOf (vals c.hs).toArray c.c) :: led) N10 (fun p hp => by simp only [List.mem_cons] at hp ⊢; rcases hp with h | h | h | h | h <;> simp [h])) (neT3 hFT hST hHT hneT) (by have := I.ls; simp [vals]; omega) ?_
          intro h11 F11 N11
          k_steps
          (rename Fr _ _ _ _ => F12); (rename News _ _ _ _ => N12)
          rw [show vals c.ts ++ [(at' c.ss 0).1] = vals (c.ts ++ [at' c.ss 0]) by simp [vals]] at N12
          refine ksw_end { c with ss := ss', ts := c.ts ++ [at' c.ss 0], b := c.b + 1, d := c.d + 1 } F12 N12 (fun p hp => by simp only [List.mem_cons] at hp ⊢; rcases hp with h | h | h | h | h <;> simp [h]) trivial (fun _ hp => nomatch hp) (by intro z h2 h3; simp only [List.contains_nil] at h3; simp [kstB]) ⟨I.popS hb10 hh10 (by rw [hX]; rfl) _ _, hX⟩ (by have := hb10.length; simp at this; show ss'.length < c.ss.length; omega)
      · rintro c u h tk ⟨I, hfe2⟩ hse F4 N4
        k_steps
        (rename News _ _ _ _ => N9); (rename Fr _ _ _ _ => F9)
        refine hret _ _ _ _ F9 N9 ⟨fun p hp => .tail _ (.tail _ (.tail _ (.tail _ (.tail _ hp)))), _, Ha, Ta, c.hs, c.ts, _, c.c, c.d, rfl, .head _, .tail _ (.tail _ (.tail _ (.head _))), .tail _ (.tail _ (.tail _ (.tail _ (.head _)))), I.rh, I.rt, fun x => ?_, fun x => ?_⟩
        · have := I.c1 x
          rw [hfe2, hse] at this
          simpa using this
        · have := I.c2 x
          rw [hfe2, hse] at this
          simpa using this
end Mine
end PartC6

section PartRem
open PySem PySem.W PyProof.Rows PySem.Calls
namespace Mine
open AutoSeq1 (wpAny_loadPart')
open MeetsSeq MeetsSeq2 MeetsSeq3 SeqRoads2 SeqAt

theorem rem_loop (l : Addr) (items : Array Value) (n : Nat) (x : Value) (e : Nat → Bool) (j : Nat) (hj : j < items.size) (hit : e j = true) (k : Nat) (hs1 : items.size ≤ sizeLine) :
    ∀ i : Nat, j - i = k → i ≤ j → (∀ m (hm : m < items.size), i ≤ m → m < j → e m = false) → Meets (Builtin.«list.remove.loop» ⟨[.ref l, x, rawInt i], []⟩)
      (fun A R s => s.heap.get? l = some { cls := .type "list", dict := none, data := .seq items n, slots := #[] } ∧ (∀ m (hm : m < items.size), EqAt A.in1 s items[m] x (e m)) ∧ R (.ok (.ret .none)) { s with heap := s.heap.update l (Obj.mapSeq fun xs => xs.eraseIdxIfInBounds j) }) := by
  induction k with
  | zero =>
    intro i hk hij hno prog w A R s h
    obtain ⟨hp, g, d, tk, os⟩ := s; obtain ⟨hl, he, h⟩ := h
    have hij' : i = j := by omega
    subst hij'
    wp_walk using wpAny_loadPart' hl
    have hi : items[((i : Nat) : Int).toNat]? = some items[i] := by simp [hj]
    rw [hi]
    refine wpAny_bind (he _ hj prog w _ _ ?_)
    rw [hit]
    have hz' : (items.eraseIdxIfInBounds i).size ≤ sizeLine + 1 := Nat.le_trans (size_erased items _) (Nat.le_succ_of_le hs1)
    wp_walk using (wpAny_updateSeq hl rfl (hz := hs1) (_hz' := hz')), wpAny_loadPart' hl
    simpa using h
  | succ k ih =>
    intro i hk hij hno prog w A R s h
    obtain ⟨hp, g, d, tk, os⟩ := s; obtain ⟨hl, he, h⟩ := h
    have hlt : i < items.size := by omega
    wp_walk using wpAny_loadPart' hl
    have hi : items[((i : Nat) : Int).toNat]? = some items[i] := by simp [hlt]
    have hc : ((i : Int) + 1) = ((i + 1 : Nat) : Int) := by push_cast; rfl
    rw [hi]
    refine wpAny_bind (he _ hlt prog w _ _ ?_)
    rw [hno i hlt (Nat.le_refl _) (by omega)]
    wp_walk
    rw [hc]
    exact ⟨plainId_quiet plain_remove_loop _, codeAny_builtin entry_remove_loop (by
      rw [Around.under_plainId plain_remove_loop _]
      exact ih (i + 1) (by omega) (by omega) (fun m hm h1 h2 => hno m hm (by omega) h2) prog w A R _ ⟨hl, he, h⟩)⟩

theorem rem_hit (l : Addr) (items : Array Value) (n : Nat) (x : Value) (e : Nat → Bool) (j : Nat) (hj : j < items.size)
    (hit : e j = true) (hno : ∀ m (hm : m < items.size), m < j → e m = false) (hs1 : items.size ≤ sizeLine) :
    Meets (Builtin.«list.remove» ⟨[.ref l, x], []⟩)
      (fun A R s => s.heap.get? l = some { cls := .type "list", dict := none, data := .seq items n, slots := #[] } ∧ (∀ m (hm : m < items.size), EqAt A.in1 s items[m] x (e m)) ∧ R (.ok (.ret .none)) { s with heap := s.heap.update l (Obj.mapSeq fun xs => xs.eraseIdxIfInBounds j) }) := by
  intro prog w A R s h
  obtain ⟨hp, g, d, tk, os⟩ := s; obtain ⟨hl, he, h⟩ := h
  wp_walk using wpAny_loadPart' hl
  exact ⟨plainId_quiet plain_remove_loop _, codeAny_builtin entry_remove_loop (by
    rw [Around.under_plainId plain_remove_loop _]
    exact rem_loop l items n x e j hj hit _ hs1 0 rfl (Nat.zero_le _) (fun m hm _ h2 => hno m hm h2) prog w A R _ ⟨hl, he, h⟩)⟩

theorem rem_loop_none (l : Addr) (items : Array Value) (n : Nat) (x : Value) (e : Nat → Bool) (hno : ∀ m (hm : m < items.size), e m = false) (k : Nat) :
    ∀ i : Nat, items.size - i = k → Meets (Builtin.«list.remove.loop» ⟨[.ref l, x, rawInt i], []⟩)
      (fun A R s => s.heap.get? l = some { cls := .type "list", dict := none, data := .seq items n, slots := #[] } ∧ (∀ m (hm : m < items.size), EqAt A.in1 s items[m] x (e m)) ∧ raisesNew "ValueError" A R s) := by
  induction k with
  | zero =>
    intro i hk prog w A R s h
    obtain ⟨hp, g, d, tk, os⟩ := s; obtain ⟨hl, he, h⟩ := h
    wp_walk using wpAny_loadPart' hl
    have hi : items[((i : Nat) : Int).toNat]? = none := by simp; omega
    rw [hi]
    wp_walk
    exact_raiseError plainExc_ValueError h.1 h.2
  | succ k ih =>
    intro i hk prog w A R s h
    obtain ⟨hp, g, d, tk, os⟩ := s; obtain ⟨hl, he, h⟩ := h
    have hlt : i < items.size := by omega
    wp_walk using wpAny_loadPart' hl
    have hi : items[((i : Nat) : Int).toNat]? = some items[i] := by simp [hlt]
    have hc : ((i : Int) + 1) = ((i + 1 : Nat) : Int) := by push_cast; rfl
    rw [hi]
    refine wpAny_bind (he _ hlt prog w _ _ ?_)
    rw [hno i hlt]
    wp_walk
    rw [hc]
    exact ⟨plainId_quiet plain_remove_loop _, codeAny_builtin entry_remove_loop (by
      rw [Around.under_plainId plain_remove_loop _]
      exact ih (i + 1) (by omega) prog w A R _ ⟨hl, he, h⟩)⟩

theorem rem_miss (l : Addr) (items : Array Value) (n : Nat) (x : Value) (e : Nat → Bool) (hno : ∀ m (hm : m < items.size), e m = false) :
    Meets (Builtin.«list.remove» ⟨[.ref l, x], []⟩)
      (fun A R s => s.heap.get? l = some { cls := .type "list", dict := none, data := .seq items n, slots := #[] } ∧ (∀ m (hm : m < items.size), EqAt A.in1 s items[m] x (e m)) ∧ raisesNew "ValueError" A R s) := by
  intro prog w A R s h
  obtain ⟨hp, g, d, tk, os⟩ := s; obtain ⟨hl, he, h⟩ := h
  wp_walk using wpAny_loadPart' hl
  exact ⟨plainId_quiet plain_remove_loop _, codeAny_builtin entry_remove_loop (by
    rw [Around.under_plainId plain_remove_loop _]
    exact rem_loop_none l items n x e hno _ 0 rfl prog w A R _ ⟨hl, he, h⟩)⟩

section
variable {κ : Type} [DecidableEq κ]
abbrev gvals (ps : List (Value × κ)) : List Value := ps.map (·.1)
abbrev gkeys (ps : List (Value × κ)) : List κ := ps.map (·.2)
/-- the items of these two kinds are told apart by their keys, wherever the ledger stands -/
def EqOn (led : Led) (It : Value → κ → Prop) : Prop :=
  ∀ (A : Around) (h₀ : Heap) (L : Addr) (s : Shared) (x y : Value) (kx ky : κ), A.units + 300 < cLine → News h₀ L s.heap led → It y ky → It x kx → SeqAt.EqAt A.in1 s y x (decide (ky = kx))

theorem map_eraseIdx {α β : Type} (f : α → β) : ∀ (ys : List α) (j : Nat), (ys.map f).eraseIdx j = (ys.eraseIdx j).map f
  | [], _ => rfl
  | _ :: _, 0 => rfl
  | y :: ys, j + 1 => by simp [map_eraseIdx f ys j]
theorem first_key (k : κ) : ∀ (ys : List (Value × κ)), k ∈ gkeys ys → ∃ j, ∃ hj : j < ys.length, ys[j].2 = k ∧ ∀ m (hm : m < ys.length), m < j → ys[m].2 ≠ k
  | [], h => nomatch h
  | y :: ys, h => by
    by_cases e : y.2 = k
    · exact ⟨0, Nat.zero_lt_succ _, e, fun m _ h => absurd h (Nat.not_lt_zero _)⟩
    · have h' : k ∈ gkeys ys := by
        rcases List.mem_cons.mp h with h | h
        · exact absurd h.symm e
        · exact h
      obtain ⟨j, hj, e1, e2⟩ := first_key k ys h'
      refine ⟨j + 1, Nat.succ_lt_succ hj, e1, fun m hm hlt => ?_⟩
      cases m with
      | zero => exact e
      | succ m => exact e2 m (Nat.lt_of_succ_lt_succ hm) (Nat.lt_of_succ_lt_succ hlt)
theorem gkeys_erase (x : κ) : ∀ (ys : List (Value × κ)) (j : Nat) (hj : j < ys.length), (gkeys ys).count x = (gkeys (ys.eraseIdx j)).count x + if ys[j].2 = x then 1 else 0
  | [], _, h => absurd h (Nat.not_lt_zero _)
  | y :: ys, 0, _ => by simp [gkeys, List.count_cons]
  | y :: ys, j + 1, h => by
    have := gkeys_erase x ys j (Nat.lt_of_succ_lt_succ h)
    simp only [gkeys, List.map_cons, List.eraseIdx_cons_succ, List.count_cons, List.getElem_cons_succ] at this ⊢
    omega
end

section
variable {κ : Type} [DecidableEq κ] {prog : Program} {w : World} {A : Around} {E : Value → Shared → Prop} {s : Shared} {h₀ : Heap} {L D : Addr} {m : Str → Option Value} {led : Led} {n : Nat} {ys : List (Value × κ)} {It : Value → κ → Prop} {z : Value} {k : κ} {Q : Value → Shared → Prop}
theorem g_rem_hit (F : Fr h₀ L s.heap m) (N : News h₀ L s.heap ((D, listOf (gvals ys).toArray n) :: led)) (hne : ∀ p ∈ led, p.1 ≠ D) (hq : EqOn led It) (hi : ∀ p ∈ ys, It p.1 p.2) (hz : It z k) (hm : k ∈ gkeys ys) (hl : ys.length < 100000) (hu : A.units + 310 < cLine)
    (h : ∀ h' ys', Fr h₀ L h' m → News h₀ L h' ((D, listOf (gvals ys').toArray (n + 1)) :: led) → (∀ p ∈ ys', p ∈ ys) → (∀ x, (gkeys ys).count x = (gkeys ys').count x + if k = x then 1 else 0) → ys'.length ≤ ys.length → Q .none { s with heap := h' }) :
    wpAny (model prog w) A (call (.builtin "list.remove") [.ref D, z]) Q E s := by
  obtain ⟨j, hj, e1, e2⟩ := first_key k ys hm
  have zz := N _ (.head _)
  have hsz : (gvals ys).toArray.size = ys.length := by simp [gvals]
  refine call_meets PySem.F.slot_list_remove ⟨_, zz.1, rfl⟩ PySem.F.entry_list_remove (PySem.F.args_list_remove_2 _ _)
    (rem_hit D (gvals ys).toArray n z (fun i => decide ((ys[i]?.map (·.2)) = some k)) j (by omega) ?_ ?_ (by rw [sizeLine_eq]; omega)) ⟨zz.1, ?_, h _ (ys.eraseIdx j) (F.change (Heap.SameBut.update ..) zz.2.1 zz.2.2) (ki_turn (pre := []) _ N (fun _ hp => nomatch hp) hne ?_ ?_) (fun p hp => List.mem_of_mem_eraseIdx hp) ?_ ?_⟩
  · simp [hj, e1]
  · intro i hi' hlt
    have hi2 : i < ys.length := by omega
    simp [hi2, e2 i hi2 hlt]
  · intro i hi'
    have hi2 : i < ys.length := by omega
    have := hq A h₀ L s z (ys[i]).1 k (ys[i]).2 (by omega) (fun p hp => N p (.tail _ hp)) (hi _ (List.getElem_mem hi2)) hz
    simpa [hi2] using this
  · show (gvals ys).toArray.eraseIdxIfInBounds j = (gvals (ys.eraseIdx j)).toArray
    apply Array.toList_inj.mp
    simp [Array.toList_eraseIdxIfInBounds, gvals, map_eraseIdx]
  · have hq : (gvals (ys.eraseIdx j)).toArray.size ≠ (gvals ys).toArray.size := by
      simp [gvals, List.length_eraseIdx, hj]; omega
    rw [if_neg (by simpa using hq)]
  · intro x
    rw [gkeys_erase x ys j hj, e1]
  · simp [List.length_eraseIdx, hj]
theorem g_rem_miss (hh : A.handled = none) (N : News h₀ L s.heap ((D, listOf (gvals ys).toArray n) :: led)) (hq : EqOn led It) (hi : ∀ p ∈ ys, It p.1 p.2) (hz : It z k) (hm : k ∉ gkeys ys) (hu : A.units + 310 < cLine)
    (h : ∀ h' tk e, Heap.NewExc s.heap h' e "ValueError" → E (.ref e) { s with heap := h', toks := tk }) :
    wpAny (model prog w) A (call (.builtin "list.remove") [.ref D, z]) Q E s := by
  have zz := N _ (.head _)
  have hsz : (gvals ys).toArray.size = ys.length := by simp [gvals]
  refine call_meets PySem.F.slot_list_remove ⟨_, zz.1, rfl⟩ PySem.F.entry_list_remove (PySem.F.args_list_remove_2 _ _)
    (rem_miss D (gvals ys).toArray n z (fun i => decide ((ys[i]?.map (·.2)) = some k)) ?_) ⟨zz.1, ?_, hh, h⟩
  · intro i hi'
    have hi2 : i < ys.length := by omega
    have : ys[i].2 ≠ k := fun e => hm (e ▸ List.mem_map.mpr ⟨_, List.getElem_mem hi2, rfl⟩)
    simp [hi2, this]
  · intro i hi'
    have hi2 : i < ys.length := by omega
    have := hq A h₀ L s z (ys[i]).1 k (ys[i]).2 (by omega) (fun p hp => N p (.tail _ hp)) (hi _ (List.getElem_mem hi2)) hz
    simpa [hi2] using this
end
end Mine
end PartRem

section PartU
open PySem PySem.W PyProof.Rows PySem.Calls
namespace Mine
local macro_rules | `(tactic| k_steps) => `(tactic| repeat' ((fail_if_success (with_reducible show wpAny _ _ (exec (Stmt.While _ _ _ _) _) _ _ _)); (fail_if_success (with_reducible show wpAny _ _ (pyIter _) _ _ _)); (fail_if_success (with_reducible show wpAny _ _ (call (Value.ref _) _ _) _ _ _)); (fail_if_success (with_reducible show wpAny _ _ (compareOp _ (Value.ref _) (Value.ref _)) _ _ _)); (fail_if_success (with_reducible show wpAny _ _ (subscriptTail _ _ (Value.ref _) _) _ _ _)); (fail_if_success (with_reducible show wpAny _ _ (setItem (Value.ref _) _ _) _ _ _)); (fail_if_success (with_reducible show wpAny _ _ (call (Value.builtin "list.append") _ _) _ _ _)); (fail_if_success (with_reducible show wpAny _ _ (call (Value.builtin "list.remove") _ _) _ _ _)); (fail_if_success (with_reducible show wpAny _ _ (call (Value.builtin "list.pop") _ _) _ _ _)); (first | (k_unfold; (try dsimp only)) | (k_end; kc_close) | walk1 | (dsimp only; walk1) | (leave1; walk_say "STEP leave1"; (try dsimp only)) | fail "no step")))

theorem ne2 {led : Led} {o1 o2 : Obj} {D a b : Addr} (h1 : a ≠ D) (h2 : b ≠ D) (h : ∀ p ∈ led, p.1 ≠ D) : ∀ p ∈ (a, o1) :: (b, o2) :: led, p.1 ≠ D := by
  intro p hp
  simp only [List.mem_cons] at hp
  rcases hp with e | e | e
  · rw [e]; exact h1
  · rw [e]; exact h2
  · exact h p e

def ConL (w : World) (k : Nat) (f : Addr) (args : List Value) (led : Led) (post : Value → Led → Prop) : Prop :=
  ∀ (A : Around) (h₀ : Heap) (L a : Addr) (cn : Str) (cs : Scope) (ccd : Value) (m : Str → Option Value) (loose : List Str) (mean : ExcName → Option Value) (mg mb : Str → Option Value) (s : Shared) (Q E : Value → Shared → Prop),
    Fr h₀ L s.heap m → (Mine.hd.heap_39 w.params).In h₀ → News h₀ L s.heap led → Top Mine.hd.view_39 loose mean mg mb h₀ → loose = [] →
    A.frames = some [envOf cn cs L a ccd] → cs.kind = .function → A.handled = none → A.depth + k < recursionLimit → A.units + 8 * k + 1000 < cLine →
    (∀ r led' h' tk', Fr h₀ L h' m → News h₀ L h' led' → post r led' → Q r { s with heap := h', toks := tk' }) →
    wpAny (model PySem.Challenge.rw_ny0059_01.prog w) A (call (.ref f) args) Q E s

structure US (κ : Type) where
  xs : List (Value × κ)
  ys : List (Value × κ)
  ms : List (Value × κ)
  a : Nat
  b : Nat
  c : Nat
  sl : Array (Option Value)
structure UInv {κ : Type} [DecidableEq κ] (It : Value → κ → Prop) (es as : List (Value × κ)) (c : US κ) : Prop where
  ix : ∀ p ∈ c.xs, It p.1 p.2
  iy : ∀ p ∈ c.ys, It p.1 p.2
  im : ∀ p ∈ c.ms, It p.1 p.2
  lx : c.xs.length + c.ms.length ≤ es.length
  ly : c.ys.length ≤ as.length
  c1 : ∀ x, (gkeys c.ms).count x + ((gkeys c.xs).count x - (gkeys c.ys).count x) = (gkeys es).count x - (gkeys as).count x
  c2 : ∀ x, (gkeys c.ys).count x - (gkeys c.xs).count x = (gkeys as).count x - (gkeys es).count x
section
variable {κ : Type} [DecidableEq κ] {It : Value → κ → Prop} {es as zs ys ys' ms : List (Value × κ)} {z : Value × κ} {a b c a' b' c' : Nat} {sl sl' : Array (Option Value)}
theorem gkeys_snoc (zs : List (Value × κ)) (z : Value × κ) (x : κ) : (gkeys (zs ++ [z])).count x = (gkeys zs).count x + if z.2 = x then 1 else 0 := by
  simp only [gkeys, List.map_append, List.map_cons, List.map_nil, List.count_append, List.count_cons, List.count_nil, beq_iff_eq]
  omega
theorem UInv.hit (h : UInv It es as ⟨zs ++ [z], ys, ms, a, b, c, sl⟩) (hsub : ∀ p ∈ ys', p ∈ ys) (hcnt : ∀ x, (gkeys ys).count x = (gkeys ys').count x + if z.2 = x then 1 else 0) (hlen : ys'.length ≤ ys.length) : UInv It es as ⟨zs, ys', ms, a', b', c', sl'⟩ where
  ix := fun p hp => h.ix p (List.mem_append.mpr (.inl hp))
  iy := fun p hp => h.iy p (hsub p hp)
  im := h.im
  lx := by have := h.lx; simp at this ⊢; omega
  ly := by have := h.ly; simp at this ⊢; omega
  c1 := fun x => by
    have h1 := h.c1 x
    have h2 := gkeys_snoc zs z x
    have h3 := hcnt x
    simp only at h1 ⊢; omega
  c2 := fun x => by
    have h1 := h.c2 x
    have h2 := gkeys_snoc zs z x
    have h3 := hcnt x
    simp only at h1 ⊢; omega
theorem UInv.miss (h : UInv It es as ⟨zs ++ [z], ys, ms, a, b, c, sl⟩) (hn : z.2 ∉ gkeys ys) : UInv It es as ⟨zs, ys, ms ++ [z], a', b', c', sl'⟩ where
  ix := fun p hp => h.ix p (List.mem_append.mpr (.inl hp))
  iy := h.iy
  im := fun p hp => (List.mem_append.mp hp).elim (h.im p) fun hp => by rw [List.mem_singleton.mp hp]; exact h.ix z (by simp)
  lx := by have := h.lx; simp at this ⊢; omega
  ly := h.ly
  c1 := fun x => by
    have h1 := h.c1 x
    have h2 := gkeys_snoc zs z x
    have h3 := gkeys_snoc ms z x
    have h4 := List.count_eq_zero.mpr hn
    by_cases e : z.2 = x
    · subst e; simp only [if_true] at h2 h3; simp only at h1 ⊢; omega
    · simp only [e, if_false] at h2 h3; simp only at h1 ⊢; omega
  c2 := fun x => by
    have h1 := h.c2 x
    have h2 := gkeys_snoc zs z x
    have h4 := List.count_eq_zero.mpr hn
    by_cases e : z.2 = x
    · subst e; simp only [if_true] at h2; simp only at h1 ⊢; omega
    · simp only [e, if_false] at h2; simp only at h1 ⊢; omega
end

variable {κ : Type} [DecidableEq κ]
set_option maxRecDepth 100000 in
set_option maxHeartbeats 8000000 in
theorem c_uld (w : World) (led : Led) (It : Value → κ → Prop) (hq : EqOn led It) (Ea Ac : Addr) (n1 n2 : Nat) (es as : List (Value × κ)) (hEA : Ea ≠ Ac) (hneE : ∀ p ∈ led, p.1 ≠ Ea) (hneA : ∀ p ∈ led, p.1 ≠ Ac)
    (hie : ∀ p ∈ es, It p.1 p.2) (hia : ∀ p ∈ as, It p.1 p.2) (hl1 : es.length < 50000) (hl2 : as.length < 50000) :
    ConL w 3 21 [.ref Ea, .ref Ac] ((Ea, listOf (gvals es).toArray n1) :: (Ac, listOf (gvals as).toArray n2) :: led) (fun r led' => (∀ p ∈ led, p ∈ led') ∧ ∃ t Ma ms as' k0 k1 k2, r = .ref t ∧ (t, ({ cls := .type "tuple", data := .seq #[.ref Ma, .ref Ac] k0 } : Obj)) ∈ led' ∧ (Ma, listOf (gvals ms).toArray k1) ∈ led' ∧ (Ac, listOf (gvals as').toArray k2) ∈ led' ∧ (∀ p ∈ ms, It p.1 p.2) ∧ (∀ p ∈ as', It p.1 p.2) ∧
      (∀ x, (gkeys ms).count x = (gkeys es).count x - (gkeys as).count x) ∧ (∀ x, (gkeys as').count x = (gkeys as).count x - (gkeys es).count x)) := by
  unfold ConL
  k_fill
  intro A h₀ L a cn cs ccd m loose mean mg mb s Q E F X N T hloose hA hck hh hd hu hret
  subst hloose
  refine wpAny_call ?_
  k_dflt (refine' TLgL.code_def F X N T hA ?k6 ?k7 ?k8 ?k9 ?kB ?_ hck ?c2 ?c3 ?c4 ?c5; (case k6 => k_is); (case k7 => k_is); (case k8 => omega); (case k9 => exact BindsTo.of_eq rfl); (case kB => exact locs rfl); (case c5 => decide); (case c2 => exact rfl); (case c3 => exact rfl); (case c4 => exact rfl))
  intro oL h' tiC tiF tiE F' N'
  have hcL := cLine_is
  generalize hL' : s.heap.objs.size = L' at F' N' ⊢
  simp only [List.cons_append] at N'
  k_steps
  rename_i Ma h1 lM h2 F1 N1
  obtain ⟨hEM, hAM, hLM⟩ := lM
  have hneL : ∀ p ∈ led, p.1 ≠ L := fun p hp => tiE p (.tail _ (.tail _ hp))
  have hEL : Ea ≠ L := tiE _ (.head _)
  have hAL : Ac ≠ L := tiE _ (.tail _ (.head _))
  have hneM' := allLt_ne hLM
  have hneM : ∀ p ∈ led, p.1 ≠ Ma := fun p hp => hneM' p (List.mem_append.mpr (.inl hp))
  have hLMa : L ≠ Ma := hneM' (L, oL) (List.mem_append.mpr (.inr (.head _)))
  have hne' : ∀ (D : Addr) (o : Obj), L ≠ D → (∀ p ∈ led, p.1 ≠ D) → ∀ p ∈ led ++ [(L, o)], p.1 ≠ D := fun D o h1 h2 p hp => (List.mem_append.mp hp).elim (h2 p) fun hp => by rw [List.mem_singleton.mp hp]; exact h1
  refine my_while (σ := US κ) (fun c => (Ea, listOf (gvals c.xs).toArray c.a) :: (Ac, listOf (gvals c.ys).toArray c.b) :: (Ma, listOf (gvals c.ms).toArray c.c) :: (led ++ [(L, { oL with slots := c.sl })])) (fun _ => []) ["item"]
    (fun c => UInv It es as c ∧ TI.Frs [envOf cn cs L a ccd] [(L, { oL with slots := c.sl })]) (fun c => c.xs = []) (fun c => c.xs.length)
    ⟨es, as, [], n1, n2, 0, oL.slots⟩ F1 (nsub N1 (fun p hp => by simp only [List.mem_cons] at hp ⊢; rcases hp with h | h | h | h <;> simp [h, gvals])) (fun _ hp => nomatch hp) ⟨⟨hie, hia, fun _ h => (nomatch h), by simp, Nat.le_refl _, fun x => by simp [gkeys], fun x => rfl⟩, tiF⟩ ?_ ?_
  · rintro ⟨xs, ys, ms, k1, k2, k3, sl⟩ u h tk ⟨I, fr⟩ F2 N2
    have hlx := I.lx
    have hly := I.ly
    dsimp only at fr F2 N2 hlx hly
    k_steps
    · (rename (_ = true) => he)
      exact ⟨rfl, ⟨xs, ys, ms, k1, k2, k3, sl⟩, u, _, _, rfl, ⟨I, fr⟩, by simpa [gvals] using he, F2, N2⟩
    · (rename (_ = false) => he)
      have hxe : xs ≠ [] := by intro e; rw [e] at he; simp [gvals] at he
      obtain ⟨zs, z, rfl⟩ : ∃ zs z, xs = zs ++ [z] := ⟨xs.dropLast, xs.getLast hxe, (List.dropLast_concat_getLast _).symm⟩
      have hvz : gvals (zs ++ [z]) = gvals zs ++ [z.1] := by simp [gvals]
      rw [hvz] at N2
      have hzl : zs.length < 50000 := by simp at hlx; omega
      have hiz : It z.1 z.2 := I.ix z (by simp)
      refine g_pop F2 N2 (ne2 hEA.symm (Nat.ne_of_gt hEM) (hne' _ _ hEL.symm hneE)) (by simpa [gvals] using (by omega : zs.length < 100000)) ?_
      intro h3 F3 N3
      k_steps
      (rename Fr _ _ _ _ => F4); (rename News _ _ _ _ => N4)
      have N5 := nsub (led' := (Ac, listOf (gvals ys).toArray k2) :: (Ea, listOf (gvals zs).toArray (k1 + 1)) :: (Ma, listOf (gvals ms).toArray k3) :: (led ++ [(L, { oL with slots := sl })])) N4 (fun p hp => by simp only [List.mem_cons] at hp ⊢; rcases hp with h | h | h | h <;> simp [h])
      have hq2 : EqOn ((Ea, listOf (gvals zs).toArray (k1 + 1)) :: (Ma, listOf (gvals ms).toArray k3) :: (led ++ [(L, { oL with slots := sl })])) It := fun A h₀ L s x y kx ky hu N hy hx => hq A h₀ L s x y kx ky hu (fun p hp => N p (.tail _ (.tail _ (List.mem_append.mpr (.inl hp))))) hy hx
      by_cases hkm : z.2 ∈ gkeys ys
      · refine g_rem_hit F4 N5 (ne2 hEA (Nat.ne_of_gt hAM) (hne' _ _ hAL.symm hneA)) hq2 I.iy hiz hkm (by omega) (by simp only [units_deeper]; omega) ?_
        intro h6 ys' F6 N6 hsub hcnt hlen
        k_steps
        refine ksw_end ⟨zs, ys', ms, k1 + 1, k2 + 1, k3, sl⟩ F6 N6 (fun p hp => by simp only [List.mem_cons] at hp ⊢; rcases hp with h | h | h | h <;> simp [h]) trivial (fun _ hp => nomatch hp) (by intro z h2 h3; simp only [List.contains_cons, List.contains_nil, Bool.or_false, beq_eq_false_iff_ne, ne_eq] at h3; simp [kstB, h3]) ⟨I.hit hsub hcnt hlen, fr⟩ (by simp)
      · refine g_rem_miss hh N5 hq2 I.iy hiz hkm (by simp only [units_deeper]; omega) ?_
        intro h6 tk6 e6 X6
        refine TLg.noted_new1 (new := (Ea, listOf (gvals zs).toArray (k1 + 1)) :: (Ac, listOf (gvals ys).toArray k2) :: (Ma, listOf (gvals ms).toArray k3) :: led) hA fr X6 F4 N4 (TLgL.allNe_of (ne3 hEL hAL hLMa.symm hneL)) ?_
        intro h7 sl' fr' H7
        refine TT.HeldNA.land H7 ?_
        intro h8 H8
        refine TT.clause_hitTN H8 T (k := ?_) (hv := by boot_by_name)
        intro h9 F9 N9
        k_steps
        refine g_append F9 (nsub (led' := (Ma, listOf (gvals ms).toArray k3) :: (Ea, listOf (gvals zs).toArray (k1 + 1)) :: (Ac, listOf (gvals ys).toArray k2) :: (led ++ [(L, { oL with slots := sl' })])) N9 (fun p hp => by simp only [List.mem_cons, List.mem_append, List.cons_append, List.not_mem_nil, or_false] at hp ⊢; rcases hp with h | h | h | h | h <;> simp [h])) (ne2 (Nat.ne_of_lt hEM) (Nat.ne_of_lt hAM) (hne' _ _ hLMa hneM)) (by simp [gvals]; simp at hlx; omega) ?_
        intro h10 F10 N10
        k_steps
        (rename Fr _ _ _ _ => F11); (rename News _ _ _ _ => N11)
        rw [show gvals ms ++ [z.1] = gvals (ms ++ [z]) by simp [gvals]] at N11
        refine ksw_end ⟨zs, ys, ms ++ [z], k1 + 1, k2, k3 + 1, sl'⟩ F11 N11 (fun p hp => by simp only [List.mem_cons, List.mem_append, List.cons_append, List.not_mem_nil, or_false] at hp ⊢; rcases hp with h | h | h | h | h <;> simp [h]) trivial (fun _ hp => nomatch hp) (by intro z h2 h3; simp only [List.contains_cons, List.contains_nil, Bool.or_false, beq_eq_false_iff_ne, ne_eq] at h3; simp [kstB, h3]) ⟨I.miss hkm, fr'⟩ (by simp)
  · rintro ⟨xs, ys, ms, k1, k2, k3, sl⟩ u h tk ⟨I, fr⟩ hX F2 N2
    have c1 := I.c1
    have c2 := I.c2
    have im := I.im
    have iy := I.iy
    dsimp only at c1 c2 im iy F2 N2 hX
    k_steps
    rename_i D h9 F9 N9 lD
    obtain ⟨hED, hAD, hMD, hLD⟩ := lD
    have hDL : D ≠ L := fun e => allLt_ne hLD (L, _) (List.mem_append.mpr (.inr (.head _))) e.symm
    refine TLg.leave_back (new := (D, { cls := .type "tuple", data := .seq #[.ref Ma, .ref Ac] }) :: (Ea, listOf (gvals xs).toArray k1) :: (Ac, listOf (gvals ys).toArray k2) :: (Ma, listOf (gvals ms).toArray k3) :: led) tiC F9 N9 (TLgL.allNe_of (fun p hp => (List.mem_cons.mp hp).elim (fun e => by rw [e]; exact hDL) (ne3 hEL hAL hLMa.symm hneL p))) ?_
    intro F10 N10
    refine hret _ _ _ _ F10 N10 ⟨fun p hp => .tail _ (.tail _ (.tail _ (.tail _ hp))), D, Ma, ms, ys, _, k3, k2, rfl, .head _, .tail _ (.tail _ (.tail _ (.head _))), .tail _ (.tail _ (.head _)), im, iy, fun x => ?_, fun x => ?_⟩
    · have := c1 x
      rw [hX] at this
      simpa [gkeys] using this
    · have := c2 x
      rw [hX] at this
      simpa [gkeys] using this
end Mine
end PartU

section PartP1
open PySem PySem.W PyProof.Rows PySem.Calls
namespace Mine
local macro_rules | `(tactic| k_steps) => `(tactic| repeat' ((fail_if_success (with_reducible show wpAny _ _ (exec (Stmt.While _ _ _ _) _) _ _ _)); (fail_if_success (with_reducible show wpAny _ _ (pyIter _) _ _ _)); (fail_if_success (with_reducible show wpAny _ _ (call (Value.ref _) _ _) _ _ _)); (fail_if_success (with_reducible show wpAny _ _ (call (Value.builtin "list.append") _ _) _ _ _)); (first | (k_unfold; (try dsimp only)) | (k_end; kc_close) | walk1 | (dsimp only; walk1) | (leave1; walk_say "STEP leave1"; (try dsimp only)) | fail "no step")))

/-- the ledger has grown by new things -/
def Ext (led led' : Led) : Prop := ∃ tl, led' = tl ++ led ∧ ∀ p ∈ tl, ∀ q ∈ led, q.1 < p.1

def okAt (one : List Int) (i : Nat) : Bool := decide ((0 :: one).getD i 0 ≤ one.getD i 0) && decide (one.getD i 0 ≤ (one ++ [one.getD i 0]).getD (i + 1) 0)
def oneAt (r : List Int) (step : Int) (i : Nat) : List Int := r.set i (r.getD i 0 + step)
def oneUpto (r : List Int) (step : Int) (n : Nat) : List (List Int) := (List.range n).filterMap fun i => if okAt (oneAt r step i) i then some (oneAt r step i) else none
def oneCell (r : List Int) (step : Int) : List (List Int) := oneUpto r step r.length
theorem oneUpto_succ (r : List Int) (step : Int) (n : Nat) : oneUpto r step (n + 1) = oneUpto r step n ++ if okAt (oneAt r step n) n then [oneAt r step n] else [] := by
  unfold oneUpto
  rw [List.range_succ, List.filterMap_append]
  congr 1
  by_cases h : okAt (oneAt r step n) n <;> simp [h]
structure OC where
  ps : List Item
  tl : Led
  k : Nat

theorem allLt_lt {d : Addr} {led : Led} (h : AllLt d led) : ∀ p ∈ led, p.1 < d := by
  induction led with
  | nil => intro p hp; exact nomatch hp
  | cons q r ih =>
    intro p hp
    rcases List.mem_cons.mp hp with e | hp
    · rw [e]; exact h.1
    · exact ih h.2 p hp
section
variable {prog : Program} {w : World} {A : Around} {E : Value → Shared → Prop} {s : Shared} {h₀ : Heap} {L Fo D : Addr} {m : Str → Option Value} {LG rest : Led} {ps : List Item} {us : List Value} {k kD : Nat}
theorem app_row {Q : Value → Shared → Prop} (F : Fr h₀ L s.heap m) (N : News h₀ L s.heap LG) (hD : (D, listOf us.toArray kD) ∈ LG) (hrest : ∀ p ∈ (Fo, listOf (vals ps).toArray k) :: rest, p ∈ LG) (hne : ∀ p ∈ rest, p.1 ≠ Fo) (hDF : D ≠ Fo) (hl : ps.length < 100000)
    (h : ∀ h', Fr h₀ L h' m → News h₀ L h' ((Fo, listOf (vals ps ++ [Value.ref D]).toArray (k + 1)) :: (D, listOf us.toArray kD) :: rest) → Q .none { s with heap := h' }) : wpAny (model prog w) A (call (.builtin "list.append") [.ref Fo, .ref D]) Q E s := by
  refine g_append F (nsub (led' := (Fo, listOf (vals ps).toArray k) :: (D, listOf us.toArray kD) :: rest) N ?_) ?_ (by simp [vals]; omega) h
  · intro p hp
    simp only [List.mem_cons] at hp
    rcases hp with e | e | hp
    · exact hrest p (by rw [e]; exact .head _)
    · rw [e]; exact hD
    · exact hrest p (.tail _ hp)
  · intro p hp
    rcases List.mem_cons.mp hp with e | hp
    · rw [e]; exact hDF
    · exact hne p hp
end
theorem vals_snoc (ps : List Item) (v : Value) (r : List Int) : vals (ps ++ [(v, r)]) = vals ps ++ [v] := by simp [vals]
theorem off_more {own tl led : Led} {Fo R D : Addr} {o o' oD oR : Obj} (hoff : OwnOff own (((Fo, o) :: (R, oR) :: (tl ++ led)).map (·.1))) (hD : ∀ p ∈ own, p.1 ≠ D) : OwnOff own (((Fo, o') :: (R, oR) :: (((D, oD) :: tl) ++ led)).map (·.1)) := by
  intro p hp b hb
  simp only [List.map_cons, List.map_append, List.cons_append, List.mem_cons, List.mem_append] at hb
  rcases hb with e | e | e | e
  · exact hoff p hp b (by simp [e])
  · exact hoff p hp b (by simp [e])
  · rw [e]; exact hD p hp
  · refine hoff p hp b ?_
    simp only [List.map_cons, List.map_append, List.mem_cons, List.mem_append]
    exact .inr (.inr e)
/-- a turn's end with one row more -/
theorem rows_more {tl : Led} {ps : List Item} {D : Addr} {us : List Value} {kD : Nat} {r : List Int} (h : RowsIn tl ps) (hi : IntsAre us r) : RowsIn ((D, listOf us.toArray kD) :: tl) (ps ++ [(Value.ref D, r)]) := fun p hp =>
  (List.mem_append.mp hp).elim (fun hp => (h p hp).mono fun q hq => .tail _ hq) fun hp => by rw [List.mem_singleton.mp hp]; exact ⟨D, us, kD, rfl, .head _, hi⟩

section
variable {h₀ : Heap} {L Fo R D : Addr} {h' : Heap} {m₀ m' : Str → Option Value} {ps : List Item} {k kD i : Nat} {tl led own : Led} {us : List Value} {oR o : Obj} {r : List Int} {step : Int} {s₁ : Shared} {tk : Nat} {x : Str} {stored : List Str}
abbrev OJ (Fo R : Addr) (oR : Obj) (led : Led) (r : List Int) (step : Int) (stored : List Str) (x : Str) (m₀ : Str → Option Value) :=
  LJ (fun c : OC => (Fo, listOf (vals c.ps).toArray c.k) :: (R, oR) :: (c.tl ++ led)) (fun _ => []) stored x m₀ (fun i c => RowsIn c.tl c.ps ∧ (∀ p ∈ c.tl, Fo < p.1) ∧ keys c.ps = oneUpto r step i ∧ c.ps.length ≤ i)
theorem one_end (F : Fr h₀ L h' m') (N : News h₀ L h' ((Fo, listOf (vals ps ++ [Value.ref D]).toArray (k + 1)) :: (D, listOf us.toArray kD) :: ((R, oR) :: (tl ++ led) ++ own))) (hDlt : ∀ p ∈ (Fo, o) :: (R, oR) :: (tl ++ led) ++ own, p.1 < D)
    (hoff : OwnOff own (((Fo, o) :: (R, oR) :: (tl ++ led)).map (·.1))) (hrp : RowsIn tl ps) (htl : ∀ p ∈ tl, Fo < p.1) (hi : IntsAre us (oneAt r step i)) (hok : okAt (oneAt r step i) i = true) (hkp : keys ps = oneUpto r step i) (hlp : ps.length ≤ i)
    (hr : ∀ z, z ≠ x → stored.contains z = false → m' z = m₀ z) : InvEndG h₀ L (OJ Fo R oR led r step stored x m₀ (i + 1)) own s₁ { s₁ with heap := h', toks := tk } := by
  refine my_end ⟨ps ++ [(Value.ref D, oneAt r step i)], (D, listOf us.toArray kD) :: tl, k + 1⟩ F N (fun p hp => ?_) (fun p hp => .tail _ (.tail _ (List.mem_append.mpr (.inr hp)))) (off_more hoff fun p hp => Nat.ne_of_lt (hDlt p (List.mem_append.mpr (.inr hp)))) (fun _ hp => nomatch hp) (fun z hz _ h3 => hr z hz h3) ⟨rows_more hrp hi, fun p hp => ?_, ?_, ?_⟩
  · simp only [vals_snoc, List.mem_cons, List.mem_append, List.cons_append] at hp ⊢
    rcases hp with h | h | h | h | h <;> simp [h]
  · rcases List.mem_cons.mp hp with e | hp
    · rw [e]; exact hDlt _ (.head _)
    · exact htl p hp
  · show keys (ps ++ [_]) = _
    rw [oneUpto_succ, if_pos hok, ← hkp]; simp [keys]
  · show (ps ++ [_]).length ≤ _
    rw [List.length_append]; exact Nat.add_le_add_right hlp 1
theorem one_skip {LG : Led} (F : Fr h₀ L h' m') (N : News h₀ L h' LG) (hsub : ∀ p ∈ (Fo, listOf (vals ps).toArray k) :: (R, oR) :: (tl ++ led) ++ own, p ∈ LG)
    (hoff : OwnOff own (((Fo, o) :: (R, oR) :: (tl ++ led)).map (·.1))) (hrp : RowsIn tl ps) (htl : ∀ p ∈ tl, Fo < p.1) (hok : ¬ okAt (oneAt r step i) i = true) (hkp : keys ps = oneUpto r step i) (hlp : ps.length ≤ i)
    (hr : ∀ z, z ≠ x → stored.contains z = false → m' z = m₀ z) : InvEndG h₀ L (OJ Fo R oR led r step stored x m₀ (i + 1)) own s₁ { s₁ with heap := h', toks := tk } := by
  refine my_end ⟨ps, tl, k⟩ F N (fun p hp => hsub p (List.mem_append.mpr (.inl hp))) (fun p hp => hsub p (List.mem_append.mpr (.inr hp))) hoff (fun _ hp => nomatch hp) (fun z hz _ h3 => hr z hz h3) ⟨hrp, htl, ?_, Nat.le_succ_of_le hlp⟩
  rw [oneUpto_succ, if_neg hok, List.append_nil]; exact hkp
end

set_option maxRecDepth 100000 in
set_option maxHeartbeats 8000000 in
theorem c_one (w : World) (led : Led) (R : Addr) (n : Nat) (r0 r1 r2 r3 r4 step : Int) (t0 t1 t2 t3 t4 ts : Tok) (hm : (R, listOf #[.int r0 t0, .int r1 t1, .int r2 t2, .int r3 t3, .int r4 t4] n) ∈ led) :
    Con w 2 63 [.ref R, .int step ts] led (fun r led' => ∃ tl Fo ps k, led' = tl ++ led ∧ (∀ p ∈ tl, ∀ q ∈ led, q.1 < p.1) ∧ r = .ref Fo ∧ (Fo, listOf (vals ps).toArray k) ∈ tl ∧ RowsIn tl ps ∧ keys ps = oneCell [r0, r1, r2, r3, r4] step) := by
  unfold Con
  k_fill
  intro A A₀ base h₀ outer env L m loose mean mg mb s Q E B F X N T hA hf hke hh hd hu hret
  refine wpAny_call ?_
  k_dflt (refine' code_def B F X N T hA hf hke ?k6 ?k7 ?k8 ?k9 ?kB ?_ ?c2 ?c3 ?c4 ?c5; (case k6 => k_is); (case k7 => k_is); (case k8 => omega); (case k9 => exact BindsTo.of_eq rfl); (case kB => exact locs rfl); (case c5 => decide); (case c2 => exact rfl); (case c3 => exact rfl); (case c4 => exact rfl))
  intro g' L' h' FG' F' N' B' X' T'
  have hcL := cLine_is
  k_steps
  rename_i Fo h1 lFo h2 F1 N1
  refine g_len N1 (.tail _ hm) (by simp) ?_
  k_steps
  (rename IsRange _ _ _ _ _ _ _ _ => hR); (rename Fr _ _ _ _ => F2); (rename News _ _ _ _ => N2)
  replace hR : IsRange _ _ 0 5 1 _ _ _ := hR
  refine wpAny_pyIter_range hR (by decide +kernel) ?_
  rw [show Builtin.Range.rangeSize 0 5 1 = ((5 : Nat) : Int) by decide +kernel]
  refine loop_range (σ := OC) (n := 5) (a₀ := 0) (st := 1) (fun c => (Fo, listOf (vals c.ps).toArray c.k) :: (R, listOf #[.int r0 t0, .int r1 t1, .int r2 t2, .int r3 t3, .int r4 t4] n) :: (c.tl ++ led)) (fun _ => []) ["one"]
    (fun i c => RowsIn c.tl c.ps ∧ (∀ p ∈ c.tl, Fo < p.1) ∧ keys c.ps = oneUpto [r0, r1, r2, r3, r4] step i ∧ c.ps.length ≤ i) ⟨[], [], 0⟩ hh (Heap.get?_push_size _ rfl) (next_is_new F2) (Nat.ne_of_lt F2.ns.lt) (fun p hp => Nat.ne_of_lt (Heap.lt_size (N2 p ?_).1)) (F2.push _) (fun p hp => ⟨Heap.get?_push_of_some _ (N2 p ?_).1, (N2 p ?_).2⟩) (fun _ hp => nomatch hp) ⟨fun _ h => (nomatch h), fun _ h => (nomatch h), rfl, Nat.le_refl _⟩ ?_ ?_
  · simp only [List.mem_cons, List.nil_append] at hp ⊢; rcases hp with h | h | h <;> simp [h, vals, hm]
  · simp only [List.mem_cons, List.nil_append] at hp ⊢; rcases hp with h | h | h <;> simp [h, vals, hm]
  · simp only [List.mem_cons, List.nil_append] at hp ⊢; rcases hp with h | h | h <;> simp [h, vals, hm]
  · rintro ⟨ps, tl, k⟩ i t u h tk own hi hoff ⟨hrp, htl, hkp, hlp⟩ F3 N3
    dsimp only at hrp htl hkp hlp F3 N3
    have hneFo : ∀ p ∈ (R, listOf #[.int r0 t0, .int r1 t1, .int r2 t2, .int r3 t3, .int r4 t4] n) :: (tl ++ led) ++ own, p.1 ≠ Fo := by
      intro p hp
      simp only [List.mem_append, List.mem_cons] at hp
      rcases hp with (e | h | h) | h
      · rw [e]; exact Nat.ne_of_lt (lFo _ hm)
      · exact Nat.ne_of_gt (htl p h)
      · exact Nat.ne_of_lt (lFo p h)
      · exact hoff p h Fo (.head _)
    have hcase : i = 0 ∨ i = 1 ∨ i = 2 ∨ i = 3 ∨ i = 4 := by omega
    rcases hcase with rfl | rfl | rfl | rfl | rfl
    · rw [show (0 : Int) + ((0 : Nat) : Int) * 1 = 0 from rfl] at F3
      k_steps
      · (rename ((_ : Int) ≤ _) => ha2); revert ha2; (rename ((_ : Int) ≤ _) => ha1); intro ha2
        (rename Fr _ _ _ _ => F5); (rename News _ _ _ _ => N5)
        (rename (_ ∧ _ ∧ _ ∧ _ ∧ AllLt _ _) => lD)
        obtain ⟨-, -, -, -, hDall⟩ := lD
        have hDlt := allLt_lt hDall
        refine app_row (rest := (R, listOf #[.int r0 t0, .int r1 t1, .int r2 t2, .int r3 t3, .int r4 t4] n) :: (tl ++ led) ++ own) F5 N5 (by repeat (first | exact List.Mem.head _ | apply List.Mem.tail)) (fun p hp => by repeat (first | exact hp | apply List.Mem.tail)) hneFo (Nat.ne_of_gt (hDlt _ (.head _))) (by omega) ?_
        intro h6 F6 N6
        k_steps
        (rename Fr _ _ _ _ => F7); (rename News _ _ _ _ => N7)
        have hok : okAt (oneAt [r0, r1, r2, r3, r4] step 0) 0 = true := by
          show (decide ((0 : Int) ≤ r0 + step) && decide (r0 + step ≤ r1)) = true
          rw [decide_eq_true (show (0 : Int) ≤ r0 + step from ha1), decide_eq_true (show r0 + step ≤ r1 from ha2)]; rfl
        exact one_end F7 N7 hDlt hoff hrp htl (.cons _ _ (.cons _ _ (.cons _ _ (.cons _ _ (.cons _ _ .nil))))) hok hkp hlp (by intro z hz h3; simp only [List.contains_cons, List.contains_nil, Bool.or_false, beq_eq_false_iff_ne, ne_eq] at h3; simp [kstB, hz, h3])
      · (rename (¬ (_ : Int) ≤ _) => hn)
        (rename Fr _ _ _ _ => F7); (rename News _ _ _ _ => N7)
        have hok : ¬ okAt (oneAt [r0, r1, r2, r3, r4] step 0) 0 = true := by
          show ¬ (decide ((0 : Int) ≤ r0 + step) && decide (r0 + step ≤ r1)) = true
          rw [decide_eq_false (show ¬ r0 + step ≤ r1 from hn)]; simp
        exact one_skip F7 N7 (fun p hp => by repeat (first | exact hp | apply List.Mem.tail)) hoff hrp htl hok hkp hlp (by intro z hz h3; simp only [List.contains_cons, List.contains_nil, Bool.or_false, beq_eq_false_iff_ne, ne_eq] at h3; simp [kstB, hz, h3])
      · (rename (¬ (_ : Int) ≤ _) => hn)
        (rename Fr _ _ _ _ => F7); (rename News _ _ _ _ => N7)
        have hok : ¬ okAt (oneAt [r0, r1, r2, r3, r4] step 0) 0 = true := by
          show ¬ (decide ((0 : Int) ≤ r0 + step) && decide (r0 + step ≤ r1)) = true
          rw [decide_eq_false (show ¬ (0 : Int) ≤ r0 + step from hn)]; simp
        exact one_skip F7 N7 (fun p hp => by repeat (first | exact hp | apply List.Mem.tail)) hoff hrp htl hok hkp hlp (by intro z hz h3; simp only [List.contains_cons, List.contains_nil, Bool.or_false, beq_eq_false_iff_ne, ne_eq] at h3; simp [kstB, hz, h3])
    · rw [show (0 : Int) + ((1 : Nat) : Int) * 1 = 1 from rfl] at F3
      k_steps
      · (rename ((_ : Int) ≤ _) => ha2); revert ha2; (rename ((_ : Int) ≤ _) => ha1); intro ha2
        (rename Fr _ _ _ _ => F5); (rename News _ _ _ _ => N5)
        (rename (_ ∧ _ ∧ _ ∧ _ ∧ AllLt _ _) => lD)
        obtain ⟨-, -, -, -, hDall⟩ := lD
        have hDlt := allLt_lt hDall
        refine app_row (rest := (R, listOf #[.int r0 t0, .int r1 t1, .int r2 t2, .int r3 t3, .int r4 t4] n) :: (tl ++ led) ++ own) F5 N5 (by repeat (first | exact List.Mem.head _ | apply List.Mem.tail)) (fun p hp => by repeat (first | exact hp | apply List.Mem.tail)) hneFo (Nat.ne_of_gt (hDlt _ (.head _))) (by omega) ?_
        intro h6 F6 N6
        k_steps
        (rename Fr _ _ _ _ => F7); (rename News _ _ _ _ => N7)
        have hok : okAt (oneAt [r0, r1, r2, r3, r4] step 1) 1 = true := by
          show (decide (r0 ≤ r1 + step) && decide (r1 + step ≤ r2)) = true
          rw [decide_eq_true (show r0 ≤ r1 + step from ha1), decide_eq_true (show r1 + step ≤ r2 from ha2)]; rfl
        exact one_end F7 N7 hDlt hoff hrp htl (.cons _ _ (.cons _ _ (.cons _ _ (.cons _ _ (.cons _ _ .nil))))) hok hkp hlp (by intro z hz h3; simp only [List.contains_cons, List.contains_nil, Bool.or_false, beq_eq_false_iff_ne, ne_eq] at h3; simp [kstB, hz, h3])
      · (rename (¬ (_ : Int) ≤ _) => hn)
        (rename Fr _ _ _ _ => F7); (rename News _ _ _ _ => N7)
        have hok : ¬ okAt (oneAt [r0, r1, r2, r3, r4] step 1) 1 = true := by
          show ¬ (decide (r0 ≤ r1 + step) && decide (r1 + step ≤ r2)) = true
          rw [decide_eq_false (show ¬ r1 + step ≤ r2 from hn)]; simp
        exact one_skip F7 N7 (fun p hp => by repeat (first | exact hp | apply List.Mem.tail)) hoff hrp htl hok hkp hlp (by intro z hz h3; simp only [List.contains_cons, List.contains_nil, Bool.or_false, beq_eq_false_iff_ne, ne_eq] at h3; simp [kstB, hz, h3])
      · (rename (¬ (_ : Int) ≤ _) => hn)
        (rename Fr _ _ _ _ => F7); (rename News _ _ _ _ => N7)
        have hok : ¬ okAt (oneAt [r0, r1, r2, r3, r4] step 1) 1 = true := by
          show ¬ (decide (r0 ≤ r1 + step) && decide (r1 + step ≤ r2)) = true
          rw [decide_eq_false (show ¬ r0 ≤ r1 + step from hn)]; simp
        exact one_skip F7 N7 (fun p hp => by repeat (first | exact hp | apply List.Mem.tail)) hoff hrp htl hok hkp hlp (by intro z hz h3; simp only [List.contains_cons, List.contains_nil, Bool.or_false, beq_eq_false_iff_ne, ne_eq] at h3; simp [kstB, hz, h3])
    · rw [show (0 : Int) + ((2 : Nat) : Int) * 1 = 2 from rfl] at F3
      k_steps
      · (rename ((_ : Int) ≤ _) => ha2); revert ha2; (rename ((_ : Int) ≤ _) => ha1); intro ha2
        (rename Fr _ _ _ _ => F5); (rename News _ _ _ _ => N5)
        (rename (_ ∧ _ ∧ _ ∧ _ ∧ AllLt _ _) => lD)
        obtain ⟨-, -, -, -, hDall⟩ := lD
        have hDlt := allLt_lt hDall
        refine app_row (rest := (R, listOf #[.int r0 t0, .int r1 t1, .int r2 t2, .int r3 t3, .int r4 t4] n) :: (tl ++ led) ++ own) F5 N5 (by repeat (first | exact List.Mem.head _ | apply List.Mem.tail)) (fun p hp => by repeat (first | exact hp | apply List.Mem.tail)) hneFo (Nat.ne_of_gt (hDlt _ (.head _))) (by omega) ?_
        intro h6 F6 N6
        k_steps
        (rename Fr _ _ _ _ => F7); (rename News _ _ _ _ => N7)
        have hok : okAt (oneAt [r0, r1, r2, r3, r4] step 2) 2 = true := by
          show (decide (r1 ≤ r2 + step) && decide (r2 + step ≤ r3)) = true
          rw [decide_eq_true (show r1 ≤ r2 + step from ha1), decide_eq_true (show r2 + step ≤ r3 from ha2)]; rfl
        exact one_end F7 N7 hDlt hoff hrp htl (.cons _ _ (.cons _ _ (.cons _ _ (.cons _ _ (.cons _ _ .nil))))) hok hkp hlp (by intro z hz h3; simp only [List.contains_cons, List.contains_nil, Bool.or_false, beq_eq_false_iff_ne, ne_eq] at h3; simp [kstB, hz, h3])
      · (rename (¬ (_ : Int) ≤ _) => hn)
        (rename Fr _ _ _ _ => F7); (rename News _ _ _ _ => N7)
        have hok : ¬ okAt (oneAt [r0, r1, r2, r3, r4] step 2) 2 = true := by
          show ¬ (decide (r1 ≤ r2 + step) && decide (r2 + step ≤ r3)) = true
          rw [decide_eq_false (show ¬ r2 + step ≤ r3 from hn)]; simp
        exact one_skip F7 N7 (fun p hp => by repeat (first | exact hp | apply List.Mem.tail)) hoff hrp htl hok hkp hlp (by intro z hz h3; simp only [List.contains_cons, List.contains_nil, Bool.or_false, beq_eq_false_iff_ne, ne_eq] at h3; simp [kstB, hz, h3])
      · (rename (¬ (_ : Int) ≤ _) => hn)
        (rename Fr _ _ _ _ => F7); (rename News _ _ _ _ => N7)
        have hok : ¬ okAt (oneAt [r0, r1, r2, r3, r4] step 2) 2 = true := by
          show ¬ (decide (r1 ≤ r2 + step) && decide (r2 + step ≤ r3)) = true
          rw [decide_eq_false (show ¬ r1 ≤ r2 + step from hn)]; simp
        exact one_skip F7 N7 (fun p hp => by repeat (first | exact hp | apply List.Mem.tail)) hoff hrp htl hok hkp hlp (by intro z hz h3; simp only [List.contains_cons, List.contains_nil, Bool.or_false, beq_eq_false_iff_ne, ne_eq] at h3; simp [kstB, hz, h3])
    · rw [show (0 : Int) + ((3 : Nat) : Int) * 1 = 3 from rfl] at F3
      k_steps
      · (rename ((_ : Int) ≤ _) => ha2); revert ha2; (rename ((_ : Int) ≤ _) => ha1); intro ha2
        (rename Fr _ _ _ _ => F5); (rename News _ _ _ _ => N5)
        (rename (_ ∧ _ ∧ _ ∧ _ ∧ AllLt _ _) => lD)
        obtain ⟨-, -, -, -, hDall⟩ := lD
        have hDlt := allLt_lt hDall
        refine app_row (rest := (R, listOf #[.int r0 t0, .int r1 t1, .int r2 t2, .int r3 t3, .int r4 t4] n) :: (tl ++ led) ++ own) F5 N5 (by repeat (first | exact List.Mem.head _ | apply List.Mem.tail)) (fun p hp => by repeat (first | exact hp | apply List.Mem.tail)) hneFo (Nat.ne_of_gt (hDlt _ (.head _))) (by omega) ?_
        intro h6 F6 N6
        k_steps
        (rename Fr _ _ _ _ => F7); (rename News _ _ _ _ => N7)
        have hok : okAt (oneAt [r0, r1, r2, r3, r4] step 3) 3 = true := by
          show (decide (r2 ≤ r3 + step) && decide (r3 + step ≤ r4)) = true
          rw [decide_eq_true (show r2 ≤ r3 + step from ha1), decide_eq_true (show r3 + step ≤ r4 from ha2)]; rfl
        exact one_end F7 N7 hDlt hoff hrp htl (.cons _ _ (.cons _ _ (.cons _ _ (.cons _ _ (.cons _ _ .nil))))) hok hkp hlp (by intro z hz h3; simp only [List.contains_cons, List.contains_nil, Bool.or_false, beq_eq_false_iff_ne, ne_eq] at h3; simp [kstB, hz, h3])
      · (rename (¬ (_ : Int) ≤ _) => hn)
        (rename Fr _ _ _ _ => F7); (rename News _ _ _ _ => N7)
        have hok : ¬ okAt (oneAt [r0, r1, r2, r3, r4] step 3) 3 = true := by
          show ¬ (decide (r2 ≤ r3 + step) && decide (r3 + step ≤ r4)) = true
          rw [decide_eq_false (show ¬ r3 + step ≤ r4 from hn)]; simp
        exact one_skip F7 N7 (fun p hp => by repeat (first | exact hp | apply List.Mem.tail)) hoff hrp htl hok hkp hlp (by intro z hz h3; simp only [List.contains_cons, List.contains_nil, Bool.or_false, beq_eq_false_iff_ne, ne_eq] at h3; simp [kstB, hz, h3])
      · (rename (¬ (_ : Int) ≤ _) => hn)
        (rename Fr _ _ _ _ => F7); (rename News _ _ _ _ => N7)
        have hok : ¬ okAt (oneAt [r0, r1, r2, r3, r4] step 3) 3 = true := by
          show ¬ (decide (r2 ≤ r3 + step) && decide (r3 + step ≤ r4)) = true
          rw [decide_eq_false (show ¬ r2 ≤ r3 + step from hn)]; simp
        exact one_skip F7 N7 (fun p hp => by repeat (first | exact hp | apply List.Mem.tail)) hoff hrp htl hok hkp hlp (by intro z hz h3; simp only [List.contains_cons, List.contains_nil, Bool.or_false, beq_eq_false_iff_ne, ne_eq] at h3; simp [kstB, hz, h3])
    · rw [show (0 : Int) + ((4 : Nat) : Int) * 1 = 4 from rfl] at F3
      k_steps
      · (rename ((_ : Int) ≤ _) => ha1); have ha2 : r4 + step ≤ r4 + step := Int.le_refl _
        (rename Fr _ _ _ _ => F5); (rename News _ _ _ _ => N5)
        (rename (_ ∧ _ ∧ _ ∧ _ ∧ AllLt _ _) => lD)
        obtain ⟨-, -, -, -, hDall⟩ := lD
        have hDlt := allLt_lt hDall
        refine app_row (rest := (R, listOf #[.int r0 t0, .int r1 t1, .int r2 t2, .int r3 t3, .int r4 t4] n) :: (tl ++ led) ++ own) F5 N5 (by repeat (first | exact List.Mem.head _ | apply List.Mem.tail)) (fun p hp => by repeat (first | exact hp | apply List.Mem.tail)) hneFo (Nat.ne_of_gt (hDlt _ (.head _))) (by omega) ?_
        intro h6 F6 N6
        k_steps
        (rename Fr _ _ _ _ => F7); (rename News _ _ _ _ => N7)
        have hok : okAt (oneAt [r0, r1, r2, r3, r4] step 4) 4 = true := by
          show (decide (r3 ≤ r4 + step) && decide (r4 + step ≤ r4 + step)) = true
          rw [decide_eq_true (show r3 ≤ r4 + step from ha1), decide_eq_true (show r4 + step ≤ r4 + step from ha2)]; rfl
        exact one_end F7 N7 hDlt hoff hrp htl (.cons _ _ (.cons _ _ (.cons _ _ (.cons _ _ (.cons _ _ .nil))))) hok hkp hlp (by intro z hz h3; simp only [List.contains_cons, List.contains_nil, Bool.or_false, beq_eq_false_iff_ne, ne_eq] at h3; simp [kstB, hz, h3])
      · (rename (¬ (_ : Int) ≤ _) => hn)
        (rename Fr _ _ _ _ => F7); (rename News _ _ _ _ => N7)
        have hok : ¬ okAt (oneAt [r0, r1, r2, r3, r4] step 4) 4 = true := by
          show ¬ (decide (r3 ≤ r4 + step) && decide (r4 + step ≤ r4 + step)) = true
          rw [decide_eq_false (show ¬ r3 ≤ r4 + step from hn)]; simp
        exact one_skip F7 N7 (fun p hp => by repeat (first | exact hp | apply List.Mem.tail)) hoff hrp htl hok hkp hlp (by intro z hz h3; simp only [List.contains_cons, List.contains_nil, Bool.or_false, beq_eq_false_iff_ne, ne_eq] at h3; simp [kstB, hz, h3])
  · rintro ⟨ps, tl, k⟩ u h tk ⟨hrp, htl, hkp, hlp⟩ F3 N3
    dsimp only at hrp htl hkp hlp F3 N3
    k_steps
    (rename Fr _ _ _ _ => F5); (rename News _ _ _ _ => N5)
    refine hret _ ((Fo, listOf (vals ps).toArray k) :: tl ++ led) _ _ F5 (nsub N5 fun p hp => ?_) ⟨(Fo, listOf (vals ps).toArray k) :: tl, Fo, ps, k, rfl, fun p hp q hq => ?_, rfl, .head _, hrp.mono fun p hp => .tail _ hp, hkp⟩
    · rcases List.mem_cons.mp hp with e | hp
      · rw [e]; exact .head _
      · exact .tail _ (.tail _ hp)
    · rcases List.mem_cons.mp hp with e | hp
      · rw [e]; exact lFo q hq
      · exact Nat.lt_trans (lFo q hq) (htl p hp)
end Mine
end PartP1

section PartP2
open PySem PySem.W PyProof.Rows PySem.Calls
namespace Mine
local macro_rules | `(tactic| k_steps) => `(tactic| repeat' ((fail_if_success (with_reducible show wpAny _ _ (exec (Stmt.While _ _ _ _) _) _ _ _)); (fail_if_success (with_reducible show wpAny _ _ (pyIter _) _ _ _)); (fail_if_success (with_reducible show wpAny _ _ (call (Value.ref _) _ _) _ _ _)); (fail_if_success (with_reducible show wpAny _ _ (call (Value.builtin "list.append") _ _) _ _ _)); (fail_if_success (with_reducible show wpAny _ _ (call (Value.builtin "list.extend") _ _) _ _ _)); (first | (k_unfold; (try dsimp only)) | (k_end; kc_close) | walk1 | (dsimp only; walk1) | (leave1; walk_say "STEP leave1"; (try dsimp only)) | fail "no step")))

section
variable {prog : Program} {w : World} {A : Around} {E : Value → Shared → Prop} {s : Shared} {env : Env} {h₀ : Heap} {x : Str} {body : List Stmt} {Q : Flow → Shared → Prop}
theorem loop_list {σ : Type} {l : Addr} {vs : List Value} {nn : Nat} {m₀ : Str → Option Value} (LedOf : σ → Led) (ps : σ → List (Str × Value)) (stored : List Str) (P : Nat → σ → Prop) (c₀ : σ)
    (hl : ∀ c, (l, listOf vs.toArray nn) ∈ LedOf c) (hh : A.handled = none) (F : Fr h₀ env.locals s.heap m₀) (N : News h₀ env.locals s.heap (LedOf c₀)) (hk : ∀ p ∈ ps c₀, m₀ p.1 = some p.2) (hp : P 0 c₀)
    (turn : ∀ (c : σ) (i : Nat) v (u : Str → Option Value) h tk own, vs[i]? = some v → OwnOff own ((LedOf c).map (·.1)) → P i c → Fr h₀ env.locals h (fun y => if y = x then some v else kstB (fun z => if stored.contains z then u z else m₀ z) (ps c) y) → News h₀ env.locals h (LedOf c ++ own) →
      wpAny (model prog w) A (execs body env) (InvPostG h₀ env.locals (fun m' nx => (l, listOf vs.toArray nn) ∈ nx ∧ LJ LedOf ps stored x m₀ P (i + 1) m' nx) own { s with heap := h, toks := tk } Q) E { s with heap := h, toks := tk })
    (done : ∀ (c : σ) (u : Str → Option Value) h tk, P vs.length c → Fr h₀ env.locals h (fun y => if y = x then u y else kstB (fun z => if stored.contains z then u z else m₀ z) (ps c) y) → News h₀ env.locals h (LedOf c) → Q .next { s with heap := h, toks := tk }) :
    wpAny (model prog w) A (pyIter (.ref l)) (fun it s₂ => LoopAtV prog w A h₀ env x body Q E it s₂) E s := by
  refine kdl_iter (LJ LedOf ps stored x m₀ P) hh (hl c₀) F N ⟨c₀, rfl, hk, fun _ _ _ _ => rfl, hp⟩ ?_ ?_
  · rintro i v m₁ nx h tk own hv hoff _ ⟨c, rfl, h1, h2, hp'⟩ F₁ N₁
    exact turn c i v m₁ h tk own hv hoff hp' (kst_fr h1 h2 F₁) N₁
  · rintro m₁ nx h tk ⟨c, rfl, h1, h2, hp'⟩ F₁ N₁
    exact done c m₁ h tk hp' (kst_frOut h1 h2 F₁) N₁
theorem list_end {σ : Type} {l : Addr} {vs : List Value} {nn : Nat} {LedOf : σ → Led} {ps : σ → List (Str × Value)} {stored : List Str} {P : Nat → σ → Prop} {i : Nat} {m₀ m' : Str → Option Value} {L : Addr} {own news' : Led} {s₁ : Shared} {h' : Heap} {tk : Nat} (c : σ)
    (hl : (l, listOf vs.toArray nn) ∈ LedOf c) (F : Fr h₀ L h' m') (N : News h₀ L h' news') (hn : ∀ p ∈ LedOf c, p ∈ news') (ho : ∀ p ∈ own, p ∈ news') (ha : OwnOff own ((LedOf c).map (·.1))) (hk : ∀ p ∈ ps c, m' p.1 = some p.2)
    (hr : ∀ z, z ≠ x → (∀ p ∈ ps c, z ≠ p.1) → stored.contains z = false → m' z = m₀ z) (hp : P i c) :
    InvEndG h₀ L (fun m' nx => (l, listOf vs.toArray nn) ∈ nx ∧ LJ LedOf ps stored x m₀ P i m' nx) own s₁ { s₁ with heap := h', toks := tk } :=
  InvEndG.intro F N ⟨hl, c, rfl, hk, hr, hp⟩ ha hn ho
end
section
variable {prog : Program} {w : World} {A : Around} {E : Value → Shared → Prop} {s : Shared} {h₀ : Heap} {L D b : Addr} {m : Str → Option Value} {led : Led} {vs us : List Value} {n n2 : Nat}
theorem g_extend {Q : Value → Shared → Prop} (F : Fr h₀ L s.heap m) (N : News h₀ L s.heap ((D, listOf vs.toArray n) :: led)) (hne : ∀ p ∈ led, p.1 ≠ D) (hb : (b, listOf us.toArray n2) ∈ led) (hz : vs.length + us.length < 1000000)
    (h : ∀ h' n', Fr h₀ L h' m → News h₀ L h' ((D, listOf (vs ++ us).toArray n') :: led) → Q .none { s with heap := h' }) : wpAny (model prog w) A (call (.builtin "list.extend") [.ref D, .ref b]) Q E s :=
  extend_in (own := []) F N (fun _ hp => nomatch hp) hne (N _ (.tail _ hb)).1 (fun h' n' F' N' => h h' n' F' (by simpa using N')) (by rw [List.size_toArray, sizeLine_eq]; omega)
end

def twoCells (r : List Int) (step : Int) : List (List Int) := (oneCell r step).flatMap fun q => oneCell q (-step)
theorem oneCell_len {r q : List Int} {step : Int} (h : q ∈ oneCell r step) : q.length = r.length := by
  unfold oneCell oneUpto at h
  obtain ⟨i, _, e⟩ := List.mem_filterMap.mp h
  split at e
  · cases e; simp [oneAt]
  · cases e
theorem oneCell_count (r : List Int) (step : Int) : (oneCell r step).length ≤ r.length := by
  unfold oneCell oneUpto
  exact Nat.le_trans (List.length_filterMap_le _ _) (by simp)
theorem five {q : List Int} (h : q.length = 5) : ∃ a b c d e, q = [a, b, c, d, e] := by
  rcases q with _ | ⟨a, _ | ⟨b, _ | ⟨c, _ | ⟨d, _ | ⟨e, _ | ⟨f, q⟩⟩⟩⟩⟩⟩ <;> simp at h
  exact ⟨a, b, c, d, e, rfl⟩
theorem five_vals {vs : List Value} {a b c d e : Int} (h : IntsAre vs [a, b, c, d, e]) : ∃ t0 t1 t2 t3 t4, vs = [.int a t0, .int b t1, .int c t2, .int d t3, .int e t4] := by
  cases h with
  | cons _ t0 h => cases h with
    | cons _ t1 h => cases h with
      | cons _ t2 h => cases h with
        | cons _ t3 h => cases h with
          | cons _ t4 h => cases h; exact ⟨t0, t1, t2, t3, t4, rfl⟩

set_option maxRecDepth 100000 in
set_option maxHeartbeats 8000000 in
theorem c_two (w : World) (led : Led) (R : Addr) (n : Nat) (r0 r1 r2 r3 r4 step : Int) (t0 t1 t2 t3 t4 ts : Tok) (hm : (R, listOf #[.int r0 t0, .int r1 t1, .int r2 t2, .int r3 t3, .int r4 t4] n) ∈ led) :
    Con w 3 70 [.ref R, .int step ts] led (fun r led' => ∃ tl Fo ps k, led' = tl ++ led ∧ (∀ p ∈ tl, ∀ q ∈ led, q.1 < p.1) ∧ r = .ref Fo ∧ (Fo, listOf (vals ps).toArray k) ∈ tl ∧ RowsIn tl ps ∧ keys ps = twoCells [r0, r1, r2, r3, r4] step) := by
  unfold Con
  k_fill
  intro A A₀ base h₀ outer env L m loose mean mg mb s Q E B F X N T hA hf hke hh hd hu hret
  refine wpAny_call ?_
  k_dflt (refine' code_def B F X N T hA hf hke ?k6 ?k7 ?k8 ?k9 ?kB ?_ ?c2 ?c3 ?c4 ?c5; (case k6 => k_is); (case k7 => k_is); (case k8 => omega); (case k9 => exact BindsTo.of_eq rfl); (case kB => exact locs rfl); (case c5 => decide); (case c2 => exact rfl); (case c3 => exact rfl); (case c4 => exact rfl))
  intro g' L' h' FG' F' N' B' X' T'
  have hcL := cLine_is
  k_steps
  rename_i F2 h1 lF2 h2 F1 N1
  refine Con.use (c_one w ((F2, listOf #[] 0) :: led) R n r0 r1 r2 r3 r4 step t0 t1 t2 t3 t4 ts (.tail _ hm)) B' F1 X' N1 T' (Around.frames_deeper hA) rfl rfl hh (by simp only [depth_deeper]; omega) (by simp only [units_deeper]; omega) ?_
  rintro r led' h3 tk3 F3 N3 ⟨tl1, Fo1, ps1, k1, rfl, hlt1, rfl, hm1, hr1, hk1⟩
  k_steps
  have hF2 : ∀ q ∈ tl1, F2 < q.1 := fun q hq => hlt1 q hq _ (.head _)
  have hlt1' : ∀ p ∈ tl1, ∀ q ∈ led, q.1 < p.1 := fun p hp q hq => hlt1 p hp q (.tail _ hq)
  refine loop_list (σ := OC) (fun c => (F2, listOf (vals c.ps).toArray c.k) :: (c.tl ++ (tl1 ++ led))) (fun _ => []) []
    (fun i c => RowsIn c.tl c.ps ∧ (∀ p ∈ c.tl, F2 < p.1 ∧ ∀ q ∈ led, q.1 < p.1) ∧ keys c.ps = ((keys ps1).take i).flatMap (fun q => oneCell q (-step)) ∧ c.ps.length ≤ 5 * i) ⟨[], [], 0⟩ (fun c => .tail _ (List.mem_append.mpr (.inr (List.mem_append.mpr (.inl hm1))))) hh F3 (nsub N3 fun p hp => ?_) (fun _ hp => nomatch hp) ⟨fun _ h => (nomatch h), fun _ h => (nomatch h), rfl, Nat.zero_le _⟩ ?_ ?_
  · simp only [List.mem_cons, List.nil_append, List.mem_append] at hp ⊢
    rcases hp with h | h | h <;> simp [h, vals]
  · rintro ⟨ps, tl, k⟩ i v u h tk own hv hoff ⟨hrp, htl, hkp, hlp⟩ F4 N4
    dsimp only at hrp htl hkp hlp F4 N4 hoff
    obtain ⟨it, hit, rfl⟩ : ∃ it, ps1[i]? = some it ∧ it.1 = v := by
      simp only [vals, List.getElem?_map, Option.map_eq_some_iff] at hv
      obtain ⟨it, h1, h2⟩ := hv
      exact ⟨it, h1, h2⟩
    have hmem : it ∈ ps1 := List.mem_of_getElem? hit
    have hi5 : i < ps1.length := (List.getElem?_eq_some_iff.mp hit).1
    have hcnt : ps1.length ≤ 5 := by have := oneCell_count [r0, r1, r2, r3, r4] step; rw [← hk1] at this; simpa [keys] using this
    obtain ⟨M, us, nM, hMv, hMm, hMi⟩ := hr1 it hmem
    have hq5 : it.2.length = 5 := by
      have : it.2 ∈ keys ps1 := List.mem_map.mpr ⟨it, hmem, rfl⟩
      rw [hk1] at this
      exact oneCell_len this
    obtain ⟨q0, q1, q2, q3, q4, hq⟩ := five hq5
    rw [hq] at hMi
    obtain ⟨s0, s1, s2, s3, s4, rfl⟩ := five_vals hMi
    rw [hMv] at F4
    k_steps
    refine Con.use (c_one w (((F2, listOf (vals ps).toArray k) :: (tl ++ (tl1 ++ led))) ++ own) M nM q0 q1 q2 q3 q4 (-step) s0 s1 s2 s3 s4 _ (List.mem_append.mpr (.inl (.tail _ (List.mem_append.mpr (.inr (List.mem_append.mpr (.inl hMm)))))))) B' F4 X' N4 T' (Around.frames_deeper hA) rfl rfl hh (by simp only [depth_deeper]; omega) (by simp only [units_deeper]; omega) ?_
    rintro r led' h5 tk5 F5 N5 ⟨tl2, Fo2, ps2, k2, rfl, hlt2, rfl, hm2, hr2, hk2⟩
    k_steps
    have hcnt2 : ps2.length ≤ 5 := by have := oneCell_count [q0, q1, q2, q3, q4] (-step); rw [← hk2] at this; simpa [keys] using this
    refine g_extend F5 (nsub (led' := (F2, listOf (vals ps).toArray k) :: (tl2 ++ (tl ++ (tl1 ++ led)) ++ own)) N5 fun p hp => ?_) (fun p hp => ?_) (us := vals ps2) (n2 := k2) ?_ (by simp [vals]; omega) ?_
    · simp only [List.mem_cons, List.mem_append] at hp ⊢
      rcases hp with h | (h | h | h | h) | h <;> simp [h]
    · simp only [List.mem_append] at hp
      rcases hp with (h | h | h | h) | h
      · exact Nat.ne_of_gt (hlt2 p h _ (.head _))
      · exact Nat.ne_of_gt (htl p h).1
      · exact Nat.ne_of_gt (hF2 p h)
      · exact Nat.ne_of_lt (lF2 p h)
      · exact hoff p h F2 (.head _)
    · simp [hm2]
    · intro h6 n6 F6 N6
      k_steps
      (rename Fr _ _ _ _ => F7); (rename News _ _ _ _ => N7)
      rw [show vals ps ++ vals ps2 = vals (ps ++ ps2) by simp [vals]] at N7
      refine list_end ⟨ps ++ ps2, tl2 ++ tl, n6⟩ (.tail _ (List.mem_append.mpr (.inr (List.mem_append.mpr (.inl hm1))))) F7 N7 (fun p hp => ?_) (fun p hp => by simp [hp]) (fun p hp b hb => ?_) (fun _ hp => nomatch hp) (by intro z hz _ h3; simp [kstB, hz]) ⟨fun p hp => ?_, fun p hp => ?_, ?_, ?_⟩
      · simp only [List.mem_cons, List.mem_append] at hp ⊢
        rcases hp with h | (h | h) | h | h <;> simp [h]
      · simp only [List.map_cons, List.map_append, List.mem_cons, List.mem_append] at hb
        rcases hb with e | (e | e) | e | e
        · exact hoff p hp b (by simp [e])
        · obtain ⟨q, hq', rfl⟩ := List.mem_map.mp e
          exact Nat.ne_of_lt (hlt2 q hq' p (List.mem_append.mpr (.inr hp)))
        · exact hoff p hp b (by simp only [List.map_cons, List.map_append, List.mem_cons, List.mem_append]; exact .inr (.inl e))
        · exact hoff p hp b (by simp only [List.map_cons, List.map_append, List.mem_cons, List.mem_append]; exact .inr (.inr (.inl e)))
        · exact hoff p hp b (by simp only [List.map_cons, List.map_append, List.mem_cons, List.mem_append]; exact .inr (.inr (.inr e)))
      · rcases List.mem_append.mp hp with hp | hp
        · exact (hrp p hp).mono fun q hq => List.mem_append.mpr (.inr hq)
        · exact (hr2 p hp).mono fun q hq => List.mem_append.mpr (.inl hq)
      · rcases List.mem_append.mp hp with hp | hp
        · exact ⟨hlt2 p hp _ (.head _), fun q hq => hlt2 p hp q (by simp [hq])⟩
        · exact htl p hp
      · have hki : (keys ps1)[i]? = some it.2 := by simp [keys, hit]
        show keys (ps ++ ps2) = _
        rw [List.take_add_one, hki, List.flatMap_append, ← hkp]
        simp [keys, hk2, hq]
      · show (ps ++ ps2).length ≤ _
        rw [List.length_append]; omega
  · rintro ⟨ps, tl, k⟩ u h tk ⟨hrp, htl, hkp, hlp⟩ F4 N4
    dsimp only at hrp htl hkp hlp F4 N4
    k_steps
    (rename Fr _ _ _ _ => F5); (rename News _ _ _ _ => N5)
    refine hret _ (((F2, listOf (vals ps).toArray k) :: (tl ++ tl1)) ++ led) _ _ F5 (nsub N5 fun p hp => ?_) ⟨(F2, listOf (vals ps).toArray k) :: (tl ++ tl1), F2, ps, k, rfl, fun p hp q hq => ?_, rfl, .head _, hrp.mono fun p hp => .tail _ (List.mem_append.mpr (.inl hp)), ?_⟩
    · simp only [List.mem_cons, List.mem_append, List.cons_append] at hp ⊢
      rcases hp with h | (h | h) | h <;> simp [h]
    · simp only [List.mem_cons, List.mem_append] at hp
      rcases hp with e | h | h
      · rw [e]; exact lF2 q hq
      · exact (htl p h).2 q hq
      · exact hlt1' p h q hq
    · rw [hkp, show (vals ps1).length = (keys ps1).length by simp [vals, keys], List.take_length, hk1]; rfl
end Mine
end PartP2

section PartP3a
open PySem PySem.W PyProof.Rows PySem.Calls
namespace Mine
theorem pairs_any {prog prog' : Program} {w w' : World} : ∀ {es : List DictEntry} {kvs : List (Int × Value)}, Pairs (PySem.intKind prog w) es kvs → Pairs (PySem.intKind prog' w') es kvs
  | _, _, .nil => .nil
  | _, _, .cons h1 h2 h3 => .cons h1 h2 (pairs_any h3)
theorem dict_any {prog prog' : Program} {w w' : World} {o : Obj} {kvs : List (Int × Value)} (h : o.IsDictOf (PySem.intKind prog w) kvs) : o.IsDictOf (PySem.intKind prog' w') kvs := by
  obtain ⟨es, ep, h1, h2, h3, h4, h5⟩ := h
  exact ⟨es, ep, h1, h2, h3, pairs_any h4, h5⟩
section
variable {w : World} {A : Around} {E : Value → Shared → Prop} {s : Shared} {h₀ : Heap} {L : Addr} {m : Str → Option Value} {news : Led}
theorem eval_tab {prog : Program} {env : Env} {x : Str} {c : Nat} {p1 p2 pos : Pos} {mm : Str → Option Value} {v : Value} {Q : Value → Shared → Prop} (F : Fr h₀ L s.heap m) (N : News h₀ L s.heap news) (hbig : h₀.NoLimit)
    (hk : env.scope.kind = .function) (hl : env.kindOf x = some .local) (hns : s.heap.Ns env.locals mm) (hv : mm x = some v) (hd : (x == ("__debug__" : Str)) = false)
    (h : ∀ h' tk o, Fr h₀ L h' m → News h₀ L h' ((s.heap.objs.size, o) :: news) → (∀ p ∈ news, p.1 < s.heap.objs.size) → (s.heap.objs.size == sysModules) = false → (∀ prog w, o.IsDictOf (PySem.intKind prog w) [((0 : Int), v)]) → Q (.ref s.heap.objs.size) { s with heap := h', toks := tk }) :
    wpAny (model prog w) A (eval (.Dict [some (.Constant (.int 0) c p1)] [.Name x p2] pos) env) Q E s := by
  refine wpAny_Dict_pairs (knd := PySem.intKind prog w) (pairs := [(eval (.Constant (.int 0) c p1) env, do let x ← eval (.Name x p2) env; standAt pos; pure x)]) rfl (by simp) (by simp) ?_
  refine evalPairs_cons (wpAny_Constant_int ?_)
  refine wpAny_bind (wpAny_Name (wpAny_loadName_local hk hl (m := mm) (hns.at' fun o e => Heap.get?_push_of_some _ e) hv ?_) hd)
  · refine wpAny_bind (wpAny_standAt (wpAny_pure (evalPairs_nil ?_)))
    refine made_int F N rfl (by simp [intKeyPairs]) ?_
    intro h' o F' N' hd'
    refine h h' _ o F' N' (fun p hp => Heap.lt_size (N p hp).1) (F.notModules (modules_low hbig)) (fun prog w => dict_any hd')
end

/-- a table of one row, {0: row} -/
def TabIn (led : Led) (v : Value) (r : List Int) : Prop := ∃ d o u, v = .ref d ∧ (d, o) ∈ led ∧ (d == sysModules) = false ∧ (∀ prog w, o.IsDictOf (PySem.intKind prog w) [((0 : Int), u)]) ∧ RowIn led u r
theorem TabIn.mono {led led' : Led} {v : Value} {r : List Int} (h : TabIn led v r) (hs : ∀ p ∈ led, p ∈ led') : TabIn led' v r :=
  let ⟨d, o, u, e, hm, hn, hd, hr⟩ := h
  ⟨d, o, u, e, hs _ hm, hn, hd, hr.mono hs⟩
theorem ints_one {vs : List Value} {r r' : List Int} (h : IntsAre vs r) (h' : IntsAre vs r') : r = r' := by
  induction h generalizing r' with
  | nil => cases h'; rfl
  | cons n t _ ih => cases h' with
    | cons _ _ h'' => rw [ih h'']
theorem row_one {h₀ h : Heap} {L : Addr} {led : Led} (N : News h₀ L h led) {v : Value} {r r' : List Int} (x : RowIn led v r) (y : RowIn led v r') : r = r' := by
  obtain ⟨a, vs, n, rfl, hm, hi⟩ := x
  obtain ⟨b, us, k, e, hm', hi'⟩ := y
  cases e
  have e1 := (N _ hm).1
  have e2 := (N _ hm').1
  simp only at e1 e2
  rw [e1] at e2
  have e3 := Option.some.inj e2
  simp only [W.listOf, Obj.mk.injEq, Data.seq.injEq] at e3
  have e4 : vs = us := by simpa using e3.2.2.1.1
  subst e4
  exact ints_one hi hi'
theorem row_eqAt {h₀ : Heap} {L : Addr} {led : Led} {A : Around} {s : Shared} (N : News h₀ L s.heap led) {x y : Value} {kx ky : List Int} (hu : A.units + 100 < cLine) (hy : RowIn led y ky) (hx : RowIn led x kx) : SeqAt.EqAt A.in1 s y x (decide (ky = kx)) := by
  obtain ⟨a, vs, n, rfl, hm, hi⟩ := hy
  obtain ⟨b, us, k, rfl, hm', hi'⟩ := hx
  exact keq_ints (PySem.IsL.isList (n := n) (N _ hm).1) hi (PySem.IsL.isList (n := k) (N _ hm').1) hi' (by simp only [Around.in1_units]; omega)
theorem rows_on (led : Led) : EqOn led (RowIn led) := fun A h₀ L s x y kx ky hu N hy hx => row_eqAt N (by omega) hy hx
theorem tabs_on (led : Led) : EqOn led (TabIn led) := by
  intro A h₀ L s x y kx ky hu N hy hx
  obtain ⟨d, o, u, rfl, hm, hn, hd, hr⟩ := hy
  obtain ⟨d', o', u', rfl, hm', hn', hd', hr'⟩ := hx
  by_cases e : d = d'
  · subst e
    have e1 := (N _ hm).1
    have e2 := (N _ hm').1
    simp only at e1 e2
    rw [e1] at e2
    have e3 := Option.some.inj e2
    subst e3
    intro prog w E Q hq
    obtain ⟨es, ep, _, q2, _, q4, _⟩ := hd prog w
    obtain ⟨es', ep', _, q2', _, q4', _⟩ := hd' prog w
    rw [q2] at q2'
    have e5 : es = es' := by injection q2'
    subst e5
    have e6 : u = u' := by
      generalize es.toList = l at q4 q4'
      cases q4 with
      | cons _ v1 _ => cases q4' with
        | cons _ v2 _ => exact v1.symm.trans v2
    subst e6
    have e7 := row_one N hr hr'
    rw [decide_eq_true e7] at hq
    exact SeqAt.EqAt.same _ prog w E Q hq
  · refine SeqAt.EqAt.of_refs e ?_
    intro prog w E Q hq
    have da : s.heap.DictOf (PySem.intKind prog w) d [((0 : Int), u)] := Heap.dictOf_iff.mpr ⟨o, (N _ hm).1, hd prog w⟩
    have db : s.heap.DictOf (PySem.intKind prog w) d' [((0 : Int), u')] := Heap.dictOf_iff.mpr ⟨o', (N _ hm').1, hd' prog w⟩
    refine keq_eq hn hn' da db (r := decide (ky = kx) && true) (by simp only [Around.in1_units]; omega) (fun _ => .hit rfl (row_eqAt N (by simp only [Around.in1_units]; omega) hr hr') .nil) ?_
    simpa using hq
end Mine
end PartP3a

section PartP3
open PySem PySem.W PyProof.Rows PySem.Calls
namespace Mine
local macro_rules | `(tactic| k_steps) => `(tactic| repeat' ((fail_if_success (with_reducible show wpAny _ _ (exec (Stmt.While _ _ _ _) _) _ _ _)); (fail_if_success (with_reducible show wpAny _ _ (pyIter _) _ _ _)); (fail_if_success (with_reducible show wpAny _ _ (eval (Expr.ListComp _ _ _ _) _) _ _ _)); (fail_if_success (with_reducible show wpAny _ _ (call (Value.ref _) _ _) _ _ _)); (fail_if_success (with_reducible show wpAny _ _ (call (Value.builtin "list.append") _ _) _ _ _)); (fail_if_success (with_reducible show wpAny _ _ (call (Value.builtin "list.extend") _ _) _ _ _)); (first | (k_unfold; (try dsimp only)) | (k_end; kc_close) | walk1 | (dsimp only; walk1) | (leave1; walk_say "STEP leave1"; (try dsimp only)) | fail "no step")))

theorem off1_mem {D : Addr} {l : Led} (h : LCg.Off1 D l) : ∀ p ∈ l, p.1 ≠ D := by
  induction l with
  | nil => intro p hp; exact nomatch hp
  | cons q r ih =>
    intro p hp
    rcases List.mem_cons.mp hp with e | hp
    · rw [e]; exact h.1
    · exact ih h.2 p hp
section
open LCg
variable {prog : Program} {w : World} {A : Around} {s : Shared} {h₀ : Heap} {L : Addr} {m : Str → Option Value} {env : Env} {elt : Expr} {x : Str} {scope : Scope} {cl : List (Str × Addr)} {S : List (Addr × Obj) → Prop} {P : Nat → Value → Prop} {Fin : List Value → List (Addr × Obj) → Prop} {n : Nat}
theorem comp_ind (J : Nat → List Value → Led → Prop)
    (step : ∀ i ys news, i < n → J i ys news → ∀ v I oI C oC D m₂ h tk (E' : Value → Shared → Prop), P i v → NsObj oC m₂ → m₂ x = some v → Fr h₀ L h m → News h₀ L h ((I, oI) :: (C, oC) :: (D, lst ys) :: news) → Off3 I C D news → ((@Ne Nat I C) ∧ (@Ne Nat I D) ∧ (@Ne Nat C D)) →
      wpAny (model prog w) A (eval elt (compEnvC scope cl C env)) (CompEnd h₀ L m { s with heap := h, toks := tk } I oI C oC D (lst ys) S (fun y news' => J (i + 1) (ys ++ [y]) news')) E' { s with heap := h, toks := tk })
    (fin : ∀ ys news, J n ys news → Fin ys news) : ∀ (k i : Nat) (ys : List Value) (news : Led), i + k = n → J i ys news → CompRest prog w A h₀ L m env elt x scope cl s S P Fin k i ys news := by
  intro k
  induction k with
  | zero =>
    intro i ys news hi hJ
    exact CompRest.zero (fin ys news (by rw [← hi]; exact hJ))
  | succ k ih =>
    intro i ys news hi hJ
    refine CompRest.succ fun v I oI C oC D m₂ h tk E' hv hC hx F N off ne => ?_
    refine wpAny_mono (step i ys news (by omega) hJ v I oI C oC D m₂ h tk E' hv hC hx F N off ne) (fun y s₂ h₂ => ?_) fun _ _ e => e
    obtain ⟨h', tk', news', e, F', N', off', hS, hJ'⟩ := h₂
    exact ⟨h', tk', news', e, F', N', off', hS, ih (i + 1) _ _ (by omega) hJ'⟩
end

set_option maxRecDepth 100000 in
set_option maxHeartbeats 8000000 in
theorem c_tables (w : World) (led ledR : Led) (R : Addr) (n : Nat) (ps : List Item) (hm : (R, listOf (vals ps).toArray n) ∈ led) (hr : RowsIn ledR ps) (hl : ps.length < 10000) :
    Con w 2 75 [.ref R] led (fun r led' => ∃ D tl qs k, r = .ref D ∧ led' = (D, listOf (gvals qs).toArray k) :: (tl ++ led) ∧ (∀ p ∈ tl ++ led, p.1 ≠ D) ∧ (∀ p ∈ tl, ∀ q ∈ led, q.1 ≠ p.1) ∧ (∀ p ∈ qs, TabIn (tl ++ ledR) p.1 p.2) ∧ gkeys qs = keys ps) := by
  unfold Con
  k_fill
  intro A A₀ base h₀ outer env L m loose mean mg mb s Q E B F X N T hA hf hke hh hd hu hret
  refine wpAny_call ?_
  k_dflt (refine' code_def B F X N T hA hf hke ?k6 ?k7 ?k8 ?k9 ?kB ?_ ?c2 ?c3 ?c4 ?c5; (case k6 => k_is); (case k7 => k_is); (case k8 => omega); (case k9 => exact BindsTo.of_eq rfl); (case kB => exact locs rfl); (case c5 => decide); (case c2 => exact rfl); (case c3 => exact rfl); (case c4 => exact rfl))
  intro g' L' h' FG' F' N' B' X' T'
  have hcL := cLine_is
  k_steps
  refine LCg.ListComp_U (cl := []) F' rfl (by decide) rfl (by decide) rfl ?_
  k_steps
  refine LCg.CompSrc.ledger (its := (vals ps).toArray) hh F' N' hm (by simp [vals, sizeLine_eq]; omega) ?_
  intro g
  refine comp_ind (n := ps.length) (fun i ys news => ∃ (qs : List Item) (tl : Led), ys = gvals qs ∧ gkeys qs = (keys ps).take i ∧ news = tl ++ led ∧ (∀ p ∈ tl, ∀ q ∈ led, q.1 ≠ p.1) ∧ ∀ p ∈ qs, TabIn (tl ++ ledR) p.1 p.2) ?_ ?_ _ 0 [] led (by simp [vals]) ⟨[], [], rfl, rfl, rfl, fun _ h => (nomatch h), fun _ h => (nomatch h)⟩
  · rintro i ys news hi ⟨qs, tl, rfl, hkq, rfl, htl, htab⟩ v I oI C oC D m₂ h tk E' hv hC hx F1 N1 off ne
    have hCg : h.get? C = some oC := (N1 _ (.tail _ (.head _))).1
    obtain ⟨it, hit, rfl⟩ : ∃ it, ps[i]? = some it ∧ it.1 = v := by
      simp only [vals, List.getElem?_toArray, List.getElem?_map, Option.map_eq_some_iff] at hv
      obtain ⟨it, h1, h2⟩ := hv
      exact ⟨it, h1, h2⟩
    refine eval_tab F1 N1 T'.nolimit rfl rfl (hC.ns hCg) hx (by decide) ?_
    intro h' tk' o F2 N2 lt hns hdo
    have off' := off.mem
    refine LCg.CompEnd.intro F2 N2 ((h.objs.size, o) :: (tl ++ led)) (fun p hp => ?_) (LCg.Off3.of fun p hp => ?_) (.inr ⟨_, .tail _ (List.mem_append.mpr (.inr hm)), rfl, _, rfl⟩) ⟨qs ++ [(Value.ref h.objs.size, it.2)], (h.objs.size, o) :: tl, by simp [gvals], ?_, rfl, fun p hp q hq => ?_, fun p hp => ?_⟩
    · simp only [List.mem_cons] at hp ⊢
      rcases hp with h | h | h | h | h <;> simp [h]
    · rcases List.mem_cons.mp hp with e | hp
      · rw [e]
        exact ⟨Nat.ne_of_gt (lt _ (.head _)), Nat.ne_of_gt (lt _ (.tail _ (.head _))), Nat.ne_of_gt (lt _ (.tail _ (.tail _ (.head _))))⟩
      · exact off' p hp
    · have hki : (keys ps)[i]? = some it.2 := by simp [keys, hit]
      rw [List.take_add_one, hki, ← hkq]
      simp [gkeys]
    · rcases List.mem_cons.mp hp with e | hp
      · rw [e]; exact Nat.ne_of_lt (lt q (by simp [hq]))
      · exact htl p hp q hq
    · rcases List.mem_append.mp hp with hp | hp
      · exact (htab p hp).mono fun q hq => .tail _ hq
      · rw [List.mem_singleton.mp hp]
        exact ⟨_, o, it.1, rfl, .head _, hns, hdo, (hr it (List.mem_of_getElem? hit)).mono fun q hq => .tail _ (List.mem_append.mpr (.inr hq))⟩
  · rintro ys news ⟨qs, tl, rfl, hkq, rfl, htl, htab⟩ D h tk F1 N1 off
    k_steps
    (rename Fr _ _ _ _ => F5); (rename News _ _ _ _ => N5)
    refine hret _ _ _ _ F5 N5 ⟨D, tl, qs, _, rfl, rfl, off1_mem off, htl, htab, ?_⟩
    rw [hkq, show ps.length = (keys ps).length by simp [keys], List.take_length]
end Mine
end PartP3

section PartM1
namespace Mine
def piece (p : Prop) [Decidable p] (l : List Int) : List (List Int) := if p then [l] else []
theorem one5 (a b c d e s : Int) : oneCell [a, b, c, d, e] s =
    piece (0 ≤ a + s ∧ a + s ≤ b) [a + s, b, c, d, e] ++ (piece (a ≤ b + s ∧ b + s ≤ c) [a, b + s, c, d, e] ++ (piece (b ≤ c + s ∧ c + s ≤ d) [a, b, c + s, d, e] ++ (piece (c ≤ d + s ∧ d + s ≤ e) [a, b, c, d + s, e] ++ piece (d ≤ e + s) [a, b, c, d, e + s]))) := by
  have h : oneCell [a, b, c, d, e] s = oneUpto [a, b, c, d, e] s (0 + 1 + 1 + 1 + 1 + 1) := rfl
  rw [h, oneUpto_succ, oneUpto_succ, oneUpto_succ, oneUpto_succ, oneUpto_succ]
  simp [oneUpto, okAt, oneAt, piece]
def tm (p : Prop) [Decidable p] : Nat := if p then 1 else 0
theorem count_piece (x : List Int) (p : Prop) [Decidable p] (l : List Int) : (piece p l).count x = tm (p ∧ l = x) := by
  unfold piece tm
  by_cases h : p
  · by_cases h2 : l = x <;> simp [h, h2, List.count_cons]
  · simp [h]
theorem tm_congr {p q : Prop} [Decidable p] [Decidable q] (h : p ↔ q) : tm p = tm q := by
  unfold tm; simp only [h]
theorem count_flat (x : List Int) (p : Prop) [Decidable p] (l : List Int) (f : List Int → List (List Int)) : ((piece p l).flatMap f).count x = if p then (f l).count x else 0 := by
  unfold piece
  by_cases h : p <;> simp [h]
theorem ite_tm (p : Prop) [Decidable p] (q : Prop) [Decidable q] : (if p then tm q else 0) = tm (p ∧ q) := by
  unfold tm; by_cases h : p <;> simp [h]
theorem ite_add (p : Prop) [Decidable p] (m n : Nat) : (if p then m + n else 0) = (if p then m else 0) + (if p then n else 0) := by
  by_cases h : p <;> simp [h]

theorem up_down (a b c d e : Int) (h0 : a = 0) (h1 : a ≤ b) (h2 : b ≤ c) (h3 : c ≤ d) (h4 : d ≤ e) (x : List Int) :
    (twoCells [a, b, c, d, e] 1).count x = (twoCells [a, b, c, d, e] (-1)).count x + tm ([a, b, c, d, e] = x) := by
  unfold twoCells
  rw [one5, one5]
  simp only [List.flatMap_append, List.count_append, count_flat]
  simp only [one5, List.count_append, count_piece, ite_add, ite_tm, Int.neg_neg]
  have u0 : tm ((0 ≤ a + 1 ∧ a + 1 ≤ b) ∧ (0 ≤ a + 1 + -1 ∧ a + 1 + -1 ≤ b) ∧ [a + 1 + -1, b, c, d, e] = x) = tm (a + 1 ≤ b ∧ [a, b, c, d, e] = x) := by rw [show a + 1 + -1 = a by omega]; exact tm_congr ⟨fun ⟨p, q, r⟩ => ⟨by omega, r⟩, fun ⟨p, r⟩ => ⟨by omega, by omega, r⟩⟩
  have l0 : tm ((0 ≤ a + -1 ∧ a + -1 ≤ b) ∧ (0 ≤ a + -1 + 1 ∧ a + -1 + 1 ≤ b) ∧ [a + -1 + 1, b, c, d, e] = x) = 0 := if_neg fun ⟨p, q, r⟩ => by omega
  have e01 : tm ((0 ≤ a + 1 ∧ a + 1 ≤ b) ∧ (a + 1 ≤ b + -1 ∧ b + -1 ≤ c) ∧ [a + 1, b + -1, c, d, e] = x) = tm ((a ≤ b + -1 ∧ b + -1 ≤ c) ∧ (0 ≤ a + 1 ∧ a + 1 ≤ b + -1) ∧ [a + 1, b + -1, c, d, e] = x) := tm_congr ⟨fun ⟨p, q, r⟩ => ⟨by omega, by omega, r⟩, fun ⟨p, q, r⟩ => ⟨by omega, by omega, r⟩⟩
  have e02 : tm ((0 ≤ a + 1 ∧ a + 1 ≤ b) ∧ (b ≤ c + -1 ∧ c + -1 ≤ d) ∧ [a + 1, b, c + -1, d, e] = x) = tm ((b ≤ c + -1 ∧ c + -1 ≤ d) ∧ (0 ≤ a + 1 ∧ a + 1 ≤ b) ∧ [a + 1, b, c + -1, d, e] = x) := tm_congr ⟨fun ⟨p, q, r⟩ => ⟨by omega, by omega, r⟩, fun ⟨p, q, r⟩ => ⟨by omega, by omega, r⟩⟩
  have e03 : tm ((0 ≤ a + 1 ∧ a + 1 ≤ b) ∧ (c ≤ d + -1 ∧ d + -1 ≤ e) ∧ [a + 1, b, c, d + -1, e] = x) = tm ((c ≤ d + -1 ∧ d + -1 ≤ e) ∧ (0 ≤ a + 1 ∧ a + 1 ≤ b) ∧ [a + 1, b, c, d + -1, e] = x) := tm_congr ⟨fun ⟨p, q, r⟩ => ⟨by omega, by omega, r⟩, fun ⟨p, q, r⟩ => ⟨by omega, by omega, r⟩⟩
  have e04 : tm ((0 ≤ a + 1 ∧ a + 1 ≤ b) ∧ d ≤ e + -1 ∧ [a + 1, b, c, d, e + -1] = x) = tm (d ≤ e + -1 ∧ (0 ≤ a + 1 ∧ a + 1 ≤ b) ∧ [a + 1, b, c, d, e + -1] = x) := tm_congr ⟨fun ⟨p, q, r⟩ => ⟨by omega, by omega, r⟩, fun ⟨p, q, r⟩ => ⟨by omega, by omega, r⟩⟩
  have e10 : tm ((a ≤ b + 1 ∧ b + 1 ≤ c) ∧ (0 ≤ a + -1 ∧ a + -1 ≤ b + 1) ∧ [a + -1, b + 1, c, d, e] = x) = tm ((0 ≤ a + -1 ∧ a + -1 ≤ b) ∧ (a + -1 ≤ b + 1 ∧ b + 1 ≤ c) ∧ [a + -1, b + 1, c, d, e] = x) := tm_congr ⟨fun ⟨p, q, r⟩ => ⟨by omega, by omega, r⟩, fun ⟨p, q, r⟩ => ⟨by omega, by omega, r⟩⟩
  have u1 : tm ((a ≤ b + 1 ∧ b + 1 ≤ c) ∧ (a ≤ b + 1 + -1 ∧ b + 1 + -1 ≤ c) ∧ [a, b + 1 + -1, c, d, e] = x) = tm (b + 1 ≤ c ∧ [a, b, c, d, e] = x) := by rw [show b + 1 + -1 = b by omega]; exact tm_congr ⟨fun ⟨p, q, r⟩ => ⟨by omega, r⟩, fun ⟨p, r⟩ => ⟨by omega, by omega, r⟩⟩
  have l1 : tm ((a ≤ b + -1 ∧ b + -1 ≤ c) ∧ (a ≤ b + -1 + 1 ∧ b + -1 + 1 ≤ c) ∧ [a, b + -1 + 1, c, d, e] = x) = tm (a + 1 ≤ b ∧ [a, b, c, d, e] = x) := by rw [show b + -1 + 1 = b by omega]; exact tm_congr ⟨fun ⟨p, q, r⟩ => ⟨by omega, r⟩, fun ⟨p, r⟩ => ⟨by omega, by omega, r⟩⟩
  have e12 : tm ((a ≤ b + 1 ∧ b + 1 ≤ c) ∧ (b + 1 ≤ c + -1 ∧ c + -1 ≤ d) ∧ [a, b + 1, c + -1, d, e] = x) = tm ((b ≤ c + -1 ∧ c + -1 ≤ d) ∧ (a ≤ b + 1 ∧ b + 1 ≤ c + -1) ∧ [a, b + 1, c + -1, d, e] = x) := tm_congr ⟨fun ⟨p, q, r⟩ => ⟨by omega, by omega, r⟩, fun ⟨p, q, r⟩ => ⟨by omega, by omega, r⟩⟩
  have e13 : tm ((a ≤ b + 1 ∧ b + 1 ≤ c) ∧ (c ≤ d + -1 ∧ d + -1 ≤ e) ∧ [a, b + 1, c, d + -1, e] = x) = tm ((c ≤ d + -1 ∧ d + -1 ≤ e) ∧ (a ≤ b + 1 ∧ b + 1 ≤ c) ∧ [a, b + 1, c, d + -1, e] = x) := tm_congr ⟨fun ⟨p, q, r⟩ => ⟨by omega, by omega, r⟩, fun ⟨p, q, r⟩ => ⟨by omega, by omega, r⟩⟩
  have e14 : tm ((a ≤ b + 1 ∧ b + 1 ≤ c) ∧ d ≤ e + -1 ∧ [a, b + 1, c, d, e + -1] = x) = tm (d ≤ e + -1 ∧ (a ≤ b + 1 ∧ b + 1 ≤ c) ∧ [a, b + 1, c, d, e + -1] = x) := tm_congr ⟨fun ⟨p, q, r⟩ => ⟨by omega, by omega, r⟩, fun ⟨p, q, r⟩ => ⟨by omega, by omega, r⟩⟩
  have e20 : tm ((b ≤ c + 1 ∧ c + 1 ≤ d) ∧ (0 ≤ a + -1 ∧ a + -1 ≤ b) ∧ [a + -1, b, c + 1, d, e] = x) = tm ((0 ≤ a + -1 ∧ a + -1 ≤ b) ∧ (b ≤ c + 1 ∧ c + 1 ≤ d) ∧ [a + -1, b, c + 1, d, e] = x) := tm_congr ⟨fun ⟨p, q, r⟩ => ⟨by omega, by omega, r⟩, fun ⟨p, q, r⟩ => ⟨by omega, by omega, r⟩⟩
  have e21 : tm ((b ≤ c + 1 ∧ c + 1 ≤ d) ∧ (a ≤ b + -1 ∧ b + -1 ≤ c + 1) ∧ [a, b + -1, c + 1, d, e] = x) = tm ((a ≤ b + -1 ∧ b + -1 ≤ c) ∧ (b + -1 ≤ c + 1 ∧ c + 1 ≤ d) ∧ [a, b + -1, c + 1, d, e] = x) := tm_congr ⟨fun ⟨p, q, r⟩ => ⟨by omega, by omega, r⟩, fun ⟨p, q, r⟩ => ⟨by omega, by omega, r⟩⟩
  have u2 : tm ((b ≤ c + 1 ∧ c + 1 ≤ d) ∧ (b ≤ c + 1 + -1 ∧ c + 1 + -1 ≤ d) ∧ [a, b, c + 1 + -1, d, e] = x) = tm (c + 1 ≤ d ∧ [a, b, c, d, e] = x) := by rw [show c + 1 + -1 = c by omega]; exact tm_congr ⟨fun ⟨p, q, r⟩ => ⟨by omega, r⟩, fun ⟨p, r⟩ => ⟨by omega, by omega, r⟩⟩
  have l2 : tm ((b ≤ c + -1 ∧ c + -1 ≤ d) ∧ (b ≤ c + -1 + 1 ∧ c + -1 + 1 ≤ d) ∧ [a, b, c + -1 + 1, d, e] = x) = tm (b + 1 ≤ c ∧ [a, b, c, d, e] = x) := by rw [show c + -1 + 1 = c by omega]; exact tm_congr ⟨fun ⟨p, q, r⟩ => ⟨by omega, r⟩, fun ⟨p, r⟩ => ⟨by omega, by omega, r⟩⟩
  have e23 : tm ((b ≤ c + 1 ∧ c + 1 ≤ d) ∧ (c + 1 ≤ d + -1 ∧ d + -1 ≤ e) ∧ [a, b, c + 1, d + -1, e] = x) = tm ((c ≤ d + -1 ∧ d + -1 ≤ e) ∧ (b ≤ c + 1 ∧ c + 1 ≤ d + -1) ∧ [a, b, c + 1, d + -1, e] = x) := tm_congr ⟨fun ⟨p, q, r⟩ => ⟨by omega, by omega, r⟩, fun ⟨p, q, r⟩ => ⟨by omega, by omega, r⟩⟩
  have e24 : tm ((b ≤ c + 1 ∧ c + 1 ≤ d) ∧ d ≤ e + -1 ∧ [a, b, c + 1, d, e + -1] = x) = tm (d ≤ e + -1 ∧ (b ≤ c + 1 ∧ c + 1 ≤ d) ∧ [a, b, c + 1, d, e + -1] = x) := tm_congr ⟨fun ⟨p, q, r⟩ => ⟨by omega, by omega, r⟩, fun ⟨p, q, r⟩ => ⟨by omega, by omega, r⟩⟩
  have e30 : tm ((c ≤ d + 1 ∧ d + 1 ≤ e) ∧ (0 ≤ a + -1 ∧ a + -1 ≤ b) ∧ [a + -1, b, c, d + 1, e] = x) = tm ((0 ≤ a + -1 ∧ a + -1 ≤ b) ∧ (c ≤ d + 1 ∧ d + 1 ≤ e) ∧ [a + -1, b, c, d + 1, e] = x) := tm_congr ⟨fun ⟨p, q, r⟩ => ⟨by omega, by omega, r⟩, fun ⟨p, q, r⟩ => ⟨by omega, by omega, r⟩⟩
  have e31 : tm ((c ≤ d + 1 ∧ d + 1 ≤ e) ∧ (a ≤ b + -1 ∧ b + -1 ≤ c) ∧ [a, b + -1, c, d + 1, e] = x) = tm ((a ≤ b + -1 ∧ b + -1 ≤ c) ∧ (c ≤ d + 1 ∧ d + 1 ≤ e) ∧ [a, b + -1, c, d + 1, e] = x) := tm_congr ⟨fun ⟨p, q, r⟩ => ⟨by omega, by omega, r⟩, fun ⟨p, q, r⟩ => ⟨by omega, by omega, r⟩⟩
  have e32 : tm ((c ≤ d + 1 ∧ d + 1 ≤ e) ∧ (b ≤ c + -1 ∧ c + -1 ≤ d + 1) ∧ [a, b, c + -1, d + 1, e] = x) = tm ((b ≤ c + -1 ∧ c + -1 ≤ d) ∧ (c + -1 ≤ d + 1 ∧ d + 1 ≤ e) ∧ [a, b, c + -1, d + 1, e] = x) := tm_congr ⟨fun ⟨p, q, r⟩ => ⟨by omega, by omega, r⟩, fun ⟨p, q, r⟩ => ⟨by omega, by omega, r⟩⟩
  have u3 : tm ((c ≤ d + 1 ∧ d + 1 ≤ e) ∧ (c ≤ d + 1 + -1 ∧ d + 1 + -1 ≤ e) ∧ [a, b, c, d + 1 + -1, e] = x) = tm (d + 1 ≤ e ∧ [a, b, c, d, e] = x) := by rw [show d + 1 + -1 = d by omega]; exact tm_congr ⟨fun ⟨p, q, r⟩ => ⟨by omega, r⟩, fun ⟨p, r⟩ => ⟨by omega, by omega, r⟩⟩
  have l3 : tm ((c ≤ d + -1 ∧ d + -1 ≤ e) ∧ (c ≤ d + -1 + 1 ∧ d + -1 + 1 ≤ e) ∧ [a, b, c, d + -1 + 1, e] = x) = tm (c + 1 ≤ d ∧ [a, b, c, d, e] = x) := by rw [show d + -1 + 1 = d by omega]; exact tm_congr ⟨fun ⟨p, q, r⟩ => ⟨by omega, r⟩, fun ⟨p, r⟩ => ⟨by omega, by omega, r⟩⟩
  have e34 : tm ((c ≤ d + 1 ∧ d + 1 ≤ e) ∧ d + 1 ≤ e + -1 ∧ [a, b, c, d + 1, e + -1] = x) = tm (d ≤ e + -1 ∧ (c ≤ d + 1 ∧ d + 1 ≤ e + -1) ∧ [a, b, c, d + 1, e + -1] = x) := tm_congr ⟨fun ⟨p, q, r⟩ => ⟨by omega, by omega, r⟩, fun ⟨p, q, r⟩ => ⟨by omega, by omega, r⟩⟩
  have e40 : tm (d ≤ e + 1 ∧ (0 ≤ a + -1 ∧ a + -1 ≤ b) ∧ [a + -1, b, c, d, e + 1] = x) = tm ((0 ≤ a + -1 ∧ a + -1 ≤ b) ∧ d ≤ e + 1 ∧ [a + -1, b, c, d, e + 1] = x) := tm_congr ⟨fun ⟨p, q, r⟩ => ⟨by omega, by omega, r⟩, fun ⟨p, q, r⟩ => ⟨by omega, by omega, r⟩⟩
  have e41 : tm (d ≤ e + 1 ∧ (a ≤ b + -1 ∧ b + -1 ≤ c) ∧ [a, b + -1, c, d, e + 1] = x) = tm ((a ≤ b + -1 ∧ b + -1 ≤ c) ∧ d ≤ e + 1 ∧ [a, b + -1, c, d, e + 1] = x) := tm_congr ⟨fun ⟨p, q, r⟩ => ⟨by omega, by omega, r⟩, fun ⟨p, q, r⟩ => ⟨by omega, by omega, r⟩⟩
  have e42 : tm (d ≤ e + 1 ∧ (b ≤ c + -1 ∧ c + -1 ≤ d) ∧ [a, b, c + -1, d, e + 1] = x) = tm ((b ≤ c + -1 ∧ c + -1 ≤ d) ∧ d ≤ e + 1 ∧ [a, b, c + -1, d, e + 1] = x) := tm_congr ⟨fun ⟨p, q, r⟩ => ⟨by omega, by omega, r⟩, fun ⟨p, q, r⟩ => ⟨by omega, by omega, r⟩⟩
  have e43 : tm (d ≤ e + 1 ∧ (c ≤ d + -1 ∧ d + -1 ≤ e + 1) ∧ [a, b, c, d + -1, e + 1] = x) = tm ((c ≤ d + -1 ∧ d + -1 ≤ e) ∧ d + -1 ≤ e + 1 ∧ [a, b, c, d + -1, e + 1] = x) := tm_congr ⟨fun ⟨p, q, r⟩ => ⟨by omega, by omega, r⟩, fun ⟨p, q, r⟩ => ⟨by omega, by omega, r⟩⟩
  have u4 : tm (d ≤ e + 1 ∧ d ≤ e + 1 + -1 ∧ [a, b, c, d, e + 1 + -1] = x) = tm ([a, b, c, d, e] = x) := by rw [show e + 1 + -1 = e by omega]; exact tm_congr ⟨fun ⟨p, q, r⟩ => r, fun r => ⟨by omega, by omega, r⟩⟩
  have l4 : tm (d ≤ e + -1 ∧ d ≤ e + -1 + 1 ∧ [a, b, c, d, e + -1 + 1] = x) = tm (d + 1 ≤ e ∧ [a, b, c, d, e] = x) := by rw [show e + -1 + 1 = e by omega]; exact tm_congr ⟨fun ⟨p, q, r⟩ => ⟨by omega, r⟩, fun ⟨p, r⟩ => ⟨by omega, by omega, r⟩⟩
  omega
end Mine
end PartM1

section PartQ1
open PySem PySem.W PyProof.Rows PySem.Calls
namespace Mine

/-- a value bears one key -/
def FunOn {κ : Type} (led : Led) (It : Value → κ → Prop) : Prop := ∀ (h₀ h : Heap) (L : Addr), News h₀ L h led → ∀ v k k', It v k → It v k' → k = k'
theorem rows_fun (led : Led) : FunOn led (RowIn led) := fun h₀ h L N v k k' x y => row_one N x y
theorem tabs_fun (led : Led) (prog : Program) (w : World) : FunOn led (TabIn led) := by
  intro h₀ h L N v k k' x y
  obtain ⟨d, o, u, rfl, hm, hn, hd, hr⟩ := x
  obtain ⟨d', o', u', e, hm', hn', hd', hr'⟩ := y
  cases e
  have e1 := (N _ hm).1
  have e2 := (N _ hm').1
  simp only at e1 e2
  rw [e1] at e2
  have e3 := Option.some.inj e2
  subst e3
  obtain ⟨es, ep, _, q2, _, q4, _⟩ := hd prog w
  obtain ⟨es', ep', _, q2', _, q4', _⟩ := hd' prog w
  rw [q2] at q2'
  have e5 : es = es' := by injection q2'
  subst e5
  have e6 : u = u' := by
    generalize es.toList = l at q4 q4'
    cases q4 with
    | cons _ v1 _ => cases q4' with
      | cons _ v2 _ => exact v1.symm.trans v2
  subst e6
  exact row_one N hr hr'

section
variable {κ : Type} [DecidableEq κ] {led : Led} {It : Value → κ → Prop} {h₀ : Heap} {L a b : Addr} {A : Around} {s : Shared} {xs ys : List (Value × κ)} {n n2 : Nat}
theorem gkeys_of_vals (hf : ∀ v k k', It v k → It v k' → k = k') : ∀ {xs ys : List (Value × κ)}, gvals xs = gvals ys → (∀ p ∈ xs, It p.1 p.2) → (∀ p ∈ ys, It p.1 p.2) → gkeys xs = gkeys ys
  | [], [], _, _, _ => rfl
  | [], _ :: _, h, _, _ => by simp [gvals] at h
  | _ :: _, [], h, _, _ => by simp [gvals] at h
  | x :: xs, y :: ys, h, hx, hy => by
    simp only [gvals, List.map_cons, List.cons.injEq] at h
    have e := hf x.1 x.2 y.2 (hx x (.head _)) (by rw [h.1]; exact hy y (.head _))
    simp only [gkeys, List.map_cons, List.cons.injEq]
    exact ⟨e, gkeys_of_vals hf h.2 (fun p hp => hx p (.tail _ hp)) fun p hp => hy p (.tail _ hp)⟩
theorem all_keys (xs ys : List (Value × κ)) (h : xs.length = ys.length) : (List.range xs.length).all (fun j => decide ((xs[j]?.map (·.2)) = (ys[j]?.map (·.2)))) = decide (gkeys xs = gkeys ys) := by
  by_cases e : gkeys xs = gkeys ys
  · rw [decide_eq_true e]
    refine List.all_eq_true.mpr fun j _ => decide_eq_true ?_
    have := congrArg (fun l => l[j]?) e
    simpa [gkeys] using this
  · rw [decide_eq_false e]
    refine Bool.eq_false_iff.mpr fun hall => e ?_
    refine List.ext_getElem? fun j => ?_
    by_cases hj : j < xs.length
    · have := of_decide_eq_true (List.all_eq_true.mp hall j (List.mem_range.mpr hj))
      simpa [gkeys] using this
    · have h1 : xs[j]? = none := by simp; omega
      have h2 : ys[j]? = none := by simp; omega
      simp [gkeys, h1, h2]
theorem lists_rc (hq : EqOn led It) (N : News h₀ L s.heap led) (ma : (a, listOf (gvals xs).toArray n) ∈ led) (mb : (b, listOf (gvals ys).toArray n2) ∈ led) (ha : ∀ p ∈ xs, It p.1 p.2) (hb : ∀ p ∈ ys, It p.1 p.2) (hu : A.units + 310 < cLine) :
    SeqAt.RcAt A s (.ref a) (.ref b) (decide (gkeys xs = gkeys ys)) := by
  have la : s.heap.IsList a (gvals xs).toArray := PySem.IsL.isList (n := n) (N _ ma).1
  have lb : s.heap.IsList b (gvals ys).toArray := PySem.IsL.isList (n := n2) (N _ mb).1
  by_cases hl : xs.length = ys.length
  · have := SeqAt.RcAt.lists (A := A) (e := fun j => decide ((xs[j]?.map (·.2)) = (ys[j]?.map (·.2)))) la lb (by simpa [gvals] using hl) (by omega) (fun j h1 h2 => ?_)
    · rw [show (gvals xs).toArray.size = xs.length by simp [gvals], all_keys xs ys hl] at this
      exact this
    · have h1' : j < xs.length := by simpa [gvals] using h1
      have h2' : j < ys.length := by simpa [gvals] using h2
      have := hq A h₀ L s (ys[j]).1 (xs[j]).1 (ys[j]).2 (xs[j]).2 (by omega) N (ha _ (List.getElem_mem h1')) (hb _ (List.getElem_mem h2'))
      simpa [gvals, h1', h2'] using this
  · have e : gkeys xs ≠ gkeys ys := fun e => hl (by simpa [gkeys] using congrArg List.length e)
    rw [decide_eq_false e]
    exact SeqAt.RcAt.lists_lengths la lb (by simpa [gvals] using hl) (by omega)
theorem lists_eqAt (hq : EqOn led It) (hf : FunOn led It) (N : News h₀ L s.heap led) (ma : (a, listOf (gvals xs).toArray n) ∈ led) (mb : (b, listOf (gvals ys).toArray n2) ∈ led) (ha : ∀ p ∈ xs, It p.1 p.2) (hb : ∀ p ∈ ys, It p.1 p.2) (hu : A.units + 310 < cLine) :
    SeqAt.EqAt A s (.ref a) (.ref b) (decide (gkeys xs = gkeys ys)) := by
  by_cases e : a = b
  · subst e
    have e1 := (N _ ma).1
    have e2 := (N _ mb).1
    simp only at e1 e2
    rw [e1] at e2
    have e3 := Option.some.inj e2
    simp only [W.listOf, Obj.mk.injEq, Data.seq.injEq] at e3
    have e4 : gvals xs = gvals ys := by simpa using e3.2.2.1.1
    rw [decide_eq_true (gkeys_of_vals (hf h₀ s.heap L N) e4 ha hb)]
    exact SeqAt.EqAt.same _
  · exact SeqAt.EqAt.of_refs e (lists_rc hq N ma mb ha hb hu)
end

section
variable {led : Led} {h₀ : Heap} {L a b : Addr} {A : Around} {s : Shared} {x0 x1 y0 y1 : Value} {n n2 : Nat} {e0 e1 : Bool}
abbrev tup2 (x y : Value) (k : Nat) : Obj := { cls := .type "tuple", data := .seq #[x, y] k }
theorem pair_rc (N : News h₀ L s.heap led) (ma : (a, tup2 x0 x1 n) ∈ led) (mb : (b, tup2 y0 y1 n2) ∈ led) (h0 : SeqAt.EqAt A.in1 s x0 y0 e0) (h1 : SeqAt.EqAt A.in1 s x1 y1 e1) (hu : A.units < cLine) : SeqAt.RcAt A s (.ref a) (.ref b) (e0 && e1) := by
  have := SeqAt.RcAt.tuples (A := A) (s := s) (l := a) (b := b) (items := #[x0, x1]) (items2 := #[y0, y1]) (e := fun j => if j = 0 then e0 else e1) ⟨_, (N _ ma).1, rfl, n, rfl⟩ ⟨_, (N _ mb).1, rfl, n2, rfl⟩ hu (fun j j1 j2 => ?_)
  · have e : ((List.range (min #[x0, x1].size #[y0, y1].size)).all (fun j => if j = 0 then e0 else e1) && #[x0, x1].size == #[y0, y1].size) = (e0 && e1) := by
      cases e0 <;> cases e1 <;> rfl
    rw [e] at this
    exact this
  · have hj : j = 0 ∨ j = 1 := by simp at j1; omega
    rcases hj with rfl | rfl
    · exact h0
    · exact h1
theorem pair_ne {prog : Program} {w : World} {E : Value → Shared → Prop} {Q : Value → Shared → Prop} (N : News h₀ L s.heap led) (ma : (a, tup2 x0 x1 n) ∈ led) (mb : (b, tup2 y0 y1 n2) ∈ led) (h0 : SeqAt.EqAt A.in1 s x0 y0 e0) (h1 : SeqAt.EqAt A.in1 s x1 y1 e1) (hu : A.units < cLine) (h : Q (.bool (!(e0 && e1))) s) :
    wpAny (model prog w) A (compareOp .NotEq (.ref a) (.ref b)) Q E s := by
  refine cmp_ofNotEq (SeqAt.RcNeAt.tuples (items := #[x0, x1]) (items2 := #[y0, y1]) (e := fun j => if j = 0 then e0 else e1) ⟨_, (N _ ma).1, rfl, n, rfl⟩ ⟨_, (N _ mb).1, rfl, n2, rfl⟩ hu (fun j j1 j2 => ?_) prog w E Q ?_)
  · have hj : j = 0 ∨ j = 1 := by simp at j1; omega
    rcases hj with rfl | rfl
    · exact h0
    · exact h1
  · have e : ((List.range (min #[x0, x1].size #[y0, y1].size)).all (fun j => if j = 0 then e0 else e1) && #[x0, x1].size == #[y0, y1].size) = (e0 && e1) := by
      cases e0 <;> cases e1 <;> rfl
    rw [e]; exact h
/-- two lists of two things -/
theorem two_ne {prog : Program} {w : World} {E : Value → Shared → Prop} {Q : Value → Shared → Prop} (N : News h₀ L s.heap led) (ma : (a, listOf #[x0, x1] n) ∈ led) (mb : (b, listOf #[y0, y1] n2) ∈ led) (h0 : SeqAt.EqAt A.in1 s x0 y0 e0) (h1 : SeqAt.EqAt A.in1 s x1 y1 e1) (hu : A.units < cLine) (h : Q (.bool (!(e0 && e1))) s) :
    wpAny (model prog w) A (compareOp .NotEq (.ref a) (.ref b)) Q E s := by
  refine cmp_ofNotEq (SeqAt.RcNeAt.lists (items := #[x0, x1]) (items2 := #[y0, y1]) (e := fun j => if j = 0 then e0 else e1) ⟨_, (N _ ma).1, rfl, n, rfl⟩ ⟨_, (N _ mb).1, rfl, n2, rfl⟩ rfl hu (fun j j1 j2 => ?_) prog w E Q ?_)
  · have hj : j = 0 ∨ j = 1 := by simp at j1; omega
    rcases hj with rfl | rfl
    · exact h0
    · exact h1
  · have e : (List.range #[x0, x1].size).all (fun j => if j = 0 then e0 else e1) = (e0 && e1) := by
      cases e0 <;> cases e1 <;> rfl
    rw [e]; exact h
end

section
variable {prog : Program} {w : World} {A : Around} {E : Value → Shared → Prop} {s : Shared} {h₀ : Heap} {L D B : Addr} {m : Str → Option Value} {led : Led} {vs us : List Value} {n n2 : Nat} {Q : Value → Shared → Prop}
theorem g_add (F : Fr h₀ L s.heap m) (N : News h₀ L s.heap led) (ma : (D, listOf vs.toArray n) ∈ led) (mb : (B, listOf us.toArray n2) ∈ led) (hz : vs.length + us.length < 1000000)
    (h : ∀ Z h', Fr h₀ L h' m → News h₀ L h' ((Z, listOf (vs ++ us).toArray 0) :: led) → (∀ p ∈ led, p.1 < Z) → Q (.ref Z) { s with heap := h' }) : wpAny (model prog w) A (binaryOp .Add (.ref D) (.ref B)) Q E s :=
  add_arrays F N (PySem.IsL.isList (n := n) (N _ ma).1) (PySem.IsL.isList (n := n2) (N _ mb).1) (fun h' F' N' => h _ h' F' (by simpa using N') fun p hp => Heap.lt_size (N p hp).1) (by simp only [List.size_toArray, sizeLine_eq]; omega)
theorem g_mul2 {u : Tok} (F : Fr h₀ L s.heap m) (N : News h₀ L s.heap led) (ma : (D, listOf vs.toArray n) ∈ led) (hz : vs.length < 1000000)
    (h : ∀ Z h', Fr h₀ L h' m → News h₀ L h' ((Z, listOf (vs ++ vs).toArray 0) :: led) → (∀ p ∈ led, p.1 < Z) → Q (.ref Z) { s with heap := h' }) : wpAny (model prog w) A (binaryOp .Mult (.ref D) (.int 2 u)) Q E s := by
  refine mul_list F N (N _ ma).1 (by decide) (by decide) (by rw [List.size_toArray]; show vs.length * 2 ≤ _; omega) fun h' F' N' => h _ h' F' ?_ fun p hp => Heap.lt_size (N p hp).1
  have e : List.foldl (fun x1 x2 => x1 ++ x2) #[] (List.replicate (if vs.toArray.isEmpty = true then 0 else Int.toNat 2) vs.toArray) = (vs ++ vs).toArray := by
    cases vs with
    | nil => rfl
    | cons v vs => simp [List.replicate]
  rw [e] at N'
  exact N'
end
end Mine
end PartQ1

section PartQ2
open PySem PySem.W PyProof.Rows PySem.Calls
namespace Mine
theorem two_count {r : List Int} (s : Int) (h : r.length = 5) : (twoCells r s).length ≤ 25 := by
  unfold twoCells
  rw [List.length_flatMap]
  have key : ∀ (l : List (List Int)), (∀ q ∈ l, q.length = 5) → (l.map fun q => (oneCell q (-s)).length).sum ≤ 5 * l.length := by
    intro l
    induction l with
    | nil => intro _; simp
    | cons q l ih =>
      intro hq
      have h1 := oneCell_count q (-s)
      have h2 := hq q (.head _)
      have h3 := ih fun p hp => hq p (.tail _ hp)
      simp only [List.map_cons, List.sum_cons, List.length_cons]
      omega
  have h1 := key (oneCell r s) (fun q hq => (oneCell_len hq).trans h)
  have h2 := oneCell_count r s
  omega
theorem mem_piece {q l : List Int} {p : Prop} [Decidable p] : q ∈ piece p l ↔ p ∧ q = l := by
  unfold piece
  by_cases h : p <;> simp [h]
theorem up_one {c d e : Int} (hc : 0 ≤ c) (hd : c ≤ d) (he : d ≤ e) {q : List Int} (h : q ∈ oneCell [0, 0, c, d, e] 1) : ∃ b' c' d' e', q = [0, b', c', d', e'] ∧ 0 ≤ b' ∧ b' ≤ c' ∧ c' ≤ d' ∧ d' ≤ e' := by
  rw [one5] at h
  simp only [List.mem_append, mem_piece] at h
  rcases h with ⟨p, rfl⟩ | ⟨p, rfl⟩ | ⟨p, rfl⟩ | ⟨p, rfl⟩ | ⟨p, rfl⟩
  · omega
  all_goals exact ⟨_, _, _, _, rfl, by omega, by omega, by omega, by omega⟩
theorem down_one {b c d e : Int} (hb : 0 ≤ b) (hc : b ≤ c) (hd : c ≤ d) (he : d ≤ e) {q : List Int} (h : q ∈ oneCell [0, b, c, d, e] (-1)) : ∃ b' c' d' e', q = [0, b', c', d', e'] ∧ 0 ≤ b' ∧ b' ≤ c' ∧ c' ≤ d' ∧ d' ≤ e' := by
  rw [one5] at h
  simp only [List.mem_append, mem_piece] at h
  rcases h with ⟨p, rfl⟩ | ⟨p, rfl⟩ | ⟨p, rfl⟩ | ⟨p, rfl⟩ | ⟨p, rfl⟩
  · omega
  all_goals exact ⟨_, _, _, _, rfl, by omega, by omega, by omega, by omega⟩
theorem two_rise {c d e : Int} (hc : 0 ≤ c) (hd : c ≤ d) (he : d ≤ e) {q : List Int} (h : q ∈ twoCells [0, 0, c, d, e] 1) : ∃ b' c' d' e', q = [0, b', c', d', e'] ∧ 0 ≤ b' ∧ b' ≤ c' ∧ c' ≤ d' ∧ d' ≤ e' := by
  unfold twoCells at h
  obtain ⟨p, hp, hq⟩ := List.mem_flatMap.mp h
  obtain ⟨b', c', d', e', rfl, h1, h2, h3, h4⟩ := up_one hc hd he hp
  exact down_one h1 h2 h3 h4 hq
section
variable {E Lw M1 M2 ms as : List (List Int)} {b v : List Int}
theorem tm_self (b : List Int) : tm (b = b) = 1 := if_pos rfl
theorem tm_count (b x : List Int) : tm (b = x) = [b].count x := by
  unfold tm; by_cases h : b = x <;> simp [h, List.count_cons]
theorem ends_pos (h : ∀ x, E.count x = Lw.count x + tm (b = x)) : 0 < E.length := by
  have h1 := h b
  rw [tm_self] at h1
  have h2 := List.count_le_length (a := b) (l := E)
  omega
theorem twice_ms (h : ∀ x, E.count x = Lw.count x + tm (b = x)) (hm : ∀ x, ms.count x = (E ++ E).count x - (Lw ++ Lw).count x) : ms = [b, b] := by
  have : ms.Perm (List.replicate 2 b) := List.perm_iff_count.mpr fun x => by
    rw [hm, List.count_append, List.count_append, h, tm_count, show List.replicate 2 b = [b] ++ [b] from rfl, List.count_append]
    omega
  exact List.perm_replicate.mp this
theorem twice_as (h : ∀ x, E.count x = Lw.count x + tm (b = x)) (hm : ∀ x, as.count x = (Lw ++ Lw).count x - (E ++ E).count x) : as = [] := by
  have : as.Perm [] := List.perm_iff_count.mpr fun x => by
    rw [hm, List.count_append, List.count_append, h]
    simp only [List.count_nil]
    omega
  exact this.eq_nil
theorem due_ms (h : ∀ x, E.count x = Lw.count x + tm (b = x)) (h' : ∀ x, M1.count x = M2.count x + tm (v = x)) (hm : ∀ x, ms.count x = (M2 ++ E).count x - (Lw ++ M1).count x) : ms = if v = b then [] else [b] := by
  by_cases e : v = b
  · rw [if_pos e]
    subst e
    have : ms.Perm [] := List.perm_iff_count.mpr fun x => by
      rw [hm, List.count_append, List.count_append, h, h']
      simp only [List.count_nil]
      omega
    exact this.eq_nil
  · rw [if_neg e]
    have : ms.Perm [b] := List.perm_iff_count.mpr fun x => by
      rw [hm, List.count_append, List.count_append, h, h', ← tm_count]
      by_cases e1 : b = x
      · subst e1
        have : tm (v = b) = 0 := if_neg e
        omega
      · have : tm (b = x) = 0 := if_neg e1
        omega
    exact List.perm_singleton.mp this
theorem due_as (h : ∀ x, E.count x = Lw.count x + tm (b = x)) (h' : ∀ x, M1.count x = M2.count x + tm (v = x)) (hm : ∀ x, as.count x = (Lw ++ M1).count x - (M2 ++ E).count x) : as = if v = b then [] else [v] := by
  by_cases e : v = b
  · rw [if_pos e]
    subst e
    have : as.Perm [] := List.perm_iff_count.mpr fun x => by
      rw [hm, List.count_append, List.count_append, h, h']
      simp only [List.count_nil]
      omega
    exact this.eq_nil
  · rw [if_neg e]
    have : as.Perm [v] := List.perm_iff_count.mpr fun x => by
      rw [hm, List.count_append, List.count_append, h, h', ← tm_count]
      by_cases e1 : v = x
      · subst e1
        have : tm (b = v) = 0 := if_neg fun e2 => e e2.symm
        omega
      · have : tm (v = x) = 0 := if_neg e1
        omega
    exact List.perm_singleton.mp this
end

theorem cnt (x : List Int) (l : List (List Int)) : @List.count (List Int) instBEqOfDecidableEq x l = @List.count (List Int) List.instBEq x l := by
  have e : (instBEqOfDecidableEq : BEq (List Int)) = List.instBEq := by
    have : ∀ (a b : List Int), @BEq.beq _ instBEqOfDecidableEq a b = @BEq.beq _ List.instBEq a b := by
      intro a b
      by_cases h : a = b
      · subst h; rw [@beq_self_eq_true _ List.instBEq]; exact decide_eq_true rfl
      · rw [show @BEq.beq _ List.instBEq a b = false from beq_eq_false_iff_ne.mpr h]; exact decide_eq_false h
    show BEq.mk _ = BEq.mk _
    exact congrArg BEq.mk (funext fun a => funext fun b => this a b)
  rw [e]

theorem lists_same {κ : Type} [DecidableEq κ] {led : Led} {It : Value → κ → Prop} {h₀ : Heap} {L a b : Addr} {A : Around} {s : Shared} {xs ys : List (Value × κ)} {n n2 : Nat} (hq : EqOn led It) (hf : FunOn led It) (N : News h₀ L s.heap led) (ma : (a, listOf (gvals xs).toArray n) ∈ led) (mb : (b, listOf (gvals ys).toArray n2) ∈ led) (ha : ∀ p ∈ xs, It p.1 p.2) (hb : ∀ p ∈ ys, It p.1 p.2) (hu : A.units + 310 < cLine) (he : gkeys xs = gkeys ys) :
    SeqAt.EqAt A s (.ref a) (.ref b) true := by
  have := lists_eqAt hq hf N ma mb ha hb hu
  rwa [decide_eq_true he] at this

theorem pair_same {prog : Program} {w : World} {led : Led} {h₀ : Heap} {L a b : Addr} {A : Around} {s : Shared} {x0 x1 y0 y1 : Value} {n n2 : Nat} {E : Value → Shared → Prop} {Q : Value → Shared → Prop} (N : News h₀ L s.heap led) (ma : (a, tup2 x0 x1 n) ∈ led) (mb : (b, tup2 y0 y1 n2) ∈ led) (h0 : SeqAt.EqAt A.in1 s x0 y0 true) (h1 : SeqAt.EqAt A.in1 s x1 y1 true) (hu : A.units < cLine) (h : Q (.bool false) s) :
    wpAny (model prog w) A (compareOp .NotEq (.ref a) (.ref b)) Q E s := pair_ne N ma mb h0 h1 hu h
theorem two_same {prog : Program} {w : World} {led : Led} {h₀ : Heap} {L a b : Addr} {A : Around} {s : Shared} {x0 x1 y0 y1 : Value} {n n2 : Nat} {E : Value → Shared → Prop} {Q : Value → Shared → Prop} (N : News h₀ L s.heap led) (ma : (a, listOf #[x0, x1] n) ∈ led) (mb : (b, listOf #[y0, y1] n2) ∈ led) (h0 : SeqAt.EqAt A.in1 s x0 y0 true) (h1 : SeqAt.EqAt A.in1 s x1 y1 true) (hu : A.units < cLine) (h : Q (.bool false) s) :
    wpAny (model prog w) A (compareOp .NotEq (.ref a) (.ref b)) Q E s := two_ne N ma mb h0 h1 hu h
theorem in_big {a b c d p : Addr × Obj} {tl G : Led} (hp : p ∈ G) : p ∈ a :: b :: c :: (tl ++ d :: G) := .tail _ (.tail _ (.tail _ (List.mem_append.mpr (.inr (.tail _ hp)))))
theorem in_big' {a b c d p : Addr × Obj} {tl G : Led} (hp : p ∈ tl ++ G) : p ∈ a :: b :: c :: (tl ++ d :: G) := .tail _ (.tail _ (.tail _ (List.mem_append.mpr ((List.mem_append.mp hp).imp id (.tail _)))))

theorem none_of {κ : Type} [DecidableEq κ] {ms es qs : List κ} (h : ∀ x, ms.count x = es.count x - qs.count x) (hs : ∀ x, es.count x ≤ qs.count x) : ms = [] := by
  have : ms.Perm [] := List.perm_iff_count.mpr fun x => by
    have h1 := h x
    have h2 := hs x
    simp only [List.count_nil]
    omega
  exact this.eq_nil
theorem both_of {κ : Type} [DecidableEq κ] {as qs : List κ} {b : κ} (h : ∀ x, as.count x = qs.count x - ([] : List κ).count x) (hq : qs = [b, b]) : as = [b, b] := by
  have : as.Perm (List.replicate 2 b) := List.perm_iff_count.mpr fun x => by
    have h1 := h x
    rw [List.count_nil, hq] at h1
    exact h1
  exact List.perm_replicate.mp this

theorem pair_like {led : Led} {h₀ : Heap} {L a b : Addr} {A : Around} {s : Shared} {x0 x1 y0 y1 : Value} {n n2 : Nat} (N : News h₀ L s.heap led) (ma : (a, tup2 x0 x1 n) ∈ led) (mb : (b, tup2 y0 y1 n2) ∈ led) (h0 : SeqAt.EqAt A.in1 s x0 y0 true) (h1 : SeqAt.EqAt A.in1 s x1 y1 true) (hu : A.units < cLine) : SeqAt.EqAt A s (.ref a) (.ref b) true := by
  by_cases e : a = b
  · subst e; exact SeqAt.EqAt.same _
  · exact SeqAt.EqAt.of_refs e (pair_rc N ma mb h0 h1 hu)

section
variable {a1 a2 a3 a4 a5 a6 b1 b2 b3 p : Addr × Obj} {tl G : Led}
theorem in6 (hp : p ∈ b1 :: b2 :: b3 :: G) : p ∈ a1 :: a2 :: a3 :: a4 :: a5 :: a6 :: (tl ++ b1 :: b2 :: b3 :: G) := .tail _ (.tail _ (.tail _ (.tail _ (.tail _ (.tail _ (List.mem_append.mpr (.inr hp)))))))
theorem in6g (hp : p ∈ G) : p ∈ a1 :: a2 :: a3 :: a4 :: a5 :: a6 :: (tl ++ b1 :: b2 :: b3 :: G) := in6 (.tail _ (.tail _ (.tail _ hp)))
theorem in6' (hp : p ∈ tl ++ G) : p ∈ a1 :: a2 :: a3 :: a4 :: a5 :: a6 :: (tl ++ b1 :: b2 :: b3 :: G) := .tail _ (.tail _ (.tail _ (.tail _ (.tail _ (.tail _ (List.mem_append.mpr ((List.mem_append.mp hp).imp id fun h => .tail _ (.tail _ (.tail _ h)))))))))
end

theorem pair_eq {prog : Program} {w : World} {led : Led} {h₀ : Heap} {L a b : Addr} {A : Around} {s : Shared} {x0 x1 y0 y1 : Value} {n n2 : Nat} {E : Value → Shared → Prop} {Q : Value → Shared → Prop} (N : News h₀ L s.heap led) (ma : (a, tup2 x0 x1 n) ∈ led) (mb : (b, tup2 y0 y1 n2) ∈ led) (h0 : SeqAt.EqAt A.in1 s x0 y0 true) (h1 : SeqAt.EqAt A.in1 s x1 y1 true) (hu : A.units < cLine) (h : Q (.bool true) s) :
    wpAny (model prog w) A (compareOp .Eq (.ref a) (.ref b)) Q E s := cmp_ofEq (pair_rc N ma mb h0 h1 hu prog w E Q h)

theorem ConL.use {w : World} {k : Nat} {f : Addr} {args : List Value} {led : Led} {post : Value → Led → Prop} (C : ConL w k f args led post)
    {A : Around} {h₀ : Heap} {L a : Addr} {cn : Str} {cs : Scope} {ccd : Value} {m : Str → Option Value} {mean : ExcName → Option Value} {mg mb : Str → Option Value} {s : Shared} {Q E : Value → Shared → Prop}
    (F : Fr h₀ L s.heap m) (X : (Mine.hd.heap_39 w.params).In h₀) (N : News h₀ L s.heap led) (T : Top Mine.hd.view_39 [] mean mg mb h₀)
    (hA : A.frames = some [envOf cn cs L a ccd]) (hck : cs.kind = .function) (hh : A.handled = none) (hd : A.depth + k < recursionLimit) (hu : A.units + 8 * k + 1000 < cLine)
    (hret : ∀ r led' h' tk', Fr h₀ L h' m → News h₀ L h' led' → post r led' → Q r { s with heap := h', toks := tk' }) :
    wpAny (model PySem.Challenge.rw_ny0059_01.prog w) A (call (.ref f) args) Q E s :=
  C A h₀ L a cn cs ccd m [] mean mg mb s Q E F X N T rfl hA hck hh hd hu hret

/-- True and 1: things that are all like one another -/
def OneIn (v : Value) (_ : Unit) : Prop := v = .bool true ∨ ∃ t, v = .int 1 t
theorem ones_fun (led : Led) : FunOn led OneIn := fun _ _ _ _ _ _ _ _ _ => rfl
theorem ones_on (led : Led) : EqOn led OneIn := by
  intro A h₀ L s x y kx ky hu N hy hx
  rcases hy with rfl | ⟨t, rfl⟩ <;> rcases hx with rfl | ⟨t', rfl⟩
  · exact SeqAt.EqAt.bool_bool _ _
  · exact SeqAt.EqAt.bool_int _ _ _
  · exact SeqAt.EqAt.int_bool _ _ _
  · exact SeqAt.EqAt.int_int _ _ _ _
end Mine
end PartQ2

section PartL2
open PySem PySem.W PyProof.Rows PySem.Calls
namespace Mine
local macro_rules | `(tactic| k_steps) => `(tactic| repeat' ((fail_if_success (with_reducible show wpAny _ _ (exec (Stmt.While _ _ _ _) _) _ _ _)); (fail_if_success (with_reducible show wpAny _ _ (pyIter _) _ _ _)); (fail_if_success (with_reducible show wpAny _ _ (eval (Expr.ListComp _ _ _ _) _) _ _ _)); (fail_if_success (with_reducible show wpAny _ _ (call (Value.ref _) _ _) _ _ _));  (fail_if_success (with_reducible show wpAny _ _ (compareOp _ (Value.ref _) (Value.ref _)) _ _ _)); (fail_if_success (with_reducible show wpAny _ _ (binaryOp _ (Value.ref _) _) _ _ _)); (fail_if_success (with_reducible show wpAny _ _ (subscriptTail _ _ (Value.ref _) _) _ _ _)); (first | (k_unfold; (try dsimp only)) | (k_end; kc_close) | walk1 | (dsimp only; walk1) | (leave1; walk_say "STEP leave1"; (try dsimp only)) | fail "no step")))

theorem swap2 {h₀ h : Heap} {L : Addr} {p q : Addr × Obj} {G : Led} (N : News h₀ L h (p :: q :: G)) : News h₀ L h (q :: p :: G) :=
  nsub N fun x hx => by
    simp only [List.mem_cons] at hx ⊢
    rcases hx with h | h | h <;> simp [h]
theorem with_obj {K : Frag} {a : Addr} {o o' : Obj} {P : Prop} (h : K.lookup a = some o) (h' : K.lookup a = some o') (k : o' = o → P) : P := k (Option.some.inj (h'.symm.trans h))

set_option maxRecDepth 100000 in
set_option maxHeartbeats 8000000 in
theorem law_rest (w : World) (nm qual : Str) (params : Arguments) (b0 : Stmt) (body : List Stmt) (scope : Scope) (dV kV doc pm cdv ct oc : Value) (an od : Option Addr) (osl : Array (Option Value))
    (hb : (Mine.hd.heap_39 w.params).lookup 87 = some ⟨oc, od, .func (fnOf nm qual params (b0 :: body) scope dV kV doc pm an cdv ct), osl⟩)
    (h₀ : Heap) (L fa S Bg : Addr) (cd : Value) (m₁ : Str → Option Value) (mean : ExcName → Option Value) (mg mb : Str → Option Value) (s : Shared) (Q : Flow → Shared → Prop) (E : Value → Shared → Prop)
    (led : Led) (n : Nat) (c d e : Int) (t0 t1 t2 t3 t4 : Tok) (vs : List Value) (ns : List Int)
    (B : Below callerA h₀ [] h₀) (F : Fr h₀ L s.heap (kstB m₁ [(Str.ofString "begun", .ref Bg), (Str.ofString "script", .ref S)])) (X : (Mine.hd.heap_39 w.params).In h₀) (N : News h₀ L s.heap led) (T : Top Mine.hd.view_39 [] mean mg mb h₀)
    (hm : (Bg, listOf #[.int 0 t0, .int 0 t1, .int c t2, .int d t3, .int e t4] n) ∈ led) (hc : 0 ≤ c) (hcd : c ≤ d) (hde : d ≤ e) (hS : h₀.IsList S vs.toArray) (hI : IntsAre vs ns) (hns : ns.length ≤ 63)
    (hret : ∀ h' m' tk', Fr h₀ L h' m' → Q (.ret (.bool true)) { s with heap := h', toks := tk' }) :
    wpAny (model PySem.Challenge.rw_ny0059_01.prog w) (callerA.deeper (envOf qual scope L fa cd)) (execs body (envOf qual scope L fa cd)) Q E s := by
  revert X
  k_fill
  intro X
  k_dflt (refine' with_obj hb ?k ?_; (case k => k_is))
  intro heq
  injection heq with e1 e2 e3 e4
  injection e3 with e3
  injection e3 with q1 q2 q3 q4 q5 q6 q7 q8 q9 q10 q11 q12 q13 q14 q15
  injection q4 with q4
  injection q4 with q4 q4'
  subst q4' q5 q2
  clear hb q1 q3 q6 q7 q8 q9 q10 q11 q12 q13 q14 q15 q4 e1 e2 e4
  have hcL := cLine_is
  k_steps
  refine Con.use (c_two w led Bg n 0 0 c d e 1 t0 t1 t2 t3 t4 _ hm) B F X N T rfl rfl rfl rfl (by simp only [depth_deeper, depth_caller]; decide) (by simp only [units_deeper, units_caller]; decide) ?_
  rintro r led1 h1 tk1 F1 N1 ⟨tlE, En, psE, kE, rfl, hltE, rfl, hmE, hrE, hkE⟩
  k_steps
  (rename Fr _ _ _ _ => F2); (rename News _ _ _ _ => N2)
  refine Con.use (c_two w (tlE ++ led) Bg n 0 0 c d e (-1) t0 t1 t2 t3 t4 _ (List.mem_append.mpr (.inr hm))) B F2 X N2 T rfl rfl rfl rfl (by simp only [depth_deeper, depth_caller]; decide) (by simp only [units_deeper, units_caller]; decide) ?_
  rintro r led2 h3 tk3 F3 N3 ⟨tlL, Lo, psL, kL, rfl, hltL, rfl, hmL, hrL, hkL⟩
  k_steps
  have hU := up_down 0 0 c d e rfl (by omega) hc hcd hde
  have h5 : ([0, 0, c, d, e] : List Int).length = 5 := rfl
  have lE : psE.length ≤ 25 := by have := two_count 1 h5; rw [← hkE] at this; simpa [keys] using this
  have lL : psL.length ≤ 25 := by have := two_count (-1) h5; rw [← hkL] at this; simpa [keys] using this
  clear hltE hltL
  have hBg : (Bg, listOf #[.int 0 t0, .int 0 t1, .int c t2, .int d t3, .int e t4] n) ∈ tlL ++ (tlE ++ led) := by simp [hm]
  have hEn : (En, listOf (vals psE).toArray kE) ∈ tlL ++ (tlE ++ led) := by simp [hmE]
  have hLo : (Lo, listOf (vals psL).toArray kL) ∈ tlL ++ (tlE ++ led) := by simp [hmL]
  replace hrE : RowsIn (tlL ++ (tlE ++ led)) psE := hrE.mono (by intro p hp; simp [hp])
  replace hrL : RowsIn (tlL ++ (tlE ++ led)) psL := hrL.mono (by intro p hp; simp [hp])
  clear hm hmE hmL; try clear N2; try clear F2; try clear N; try clear F
  (rename Fr _ _ _ _ => F4); (rename News _ _ _ _ => N4)
  generalize tlL ++ (tlE ++ led) = G at *
  try clear N1; try clear F1; try clear N3; try clear F3
  refine g_mul2 F4 N4 hEn (by simp [vals]; omega) ?_
  intro Z1 h5 F5 N5 lZ1
  k_steps
  (rename Fr _ _ _ _ => F6); (rename News _ _ _ _ => N6)
  have vE : vals psE ++ vals psE = vals (psE ++ psE) := by simp [vals]
  rw [vE] at N6
  refine Con.use (c_tables w _ G Z1 0 (psE ++ psE) (.head _) (fun p hp => (List.mem_append.mp hp).elim (hrE p) (hrE p)) (by simp; omega)) B F6 X N6 T rfl rfl rfl rfl (by simp only [depth_deeper, depth_caller]; decide) (by simp only [units_deeper, units_caller]; decide) ?_
  rintro r led3 h7 tk7 F7 N7 ⟨D1, tl1, qs1, k1, rfl, rfl, hD1, hn1, hi1, hk1⟩
  k_steps
  (rename Fr _ _ _ _ => F8); (rename News _ _ _ _ => N8)
  replace N8 := nsub N8 (led' := (D1, listOf (gvals qs1).toArray k1) :: (tl1 ++ G)) (by intro p hp; simp only [List.mem_cons, List.mem_append] at hp ⊢; rcases hp with h | h | h <;> simp [h])
  refine g_mul2 F8 N8 (.tail _ (List.mem_append.mpr (.inr hLo))) (by simp [vals]; omega) ?_
  intro Z2 h9 F9 N9 lZ2
  k_steps
  (rename Fr _ _ _ _ => F10); (rename News _ _ _ _ => N10)
  have vL : vals psL ++ vals psL = vals (psL ++ psL) := by simp [vals]
  rw [vL] at N10
  refine Con.use (c_tables w _ G Z2 0 (psL ++ psL) (.head _) (fun p hp => (List.mem_append.mp hp).elim (hrL p) (hrL p)) (by simp; omega)) B F10 X N10 T rfl rfl rfl rfl (by simp only [depth_deeper, depth_caller]; decide) (by simp only [units_deeper, units_caller]; decide) ?_
  rintro r led4 h11 tk11 F11 N11 ⟨D2, tl2, qs2, k2, rfl, rfl, hD2, hn2, hi2, hk2⟩
  k_steps
  (rename Fr _ _ _ _ => F12); (rename News _ _ _ _ => N12)
  have lq1 : qs1.length ≤ 50 := by have := congrArg List.length hk1; simp [gkeys, keys] at this; omega
  have lq2 : qs2.length ≤ 50 := by have := congrArg List.length hk2; simp [gkeys, keys] at this; omega
  refine ConL.use (c_uld w (tl2 ++ (tl1 ++ G)) (TabIn (tl2 ++ (tl1 ++ G))) (tabs_on _) D1 D2 k1 k2 qs1 qs2 (hD2 (D1, listOf (gvals qs1).toArray k1) (by simp)) ?_ ?_ (fun p hp => (hi1 p hp).mono (by intro p hp; simp only [List.mem_append] at hp ⊢; rcases hp with h | h <;> simp [h])) (fun p hp => (hi2 p hp).mono (by intro p hp; simp only [List.mem_append] at hp ⊢; rcases hp with h | h <;> simp [h])) (by omega) (by omega)) F12 X (nsub N12 ?_) T rfl rfl rfl (by simp only [depth_deeper, depth_caller]; decide) (by simp only [units_deeper, units_caller]; decide) ?_
  · intro p hp
    rcases List.mem_append.mp hp with h | h
    · exact (hn2 p h _ (.tail _ (.head _))).symm
    · rcases List.mem_append.mp h with h' | h'
      · exact hD1 p (by simp [h'])
      · exact hD1 p (by simp [h'])
  · intro p hp
    refine hD2 p ?_
    simp only [List.mem_append] at hp
    simp only [List.mem_append, List.mem_cons]
    rcases hp with h | h | h <;> simp [h]
  · intro p hp
    simp only [List.mem_append, List.mem_cons] at hp ⊢
    rcases hp with h | h | h | h | h <;> simp [h]
  rintro r G2 h13 tk13 F13 N13 ⟨hs2, t2, M2, ms2, as2, c0, c1, c2, rfl, ht2, hM2, hA2, hims, hias, hcms, hcas⟩
  have eU : ∀ x, (gkeys qs1).count x - (gkeys qs2).count x = (keys psE ++ keys psE).count x - (keys psL ++ keys psL).count x := fun x => by rw [hk1, hk2]; simp [keys]
  have eV : ∀ x, (gkeys qs2).count x - (gkeys qs1).count x = (keys psL ++ keys psL).count x - (keys psE ++ keys psE).count x := fun x => by rw [hk1, hk2]; simp [keys]
  rw [← hkE, ← hkL] at hU
  have hms2 := twice_ms hU fun x => (cnt x _).symm.trans ((hcms x).trans (by rw [cnt, cnt]; exact eU x))
  have has2 := twice_as hU fun x => (cnt x _).symm.trans ((hcas x).trans (by rw [cnt, cnt]; exact eV x))
  clear hcms hcas eU eV
  replace hims : ∀ p ∈ ms2, TabIn G2 p.1 p.2 := fun p hp => (hims p hp).mono hs2
  replace hias : ∀ p ∈ as2, TabIn G2 p.1 p.2 := fun p hp => (hias p hp).mono hs2
  have sG : ∀ p ∈ G, p ∈ G2 := fun p hp => hs2 p (by simp [hp])
  replace hBg := sG _ hBg
  replace hEn := sG _ hEn
  replace hLo := sG _ hLo
  replace hrE : RowsIn G2 psE := hrE.mono sG
  replace hrL : RowsIn G2 psL := hrL.mono sG
  clear hs2 sG hi1 hi2 hn1 hn2 hD1 hD2 lZ1 lZ2
  try clear N11
  try clear F11
  k_steps
  (rename Fr _ _ _ _ => F14); (rename News _ _ _ _ => N14)
  have hrB : RowIn G2 (.ref Bg) [0, 0, c, d, e] := ⟨Bg, _, n, rfl, hBg, .cons _ _ (.cons _ _ (.cons _ _ (.cons _ _ (.cons _ _ .nil))))⟩
  have hrBB : RowsIn G2 [(.ref Bg, [0, 0, c, d, e]), (.ref Bg, [0, 0, c, d, e])] := by
    intro p hp
    simp only [List.mem_cons, List.not_mem_nil, or_false] at hp
    rcases hp with rfl | rfl <;> exact hrB
  refine Con.use (c_tables w _ G2 _ 0 [(.ref Bg, [0, 0, c, d, e]), (.ref Bg, [0, 0, c, d, e])] (.head _) hrBB (by simp only [List.length_cons, List.length_nil]; omega)) B F14 X N14 T rfl rfl rfl rfl (by simp only [depth_deeper, depth_caller]; decide) (by simp only [units_deeper, units_caller]; decide) ?_
  rintro r led5 h15 tk15 F15 N15 ⟨D3, tl3, qs3, k3, rfl, rfl, hD3, hn3, hi3, hk3⟩
  k_steps
  (rename Fr _ _ _ _ => F16); (rename News _ _ _ _ => N16)
  refine pair_same N16 (in_big ht2) (.head _) (lists_same (tabs_on _) (tabs_fun _ PySem.Challenge.rw_ny0059_01.prog w) N16 (in_big hM2) (.tail _ (.tail _ (.head _))) (fun p hp => (hims p hp).mono fun p hp => in_big hp) (fun p hp => (hi3 p hp).mono fun p hp => in_big' hp) (by simp only [Around.in1_units, units_deeper, units_caller]; decide) (by rw [hms2, hk3]; rfl))
    (lists_same (ys := []) (tabs_on _) (tabs_fun _ PySem.Challenge.rw_ny0059_01.prog w) N16 (in_big hA2) (.tail _ (.head _)) (fun p hp => (hias p hp).mono fun p hp => in_big hp) (fun p hp => nomatch hp) (by simp only [Around.in1_units, units_deeper, units_caller]; decide) (by rw [has2]; rfl)) (by simp only [units_deeper, units_caller]; decide) ?_
  replace N16 := nsub N16 (led' := G2) fun p hp => in_big hp
  clear hi3 hD3 hn3 hims hias ht2 hM2 hA2 hms2 has2
  k_steps
  rename_i E1 hq1 lE1 BBl hq2 F18 N18 lBB
  refine Con.use (c_tables w _ G2 BBl 0 [(.ref Bg, [0, 0, c, d, e]), (.ref Bg, [0, 0, c, d, e])] (.head _) hrBB (by simp only [List.length_cons, List.length_nil]; omega)) B F18 X N18 T rfl rfl rfl rfl (by simp only [depth_deeper, depth_caller]; decide) (by simp only [units_deeper, units_caller]; decide) ?_
  rintro r led6 h19 tk19 F19 N19 ⟨D4, tl4, qs4, k4, rfl, rfl, hD4, hn4, hi4, hk4⟩
  k_steps
  (rename Fr _ _ _ _ => F20); (rename News _ _ _ _ => N20)
  have lq4 : qs4.length ≤ 50 := by have := congrArg List.length hk4; simp [gkeys, keys] at this; omega
  refine ConL.use (c_uld w (tl4 ++ G2) (TabIn (tl4 ++ G2)) (tabs_on _) E1 D4 0 k4 [] qs4 (hD4 (E1, listOf #[] 0) (by simp)) ?_ ?_ (fun p hp => nomatch hp) hi4 (by simp) (by omega)) F20 X (nsub N20 ?_) T rfl rfl rfl (by simp only [depth_deeper, depth_caller]; decide) (by simp only [units_deeper, units_caller]; decide) ?_
  · intro p hp
    rcases List.mem_append.mp hp with h | h
    · exact (hn4 p h (E1, listOf #[] 0) (by simp)).symm
    · exact Nat.ne_of_lt (lE1 p h)
  · intro p hp
    refine hD4 p ?_
    simp only [List.mem_append] at hp
    simp only [List.mem_append, List.mem_cons]
    rcases hp with h | h <;> simp [h]
  · intro p hp
    simp only [List.mem_append, List.mem_cons] at hp ⊢
    rcases hp with h | h | h | h <;> simp [h, gvals]
  rintro r G3 h21 tk21 F21 N21 ⟨hs3, t3, M3, ms3, as3, c3, c4, c5, rfl, ht3, hM3, hA3, hims, hias, hcms, hcas⟩
  have hms3 := none_of hcms (fun x => by simp [gkeys])
  have has3 := both_of hcas hk4
  replace hims : ∀ p ∈ ms3, TabIn G3 p.1 p.2 := fun p hp => (hims p hp).mono hs3
  replace hias : ∀ p ∈ as3, TabIn G3 p.1 p.2 := fun p hp => (hias p hp).mono hs3
  have sG3 : ∀ p ∈ G2, p ∈ G3 := fun p hp => hs3 p (by simp [hp])
  replace hBg := sG3 _ hBg
  replace hEn := sG3 _ hEn
  replace hLo := sG3 _ hLo
  replace hrE : RowsIn G3 psE := hrE.mono sG3
  replace hrL : RowsIn G3 psL := hrL.mono sG3
  replace hrB := hrB.mono sG3
  replace hrBB : RowsIn G3 _ := hrBB.mono sG3
  clear hcms hcas hs3 sG3 hi4 hn4 hD4 lE1 lBB
  k_steps
  rename_i E2 hq3 lE2 W2 hq4 F22 N22 lW2
  refine ConL.use (c_uld w G3 OneIn (ones_on _) E2 W2 0 0 [(.bool true, ())] [(.int 1 _, ())] (Nat.ne_of_lt lW2.1) (fun p hp => Nat.ne_of_lt (lE2 p hp)) (allLt_ne lW2.2) ?_ ?_ (by simp) (by simp)) F22 X (swap2 N22) T rfl rfl rfl (by simp only [depth_deeper, depth_caller]; decide) (by simp only [units_deeper, units_caller]; decide) ?_
  · intro p hp
    simp only [List.mem_cons, List.not_mem_nil, or_false] at hp
    subst hp
    exact .inl rfl
  · intro p hp
    simp only [List.mem_cons, List.not_mem_nil, or_false] at hp
    subst hp
    exact .inr ⟨_, rfl⟩
  rintro r G4 h23 tk23 F23 N23 ⟨sG4, t4', M4, ms4, as4, c6, c7, c8, rfl, ht4, hM4, hA4, hims4, hias4, hcms, hcas⟩
  have hms4 := none_of hcms (fun x => by simp [gkeys])
  have has4 := none_of hcas (fun x => by simp [gkeys])
  clear hcms hcas
  replace hims : ∀ p ∈ ms3, TabIn G4 p.1 p.2 := fun p hp => (hims p hp).mono sG4
  replace hias : ∀ p ∈ as3, TabIn G4 p.1 p.2 := fun p hp => (hias p hp).mono sG4
  replace hBg := sG4 _ hBg
  replace hEn := sG4 _ hEn
  replace hLo := sG4 _ hLo
  replace ht3 := sG4 _ ht3
  replace hM3 := sG4 _ hM3
  replace hA3 := sG4 _ hA3
  replace hrE : RowsIn G4 psE := hrE.mono sG4
  replace hrL : RowsIn G4 psL := hrL.mono sG4
  replace hrB := hrB.mono sG4
  replace hrBB : RowsIn G4 _ := hrBB.mono sG4
  clear sG4 lE2 lW2
  k_steps
  rename_i Lf hq5 lLf hq6 E3 hq7 lE3 BB2 hq8 F24 N24 lBB2
  refine Con.use (c_tables w _ G4 BB2 0 [(.ref Bg, [0, 0, c, d, e]), (.ref Bg, [0, 0, c, d, e])] (.head _) hrBB (by simp only [List.length_cons, List.length_nil]; omega)) B F24 X N24 T rfl rfl rfl rfl (by simp only [depth_deeper, depth_caller]; decide) (by simp only [units_deeper, units_caller]; decide) ?_
  rintro r led7 h25 tk25 F25 N25 ⟨D5, tl5, qs5, k5, rfl, rfl, hD5, hn5, hi5, hk5⟩
  clear lE3 lBB2 lLf hD5 hn5
  k_steps
  (rename Fr _ _ _ _ => F26); (rename News _ _ _ _ => N26)
  refine two_same N26 (in6 (.tail _ (.tail _ (.head _)))) (.head _)
    (pair_like N26 (in6g ht3) (.tail _ (.tail _ (.tail _ (.tail _ (.head _)))))
      (lists_same (ys := []) (tabs_on _) (tabs_fun _ PySem.Challenge.rw_ny0059_01.prog w) N26 (in6g hM3) (in6 (.tail _ (.head _))) (fun p hp => (hims p hp).mono fun p hp => in6g hp) (fun p hp => nomatch hp) (by simp only [Around.in1_units, units_deeper, units_caller]; decide) (by rw [hms3]; rfl))
      (lists_same (tabs_on _) (tabs_fun _ PySem.Challenge.rw_ny0059_01.prog w) N26 (in6g hA3) (.tail _ (.tail _ (.tail _ (.tail _ (.tail _ (.head _)))))) (fun p hp => (hias p hp).mono fun p hp => in6g hp) (fun p hp => (hi5 p hp).mono fun p hp => in6' hp) (by simp only [Around.in1_units, units_deeper, units_caller]; decide) (by rw [has3, hk5]; rfl))
      (by simp only [Around.in1_units, units_deeper, units_caller]; decide))
    (pair_like N26 (in6g ht4) (.tail _ (.head _))
      (lists_same (ys := []) (ones_on _) (ones_fun _) N26 (in6g hM4) (.tail _ (.tail _ (.tail _ (.head _)))) hims4 (fun p hp => nomatch hp) (by simp only [Around.in1_units, units_deeper, units_caller]; decide) (by rw [hms4]; rfl))
      (lists_same (ys := []) (ones_on _) (ones_fun _) N26 (in6g hA4) (.tail _ (.tail _ (.head _))) hias4 (fun p hp => nomatch hp) (by simp only [Around.in1_units, units_deeper, units_caller]; decide) (by rw [has4]; rfl))
      (by simp only [Around.in1_units, units_deeper, units_caller]; decide))
    (by simp only [Around.in1_units, units_deeper, units_caller]; decide) ?_
  replace N26 := nsub N26 (led' := G4) fun p hp => in6g hp
  clear hi5 hims hias hims4 hias4 ht3 ht4 hM3 hM4 hA3 hA4 hms3 hms4 has3 has4 hk5 hk4 hk3 hk2 hk1
  k_steps
  (rename Fr _ _ _ _ => F28); (rename News _ _ _ _ => N28)
  have hpos : 0 < psE.length := by have := ends_pos hU; simpa [keys] using this
  have hlv : (vals psE).length = psE.length := by simp [vals]
  refine g_len N28 hEn (by rw [hlv]; omega) ?_
  rw [hlv]
  have hnz : ((psE.length : Nat) : Int) ≠ 0 := by omega
  k_steps
  have hk0 : 0 ≤ (1 + ns.sum).fmod ↑psE.length := Int.fmod_nonneg_of_pos _ (by omega)
  have hk1 : (1 + ns.sum).fmod ↑psE.length < ↑psE.length := Int.fmod_lt_of_pos _ (by omega)
  obtain ⟨it, hit⟩ : ∃ it, psE[((1 + ns.sum).fmod ↑psE.length).toNat]? = some it := ⟨_, List.getElem?_eq_getElem (by omega)⟩
  have hmem := List.mem_of_getElem? hit
  have hkey : it.2 ∈ twoCells [0, 0, c, d, e] 1 := by rw [← hkE]; exact List.mem_map_of_mem hmem
  obtain ⟨b', c', d', e', hit2, r1, r2, r3, r4⟩ := two_rise hc hcd hde hkey
  obtain ⟨Mv, us, nM, hv, hMv, hIu⟩ := hrE it hmem
  rw [hit2] at hIu
  obtain ⟨u0, u1, u2, u3, u4, rfl⟩ := five_vals hIu
  have hV := up_down 0 b' c' d' e' rfl r1 r2 r3 r4
  have h5' : ([0, b', c', d', e'] : List Int).length = 5 := rfl
  refine g_sub N28 hEn hk0 (by omega) (v := .ref Mv) (by simp [vals, hit, hv]) ?_
  clear hk0 hk1 hit hnz
  k_steps
  (rename Fr _ _ _ _ => F30); (rename News _ _ _ _ => N30)
  refine Con.use (c_two w G4 Mv nM 0 b' c' d' e' (-1) u0 u1 u2 u3 u4 _ hMv) B F30 X N30 T rfl rfl rfl rfl (by simp only [depth_deeper, depth_caller]; decide) (by simp only [units_deeper, units_caller]; decide) ?_
  rintro r led8 h31 tk31 F31 N31 ⟨tlA, Aa, psA, kA, rfl, hltA, rfl, hmA, hrA, hkA⟩
  have lA : psA.length ≤ 25 := by have := two_count (-1) h5'; rw [← hkA] at this; simpa [keys] using this
  k_steps
  (rename Fr _ _ _ _ => F32); (rename News _ _ _ _ => N32)
  refine g_add F32 N32 (List.mem_append.mpr (.inl hmA)) (List.mem_append.mpr (.inr hEn)) (by simp [vals]; omega) ?_
  intro Th h33 F33 N33 lTh
  rw [show vals psA ++ vals psE = vals (psA ++ psE) by simp [vals]] at N33
  k_steps
  (rename Fr _ _ _ _ => F34); (rename News _ _ _ _ => N34)
  refine Con.use (c_two w _ Mv nM 0 b' c' d' e' 1 u0 u1 u2 u3 u4 _ (.tail _ (List.mem_append.mpr (.inr hMv)))) B F34 X N34 T rfl rfl rfl rfl (by simp only [depth_deeper, depth_caller]; decide) (by simp only [units_deeper, units_caller]; decide) ?_
  rintro r led9 h35 tk35 F35 N35 ⟨tlB, Ba, psB, kB, rfl, hltB, rfl, hmB, hrB', hkB⟩
  have lB : psB.length ≤ 25 := by have := two_count 1 h5'; rw [← hkB] at this; simpa [keys] using this
  k_steps
  (rename Fr _ _ _ _ => F36); (rename News _ _ _ _ => N36)
  refine g_add F36 N36 (List.mem_append.mpr (.inr (.tail _ (List.mem_append.mpr (.inr hLo))))) (List.mem_append.mpr (.inl hmB)) (by simp [vals]; omega) ?_
  intro Ts h37 F37 N37 lTs
  rw [show vals psL ++ vals psB = vals (psL ++ psB) by simp [vals]] at N37
  have hThTs : Th ≠ Ts := Nat.ne_of_lt (lTs (Th, listOf (vals (psA ++ psE)).toArray 0) (by simp))
  have hneTh : ∀ p ∈ tlB ++ (tlA ++ G4), p.1 ≠ Th := by
    intro p hp
    rcases List.mem_append.mp hp with h | h
    · exact (Nat.ne_of_lt (hltB p h _ (.head _))).symm
    · exact Nat.ne_of_lt (lTh p h)
  have hneTs : ∀ p ∈ tlB ++ (tlA ++ G4), p.1 ≠ Ts := by
    intro p hp
    refine Nat.ne_of_lt (lTs p ?_)
    simp only [List.mem_append, List.mem_cons] at hp ⊢
    rcases hp with h | h | h <;> simp [h]
  replace N37 : News h₀ L h37 ((Th, listOf (vals (psA ++ psE)).toArray 0) :: (Ts, listOf (vals (psL ++ psB)).toArray 0) :: (tlB ++ (tlA ++ G4))) := nsub N37 (by
    intro p hp
    simp only [List.mem_append, List.mem_cons] at hp ⊢
    rcases hp with h | h | h | h | h <;> simp [h])
  have sG5 : ∀ p ∈ G4, p ∈ tlB ++ (tlA ++ G4) := fun p hp => by simp [hp]
  have sGA : ∀ p ∈ tlA, p ∈ tlB ++ (tlA ++ G4) := fun p hp => by simp [hp]
  have sGB : ∀ p ∈ tlB, p ∈ tlB ++ (tlA ++ G4) := fun p hp => by simp [hp]
  replace hrB := hrB.mono sG5
  have hrM : RowIn (tlB ++ (tlA ++ G4)) (.ref Mv) [0, b', c', d', e'] := ⟨Mv, _, nM, rfl, sG5 _ hMv, hIu⟩
  have hrTh : RowsIn (tlB ++ (tlA ++ G4)) (psA ++ psE) := fun p hp => (List.mem_append.mp hp).elim (fun h => (hrA p h).mono sGA) (fun h => (hrE p h).mono sG5)
  have hrTs : RowsIn (tlB ++ (tlA ++ G4)) (psL ++ psB) := fun p hp => (List.mem_append.mp hp).elim (fun h => (hrL p h).mono sG5) (fun h => (hrB' p h).mono sGB)
  clear hltA hltB lTh lTs sG5 sGA sGB hMv hmA hmB hrA hrB' hrE hrL hEn hLo hBg hrBB
  generalize tlB ++ (tlA ++ G4) = G5 at *
  rw [← hkA, ← hkB] at hV
  clear hv hit2 hkey hmem
  k_steps
  rename_i hz4 tkz P1 hz3 lP1 P2 hz2 lP2 Dd hz1 lDd hz0 F38 N38
  by_cases hvb : [0, b', c', d', e'] = [0, 0, c, d, e]
  · refine rows_eq N38 (hrM.mono fun p hp => .tail _ (.tail _ (.tail _ (.tail _ (.tail _ hp))))) (hrB.mono fun p hp => .tail _ (.tail _ (.tail _ (.tail _ (.tail _ hp))))) (by simp only [units_deeper, units_caller]; decide) ?_
    rw [decide_eq_true hvb]
    replace N38 := nsub N38 (led' := (Th, listOf (vals (psA ++ psE)).toArray 0) :: (Ts, listOf (vals (psL ++ psB)).toArray 0) :: G5) fun p hp => .tail _ (.tail _ (.tail _ hp))
    clear lP1 lP2 lDd
    k_steps
    rename_i P1 hz3 lP1 P2 hz2 lP2 Dd hz1 lDd hz0 F40 N40'
    (rename Fr _ _ _ _ => F39); (rename News _ _ _ _ => N39)
    have hneTh6 : ∀ p ∈ (Dd, tup2 (.ref P1) (.ref P2) 0) :: (P2, listOf (gvals ([] : List (Value × List Int))).toArray 0) :: (P1, listOf (gvals ([] : List (Value × List Int))).toArray 0) :: G5, p.1 ≠ Th := by
      intro p hp
      simp only [List.mem_cons] at hp
      rcases hp with rfl | rfl | rfl | h
      · exact (Nat.ne_of_lt lDd.2.2.1).symm
      · exact (Nat.ne_of_lt lP2.2.1).symm
      · exact (Nat.ne_of_lt lP1.1).symm
      · exact hneTh p h
    have hneTs6 : ∀ p ∈ (Dd, tup2 (.ref P1) (.ref P2) 0) :: (P2, listOf (gvals ([] : List (Value × List Int))).toArray 0) :: (P1, listOf (gvals ([] : List (Value × List Int))).toArray 0) :: G5, p.1 ≠ Ts := by
      intro p hp
      simp only [List.mem_cons] at hp
      rcases hp with rfl | rfl | rfl | h
      · exact (Nat.ne_of_lt lDd.2.2.2.1).symm
      · exact (Nat.ne_of_lt lP2.2.2.1).symm
      · exact (Nat.ne_of_lt lP1.2.1).symm
      · exact hneTs p h
    have N40 := nsub N39 (led' := (Th, listOf (vals (psA ++ psE)).toArray 0) :: (Ts, listOf (vals (psL ++ psB)).toArray 0) :: ((Dd, tup2 (.ref P1) (.ref P2) 0) :: (P2, listOf (gvals ([] : List (Value × List Int))).toArray 0) :: (P1, listOf (gvals ([] : List (Value × List Int))).toArray 0) :: G5)) (by
      intro p hp
      simp only [List.mem_cons] at hp ⊢
      rcases hp with h | h | h | h | h | h <;> simp [h, gvals])
    have mD : (Dd, tup2 (.ref P1) (.ref P2) 0) ∈ (Dd, tup2 (.ref P1) (.ref P2) 0) :: (P2, listOf (gvals ([] : List (Value × List Int))).toArray 0) :: (P1, listOf (gvals ([] : List (Value × List Int))).toArray 0) :: G5 := .head _
    have mP2 : (P2, listOf (gvals ([] : List (Value × List Int))).toArray 0) ∈ (Dd, tup2 (.ref P1) (.ref P2) 0) :: (P2, listOf (gvals ([] : List (Value × List Int))).toArray 0) :: (P1, listOf (gvals ([] : List (Value × List Int))).toArray 0) :: G5 := .tail _ (.head _)
    have mP1 : (P1, listOf (gvals ([] : List (Value × List Int))).toArray 0) ∈ (Dd, tup2 (.ref P1) (.ref P2) 0) :: (P2, listOf (gvals ([] : List (Value × List Int))).toArray 0) :: (P1, listOf (gvals ([] : List (Value × List Int))).toArray 0) :: G5 := .tail _ (.tail _ (.head _))
    have s56 : ∀ p ∈ G5, p ∈ (Dd, tup2 (.ref P1) (.ref P2) 0) :: (P2, listOf (gvals ([] : List (Value × List Int))).toArray 0) :: (P1, listOf (gvals ([] : List (Value × List Int))).toArray 0) :: G5 := fun p hp => .tail _ (.tail _ (.tail _ hp))
    generalize (Dd, tup2 (.ref P1) (.ref P2) 0) :: (P2, listOf (gvals ([] : List (Value × List Int))).toArray 0) :: (P1, listOf (gvals ([] : List (Value × List Int))).toArray 0) :: G5 = G6 at *
    have hX : ∀ p ∈ ([] : List (Value × List Int)), RowIn G6 p.1 p.2 := fun p hp => nomatch hp
    have hY : ∀ p ∈ ([] : List (Value × List Int)), RowIn G6 p.1 p.2 := fun p hp => nomatch hp
    have hTh6 : RowsIn G6 (psA ++ psE) := hrTh.mono s56
    have hTs6 : RowsIn G6 (psL ++ psB) := hrTs.mono s56
    have hkX : gkeys ([] : List (Value × List Int)) = if [0, b', c', d', e'] = [0, 0, c, d, e] then [] else [[0, 0, c, d, e]] := by rw [if_pos hvb]; rfl
    have hkY : gkeys ([] : List (Value × List Int)) = if [0, b', c', d', e'] = [0, 0, c, d, e] then [] else [[0, b', c', d', e']] := by rw [if_pos hvb]; rfl
    clear lDd lP1 lP2
    clear N39
    refine Con.use (c_side w _ Th Ts 0 0 (psA ++ psE) (psL ++ psB) (.head _) (.tail _ (.head _)) (hTh6.mono fun p hp => .tail _ (.tail _ hp)) (hTs6.mono fun p hp => .tail _ (.tail _ hp)) (by simp; omega) (by simp; omega)) B F39 X N40 T rfl rfl rfl rfl (by simp only [depth_deeper, depth_caller]; decide) (by simp only [units_deeper, units_caller]; decide) ?_
    rintro r led10 h41 tk41 F41 N41 ⟨s67, t5, hA5, tA5, hs5, ts5, c9, c10, c11, rfl, ht5, hh5, htt5, hrh5, hrt5, hch5, hct5⟩
    k_steps
    (rename Fr _ _ _ _ => F42); (rename News _ _ _ _ => N42)
    have hkh := due_ms hU hV fun x => (hch5 x).trans (by simp [keys])
    have hkt := due_as hU hV fun x => (hct5 x).trans (by simp [keys])
    refine pair_same N42 ht5 (s67 _ (.tail _ (.tail _ mD))) (lists_same (xs := hs5) (rows_on _) (rows_fun _) N42 hh5 (s67 _ (.tail _ (.tail _ mP1))) (fun p hp => (hrh5 p hp).mono s67) (fun p hp => (hX p hp).mono fun p hp => s67 _ (.tail _ (.tail _ hp))) (by simp only [Around.in1_units, units_deeper, units_caller]; decide) (hkh.trans hkX.symm))
      (lists_same (xs := ts5) (rows_on _) (rows_fun _) N42 htt5 (s67 _ (.tail _ (.tail _ mP2))) (fun p hp => (hrt5 p hp).mono s67) (fun p hp => (hY p hp).mono fun p hp => s67 _ (.tail _ (.tail _ hp))) (by simp only [Around.in1_units, units_deeper, units_caller]; decide) (hkt.trans hkY.symm)) (by simp only [units_deeper, units_caller]; decide) ?_
    replace N42 := nsub N42 s67
    clear s67 ht5 hh5 htt5 hrh5 hrt5 hch5 hct5
    k_steps
    (rename Fr _ _ _ _ => F43); (rename News _ _ _ _ => N43)
    refine ConL.use (c_uld w G6 (RowIn G6) (rows_on _) Th Ts 0 0 (psA ++ psE) (psL ++ psB) hThTs hneTh6 hneTs6 hTh6 hTs6 (by simp; omega) (by simp; omega)) F43 X N43 T rfl rfl rfl (by simp only [depth_deeper, depth_caller]; decide) (by simp only [units_deeper, units_caller]; decide) ?_
    rintro r G7 h44 tk44 F44 N44 ⟨s7, t6, M6, ms6, as6, c12, c13, c14, rfl, ht6, hM6, hA6, hims6, hias6, hcms, hcas⟩
    k_steps
    (rename Fr _ _ _ _ => F45); (rename News _ _ _ _ => N45)
    have hkm := due_ms hU hV fun x => (cnt x _).symm.trans ((hcms x).trans (by rw [cnt, cnt]; simp [gkeys, keys]))
    have hka := due_as hU hV fun x => (cnt x _).symm.trans ((hcas x).trans (by rw [cnt, cnt]; simp [gkeys, keys]))
    refine pair_eq N45 ht6 (s7 _ mD) (lists_same (rows_on _) (rows_fun _) N45 hM6 (s7 _ mP1) (fun p hp => (hims6 p hp).mono s7) (fun p hp => (hX p hp).mono s7) (by simp only [Around.in1_units, units_deeper, units_caller]; decide) (hkm.trans hkX.symm))
      (lists_same (rows_on _) (rows_fun _) N45 hA6 (s7 _ mP2) (fun p hp => (hias6 p hp).mono s7) (fun p hp => (hY p hp).mono s7) (by simp only [Around.in1_units, units_deeper, units_caller]; decide) (hka.trans hkY.symm)) (by simp only [units_deeper, units_caller]; decide) ?_
    k_steps
    exact hret _ _ _ F45
  · refine rows_eq N38 (hrM.mono fun p hp => .tail _ (.tail _ (.tail _ (.tail _ (.tail _ hp))))) (hrB.mono fun p hp => .tail _ (.tail _ (.tail _ (.tail _ (.tail _ hp))))) (by simp only [units_deeper, units_caller]; decide) ?_
    rw [decide_eq_false hvb]
    k_steps
    (rename Fr _ _ _ _ => F39); (rename News _ _ _ _ => N39)
    have hneTh6 : ∀ p ∈ (Dd, tup2 (.ref P1) (.ref P2) 0) :: (P2, listOf (gvals [((.ref Mv : Value), ([0, b', c', d', e'] : List Int))]).toArray 0) :: (P1, listOf (gvals [((.ref Bg : Value), ([0, 0, c, d, e] : List Int))]).toArray 0) :: G5, p.1 ≠ Th := by
      intro p hp
      simp only [List.mem_cons] at hp
      rcases hp with rfl | rfl | rfl | h
      · exact (Nat.ne_of_lt lDd.2.2.1).symm
      · exact (Nat.ne_of_lt lP2.2.1).symm
      · exact (Nat.ne_of_lt lP1.1).symm
      · exact hneTh p h
    have hneTs6 : ∀ p ∈ (Dd, tup2 (.ref P1) (.ref P2) 0) :: (P2, listOf (gvals [((.ref Mv : Value), ([0, b', c', d', e'] : List Int))]).toArray 0) :: (P1, listOf (gvals [((.ref Bg : Value), ([0, 0, c, d, e] : List Int))]).toArray 0) :: G5, p.1 ≠ Ts := by
      intro p hp
      simp only [List.mem_cons] at hp
      rcases hp with rfl | rfl | rfl | h
      · exact (Nat.ne_of_lt lDd.2.2.2.1).symm
      · exact (Nat.ne_of_lt lP2.2.2.1).symm
      · exact (Nat.ne_of_lt lP1.2.1).symm
      · exact hneTs p h
    have N40 := nsub N39 (led' := (Th, listOf (vals (psA ++ psE)).toArray 0) :: (Ts, listOf (vals (psL ++ psB)).toArray 0) :: ((Dd, tup2 (.ref P1) (.ref P2) 0) :: (P2, listOf (gvals [((.ref Mv : Value), ([0, b', c', d', e'] : List Int))]).toArray 0) :: (P1, listOf (gvals [((.ref Bg : Value), ([0, 0, c, d, e] : List Int))]).toArray 0) :: G5)) (by
      intro p hp
      simp only [List.mem_cons] at hp ⊢
      rcases hp with h | h | h | h | h | h <;> simp [h, gvals])
    have mD : (Dd, tup2 (.ref P1) (.ref P2) 0) ∈ (Dd, tup2 (.ref P1) (.ref P2) 0) :: (P2, listOf (gvals [((.ref Mv : Value), ([0, b', c', d', e'] : List Int))]).toArray 0) :: (P1, listOf (gvals [((.ref Bg : Value), ([0, 0, c, d, e] : List Int))]).toArray 0) :: G5 := .head _
    have mP2 : (P2, listOf (gvals [((.ref Mv : Value), ([0, b', c', d', e'] : List Int))]).toArray 0) ∈ (Dd, tup2 (.ref P1) (.ref P2) 0) :: (P2, listOf (gvals [((.ref Mv : Value), ([0, b', c', d', e'] : List Int))]).toArray 0) :: (P1, listOf (gvals [((.ref Bg : Value), ([0, 0, c, d, e] : List Int))]).toArray 0) :: G5 := .tail _ (.head _)
    have mP1 : (P1, listOf (gvals [((.ref Bg : Value), ([0, 0, c, d, e] : List Int))]).toArray 0) ∈ (Dd, tup2 (.ref P1) (.ref P2) 0) :: (P2, listOf (gvals [((.ref Mv : Value), ([0, b', c', d', e'] : List Int))]).toArray 0) :: (P1, listOf (gvals [((.ref Bg : Value), ([0, 0, c, d, e] : List Int))]).toArray 0) :: G5 := .tail _ (.tail _ (.head _))
    have s56 : ∀ p ∈ G5, p ∈ (Dd, tup2 (.ref P1) (.ref P2) 0) :: (P2, listOf (gvals [((.ref Mv : Value), ([0, b', c', d', e'] : List Int))]).toArray 0) :: (P1, listOf (gvals [((.ref Bg : Value), ([0, 0, c, d, e] : List Int))]).toArray 0) :: G5 := fun p hp => .tail _ (.tail _ (.tail _ hp))
    generalize (Dd, tup2 (.ref P1) (.ref P2) 0) :: (P2, listOf (gvals [((.ref Mv : Value), ([0, b', c', d', e'] : List Int))]).toArray 0) :: (P1, listOf (gvals [((.ref Bg : Value), ([0, 0, c, d, e] : List Int))]).toArray 0) :: G5 = G6 at *
    have hX : ∀ p ∈ [((.ref Bg : Value), ([0, 0, c, d, e] : List Int))], RowIn G6 p.1 p.2 := by
      intro p hp
      simp only [List.mem_cons, List.not_mem_nil, or_false] at hp
      subst hp; exact hrB.mono s56
    have hY : ∀ p ∈ [((.ref Mv : Value), ([0, b', c', d', e'] : List Int))], RowIn G6 p.1 p.2 := by
      intro p hp
      simp only [List.mem_cons, List.not_mem_nil, or_false] at hp
      subst hp; exact hrM.mono s56
    have hTh6 : RowsIn G6 (psA ++ psE) := hrTh.mono s56
    have hTs6 : RowsIn G6 (psL ++ psB) := hrTs.mono s56
    have hkX : gkeys [((.ref Bg : Value), ([0, 0, c, d, e] : List Int))] = if [0, b', c', d', e'] = [0, 0, c, d, e] then [] else [[0, 0, c, d, e]] := by rw [if_neg hvb]; rfl
    have hkY : gkeys [((.ref Mv : Value), ([0, b', c', d', e'] : List Int))] = if [0, b', c', d', e'] = [0, 0, c, d, e] then [] else [[0, b', c', d', e']] := by rw [if_neg hvb]; rfl
    clear lDd lP1 lP2
    clear N39
    refine Con.use (c_side w _ Th Ts 0 0 (psA ++ psE) (psL ++ psB) (.head _) (.tail _ (.head _)) (hTh6.mono fun p hp => .tail _ (.tail _ hp)) (hTs6.mono fun p hp => .tail _ (.tail _ hp)) (by simp; omega) (by simp; omega)) B F39 X N40 T rfl rfl rfl rfl (by simp only [depth_deeper, depth_caller]; decide) (by simp only [units_deeper, units_caller]; decide) ?_
    rintro r led10 h41 tk41 F41 N41 ⟨s67, t5, hA5, tA5, hs5, ts5, c9, c10, c11, rfl, ht5, hh5, htt5, hrh5, hrt5, hch5, hct5⟩
    k_steps
    (rename Fr _ _ _ _ => F42); (rename News _ _ _ _ => N42)
    have hkh := due_ms hU hV fun x => (hch5 x).trans (by simp [keys])
    have hkt := due_as hU hV fun x => (hct5 x).trans (by simp [keys])
    refine pair_same N42 ht5 (s67 _ (.tail _ (.tail _ mD))) (lists_same (xs := hs5) (rows_on _) (rows_fun _) N42 hh5 (s67 _ (.tail _ (.tail _ mP1))) (fun p hp => (hrh5 p hp).mono s67) (fun p hp => (hX p hp).mono fun p hp => s67 _ (.tail _ (.tail _ hp))) (by simp only [Around.in1_units, units_deeper, units_caller]; decide) (hkh.trans hkX.symm))
      (lists_same (xs := ts5) (rows_on _) (rows_fun _) N42 htt5 (s67 _ (.tail _ (.tail _ mP2))) (fun p hp => (hrt5 p hp).mono s67) (fun p hp => (hY p hp).mono fun p hp => s67 _ (.tail _ (.tail _ hp))) (by simp only [Around.in1_units, units_deeper, units_caller]; decide) (hkt.trans hkY.symm)) (by simp only [units_deeper, units_caller]; decide) ?_
    replace N42 := nsub N42 s67
    clear s67 ht5 hh5 htt5 hrh5 hrt5 hch5 hct5
    k_steps
    (rename Fr _ _ _ _ => F43); (rename News _ _ _ _ => N43)
    refine ConL.use (c_uld w G6 (RowIn G6) (rows_on _) Th Ts 0 0 (psA ++ psE) (psL ++ psB) hThTs hneTh6 hneTs6 hTh6 hTs6 (by simp; omega) (by simp; omega)) F43 X N43 T rfl rfl rfl (by simp only [depth_deeper, depth_caller]; decide) (by simp only [units_deeper, units_caller]; decide) ?_
    rintro r G7 h44 tk44 F44 N44 ⟨s7, t6, M6, ms6, as6, c12, c13, c14, rfl, ht6, hM6, hA6, hims6, hias6, hcms, hcas⟩
    k_steps
    (rename Fr _ _ _ _ => F45); (rename News _ _ _ _ => N45)
    have hkm := due_ms hU hV fun x => (cnt x _).symm.trans ((hcms x).trans (by rw [cnt, cnt]; simp [gkeys, keys]))
    have hka := due_as hU hV fun x => (cnt x _).symm.trans ((hcas x).trans (by rw [cnt, cnt]; simp [gkeys, keys]))
    refine pair_eq N45 ht6 (s7 _ mD) (lists_same (rows_on _) (rows_fun _) N45 hM6 (s7 _ mP1) (fun p hp => (hims6 p hp).mono s7) (fun p hp => (hX p hp).mono s7) (by simp only [Around.in1_units, units_deeper, units_caller]; decide) (hkm.trans hkX.symm))
      (lists_same (rows_on _) (rows_fun _) N45 hA6 (s7 _ mP2) (fun p hp => (hias6 p hp).mono s7) (fun p hp => (hY p hp).mono s7) (by simp only [Around.in1_units, units_deeper, units_caller]; decide) (hka.trans hkY.symm)) (by simp only [units_deeper, units_caller]; decide) ?_
    k_steps
    exact hret _ _ _ F45
end Mine
end PartL2

section PartL3
open PySem PySem.W PyProof.Rows PySem.Calls
namespace Mine
local macro_rules | `(tactic| k_steps) => `(tactic| repeat' ((fail_if_success (with_reducible show wpAny _ _ (exec (Stmt.While _ _ _ _) _) _ _ _)); (fail_if_success (with_reducible show wpAny _ _ (call (Value.builtin "sorted") _ _) _ _ _)); (fail_if_success (with_reducible show wpAny _ _ (execs (Stmt.Assign [Expr.Name (Str.ofString "ends") _] _ _ :: _) _) _ _ _));  (fail_if_success (with_reducible show wpAny _ _ (compareOp _ (Value.ref _) (Value.ref _)) _ _ _)); (first | (k_unfold; (try dsimp only)) | (k_end; kc_close) | walk1 | (dsimp only; walk1) | (leave1; walk_say "STEP leave1"; (try dsimp only)) | fail "no step")))

theorem ca_ints {ys : List Value} {ns : List Int} (h : CarriedAll ys ((((ns ++ [3, 1, 3]).take 3).filter fun _ => true).map fun (a : Int) => PyData.int (Int.fmod a 1000))) : IntsAre ys (((ns ++ [3, 1, 3]).take 3).map fun (a : Int) => Int.fmod a 1000) := by
  refine IntsAre.ofCarried ?_
  rw [List.filter_eq_self.mpr (fun _ _ => rfl)] at h
  rw [List.map_map]
  exact h
theorem sorted_five {xs ns : List Int} (hx : xs.length = 3) (hn : ∀ x ∈ xs, 0 ≤ x) (hp : ns.Perm (0 :: 0 :: xs)) (hs : ns.Pairwise (· ≤ ·)) : ∃ c d e, ns = [0, 0, c, d, e] ∧ 0 ≤ c ∧ c ≤ d ∧ d ≤ e := by
  obtain ⟨a, b, c, d, e, rfl⟩ := five (q := ns) (by rw [hp.length_eq]; simp [hx])
  simp only [List.pairwise_cons, List.mem_cons, List.not_mem_nil, or_false] at hs
  have ha : 0 ≤ a := by
    have := hp.mem_iff.mp (List.mem_cons_self (a := a))
    simp only [List.mem_cons] at this
    rcases this with h | h | h
    · omega
    · omega
    · exact hn a h
  have h1 := hs.1 b (.inl rfl)
  have h2 := hs.2.1 c (.inl rfl)
  have h3 := hs.2.2.1 d (.inl rfl)
  have h4 := hs.2.2.2.1 e rfl
  have hc := hp.count_eq 0
  rw [List.count_cons_self, List.count_cons_self] at hc
  have hb : b = 0 := by
    by_cases hb : b = 0
    · exact hb
    · have e1 : [b, c, d, e].count 0 = 0 := by
        refine List.count_eq_zero.mpr fun h => ?_
        simp only [List.mem_cons, List.not_mem_nil, or_false] at h
        omega
      rw [List.count_cons, e1] at hc
      split at hc <;> omega
  subst hb
  have : a = 0 := by omega
  subst this
  exact ⟨c, d, e, rfl, h2, h3, h4⟩
theorem with_look {K : Frag} {hh : Heap} {a : Addr} {o : Obj} {P : Prop} (X : K.In hh) (h : K.lookup a = some o) (k : K.lookup a = some o → P) : P := k h
theorem fr_turn {h₀ h : Heap} {L : Addr} {Bg S : Value} (F : Fr h₀ L h (fun y => if y = Str.ofString "begun" then some Bg else List.lookup y [(Str.ofString "script", S)].reverse)) : Fr h₀ L h (kstB (fun _ => none) [(Str.ofString "begun", Bg), (Str.ofString "script", S)]) := by
  have e : (fun y => if y = Str.ofString "begun" then some Bg else List.lookup y [(Str.ofString "script", S)].reverse) = kstB (fun _ => none) [(Str.ofString "begun", Bg), (Str.ofString "script", S)] := by
    funext y
    simp only [kstB, List.reverse_cons, List.reverse_nil, List.nil_append, List.lookup]
    by_cases h : y = Str.ofString "script"
    · simp [h]
    · rw [show (y == Str.ofString "script") = false from beq_eq_false_iff_ne.mpr h]
      simp [h]
  rw [← e]
  exact F
section
variable {prog : Program} {w : World} {A : Around} {E : Value → Shared → Prop} {s : Shared} {h₀ : Heap} {L l b : Addr} {m : Str → Option Value} {led : Led} {ys : List Value} {n : Nat} {ta tb : Tok}
theorem add_zeros {Q : Value → Shared → Prop} (F : Fr h₀ L s.heap m) (N : News h₀ L s.heap led) (ma : (l, listOf #[.int 0 ta, .int 0 tb] n) ∈ led) (hb : s.heap.IsList b ys.toArray) (hz : ys.length ≤ 3)
    (h : ∀ Z h', Fr h₀ L h' m → News h₀ L h' ((Z, listOf (Value.int 0 ta :: .int 0 tb :: ys).toArray 0) :: led) → Q (.ref Z) { s with heap := h' }) : wpAny (model prog w) A (binaryOp .Add (.ref l) (.ref b)) Q E s :=
  add_arrays F N (PySem.IsL.isList (n := n) (N _ ma).1) hb (fun h' F' N' => h _ h' F' N') (by simp only [List.size_toArray, sizeLine_eq, List.length_cons, List.length_nil]; omega)
end
set_option maxRecDepth 100000 in
set_option maxHeartbeats 8000000 in
theorem law_holds : PySem.Challenge.rw_ny0059_01.Holds := Mine.hd (by
  w_strict (k_go0; skip)
  k_steps
  (rename CarriedAll _ _ => hca); (rename Heap.IsList _ _ _ => hLD); (rename Fr _ _ _ _ => F1); (rename News _ _ _ _ => N1)
  have hin := ca_ints hca
  have hlen := IntsAre.length hin
  refine add_zeros F1 N1 (.tail _ (.tail _ (.tail _ (.head _)))) hLD (by rw [hlen]; simp) ?_
  intro Z h2 F2 N2
  clear F1 N1
  k_steps
  (rename Fr _ _ _ _ => F3); (rename News _ _ _ _ => N3)
  refine kso_sorted F3 N3 (PySem.IsL.isList (n := 0) (N3 _ (.head _)).1) (.cons 0 _ (.cons 0 _ hin)) (by simp) ?_
  intro Bg vs' ns' cB h4 F4 N4 lB hI4 hl4 hp4 hs4 _
  obtain ⟨c, d, e, rfl, hc, hcd, hde⟩ := sorted_five (by simp) (by intro x hx; obtain ⟨y, _, rfl⟩ := List.mem_map.mp hx; exact Int.fmod_nonneg_of_pos _ (by decide)) hp4 hs4
  obtain ⟨t0, t1, t2, t3, t4, rfl⟩ := five_vals hI4
  k_steps
  (rename Fr _ _ _ _ => F5); (rename News _ _ _ _ => N5); (rename Below _ _ _ _ => K0); (rename Top _ _ _ _ _ _ => T0); (rename Frag.In _ _ => KX)
  have hl : looseW Mine.hd.view_39 [] = [] := rfl
  rw [hl] at T0
  have F6 := fr_turn F5
  k_dflt (refine' with_look (a := 87) KX ?k87 ?_; (case k87 => k_is))
  intro hb
  refine' law_rest _ _ _ _ _ _ _ _ _ _ _ _ _ _ _ _ _ hb _ _ _ _ _ _ _ _ _ _ _ _ _ _ cB c d e t0 t1 t2 t3 t4 _ _ K0 F6 KX N5 T0 (.head _) hc hcd hde ?hS ?hI ?hns ?hret
  case hS => assumption
  case hI => assumption
  case hns => omega
  case hret =>
    intro h' m' tk' F7
    dsimp only
    k_end
    kc_close)
end Mine
end PartL3

theorem PySem.Challenge.cw_ny0059_01_holds : PySem.Challenge.rw_ny0059_01.Holds := by
  exact Mine.law_holds
