import PyProof.Rows.All
import Wide.All
import OpenK.AllK
import Wide.FinOn
import PySem.Challenge.RW_op0048_01
set_option Elab.async false

section
open PySem PySem.W PyProof.Rows
set_option Elab.async false
set_option maxRecDepth 100000
set_option maxHeartbeats 8000000
namespace Mine
open_top hd for PySem.Challenge.rw_op0048_01
end Mine
end

section
open PySem PySem.W PyProof.Rows
set_option Elab.async false
set_option maxRecDepth 100000
set_option maxHeartbeats 8000000
namespace Mine
abbrev prg : Program := PySem.Challenge.rw_op0048_01.row.prog

/-- comparing by `<` the things that stand for the ranks of S: the ranks' own order -/
def LtOk (w : World) (news : List (Addr × Obj)) (f : Nat → Value) (S : Nat → Prop) : Prop :=
  ∀ i j, S i → S j → ∀ (A : Around) (h₀ : Heap) (L : Addr) (s : Shared) (Q E : Value → Shared → Prop), A.units + 100 < cLine → News h₀ L s.heap news →
    (∀ tk, Q (.bool (decide (i < j))) { s with toks := tk }) → wpAny (model prg w) A (compareOp .Lt (f i) (f j)) Q E s

section
variable {prog : Program} {w : World} {A : Around} {E : Value → Shared → Prop} {s : Shared} {h₀ : Heap} {L hp : Addr} {m : Str → Option Value} {news : List (Addr × Obj)} {rs : List Nat} {f : Nat → Value} {n i : Nat} {k : Int} {u : Tok}

theorem hl_item {value slice : Expr} {Q : Value → Shared → Prop} (N : News h₀ L s.heap ((hp, listOf (rs.map f).toArray n) :: news)) (hk : k = (i : Int)) (hi : i < rs.length) (hsz : rs.length < 1000) (h : Q (f (rs.getD i 0)) s)
    (hs : subscripted slice false (.ref hp) (.int k u) = operate [.ref hp, .int k u] (getItem (.ref hp) (.int k u)) := by with_unfolding_all rfl) (hg : ∀ r, letTemporaryGo value (.ref hp) r = pure () := by intro _; with_unfolding_all rfl) :
    wpAny (model prog w) A (subscriptTail value slice (.ref hp) (.int k u)) Q E s := by
  refine kim_list (lo := listOf (rs.map f).toArray n) (l := rs.map f) (n := n) N (.head _) rfl rfl (by omega) (by omega) ?_ h hs hg
  subst hk
  simp [hi]

theorem hl_set {x : Nat} {Q : Unit → Shared → Prop} (F : Fr h₀ L s.heap m) (N : News h₀ L s.heap ((hp, listOf (rs.map f).toArray n) :: news)) (hne : ∀ p ∈ news, p.1 ≠ hp) (hk : k = (i : Int)) (hi : i < rs.length) (hsz : rs.length < 1000)
    (h : ∀ h', Fr h₀ L h' m → News h₀ L h' ((hp, listOf ((rs.set i x).map f).toArray n) :: news) → Q () { s with heap := h' }) : wpAny (model prog w) A (setItem (.ref hp) (.int k u) (f x)) Q E s := by
  have z := N _ (.head _)
  refine ki_setAt z.1 (by omega) (by omega) (by simp; omega) (h _ (F.change (Heap.SameBut.update ..) z.2.1 z.2.2) (ki_turn (pre := []) _ N (fun _ hp => nomatch hp) hne ?_ ?_))
  · show ((rs.map f).toArray).setIfInBounds k.toNat (f x) = _
    subst hk
    apply Array.toList_inj.mp
    simp
  · simp
end

/-- heapq._siftdown over ranks -/
def sdN (start x : Nat) : Nat → Nat → List Nat → List Nat
  | 0, pos, l => l.set pos x
  | k + 1, pos, l => if start < pos then (if x < l.getD ((pos - 1) / 2) 0 then sdN start x k ((pos - 1) / 2) (l.set pos (l.getD ((pos - 1) / 2) 0)) else l.set pos x) else l.set pos x
def siftdownN (l : List Nat) (start pos : Nat) : List Nat := sdN start (l.getD pos 0) pos pos l
theorem sdN_fuel (start x : Nat) : ∀ k pos l, pos ≤ k → sdN start x k pos l = sdN start x pos pos l := by
  intro k
  induction k using Nat.strongRecOn with
  | _ k ih =>
    intro pos l h
    cases k with
    | zero => cases pos with
      | zero => rfl
      | succ p => omega
    | succ k =>
      cases pos with
      | zero => simp [sdN]
      | succ p =>
        simp only [sdN]
        split
        · split
          · rw [ih k (by omega) _ _ (by omega), ih p (by omega) _ _ (by omega)]
          · rfl
        · rfl
theorem sdN_step (start x pos : Nat) (l : List Nat) : sdN start x pos pos l = if start < pos then (if x < l.getD ((pos - 1) / 2) 0 then sdN start x ((pos - 1) / 2) ((pos - 1) / 2) (l.set pos (l.getD ((pos - 1) / 2) 0)) else l.set pos x) else l.set pos x := by
  cases pos with
  | zero => simp [sdN]
  | succ p =>
    rw [sdN]
    split
    · split
      · rw [sdN_fuel _ _ p _ _ (by omega)]
      · rfl
    · rfl
end Mine
end

section
open PySem PySem.W PyProof.Rows
set_option Elab.async false
set_option maxRecDepth 100000
set_option maxHeartbeats 8000000
namespace Mine
open PySem.SeqAt
open AutoSeq1 (wpAny_loadPart')
open MeetsSeq MeetsSeq2 MeetsSeq3 SeqRoads2

def LtAt (A : Around) (s : Shared) (y x : Value) (b : Bool) : Prop :=
  ∀ (prog : Program) (w : World) (E : Value → Shared → Prop) (Q : Value → Shared → Prop), Q (.bool b) s → wpAny (model prog w) A (richCompare .Lt y x) Q E s

def lexF (e c : Nat → Bool) (n1 n2 : Nat) : Nat → Nat → Bool
  | 0, _ => decide (n1 < n2)
  | k + 1, i => if e i then lexF e c n1 n2 k (i + 1) else c i

theorem lt_loopAt (l b : Addr) (items items2 : Array Value) (n n2 : Nat) (dd dd2 : Option Addr) (sl sl2 : Array (Option Value)) (e c : Nat → Bool) (k : Nat) :
    ∀ i : Nat, min items.size items2.size - i = k → Meets (Builtin.«list.__eq__.loop» ⟨[.ref l, .ref b, rawInt i, rawInt 0], []⟩)
      (fun A R s => s.heap.get? l = some { cls := .type "list", dict := dd, data := .seq items n, slots := sl } ∧ s.heap.get? b = some { cls := .type "list", dict := dd2, data := .seq items2 n2, slots := sl2 } ∧
        (∀ j (h1 : j < items.size) (h2 : j < items2.size), EqAt A.in1 s items[j] items2[j] (e j)) ∧
        (∀ j (h1 : j < items.size) (h2 : j < items2.size), e j = false → LtAt A.in1 s items[j] items2[j] (c j)) ∧
        R (.ok (.ret (.bool (lexF e c items.size items2.size k i)))) s) := by
  induction k with
  | zero =>
    intro i hk prog w A R s h
    obtain ⟨hp, g, d, tk, os⟩ := s; obtain ⟨hl, hb, he, hc, h⟩ := h
    wp_walk using wpAny_loadPart' hl, wpAny_loadPart' hb
    by_cases h1 : i < items.size
    · have hi1 : items[((i : Nat) : Int).toNat]? = some items[i] := by simp [h1]
      have hi2 : items2[((i : Nat) : Int).toNat]? = none := by simp; omega
      rw [hi1, hi2]
      wp_walk using wpAny_loadPart' hl, wpAny_loadPart' hb
      exact h
    · have hi1 : items[((i : Nat) : Int).toNat]? = none := by simp; omega
      rw [hi1]
      wp_walk using wpAny_loadPart' hl, wpAny_loadPart' hb
      exact h
  | succ k ih =>
    intro i hk prog w A R s h
    obtain ⟨hp, g, d, tk, os⟩ := s; obtain ⟨hl, hb, he, hc, h⟩ := h
    wp_walk using wpAny_loadPart' hl, wpAny_loadPart' hb
    have hlt : i < items.size := by omega
    have hlt2 : i < items2.size := by omega
    have hi1 : items[((i : Nat) : Int).toNat]? = some items[i] := by simp [hlt]
    have hi2 : items2[((i : Nat) : Int).toNat]? = some items2[i] := by simp [hlt2]
    have hcc : ((i : Int) + 1) = ((i + 1 : Nat) : Int) := by push_cast; rfl
    rw [hi1, hi2]
    refine wpAny_bind (he i hlt hlt2 prog w _ _ ?_)
    unfold lexF at h
    cases hb' : e i with
    | true =>
      rw [hb'] at h
      wp_walk
      rw [hcc]
      exact ⟨plainId_quiet plain_eq_loop _, codeAny_builtin entry_eq_loop (by
        rw [Around.under_plainId plain_eq_loop _]
        exact ih (i + 1) (by omega) prog w A R _ ⟨hl, hb, he, hc, by simpa using h⟩)⟩
    | false =>
      rw [hb'] at h
      wp_walk using wpAny_loadPart' hl, wpAny_loadPart' hb
      rw [hi1, hi2]
      have hc' := hc i hlt hlt2 hb' prog w
      show wpAny _ _ (richCompare .Lt items[i] items2[i] >>= fun v => ret v) _ _ _
      refine wpAny_bind (hc' _ _ ?_)
      exact wpAny_pure h

theorem list_ltAt (l b : Addr) (items items2 : Array Value) (n n2 : Nat) (dd dd2 : Option Addr) (sl sl2 : Array (Option Value)) (e c : Nat → Bool) :
    Meets (Builtin.«list.__lt__» ⟨[.ref l, .ref b], []⟩)
      (fun A R s => s.heap.get? l = some { cls := .type "list", dict := dd, data := .seq items n, slots := sl } ∧ s.heap.get? b = some { cls := .type "list", dict := dd2, data := .seq items2 n2, slots := sl2 } ∧
        (∀ j (h1 : j < items.size) (h2 : j < items2.size), EqAt A.in1 s items[j] items2[j] (e j)) ∧
        (∀ j (h1 : j < items.size) (h2 : j < items2.size), e j = false → LtAt A.in1 s items[j] items2[j] (c j)) ∧
        R (.ok (.ret (.bool (lexF e c items.size items2.size (min items.size items2.size) 0)))) s) := by
  intro prog w A R s h
  obtain ⟨hp, g, d, tk, os⟩ := s; obtain ⟨hl, hb, he, hc, h⟩ := h
  have f3 := AutoSeq1.sub_list_list
  wp_walk using wpAny_loadPart' hl, wpAny_loadPart' hb
  exact ⟨plainId_quiet plain_eq_loop _, codeAny_builtin entry_eq_loop (by
    rw [Around.under_plainId plain_eq_loop _]
    exact lt_loopAt l b items items2 n n2 dd dd2 sl sl2 e c _ 0 rfl prog w A R _ ⟨hl, hb, he, hc, by simpa using h⟩)⟩

theorem LtAt.lists {A : Around} {s : Shared} {l b : Addr} {items items2 : Array Value} {e c : Nat → Bool} (hl : s.heap.IsList l items) (hb : s.heap.IsList b items2) (hu : A.units < cLine)
    (he : ∀ j (h1 : j < items.size) (h2 : j < items2.size), EqAt A.in1 s items[j] items2[j] (e j))
    (hc : ∀ j (h1 : j < items.size) (h2 : j < items2.size), e j = false → LtAt A.in1 s items[j] items2[j] (c j)) : LtAt A s (.ref l) (.ref b) (lexF e c items.size items2.size (min items.size items2.size) 0) := fun prog w E Q h => by
  obtain ⟨⟨cls, dd, data, sl⟩, ho, hc0, n, hd⟩ := id hl
  obtain ⟨⟨cls2, dd2, data2, sl2⟩, ho2, hc2, n2, hd2⟩ := id hb
  simp only at hc0 hd hc2 hd2
  subst hc0 hd hc2 hd2
  exact richCompare_meets_room (op := .Lt) ⟨_, ho, rfl⟩ ⟨_, ho2, rfl⟩ F.slot_list_lt F.entry_list_lt (F.args_list_lt_2 _ _) (list_ltAt l b items items2 n n2 dd dd2 sl sl2 e c)
    ⟨ho, ho2, he, hc, show Value.bool _ ≠ Value.notImplemented ∧ Q (.bool _) s from ⟨(fun x => nomatch x), h⟩⟩ hu
end Mine
end

section
open PySem PySem.W PyProof.Rows
set_option Elab.async false
set_option maxRecDepth 100000
set_option maxHeartbeats 8000000
namespace Mine
open PySem.SeqAt

def ltI (ns ms : List Int) : Bool := lexF (fun j => ns.getD j 0 == ms.getD j 0) (fun j => decide (ns.getD j 0 < ms.getD j 0)) ns.length ms.length (min ns.length ms.length) 0
theorem ints_at {vs : List Value} {ns : List Int} (h : IntsAre vs ns) : ∀ {j : Nat} (hj : j < vs.length), ∃ t, vs[j] = .int (ns.getD j 0) t := by
  induction h with
  | nil => intro j hj; cases hj
  | cons n t _ ih =>
    intro j hj
    cases j with
    | zero => exact ⟨t, rfl⟩
    | succ j =>
      obtain ⟨t', h'⟩ := ih (j := j) (by simpa using hj)
      exact ⟨t', by simpa using h'⟩
theorem ints_len {vs : List Value} {ns : List Int} (h : IntsAre vs ns) : vs.length = ns.length := by
  induction h with
  | nil => rfl
  | cons n t _ ih => simp [ih]
theorem LtAt.int (A : Around) (s : Shared) (a : Int) (t : Tok) (b : Int) (u : Tok) : LtAt A s (.int a t) (.int b u) (decide (a < b)) := fun _ _ _ _ h => lt_int h
theorem LtAt.ints {A : Around} {s : Shared} {l b : Addr} {vs us : List Value} {ns ms : List Int} (hl : s.heap.IsList l vs.toArray) (hi : IntsAre vs ns) (hb : s.heap.IsList b us.toArray) (hi' : IntsAre us ms) (hu : A.units < cLine) :
    LtAt A s (.ref l) (.ref b) (ltI ns ms) := by
  have h := LtAt.lists (A := A) (e := fun j => ns.getD j 0 == ms.getD j 0) (c := fun j => decide (ns.getD j 0 < ms.getD j 0)) hl hb hu ?_ ?_
  · simp only [List.size_toArray, ints_len hi, ints_len hi'] at h
    exact h
  · intro j h1 h2
    obtain ⟨t, e1⟩ := ints_at hi (j := j) (by simpa using h1)
    obtain ⟨u, e2⟩ := ints_at hi' (j := j) (by simpa using h2)
    have e1' : vs.toArray[j] = .int (ns.getD j 0) t := by simpa using e1
    have e2' : us.toArray[j] = .int (ms.getD j 0) u := by simpa using e2
    rw [e1', e2']
    exact EqAt.int_int _ _ _ _
  · intro j h1 h2 _
    obtain ⟨t, e1⟩ := ints_at hi (j := j) (by simpa using h1)
    obtain ⟨u, e2⟩ := ints_at hi' (j := j) (by simpa using h2)
    have e1' : vs.toArray[j] = .int (ns.getD j 0) t := by simpa using e1
    have e2' : us.toArray[j] = .int (ms.getD j 0) u := by simpa using e2
    rw [e1', e2']
    exact LtAt.int _ _ _ _ _ _

def entLt (a b : Int) (ns ms : List Int) : Bool := if a == b then (if ns = ms then false else ltI ns ms) else decide (a < b)
theorem ints_fun {vs : List Value} {ns ms : List Int} (h : IntsAre vs ns) (h' : IntsAre vs ms) : ns = ms := by
  induction h generalizing ms with
  | nil => cases h'; rfl
  | cons n t _ ih => cases h' with | cons _ _ r => rw [ih r]
theorem isList_fun {h : Heap} {a : Addr} {xs ys : List Value} (h1 : h.IsList a xs.toArray) (h2 : h.IsList a ys.toArray) : xs = ys := by
  obtain ⟨o, e1, _, n, e2⟩ := h1
  obtain ⟨o', e3, _, n', e4⟩ := h2
  rw [e1] at e3
  cases e3
  rw [e2] at e4
  injection e4 with e5
  simpa using congrArg Array.toList e5
theorem EqAt.rows {A : Around} {s : Shared} {r1 r2 : Addr} {vs us : List Value} {ns ms : List Int} (hl : s.heap.IsList r1 vs.toArray) (hi : IntsAre vs ns) (hb : s.heap.IsList r2 us.toArray) (hi' : IntsAre us ms) (hu : A.units + 64 < cLine) :
    EqAt A s (.ref r1) (.ref r2) (decide (ns = ms)) := by
  by_cases e : r1 = r2
  · subst e
    have := isList_fun hl hb
    subst this
    have := ints_fun hi hi'
    subst this
    simpa using EqAt.same (A := A) (s := s) (.ref r1)
  · exact EqAt.of_refs e fun prog w E Q h => eq_intsK hl hi hb hi' hu h
theorem LtAt.entry {A : Around} {s : Shared} {ea eb r1 r2 : Addr} {a b : Int} {t u : Tok} {vs us : List Value} {ns ms : List Int} (ha : s.heap.IsList ea #[.int a t, .ref r1]) (hb : s.heap.IsList eb #[.int b u, .ref r2])
    (hl : s.heap.IsList r1 vs.toArray) (hi : IntsAre vs ns) (hr : s.heap.IsList r2 us.toArray) (hi' : IntsAre us ms) (hu : A.units + 80 < cLine) : LtAt A s (.ref ea) (.ref eb) (entLt a b ns ms) := by
  have h := LtAt.lists (A := A) (e := fun j => if j = 0 then (a == b) else decide (ns = ms)) (c := fun j => if j = 0 then decide (a < b) else ltI ns ms) ha hb (by omega) ?_ ?_
  · have e : entLt a b ns ms = lexF (fun j => if j = 0 then (a == b) else decide (ns = ms)) (fun j => if j = 0 then decide (a < b) else ltI ns ms) 2 2 2 0 := by
      simp only [entLt, lexF]
      by_cases h1 : a = b <;> by_cases h2 : ns = ms <;> simp [h1, h2]
    rw [e]
    exact h
  · intro j h1 h2
    match j, h1, h2 with
    | 0, _, _ => exact EqAt.int_int _ _ _ _
    | 1, _, _ => exact EqAt.rows hl hi hr hi' (by show A.units + 1 + 64 < cLine; omega)
  · intro j h1 h2 _
    match j, h1, h2 with
    | 0, _, _ => exact LtAt.int _ _ _ _ _ _
    | 1, _, _ => exact LtAt.ints hl hi hr hi' (by show A.units + 1 < cLine; omega)

/-- the row of a number -/
def rowI (sh i : Nat) : List Int := ([0, 1, 2, 3].filter fun k => i / 2 ^ k % 2 == 1).map fun k => ((k + sh : Nat) : Int)
/-- the number at a rank, by size and then by row -/
def numOf (r : Nat) : Nat := [0, 1, 2, 4, 8, 3, 5, 9, 6, 10, 12, 7, 11, 13, 14, 15].getD r 0
def rankOf (i : Nat) : Nat := [0, 1, 2, 5, 3, 6, 8, 11, 4, 7, 9, 12, 10, 13, 14, 15].getD i 0
def sizeOf' (i : Nat) : Int := (rowI 0 i).length
theorem rank_lt : ∀ sh, sh < 4 → ∀ i, i < 16 → ∀ j, j < 16 → entLt (sizeOf' (numOf i)) (sizeOf' (numOf j)) (rowI sh (numOf i)) (rowI sh (numOf j)) = decide (i < j) := by decide +kernel
theorem num_rank : ∀ i, i < 16 → numOf (rankOf i) = i ∧ rankOf i < 16 := by decide +kernel
theorem rank_num : ∀ i, i < 16 → rankOf (numOf i) = i ∧ numOf i < 16 := by decide +kernel

def RowsIn (news : List (Addr × Obj)) (sh : Nat) (ra : Nat → Addr) : Prop := ∀ i, i < 16 → ∃ vs n, (ra i, listOf vs.toArray n) ∈ news ∧ IntsAre vs (rowI sh i)
def EntsIn (news : List (Addr × Obj)) (ra ent : Nat → Addr) (S : Nat → Prop) : Prop := ∀ r, S r → r < 16 ∧ ∃ t n, (ent r, listOf #[.int (sizeOf' (numOf r)) t, .ref (ra (numOf r))] n) ∈ news
theorem isList_news {h₀ h : Heap} {L a : Addr} {vs : Array Value} {n : Nat} {news : List (Addr × Obj)} (N : News h₀ L h news) (hm : (a, listOf vs n) ∈ news) : h.IsList a vs := ⟨_, (N _ hm).1, rfl, n, rfl⟩
theorem ltOk_of {w : World} {news : List (Addr × Obj)} {sh : Nat} {ra ent : Nat → Addr} {S : Nat → Prop} (hs : sh < 4) (R : RowsIn news sh ra) (En : EntsIn news ra ent S) : LtOk w news (fun r => .ref (ent r)) S := by
  intro i j hi hj A h₀ L s Q E hu N h
  obtain ⟨li, t, n, mi⟩ := En i hi
  obtain ⟨lj, u, k, mj⟩ := En j hj
  obtain ⟨vs, n1, m1, i1⟩ := R _ (rank_num i li).2
  obtain ⟨us, n2, m2, i2⟩ := R _ (rank_num j lj).2
  have := LtAt.entry (A := A) (isList_news N mi) (isList_news N mj) (isList_news N m1) i1 (isList_news N m2) i2 (by omega)
  rw [rank_lt sh hs i li j lj] at this
  exact this _ _ _ _ (h s.toks)
end Mine
end

section
open PySem PySem.W PyProof.Rows
set_option Elab.async false
set_option maxRecDepth 100000
set_option maxHeartbeats 8000000
namespace Mine
theorem rangeSize01 (k : Int) (h0 : 0 ≤ k) : Builtin.Range.rangeSize 0 k 1 = k := by
  unfold Builtin.Range.rangeSize
  simp
  omega
theorem small01 (k : Int) (h0 : 0 ≤ k) (h1 : k < 1000) : Builtin.Range.small 0 k 1 = true := by
  unfold Builtin.Range.small
  rw [rangeSize01 k h0]
  simp [Builtin.Range.rangeFitsLong]
  omega
def rrevObj (k : Int) : Obj := { cls := .type "range_iterator", data := .fields #[rawInt (k - 1), rawInt k, rawInt (-1)] }
theorem range_reversed_meets (r : Addr) (k : Int) (t u v : Tok) (h0 : 0 ≤ k) (h1 : k < 1000) :
    Meets (Builtin.«range.__reversed__» ⟨[.ref r], []⟩) (fun _ R s => s.heap.get? r = some { cls := .type "range", dict := none, data := .fields #[.int 0 t, .int k u, .int 1 v], slots := #[] } ∧ R (.ok (.ret (Value.ref s.heap.objs.size))) { s with heap := s.heap.push (rrevObj k) }) :=
  .of_wp fun prog w A R s h => by
    obtain ⟨hp, g, d, tk, os⟩ := s; obtain ⟨hl, h⟩ := h
    have hn : Builtin.Range.rangeSize 0 k 1 = k := by
      unfold Builtin.Range.rangeSize
      simp
      omega
    have hs : (Builtin.Range.rangeFitsLong 0 && Builtin.Range.rangeFitsLong k && Builtin.Range.rangeFitsLong 1 && Builtin.Range.rangeFitsLong (-1) && Builtin.Range.rangeFitsLong (0 - 1) && Builtin.Range.rangeFitsLong k) = true := by
      simp only [Builtin.Range.rangeFitsLong, Bool.and_eq_true, decide_eq_true_eq]
      omega
    wp_walk
    rw [hn]
    simp only [hs, Bool.not_true, Bool.false_eq_true, if_false, if_true]
    rw [show (0 : Int) + (k - 1) * 1 = k - 1 by omega]
    wp_walk
    exact ⟨_, rfl, h⟩

section
variable {prog : Program} {w : World} {A : Around} {E : Value → Shared → Prop} {s : Shared}
theorem code_reversed_range {r : Addr} {k : Int} {t u v : Tok} {Q₁ : Value → Shared → Prop} (hr : IsRange s.heap r 0 k 1 t u v) (h0 : 0 ≤ k) (h1 : k < 1000)
    (h : Q₁ (.ref s.heap.objs.size) { s with heap := s.heap.push (rrevObj k) }) :
    codeAny (model prog w) A (.call (.builtin "reversed.__new__") ⟨[.type "reversed", .ref r], []⟩) (wants Q₁ E) s := by
  have hT : s.TypeIs (.ref r) "range" := ⟨_, hr, rfl⟩
  refine codeAny_of_tree ?_
  show wpAny _ A.in1 (do checkBuiltinCall "reversed.__new__" ⟨[.type "reversed", .ref r], []⟩; again (.builtin "reversed.__new__" ⟨[.type "reversed", .ref r], []⟩)) _ _ s
  refine wpAny_bind (wpAny_of_eq (F.newCall_reversed_1 _) (wpAny_pure ⟨plainId_quiet F.plain_reversed_new _, codeAny_builtin F.entry_reversed_new ?_⟩))
  rw [Around.under_plainId F.plain_reversed_new _]
  unfold Builtin.«reversed.__new__»
  refine wpAny_bind (wpAny_of_eq (newClass_reversed _) ?_)
  try dsimp only
  refine wpAny_bind (wpAny_of_eq (a := ()) (by first | rfl | kernel_rfl) ?_)
  refine wpAny_bind (wpAny_of_eq (a := ()) (by first | rfl | kernel_rfl) ?_)
  try dsimp only
  refine wpAny_bind (wpAny_specialOf hT F.slot_range_reversed.lookup ?_)
  try dsimp only
  refine wpAny_bind (wpAny_of_eq (F.slot_range_reversed.bind _) ?_)
  try dsimp only
  first
  | rw [if_neg (show ¬ ((Value.builtin "range.__reversed__" == Value.none) = true) from Bool.false_ne_true)]
  | (show wpAny _ _ (if (Value.builtin "range.__reversed__" == Value.none) = true then _ else _) _ _ _; rw [if_neg (show ¬ ((Value.builtin "range.__reversed__" == Value.none) = true) from Bool.false_ne_true)])
  refine wpAny_bind (wpAny_rule ?_)
  refine wpAny_bind (m := runValue (.call (.builtin "range.__reversed__") ⟨[.ref r], []⟩)) (show wpAny _ _ (call (.builtin "range.__reversed__") [.ref r]) _ _ _ from call_meets F.slot_range_reversed hT F.entry_range_reversed (F.args_range_reversed_1 _) (range_reversed_meets r k t u v h0 h1) ⟨hr, ?_⟩)
  first
  | exact wpAny_pure h
  | exact wpAny_bind (wpAny_pure (wpAny_pure h))
theorem call_reversed_range {r : Addr} {k : Int} {t u v : Tok} {Q : Value → Shared → Prop} (hr : IsRange s.heap r 0 k 1 t u v) (h0 : 0 ≤ k) (h1 : k < 1000)
    (h : Q (.ref s.heap.objs.size) { s with heap := s.heap.push (rrevObj k) }) : wpAny (model prog w) A (call (.type "reversed") [.ref r]) Q E s := by
  refine callType_other (U := "range_iterator") (Q₁ := fun obj s₁ => obj = .ref s.heap.objs.size ∧ s₁ = { s with heap := s.heap.push (rrevObj k) }) (by decide +kernel) F.create_reversed ⟨_, _, F.mro_reversed⟩ F.made_reversed (by rw [isSubtype_type]; kernel_rfl) (F.typeCall_reversed_1 _) (code_reversed_range hr h0 h1 ⟨rfl, rfl⟩) ?_
  rintro obj s₁ ⟨rfl, rfl⟩
  exact ⟨⟨_, Heap.get?_push_size _ rfl, rfl⟩, h⟩
end
theorem rrev_loop {prog : Program} {w : World} {A : Around} {E : Value → Shared → Prop} {s : Shared} {env : Env} {h₀ : Heap} {x : Str} {body : List Stmt} {Q : Flow → Shared → Prop} {I : Addr} {k : Nat} {m₀ : Str → Option Value} {news : List (Addr × Obj)} (J : Nat → (Str → Option Value) → List (Addr × Obj) → Prop)
    (hh : A.handled = none) (hit : IsRangeIter s.heap I ((k : Int) - 1) (k : Int) (-1)) (hI : h₀.get? I = none) (hL : env.locals ≠ I) (hnw : ∀ p ∈ news, p.1 ≠ I)
    (F : Fr h₀ env.locals s.heap m₀) (N : News h₀ env.locals s.heap news) (hj : J 0 m₀ news)
    (turn : ∀ i t m₁ nx h tk own, i < k → OwnOff own (nx.map (·.1)) → J i m₁ nx → Fr h₀ env.locals h (fun y => if y = x then some (.int ((k - 1 - i : Nat) : Int) t) else m₁ y) → News h₀ env.locals h (nx ++ own) →
      wpAny (model prog w) A (execs body env) (InvPostG h₀ env.locals (J (i + 1)) own { s with heap := h, toks := tk } Q) E { s with heap := h, toks := tk })
    (done : ∀ m₁ nx h tk, J k m₁ nx → Fr h₀ env.locals h m₁ → News h₀ env.locals h nx → Q .next { s with heap := h, toks := tk }) :
    LoopAtV prog w A h₀ env x body Q E (.ref I) s := by
  have W := (Walks.range (prog := prog) (w := w) (A := A) hh I ((k : Int) - 1) (-1) k).bound
  refine kdr_loop J W (fun _ h => h) (fun _ h => h) ?_ ?_ ?_ ?_ ?_ F N hj ?_ done
  · intro i h hi b hb
    rw [List.mem_singleton.mp hb]
    exact ⟨_, hi⟩
  · intro hm
    exact hL (List.mem_singleton.mp hm)
  · intro b hb
    rw [List.mem_singleton.mp hb]
    exact hI
  · intro p hp hm
    exact hnw p hp (List.mem_singleton.mp hm)
  · show IsRangeIter _ _ _ _ _
    simpa using hit
  · rintro i v m₁ nx h tk own hi ⟨_, t, rfl⟩ hoff hJ F₁ N₁
    have e : (k : Int) - 1 + (i : Int) * (-1) = ((k - 1 - i : Nat) : Int) := by omega
    rw [e] at F₁
    exact turn i t m₁ nx h tk own hi hoff hJ F₁ N₁

/-- a loop's state between turns: ledger and named locals by c -/
def KsJ {σ : Type} (Led : σ → List (Addr × Obj)) (ps : σ → List (Str × Value)) (x : Str) (stored : List Str) (m₀ : Str → Option Value) (P : σ → Prop) (m : Str → Option Value) (nx : List (Addr × Obj)) : Prop :=
  ∃ c : σ, nx = Led c ∧ (∀ p ∈ ps c, m p.1 = some p.2) ∧ (∀ z, z ≠ x → (∀ p ∈ ps c, z ≠ p.1) → stored.contains z = false → m z = m₀ z) ∧ P c

section
variable {prog : Program} {w : World} {A : Around} {E : Value → Shared → Prop} {s : Shared} {env : Env} {h₀ : Heap} {x : Str} {body : List Stmt} {Q : Flow → Shared → Prop} {m₀ : Str → Option Value} {news : List (Addr × Obj)} {σ : Type}

theorem ksj_end {L : Addr} {Led : σ → List (Addr × Obj)} {ps : σ → List (Str × Value)} {stored : List Str} {P : σ → Prop} {own news' : List (Addr × Obj)} {s₁ : Shared} {h' : Heap} {tk : Nat} {m' : Str → Option Value} (c : σ) (F : Fr h₀ L h' m') (N : News h₀ L h' news')
    (hn : ∀ p ∈ Led c, p ∈ news') (ho : ∀ p ∈ own, p ∈ news') (ha : OwnOff own ((Led c).map (·.1))) (hk : ∀ p ∈ ps c, m' p.1 = some p.2) (hr : ∀ z, z ≠ x → (∀ p ∈ ps c, z ≠ p.1) → stored.contains z = false → m' z = m₀ z) (hp : P c) :
    InvEndG h₀ L (KsJ Led ps x stored m₀ P) own s₁ { s₁ with heap := h', toks := tk } := ⟨h', tk, m', news', Led c, rfl, F, N, hn, ho, ha, c, rfl, hk, hr, hp⟩

theorem rrev_st {I : Addr} {k : Nat} (Led : σ → List (Addr × Obj)) (ps : σ → List (Str × Value)) (stored : List Str) (P : Nat → σ → Prop) (c₀ : σ)
    (hh : A.handled = none) (hit : IsRangeIter s.heap I ((k : Int) - 1) (k : Int) (-1)) (hI : h₀.get? I = none) (hL : env.locals ≠ I) (hnw : ∀ p ∈ Led c₀, p.1 ≠ I)
    (F : Fr h₀ env.locals s.heap m₀) (N : News h₀ env.locals s.heap (Led c₀)) (hk : ∀ p ∈ ps c₀, m₀ p.1 = some p.2) (hp : P 0 c₀)
    (turn : ∀ i c t (u : Str → Option Value) h tk own, i < k → OwnOff own ((Led c).map (·.1)) → P i c → Fr h₀ env.locals h (fun y => if y = x then some (.int ((k - 1 - i : Nat) : Int) t) else kstB (fun z => if stored.contains z then u z else m₀ z) (ps c) y) → News h₀ env.locals h (Led c ++ own) →
      wpAny (model prog w) A (execs body env) (InvPostG h₀ env.locals (KsJ Led ps x stored m₀ (P (i + 1))) own { s with heap := h, toks := tk } Q) E { s with heap := h, toks := tk })
    (done : ∀ c (u : Str → Option Value) h tk, P k c → Fr h₀ env.locals h (fun y => if y = x then u y else kstB (fun z => if stored.contains z then u z else m₀ z) (ps c) y) → News h₀ env.locals h (Led c) → Q .next { s with heap := h, toks := tk }) :
    LoopAtV prog w A h₀ env x body Q E (.ref I) s := by
  refine rrev_loop (fun i m nx => KsJ Led ps x stored m₀ (P i) m nx) hh hit hI hL hnw F N ⟨c₀, rfl, hk, fun _ _ _ _ => rfl, hp⟩ ?_ ?_
  · rintro i t m₁ nx h tk own hi hoff ⟨c, rfl, h1, h2, hp'⟩ F₁ N₁
    exact turn i c t m₁ h tk own hi hoff hp' (kst_fr h1 h2 F₁) N₁
  · rintro m₁ nx h tk ⟨c, rfl, h1, h2, hp'⟩ F₁ N₁
    exact done c m₁ h tk hp' (kst_frOut h1 h2 F₁) N₁

theorem list_st {l : Addr} {vs : List Value} {nn : Nat} (Led : σ → List (Addr × Obj)) (ps : σ → List (Str × Value)) (stored : List Str) (P : Nat → σ → Prop) (c₀ : σ)
    (hh : A.handled = none) (hl : (l, listOf vs.toArray nn) ∈ Led c₀) (hl' : ∀ c, (l, listOf vs.toArray nn) ∈ Led c)
    (F : Fr h₀ env.locals s.heap m₀) (N : News h₀ env.locals s.heap (Led c₀)) (hk : ∀ p ∈ ps c₀, m₀ p.1 = some p.2) (hp : P 0 c₀)
    (turn : ∀ i v c (u : Str → Option Value) h tk own, vs[i]? = some v → OwnOff own ((Led c).map (·.1)) → P i c → Fr h₀ env.locals h (fun y => if y = x then some v else kstB (fun z => if stored.contains z then u z else m₀ z) (ps c) y) → News h₀ env.locals h (Led c ++ own) →
      wpAny (model prog w) A (execs body env) (InvPostG h₀ env.locals (KsJ Led ps x stored m₀ (P (i + 1))) own { s with heap := h, toks := tk } Q) E { s with heap := h, toks := tk })
    (done : ∀ c (u : Str → Option Value) h tk, P vs.length c → Fr h₀ env.locals h (fun y => if y = x then u y else kstB (fun z => if stored.contains z then u z else m₀ z) (ps c) y) → News h₀ env.locals h (Led c) → Q .next { s with heap := h, toks := tk }) :
    wpAny (model prog w) A (pyIter (.ref l)) (fun it s₂ => LoopAtV prog w A h₀ env x body Q E it s₂) E s := by
  refine kdl_iter (fun i m nx => KsJ Led ps x stored m₀ (P i) m nx) hh hl F N ⟨c₀, rfl, hk, fun _ _ _ _ => rfl, hp⟩ ?_ ?_
  · rintro i v m₁ nx h tk own hv hoff hm ⟨c, rfl, h1, h2, hp'⟩ F₁ N₁
    refine wpAny_mono (turn i v c m₁ h tk own hv hoff hp' (kst_fr h1 h2 F₁) N₁) (fun f s₂ p => ?_) fun _ _ e => e
    have fin : InvEndG h₀ env.locals (KsJ Led ps x stored m₀ (P (i + 1))) own { s with heap := h, toks := tk } s₂ → InvEndG h₀ env.locals (fun m' nx => (l, listOf vs.toArray nn) ∈ nx ∧ KsJ Led ps x stored m₀ (P (i + 1)) m' nx) own { s with heap := h, toks := tk } s₂ := by
      rintro ⟨h', tk', m', news', nx, e, F', N', hn, ho, ha, c', rfl, hj⟩
      exact ⟨h', tk', m', news', _, e, F', N', hn, ho, ha, hl' c', c', rfl, hj⟩
    cases f with
    | ret v => exact p
    | brk => exact p
    | next => exact fin p
    | cont => exact fin p
  · rintro m₁ nx h tk ⟨c, rfl, h1, h2, hp'⟩ F₁ N₁
    exact done c m₁ h tk hp' (kst_frOut h1 h2 F₁) N₁

theorem range_st {r : Addr} {t₀ u₀ v₀ : Tok} {n : Nat} (Led : σ → List (Addr × Obj)) (ps : σ → List (Str × Value)) (stored : List Str) (P : Nat → σ → Prop) (c₀ : σ)
    (hh : A.handled = none) (hr : IsRange s.heap r 0 (n : Int) 1 t₀ u₀ v₀) (hsm : n < 1000)
    (F : Fr h₀ env.locals s.heap m₀) (N : News h₀ env.locals s.heap (Led c₀)) (hk : ∀ p ∈ ps c₀, m₀ p.1 = some p.2) (hp : P 0 c₀)
    (turn : ∀ i c t (u : Str → Option Value) h tk own, i < n → OwnOff own ((Led c).map (·.1)) → P i c → Fr h₀ env.locals h (fun y => if y = x then some (.int (i : Int) t) else kstB (fun z => if stored.contains z then u z else m₀ z) (ps c) y) → News h₀ env.locals h (Led c ++ own) →
      wpAny (model prog w) A (execs body env) (InvPostG h₀ env.locals (KsJ Led ps x stored m₀ (P (i + 1))) own { s with heap := h, toks := tk } Q) E { s with heap := h, toks := tk })
    (done : ∀ c (u : Str → Option Value) h tk, P n c → Fr h₀ env.locals h (fun y => if y = x then u y else kstB (fun z => if stored.contains z then u z else m₀ z) (ps c) y) → News h₀ env.locals h (Led c) → Q .next { s with heap := h, toks := tk }) :
    wpAny (model prog w) A (pyIter (.ref r)) (fun it s₂ => LoopAtV prog w A h₀ env x body Q E it s₂) E s := by
  have hsz : Builtin.Range.rangeSize 0 (n : Int) 1 = (n : Int) := rangeSize01 _ (by omega)
  have hsmall : Builtin.Range.small 0 (n : Int) 1 = true := small01 _ (by omega) (by omega)
  refine wpAny_pyIter_range hr hsmall ?_
  have W : Walks prog w A s.heap.objs.size [s.heap.objs.size] [s.heap.objs.size] n (fun i v => i < n ∧ ∃ t, v = .int (0 + i * 1) t)
      (fun i h => IsRangeIter h s.heap.objs.size (0 + (i : Nat) * 1) ((n : Int) - (i : Nat)) 1) := (Walks.range hh _ 0 1 n).bound
  refine kdr_loop (fun i m nx => KsJ Led ps x stored m₀ (P i) m nx) W (fun _ h => h) (fun _ h => h) ?_ ?_ ?_ ?_ (by show IsRangeIter _ _ _ _ _; rw [hsz]; simpa using Heap.get?_push_size _ rfl) (F.push _) (fun p hp => ⟨Heap.get?_push_of_some _ (N p hp).1, (N p hp).2⟩) ⟨c₀, rfl, hk, fun _ _ _ _ => rfl, hp⟩ ?_ ?_
  · intro i h hi b hb
    rw [List.mem_singleton.mp hb]
    exact ⟨_, hi⟩
  · intro hm
    exact absurd F.ns.lt ((List.mem_singleton.mp hm) ▸ Nat.lt_irrefl _)
  · intro b hb
    rw [List.mem_singleton.mp hb]
    exact next_is_new F
  · intro p hp hI
    exact absurd (Heap.lt_size (N p hp).1) ((List.mem_singleton.mp hI) ▸ Nat.lt_irrefl _)
  · rintro i v m₁ nx h tk own hi ⟨_, t, rfl⟩ hoff ⟨c, rfl, h1, h2, hp'⟩ F₁ N₁
    have e : (0 : Int) + (i : Int) * 1 = (i : Int) := by omega
    rw [e] at F₁
    exact turn i c t m₁ h tk own hi hoff hp' (kst_fr h1 h2 F₁) N₁
  · rintro m₁ nx h tk ⟨c, rfl, h1, h2, hp'⟩ F₁ N₁
    exact done c m₁ h tk hp' (kst_frOut h1 h2 F₁) N₁
end
end Mine
end

section
open PySem PySem.W PyProof.Rows PySem.Spec PySem.Calls
set_option Elab.async false
set_option maxRecDepth 100000
set_option maxHeartbeats 8000000
namespace Mine

section
variable {prog : Program} {w : World} {A : Around} {s : Shared} {h₀ : Heap} {L : Addr} {m mg mb : Str → Option Value} {news : List (Addr × Obj)} {K : Frag} {p : Program} {loose : List Str} {mean : ExcName → Option Value}
  {R : Result → Shared → Prop} {name qual : Str} {params : Arguments} {body : List Stmt} {scope : Scope} {dV kV doc pm cdv ct oc : Value} {an od : Option Addr} {osl : Array (Option Value)} {f : Addr} {args : Args} {binds : List (Str × Value)}

/-- what the callee's base keeps of the caller's -/
theorem hide_stays {as : List Addr} (F : Fr h₀ L s.heap m) (ha : ∀ b ∈ as, h₀.get? b = none) : h₀.StaysIn (hideAll s.heap as) :=
  fun b o e => hideAll_get _ (F.keep b o e) fun q => by rw [ha b q] at e; cases e
theorem news_off (N : News h₀ L s.heap news) : ∀ b ∈ news.map (·.1), h₀.get? b = none := fun b hb => by
  obtain ⟨q, hq, rfl⟩ := List.mem_map.mp hb
  exact (N q hq).2.2
theorem news_offL (N : News h₀ L s.heap news) : L ∉ news.map (·.1) := fun hb => by
  obtain ⟨q, hq, e⟩ := List.mem_map.mp hb
  exact (N q hq).2.1 e

/-- back in the caller: its frame and the ledger, when the callee's base was the caller's heap without the ledger -/
theorem leave_hide (F : Fr h₀ L s.heap m) (N : News h₀ L s.heap news) (v : Value) (s' : Shared) (hl : LeaveK h₀ L m (hideAll s.heap (news.map (·.1))) R v s') : R (.ok (.ret v)) s' := by
  obtain ⟨L', m', news', F', N', k⟩ := hl
  have st := hide_stays F (news_off N)
  obtain ⟨oL, es, ep, hL, hLd, hLk, hLf⟩ := F.ns
  have hLg : (hideAll s.heap (news.map (·.1))).get? L = some oL := hideAll_get _ hL (news_offL N)
  refine k ⟨⟨oL, es, ep, F'.keep _ _ hLg, hLd, hLk, hLf⟩, fun b o e => F'.keep b o (st b o e), F.above⟩ fun q hq => ⟨(N' q hq).1, fun e => ?_, ?_⟩
  · have h1 := (N' q hq).2.2
    rw [e, hLg] at h1
    cases h1
  · cases e : h₀.get? q.1 with
    | none => rfl
    | some o =>
      have h1 := (N' q hq).2.2
      rw [st _ _ e] at h1
      cases h1

theorem callY (F : Fr h₀ L s.heap m) (X₀ : K.In h₀) (N : News h₀ L s.heap news) (T : Top p loose mean mg mb h₀)
    (ho : K.lookup f = some ⟨oc, od, .func (fnOf name qual params body scope dV kV doc pm an cdv ct), osl⟩) (hcd : codeIn K cdv qual = true) (hroom : A.depth < recursionLimit)
    (hbind : BindsTo s (fnOf name qual params body scope dV kV doc pm an cdv ct) args binds) (hloc : ∀ y ∈ binds, scope.names.lookup y.1 = some .local)
    (h : ∀ g L' h₁, Fr g L' h₁ (fun y => binds.reverse.lookup y) → News g L' h₁ news → K.In g → Top p loose mean mg mb g → (∀ q ∈ news, q.1 < L') →
      wpAny (model prog w) (A.deeper (envOf qual scope L' f cdv)) (execs body (envOf qual scope L' f cdv))
        (fun fl s' => LeaveK h₀ L m g R (match fl with | .ret v => v | _ => .none) s')
        (fun e s' => wpAny (model prog w) (A.deeper (envOf qual scope L' f cdv)) (leaving (envOf qual scope L' f cdv) e) (fun _ s'' => R (.error e) s'') (fun e' s'' => R (.error e') s'') s')
        { s with heap := h₁, toks := s.toks + binds.length })
    (hco : scope.isCoroutine = false) (hgen : scope.isGenerator = false) (hk : scope.kind = .function) (hcell : ∀ x ∈ scope.names, x.2 ≠ .cell) : codeAny (model prog w) A (.call (.ref f) args) R s := by
  have X := X₀.keeps F.keep
  have st := hide_stays F (news_off N)
  refine codeAny_call_def (fd := fnOf name qual params body scope dV kV doc pm an cdv ct) (body := body) (binds := binds) hroom (X _ _ ho) rfl (T.nolimit.keeps F.keep) (codeRec_of X hcd) rfl hbind hcell hloc (fun h₁ hns hk₁ => ?_) hco hgen hk
  refine wpAny_mono (h _ s.heap.objs.size h₁ ⟨hns, fun b o e => hk₁ b o (of_hideAll _ e), Nat.le_of_eq (hideAll_size _ _)⟩
    (fun q hq => ⟨hk₁ _ _ (N q hq).1, Nat.ne_of_lt (Heap.lt_size (N q hq).1), hideAll_none _ (List.mem_map_of_mem hq)⟩) (X₀.keeps st) (T.keeps st) fun q hq => Heap.lt_size (N q hq).1) (fun fl s' hl => ?_) fun _ _ y => y
  exact leave_hide F N _ _ hl

/-- the same for a def with captured locals -/
theorem callYC (F : Fr h₀ L s.heap m) (X₀ : K.In h₀) (N : News h₀ L s.heap news) (T : Top p loose mean mg mb h₀)
    (ho : K.lookup f = some ⟨oc, od, .func (fnOf name qual params body scope dV kV doc pm an cdv ct), osl⟩) (hcd : codeIn K cdv qual = true) (hroom : A.depth < recursionLimit)
    (hbind : BindsTo s (fnOf name qual params body scope dV kV doc pm an cdv ct) args binds)
    (hkind : (binds.all fun y => scope.names.lookup y.1 == some .local || scope.names.lookup y.1 == some .cell) = true)
    (hnd : ((cellsFrom 0 scope.names []).map (·.1)).Nodup)
    (h : ∀ g L' h₁ tk cells, Fr g L' h₁ (bindL (envOfC qual scope L' f cdv).kindOf binds fun _ => none) → News g L' h₁ (cells ++ news) →
      CellsAre (bindC (envOfC qual scope L' f cdv).kindOf binds fun _ => none) (cellsFrom (L' + 1) scope.names []) cells → K.In g → Top p loose mean mg mb g → (∀ q ∈ news, q.1 < L') →
      wpAny (model prog w) (A.deeper (envOfC qual scope L' f cdv)) (execs body (envOfC qual scope L' f cdv))
        (fun fl s' => LeaveK h₀ L m g R (match fl with | .ret v => v | _ => .none) s')
        (fun e s' => wpAny (model prog w) (A.deeper (envOfC qual scope L' f cdv)) (leaving (envOfC qual scope L' f cdv) e) (fun _ s'' => R (.error e) s'') (fun e' s'' => R (.error e') s'') s')
        { s with heap := h₁, toks := tk })
    (hco : scope.isCoroutine = false) (hgen : scope.isGenerator = false) (hk : scope.kind = .function) : codeAny (model prog w) A (.call (.ref f) args) R s := by
  have X := X₀.keeps F.keep
  have st := hide_stays F (news_off N)
  refine codeAny_call_function hroom (X _ _ ho) rfl hco hgen rfl (codeRec_of X hcd) (hbind _ _ _ _ ?_)
  refine wpAny_newFunctionEnv_cells hk (kindsX hkind _) fun env' he s' x => ?_
  subst he
  refine ⟨((T.nolimit.keeps F.keep)).keeps x.toInCall.keep, codeAny_func ?_⟩
  obtain ⟨h₁, tk, rfl, _⟩ := x.done
  have hk₁ := x.toInCall.keep
  obtain ⟨cells, NC, Y⟩ := Cl.news (h₀ := s.heap) (Nat.le_refl _) fun n c hm => ⟨x.cell n c (lookup_of_mem_nodup (cellsFrom_names scope.names 0 (s.heap.objs.size + 1) [] [] rfl ▸ hnd) hm), x.above n c hm⟩
  refine wpAny_mono (h _ s.heap.objs.size h₁ tk cells ⟨x.toInCall.ns, fun b o e => hk₁ b o (of_hideAll _ e), Nat.le_of_eq (hideAll_size _ _)⟩ (fun q hq => ?_) Y (X₀.keeps st) (T.keeps st) fun q hq => Heap.lt_size (N q hq).1) (fun fl s' hl => leave_hide F N _ _ hl) fun _ _ y => y
  rcases List.mem_append.mp hq with hq | hq
  · refine ⟨(NC q hq).1, (NC q hq).2.1, ?_⟩
    cases e : (hideAll s.heap (news.map (·.1))).get? q.1 with
    | none => rfl
    | some o =>
      have h1 := of_hideAll _ e
      rw [(NC q hq).2.2] at h1
      cases h1
  · exact ⟨hk₁ _ _ (N q hq).1, Nat.ne_of_lt (Heap.lt_size (N q hq).1), hideAll_none _ (List.mem_map_of_mem hq)⟩
end
end Mine
end

section
open PySem PySem.W PyProof.Rows
set_option Elab.async false
set_option maxRecDepth 100000
set_option maxHeartbeats 8000000
set_option linter.all false
namespace Mine
local macro_rules | `(tactic| ktr_rel) => `(tactic| first
  | (with_reducible show wpAny _ _ (exec (Stmt.While _ _ _ _) _) _ _ _)
  | (with_reducible show wpAny _ _ (exec (Stmt.For _ _ _ _ _) _) _ _ _)
  | (with_reducible show wpAny _ _ (call (Value.ref _) _ _) _ _ _)
  | (with_reducible show wpAny _ _ (subscriptTail _ _ (Value.ref _) _) _ _ _)
  | (with_reducible show wpAny _ _ (setItem (Value.ref _) _ _) _ _ _)
  | (with_reducible show wpAny _ _ (truthy (Value.ref _)) _ _ _)
  | (with_reducible show wpAny _ _ (call (Value.builtin "list.pop") _ _) _ _ _)
  | (with_reducible show KswEnd _ _ _ _ _ _ _ _ _ _ _ _)
  | (with_reducible show InvEndG _ _ _ _ _ _))
local macro_rules | `(tactic| ktr_unf) => `(tactic| repeat' (first | (k_unfold; (try dsimp only)) | ((fail_if_success ktr_rel); first | walk1 | (dsimp only; walk1))))
local macro_rules | `(tactic| ktr_enter) => `(tactic| (
  have fill : PySem.Challenge.rw_op0048_01 = PySem.Challenge.rw_op0048_01 ∧ Mine.hd.heap_39 = Mine.hd.heap_39 := by
    k_fill
    exact ⟨rfl, rfl⟩
  clear fill
  w_top on
  refine wpAny_call ?_
  k_dflt (refine' callY ?k2 ?k3 ?k4 ?k5 ?k6 ?k7 ?k8 ?k9 ?kB ?_ ?c2 ?c3 ?c4 ?c5; (case k2 => k_asm); (case k3 => k_asm); (case k4 => k_asm); (case k5 => k_asm); (case k6 => k_is); (case k7 => k_is); (case k8 => omega); (case k9 => exact BindsTo.of_eq rfl); (case c5 => decide); (case kB => exact locs rfl); (case c2 => exact rfl); (case c3 => exact rfl); (case c4 => exact rfl); k_whole; intro g' L' h' F' N' X' T' l1; (try dsimp only); (try k_fold))))

theorem shr1 {q : Nat} (h : 0 < q) : ((q : Int) - 1).fdiv (2 ^ Int.toNat 1) = (((q - 1) / 2 : Nat) : Int) := by
  have : (2 : Int) ^ Int.toNat 1 = 2 := rfl
  rw [this, Int.fdiv_eq_ediv_of_nonneg _ (by omega)]
  omega
theorem mem_getD {l : List Nat} {i : Nat} (h : i < l.length) : l.getD i 0 ∈ l := by
  rw [List.getD_eq_getElem?_getD, List.getElem?_eq_getElem h]
  exact List.getElem_mem h
theorem mem_set_of {l : List Nat} {i x : Nat} {S : Nat → Prop} (hl : ∀ j ∈ l, S j) (hx : S x) : ∀ j ∈ l.set i x, S j := fun j hj => by
  rcases List.mem_or_eq_of_mem_set hj with h | h
  · exact hl j h
  · exact h ▸ hx
theorem siftdown_t {w : World} {p : Program} {loose : List Str} {mean : ExcName → Option Value} {mg mb : Str → Option Value}
    {A : Around} {h₀ : Heap} {L : Addr} {m : Str → Option Value} {news : List (Addr × Obj)} {s : Shared}
    {Q E : Value → Shared → Prop} {hp : Addr} {rs : List Nat} {f : Nat → Value} {n : Nat} {S : Nat → Prop} {start pos : Nat} {k1 k2 : Int} {t1 t2 : Tok}
    (F : Fr h₀ L s.heap m) (X : (hd.heap_39 w.params).In h₀) (N : News h₀ L s.heap ((hp, listOf (rs.map f).toArray n) :: news)) (T : Top p loose mean mg mb h₀) (hh : A.handled = none)
    (hlt : LtOk w news f S) (hS : ∀ i ∈ rs, S i) (hne : ∀ p ∈ news, p.1 ≠ hp) (e1 : k1 = (start : Int)) (e2 : k2 = (pos : Int)) (hpos : pos < rs.length) (hsz : rs.length < 1000)
    (hd : A.depth + 10 < recursionLimit) (hu : A.units + 200 < cLine)
    (hret : ∀ h' tk', Fr h₀ L h' m → News h₀ L h' ((hp, listOf ((siftdownN rs start pos).map f).toArray n) :: news) → Q .none { s with heap := h', toks := tk' }) :
    wpAny (model prg w) A (call (.ref 50) [.ref hp, .int k1 t1, .int k2 t2]) Q E s := by
  subst e1 e2
  ktr_enter
  rename_i g1 L1 h1 F1 N1 X1 T1 l1
  ktr_unf
  refine hl_item (by assumption) rfl hpos hsz ?_
  ktr_unf
  rename_i h1a F1 N1
  refine ksw_while (σ := Nat × List Nat × Tok) (fun c => (hp, listOf (c.2.1.map f).toArray n) :: news) (fun c => [(Str.ofString "pos", .int c.1 c.2.2)]) (fun _ => True) [Str.ofString "parentpos", Str.ofString "parent"]
    (fun c => c.1 < c.2.1.length ∧ c.2.1.length = rs.length ∧ (∀ i ∈ c.2.1, S i) ∧ sdN start (rs.getD pos 0) c.1 c.1 c.2.1 = siftdownN rs start pos) (fun c => c.1) (pos, rs, t2) F1 N1 trivial ?_ ⟨hpos, rfl, hS, rfl⟩ ?_
  · intro p hp
    cases hp with
    | head => rfl
    | tail _ h => cases h
  · rintro ⟨q, l, tq⟩ u h tk - ⟨i1, i2, i3, i4⟩ F2 N2
    dsimp only at i1 i2 i3 i4 F2 N2 ⊢
    ktr_unf
    · rename_i hlt1 h3 F3 N3
      have hq : start < q := by omega
      refine hl_item (i := (q - 1) / 2) N3 (shr1 (by omega)) (by omega) (by omega) ?_
      ktr_unf
      rename_i h4 F4 N4
      refine hlt _ _ (hS _ (mem_getD hpos)) (i3 _ (mem_getD (by omega))) _ _ _ _ _ _ (by show A.units + 3 + 100 < cLine; omega) (fun p hp => N4 p (.tail _ hp)) ?_
      intro tk5
      ktr_unf
      · rename_i hx
        dsimp only
        refine hl_set (i := q) F4 N4 hne rfl i1 (by omega) ?_
        intro h5 F5 N5
        ktr_unf
        rename_i h6 F6 N6
        rw [sdN_step, if_pos hq, if_pos hx] at i4
        refine ksw_end ((q - 1) / 2, l.set q (l.getD ((q - 1) / 2) 0), ?tq) F6 N6 (fun p hp => hp) trivial ?_ ?_ ⟨?_, ?_, ?_, i4⟩ ?_
        rotate_left 1
        · intro p hp
          cases hp with
          | head => exact congrArg (fun z => some (Value.int z _)) (shr1 (q := q) (by omega))
          | tail _ h => cases h
        · intro z h2 h3
          have h2 := h2 _ (.head _)
          simp only [List.contains_cons, List.contains_nil, Bool.or_false, Bool.or_eq_false_iff, beq_eq_false_iff_ne, ne_eq] at h2 h3
          simp [kstB, h2, h3]
        · simp; omega
        · simp; omega
        · exact mem_set_of i3 (i3 _ (mem_getD (by omega)))
        · show (q - 1) / 2 < q
          omega
      · rename_i hx
        dsimp only
        refine hl_set (i := q) F4 N4 hne rfl i1 (by omega) ?_
        intro h5 F5 N5
        ktr_unf
        rename_i kF kN kT kX
        refine hret _ _ kF ?_
        rw [sdN_step, if_pos hq, if_neg hx] at i4
        rw [i4] at kN
        exact kN
    · dsimp only
      refine hl_set (i := q) F2 N2 hne rfl i1 (by omega) ?_
      intro h3 F3 N3
      ktr_unf
      rename_i kF kN kT kX
      refine hret _ _ kF ?_
      rw [sdN_step, if_neg (by omega)] at i4
      rw [i4] at kN
      exact kN

def childN (l : List Nat) (pos : Nat) : Nat := if 2 * pos + 2 < l.length then (if l.getD (2 * pos + 1) 0 < l.getD (2 * pos + 2) 0 then 2 * pos + 1 else 2 * pos + 2) else 2 * pos + 1
def suN : Nat → Nat → List Nat → Nat × List Nat
  | 0, pos, l => (pos, l)
  | k + 1, pos, l => if 2 * pos + 1 < l.length then suN k (childN l pos) (l.set pos (l.getD (childN l pos) 0)) else (pos, l)
def siftupN (l : List Nat) (pos : Nat) : List Nat := siftdownN ((suN (l.length - pos) pos l).2.set (suN (l.length - pos) pos l).1 (l.getD pos 0)) pos (suN (l.length - pos) pos l).1
theorem childN_gt (l : List Nat) (pos : Nat) : pos < childN l pos := by unfold childN; (repeat' split) <;> omega
theorem childN_lt {l : List Nat} {pos : Nat} (h : 2 * pos + 1 < l.length) : childN l pos < l.length := by unfold childN; (repeat' split) <;> omega
theorem suN_fuel : ∀ k pos (l : List Nat), l.length - pos ≤ k → suN k pos l = suN (l.length - pos) pos l := by
  intro k
  induction k using Nat.strongRecOn with
  | _ k ih =>
    intro pos l h
    cases k with
    | zero => rw [show l.length - pos = 0 by omega]
    | succ k =>
      by_cases hc : 2 * pos + 1 < l.length
      · obtain ⟨j, hj⟩ : ∃ j, l.length - pos = j + 1 := ⟨l.length - pos - 1, by omega⟩
        have h1 := childN_gt l pos
        have h2 := childN_lt hc
        rw [hj]
        simp only [suN, if_pos hc]
        rw [ih k (by omega) _ _ (by simp; omega), ih j (by omega) _ _ (by simp; omega)]
      · rw [suN, if_neg hc]
        cases hj : l.length - pos with
        | zero => rfl
        | succ j => rw [suN, if_neg hc]
theorem suN_step (l : List Nat) (pos : Nat) : suN (l.length - pos) pos l = if 2 * pos + 1 < l.length then suN ((l.set pos (l.getD (childN l pos) 0)).length - childN l pos) (childN l pos) (l.set pos (l.getD (childN l pos) 0)) else (pos, l) := by
  by_cases hc : 2 * pos + 1 < l.length
  · obtain ⟨j, hj⟩ : ∃ j, l.length - pos = j + 1 := ⟨l.length - pos - 1, by omega⟩
    have h1 := childN_gt l pos
    have h2 := childN_lt hc
    rw [hj, suN, if_pos hc, if_pos hc]
    exact suN_fuel _ _ _ (by simp; omega)
  · rw [if_neg hc]
    cases hj : l.length - pos with
    | zero => rfl
    | succ j => rw [suN, if_neg hc]

theorem siftup_t {w : World} {p : Program} {loose : List Str} {mean : ExcName → Option Value} {mg mb : Str → Option Value}
    {A : Around} {h₀ : Heap} {L : Addr} {m : Str → Option Value} {news : List (Addr × Obj)} {s : Shared}
    {Q E : Value → Shared → Prop} {hp : Addr} {rs : List Nat} {f : Nat → Value} {n : Nat} {S : Nat → Prop} {pos : Nat} {k2 : Int} {t2 : Tok}
    (F : Fr h₀ L s.heap m) (X : (hd.heap_39 w.params).In h₀) (N : News h₀ L s.heap ((hp, listOf (rs.map f).toArray n) :: news)) (T : Top p loose mean mg mb h₀) (hh : A.handled = none)
    (hlt : LtOk w news f S) (hS : ∀ i ∈ rs, S i) (hne : ∀ p ∈ news, p.1 ≠ hp) (e2 : k2 = (pos : Int)) (hpos : pos < rs.length) (hsz : rs.length < 1000)
    (hd : A.depth + 20 < recursionLimit) (hu : A.units + 300 < cLine)
    (hret : ∀ h' tk', Fr h₀ L h' m → News h₀ L h' ((hp, listOf ((siftupN rs pos).map f).toArray n) :: news) → Q .none { s with heap := h', toks := tk' }) :
    wpAny (model prg w) A (call (.ref 57) [.ref hp, .int k2 t2]) Q E s := by
  subst e2
  ktr_enter
  rename_i g1 L1 h1 F1 N1 X1 T1 l1
  ktr_unf
  have ez : (List.map f rs).toArray.size = rs.length := by simp
  refine len_list (isList_news N1 (.head _)) (by rw [ez]; omega) ?_
  rw [ez]
  ktr_unf
  rename_i h2 F2 N2
  refine hl_item N2 rfl hpos hsz ?_
  ktr_unf
  rename_i h3 F3 N3
  refine ksw_while (σ := Nat × List Nat × Int × Tok × Tok) (fun c => (hp, listOf (c.2.1.map f).toArray n) :: news) (fun c => [(Str.ofString "pos", .int c.1 c.2.2.2.1), (Str.ofString "childpos", .int c.2.2.1 c.2.2.2.2)]) (fun _ => True) [Str.ofString "rightpos"]
    (fun c => c.2.2.1 = ((2 * c.1 + 1 : Nat) : Int) ∧ c.1 < c.2.1.length ∧ c.2.1.length = rs.length ∧ (∀ i ∈ c.2.1, S i) ∧ suN (c.2.1.length - c.1) c.1 c.2.1 = suN (rs.length - pos) pos rs) (fun c => rs.length - c.1) (pos, rs, 2 * pos + 1, ?t1, ?t2) F3 N3 trivial ?_ ⟨by push_cast; rfl, hpos, rfl, hS, rfl⟩ ?_
  rotate_left 2
  · intro p hp
    cases hp with
    | head => rfl
    | tail _ h =>
      cases h with
      | head => rfl
      | tail _ h => cases h
  · rintro ⟨q, l, ch, tq, tc⟩ u h tk - ⟨hch, i1, i2, i3, i4⟩ F4 N4
    dsimp only at hch i1 i2 i3 i4 F4 N4 ⊢
    subst hch
    ktr_unf
    · rename_i c1 h5 F5 N5 c2
      dsimp only
      refine hl_item (i := 2 * q + 1) N5 rfl (by omega) (by omega) ?_
      ktr_unf
      refine hl_item (i := 2 * q + 2) N5 (by push_cast; omega) (by omega) (by omega) ?_
      refine hlt _ _ (i3 _ (mem_getD (by omega))) (i3 _ (mem_getD (by omega))) _ _ _ _ _ _ (by show A.units + 3 + 100 < cLine; omega) (fun p hp => N5 p (.tail _ hp)) ?_
      intro tk5
      ktr_unf
      · rename_i hx
        dsimp only
        refine hl_item (i := 2 * q + 1) N5 rfl (by omega) (by omega) ?_
        ktr_unf
        dsimp only
        refine hl_set (i := q) F5 N5 hne rfl i1 (by omega) ?_
        intro h6 F6 N6
        ktr_unf
        rename_i h7 F7 N7
        have hch : childN l q = 2 * q + 1 := by unfold childN; rw [if_pos (by omega), if_pos hx]
        rw [suN_step, if_pos (by omega), hch] at i4
        refine ksw_end (2 * q + 1, l.set q (l.getD (2 * q + 1) 0), ?ch1, ?ta1, ?tb1) F7 N7 (fun p hp => hp) trivial ?_ ?_ ⟨?_, ?_, ?_, ?_, i4⟩ ?_
        rotate_left 3
        · intro p hp
          cases hp with
          | head => exact congrArg (fun z => some (Value.int z _)) rfl
          | tail _ h =>
            cases h with
            | head => rfl
            | tail _ h => cases h
        · intro z h2 h3
          have h2a := h2 _ (.head _)
          have h2b := h2 _ (.tail _ (.head _))
          simp only [List.contains_cons, List.contains_nil, Bool.or_false, Bool.or_eq_false_iff, beq_eq_false_iff_ne, ne_eq] at h2a h2b h3
          simp [kstB, h2a, h2b, h3]
        · dsimp only; omega
        · simp; omega
        · simp; omega
        · exact mem_set_of i3 (i3 _ (mem_getD (by omega)))
        · dsimp only; omega
      · rename_i hx h55 F55 N55
        dsimp only
        refine hl_item (i := 2 * q + 2) N55 (by push_cast; omega) (by omega) (by omega) ?_
        ktr_unf
        dsimp only
        refine hl_set (i := q) F55 N55 hne rfl i1 (by omega) ?_
        intro h6 F6 N6
        ktr_unf
        rename_i h7 F7 N7
        have hch : childN l q = 2 * q + 2 := by unfold childN; rw [if_pos (by omega), if_neg hx]
        rw [suN_step, if_pos (by omega), hch] at i4
        refine ksw_end (2 * q + 2, l.set q (l.getD (2 * q + 2) 0), ?ch2, ?ta2, ?tb2) F7 N7 (fun p hp => hp) trivial ?_ ?_ ⟨?_, ?_, ?_, ?_, i4⟩ ?_
        rotate_left 3
        · intro p hp
          cases hp with
          | head => exact congrArg (fun z => some (Value.int z _)) (show ((2 * q + 1 : Nat) : Int) + 1 = ((2 * q + 2 : Nat) : Int) by push_cast; omega)
          | tail _ h =>
            cases h with
            | head => rfl
            | tail _ h => cases h
        · intro z h2 h3
          have h2a := h2 _ (.head _)
          have h2b := h2 _ (.tail _ (.head _))
          simp only [List.contains_cons, List.contains_nil, Bool.or_false, Bool.or_eq_false_iff, beq_eq_false_iff_ne, ne_eq] at h2a h2b h3
          simp [kstB, h2a, h2b, h3]
        · dsimp only; omega
        · simp; omega
        · simp; omega
        · exact mem_set_of i3 (i3 _ (mem_getD (by omega)))
        · dsimp only; omega
    · rename_i c1 h5 F5 N5 c2
      dsimp only
      refine hl_item (i := 2 * q + 1) N5 rfl (by omega) (by omega) ?_
      ktr_unf
      dsimp only
      refine hl_set (i := q) F5 N5 hne rfl i1 (by omega) ?_
      intro h6 F6 N6
      ktr_unf
      rename_i h7 F7 N7
      have hch : childN l q = 2 * q + 1 := by unfold childN; rw [if_neg (by omega)]
      rw [suN_step, if_pos (by omega), hch] at i4
      refine ksw_end (2 * q + 1, l.set q (l.getD (2 * q + 1) 0), ?ch3, ?ta3, ?tb3) F7 N7 (fun p hp => hp) trivial ?_ ?_ ⟨?_, ?_, ?_, ?_, i4⟩ ?_
      rotate_left 3
      · intro p hp
        cases hp with
        | head => exact congrArg (fun z => some (Value.int z _)) rfl
        | tail _ h =>
          cases h with
          | head => rfl
          | tail _ h => cases h
      · intro z h2 h3
        have h2a := h2 _ (.head _)
        have h2b := h2 _ (.tail _ (.head _))
        simp only [List.contains_cons, List.contains_nil, Bool.or_false, Bool.or_eq_false_iff, beq_eq_false_iff_ne, ne_eq] at h2a h2b h3
        simp [kstB, h2a, h2b, h3]
      · dsimp only; omega
      · simp; omega
      · simp; omega
      · exact mem_set_of i3 (i3 _ (mem_getD (by omega)))
      · dsimp only; omega
    · rename_i c1
      dsimp only
      refine hl_set (i := q) F4 N4 hne rfl i1 (by omega) ?_
      intro h5 F5 N5
      ktr_unf
      rw [suN_step, if_neg (by omega)] at i4
      refine siftdown_t (start := pos) (pos := q) F5 X1 N5 T1 hh hlt (mem_set_of i3 (hS _ (mem_getD hpos))) hne rfl rfl (by simp; omega) (by simp; omega) (by show A.depth + 1 + 10 < _; omega) (by show A.units + 3 + 200 < _; omega) ?_
      intro h6 tk6 F6 N6
      ktr_unf
      rename_i kF kN kT kX
      refine hret _ _ kF ?_
      unfold siftupN
      rw [← i4]
      exact kN

/-- heapq.heappop over ranks, of r ++ [x] -/
def popN (r : List Nat) (x : Nat) : Nat × List Nat := if r.length = 0 then (x, []) else (r.getD 0 0, siftupN (r.set 0 x) 0)

theorem heappop_t {w : World} {p : Program} {loose : List Str} {mean : ExcName → Option Value} {mg mb : Str → Option Value}
    {A : Around} {h₀ : Heap} {L : Addr} {m : Str → Option Value} {news : List (Addr × Obj)} {s : Shared}
    {Q E : Value → Shared → Prop} {hp : Addr} {r : List Nat} {x : Nat} {f : Nat → Value} {n : Nat} {S : Nat → Prop}
    (F : Fr h₀ L s.heap m) (X : (hd.heap_39 w.params).In h₀) (N : News h₀ L s.heap ((hp, listOf ((r ++ [x]).map f).toArray n) :: news)) (T : Top p loose mean mg mb h₀) (hh : A.handled = none)
    (hlt : LtOk w news f S) (hS : ∀ i ∈ r ++ [x], S i) (hne : ∀ p ∈ news, p.1 ≠ hp) (hsz : r.length < 900)
    (hd : A.depth + 30 < recursionLimit) (hu : A.units + 400 < cLine)
    (hret : ∀ h' tk', Fr h₀ L h' m → News h₀ L h' ((hp, listOf ((popN r x).2.map f).toArray (n + 1)) :: news) → Q (f (popN r x).1) { s with heap := h', toks := tk' }) :
    wpAny (model prg w) A (call (.ref 36) [.ref hp]) Q E s := by
  ktr_enter
  rename_i g1 L1 h1 F1 N1 X1 T1 l1
  ktr_unf
  refine kl_pop (p := r.map f) (y := f x) F1 N1 (by rw [List.map_append]; exact kpa_last _ _) (Upd.head hne) (by rw [sizeLine_eq]; simp; omega) ?_
  intro h2 F2 N2
  ktr_unf
  rename_i h3 F3 N3
  refine wpAny_truthy_list (isList_news N3 (.head _)) (by simp; omega) ?_
  cases r with
  | nil =>
    simp only [List.map_nil, List.isEmpty_toArray, List.isEmpty_nil, Bool.not_true]
    ktr_unf
    rename_i kF kN kT kX
    exact hret _ _ kF kN
  | cons y r =>
    simp only [List.map_cons, List.isEmpty_toArray, List.isEmpty_cons, Bool.not_false]
    ktr_unf
    refine hl_item (rs := y :: r) (i := 0) N3 rfl (by simp) (by simp at hsz ⊢; omega) ?_
    ktr_unf
    rename_i h4 F4 N4
    refine hl_set (rs := y :: r) (i := 0) F4 N4 hne rfl (by simp) (by simp at hsz ⊢; omega) ?_
    intro h5 F5 N5
    ktr_unf
    refine siftup_t (pos := 0) F5 X1 N5 T1 hh hlt (mem_set_of (fun i hi => hS i (List.mem_append.mpr (.inl hi))) (hS x (List.mem_append.mpr (.inr (.head _))))) hne rfl (by simp) (by simp at hsz ⊢; omega) (by show A.depth + 1 + 20 < _; omega) (by show A.units + 3 + 300 < _; omega) ?_
    intro h6 tk6 F6 N6
    ktr_unf
    rename_i kF kN kT kX
    refine hret _ _ kF ?_
    exact kN

theorem sdN_len (start x : Nat) : ∀ k pos (l : List Nat), (sdN start x k pos l).length = l.length := by
  intro k
  induction k with
  | zero => intro pos l; simp [sdN]
  | succ k ih => intro pos l; simp only [sdN]; (repeat' split) <;> simp [ih]
theorem sdN_mem (start x : Nat) {S : Nat → Prop} (hx : S x) : ∀ k pos (l : List Nat), pos < l.length → (∀ j ∈ l, S j) → ∀ j ∈ sdN start x k pos l, S j := by
  intro k
  induction k with
  | zero => intro pos l _ h; exact mem_set_of h hx
  | succ k ih =>
    intro pos l hp h
    simp only [sdN]
    split
    · split
      · refine ih _ _ (by simp; omega) (mem_set_of h (h _ (mem_getD (by omega))))
      · exact mem_set_of h hx
    · exact mem_set_of h hx
theorem siftdownN_len (l : List Nat) (a b : Nat) : (siftdownN l a b).length = l.length := sdN_len _ _ _ _ _
theorem suN_len : ∀ k pos (l : List Nat), (suN k pos l).2.length = l.length := by
  intro k
  induction k with
  | zero => intro pos l; rfl
  | succ k ih => intro pos l; simp only [suN]; split <;> simp [ih]
theorem suN_lt : ∀ k pos (l : List Nat), pos < l.length → (suN k pos l).1 < l.length := by
  intro k
  induction k with
  | zero => intro pos l h; exact h
  | succ k ih =>
    intro pos l h
    simp only [suN]
    split
    · have := ih (childN l pos) (l.set pos (l.getD (childN l pos) 0)) (by simpa using childN_lt (by assumption))
      simpa using this
    · exact h
theorem suN_mem {S : Nat → Prop} : ∀ k pos (l : List Nat), pos < l.length → (∀ j ∈ l, S j) → ∀ j ∈ (suN k pos l).2, S j := by
  intro k
  induction k with
  | zero => intro pos l _ h; exact h
  | succ k ih =>
    intro pos l hp h
    simp only [suN]
    split
    · rename_i hc
      exact ih _ _ (by simpa using childN_lt hc) (mem_set_of h (h _ (mem_getD (childN_lt hc))))
    · exact h
theorem siftupN_len (l : List Nat) (pos : Nat) : (siftupN l pos).length = l.length := by
  unfold siftupN
  rw [siftdownN_len, List.length_set, suN_len]
theorem siftupN_mem {S : Nat → Prop} {l : List Nat} {pos : Nat} (hp : pos < l.length) (h : ∀ j ∈ l, S j) : ∀ j ∈ siftupN l pos, S j := by
  have hlt := suN_lt (l.length - pos) pos l hp
  have hlen := suN_len (l.length - pos) pos l
  have hm := mem_set_of (i := (suN (l.length - pos) pos l).1) (suN_mem (l.length - pos) pos l hp h) (h _ (mem_getD hp))
  unfold siftupN siftdownN
  exact sdN_mem _ _ (hm _ (mem_getD (by rw [List.length_set, hlen]; exact hlt))) _ _ _ (by rw [List.length_set, hlen]; exact hlt) hm

theorem LtOk.mono {w : World} {news news' : List (Addr × Obj)} {f : Nat → Value} {S : Nat → Prop} (h : LtOk w news f S) (hs : ∀ p ∈ news, p ∈ news') : LtOk w news' f S :=
  fun i j hi hj A h₀ L s Q E hu N hq => h i j hi hj A h₀ L s Q E hu (fun p hp => N p (hs p hp)) hq
/-- heapq.heapify over ranks -/
def hfN : Nat → List Nat → List Nat
  | 0, l => l
  | k + 1, l => hfN k (siftupN l k)
def heapifyN (l : List Nat) : List Nat := hfN (l.length / 2) l

theorem heapify_t {w : World} {p : Program} {loose : List Str} {mean : ExcName → Option Value} {mg mb : Str → Option Value}
    {A : Around} {h₀ : Heap} {L : Addr} {m : Str → Option Value} {news : List (Addr × Obj)} {s : Shared}
    {Q E : Value → Shared → Prop} {hp : Addr} {rs : List Nat} {f : Nat → Value} {n : Nat} {S : Nat → Prop}
    (F : Fr h₀ L s.heap m) (X : (hd.heap_39 w.params).In h₀) (N : News h₀ L s.heap ((hp, listOf (rs.map f).toArray n) :: news)) (T : Top p loose mean mg mb h₀) (hh : A.handled = none)
    (hlt : LtOk w news f S) (hS : ∀ i ∈ rs, S i) (hne : ∀ p ∈ news, p.1 ≠ hp) (hsz : rs.length < 900)
    (hd : A.depth + 30 < recursionLimit) (hu : A.units + 400 < cLine)
    (hret : ∀ h' tk', Fr h₀ L h' m → News h₀ L h' ((hp, listOf ((heapifyN rs).map f).toArray n) :: news) → Q .none { s with heap := h', toks := tk' }) :
    wpAny (model prg w) A (call (.ref 43) [.ref hp]) Q E s := by
  ktr_enter
  rename_i g1 L1 h1 F1 N1 X1 T1 l1
  ktr_unf
  have ez : (List.map f rs).toArray.size = rs.length := by simp
  refine len_list (isList_news N1 (.head _)) (by rw [ez]; omega) ?_
  rw [ez]
  ktr_unf
  rename_i h2 F2 N2
  walk1
  ktr_unf
  rename_i h3 tk3 t1 t2 t3 hR F3 N3 _
  have hK : (rs.length : Int).fdiv 2 = ((rs.length / 2 : Nat) : Int) := by
    rw [Int.fdiv_eq_ediv_of_nonneg _ (by omega)]
    omega
  rw [hK] at hR
  refine call_reversed_range hR (by omega) (by omega) ?_
  ktr_unf
  refine wpAny_pyIter_rangeiter (Heap.get?_push_size _ rfl) ?_
  refine rrev_st (σ := List Nat) (k := rs.length / 2) (fun l => (hp, listOf (l.map f).toArray n) :: news) (fun _ => []) [] (fun i l => l.length = rs.length ∧ (∀ j ∈ l, S j) ∧ hfN (rs.length / 2 - i) l = heapifyN rs) rs hh (Heap.get?_push_size _ rfl) (next_is_new F3) (Nat.ne_of_lt F3.ns.lt) (fun p hp => Nat.ne_of_lt (Heap.lt_size (N3 p hp).1)) (F3.push _) (fun p hp => ⟨Heap.get?_push_of_some _ (N3 p hp).1, (N3 p hp).2⟩) (fun _ h => nomatch h) ⟨rfl, hS, rfl⟩ ?_ ?_
  · rintro i l t u h tk own hi hoff ⟨j1, j2, j3⟩ F4 N4
    ktr_unf
    refine siftup_t (news := news ++ own) (pos := rs.length / 2 - 1 - i) F4 X1 N4 T1 hh (hlt.mono fun p hp => List.mem_append.mpr (.inl hp)) j2 ?_ rfl (by omega) (by omega) (by show A.depth + 1 + 20 < _; omega) (by show A.units + 3 + 300 < _; omega) ?_
    · intro p hp'
      rcases List.mem_append.mp hp' with h | h
      · exact hne p h
      · exact hoff p h hp (List.mem_map.mpr ⟨_, .head _, rfl⟩)
    intro h6 tk6 F6 N6
    ktr_unf
    refine ksj_end (siftupN l (rs.length / 2 - 1 - i)) F6 N6 ?_ ?_ hoff (fun _ h => nomatch h) ?_ ⟨?_, ?_, ?_⟩
    · intro p hp'
      cases hp' with
      | head => exact .head _
      | tail _ h => exact .tail _ (List.mem_append.mpr (.inl h))
    · intro p hp'
      exact .tail _ (List.mem_append.mpr (.inr hp'))
    · intro z hz _ _
      simp [kstB, hz]
    · rw [siftupN_len, j1]
    · exact siftupN_mem (by omega) j2
    · rw [← j3, show rs.length / 2 - i = (rs.length / 2 - 1 - i) + 1 by omega, hfN, show rs.length / 2 - (i + 1) = rs.length / 2 - 1 - i by omega]
  · rintro l u h tk ⟨j1, j2, j3⟩ F4 N4
    rw [Nat.sub_self] at j3
    ktr_unf
    rename_i kF kN kT kX
    refine hret _ _ kF ?_
    rw [← j3]
    exact kN
end Mine
end

section
open PySem PySem.W PyProof.Rows PySem.Spec PySem.Calls
set_option Elab.async false
set_option maxRecDepth 100000
set_option maxHeartbeats 8000000
namespace Mine
open PyProof.Rows.TI (Frs SameUp sameUp_of)

/-- a frame, a ledger and, at the ledger's end, the frames of the callers -/
structure FS (hb : Heap) (L : Addr) (l : List Env) (frs : List (Addr × Obj)) (m : Str → Option Value) (new : List (Addr × Obj)) (h : Heap) : Prop where
  fr : Fr hb L h m
  news : News hb L h (new ++ frs)
  frames : Frs l frs
  apart : ∀ p ∈ new, p.1 ∉ frs.map (·.1)

theorem frs_fun {hb h : Heap} {L : Addr} : ∀ {l : List Env} {frs : List (Addr × Obj)}, Frs l frs → News hb L h frs → h.FunFrames hb l
  | [], _, _, _ => trivial
  | env :: l, [], F, _ => F.elim
  | env :: l, p :: frs, ⟨h1, h2, ⟨es, ep, h3⟩, h4⟩, N =>
    ⟨h1, ⟨p.1, p.2, h2, (N p (.head _)).2.2, (N p (.head _)).1, fun vs q => by rw [h3] at q; cases q⟩, frs_fun h4 fun q hq => N q (.tail _ hq)⟩
theorem frs_map : ∀ {l : List Env} {frs : List (Addr × Obj)}, Frs l frs → l.filterMap (·.frame) = frs.map (·.1)
  | [], [], _ => rfl
  | [], _ :: _, F => F.elim
  | env :: l, [], F => F.elim
  | env :: l, p :: frs, ⟨_, h2, _, h4⟩ => by simp [h2, frs_map h4]
theorem sameUp_map : ∀ {a b : List (Addr × Obj)}, SameUp a b → b.map (·.1) = a.map (·.1)
  | [], [], _ => rfl
  | [], _ :: _, h => h.elim
  | _ :: _, [], h => h.elim
  | p :: ps, q :: qs, ⟨h1, _, h3⟩ => by simp [h1, sameUp_map h3]

section
variable {M : Model} {A : Around} {E : Value → Shared → Prop} {s : Shared} {hb : Heap} {L a : Addr} {l : List Env} {env : Env} {frs new : List (Addr × Obj)} {m : Str → Option Value} {ob : Obj} {vs : Array Value}

theorem FS.fun (S : FS hb L l frs m new s.heap) (hf : env.frame = some L) (hk : env.scope.kind ≠ .module) : s.heap.FunFrames hb (env :: l) := by
  obtain ⟨oL, es, ep, hL, hLd, _⟩ := S.fr.ns
  exact ⟨hk, ⟨L, oL, hf, kts_self S.fr, hL, fun vs q => by rw [hLd] at q; cases q⟩, frs_fun S.frames fun q hq => S.news q (List.mem_append.mpr (.inr hq))⟩

/-- a traceback's entry made in the frame L -/
theorem note_entry {head : Value} {hn : Bool} {Q : Unit → Shared → Prop} (hfr : A.frames = some (env :: l)) (hf : env.frame = some L) (hk : env.scope.kind ≠ .module)
    (S : FS hb L l frs m ((a, ob) :: new) s.heap) (hd : ob.data = .fields vs) (h1 : 1 < vs.size) (hne : ∀ p ∈ new ++ frs, p.1 ≠ a)
    (h : ∀ h' frs' tb otb tvs, SameUp frs frs' → FS hb L l frs' m ((a, ob.mapFields (·.setIfInBounds 1 (.ref tb))) :: (tb, otb) :: new) h' → otb.data = .fields tvs → tvs[3]? = some (rawInt L) → a ≠ tb → (∀ p ∈ new ++ frs', p.1 ≠ a ∧ p.1 ≠ tb) → Q () { s with heap := h' }) :
    wpAny M A (do let x ← frameOf env; let pl ← entryPlaceOf L hn; let b ← EntryCells.newEntry head x .none (rawInt L) .none pl; setField (.ref a) 1 b) Q E s := by
  have ha := S.news (a, ob) (.head _)
  refine wpAny_bind (wpAny_frameOf_fun hfr (S.fun hf hk) hf fun h₁ hs₁ => ?_)
  refine wpAny_bind (wpAny_entryPlaceOf fun pl hpl => ?_)
  unfold EntryCells.newEntry newFields
  refine wpAny_bind (wpAny_newObj_type ?_ (hpl.sizeOk5 _ _ _ _ _))
  have hfm : (env :: l).filterMap (·.frame) = L :: frs.map (·.1) := by simp [hf, frs_map S.frames]
  rw [hfm] at hs₁
  have same : ∀ b, b ≠ L → b ∉ frs.map (·.1) → h₁.get? b = s.heap.get? b := fun b h1 h2 => hs₁.2.1 b fun q => by
    rcases List.mem_cons.mp q with q | q
    · exact h1 q
    · exact h2 q
  have haf : a ∉ frs.map (·.1) := S.apart _ (.head _)
  have he₁ : h₁.get? a = some ob := (same a ha.2.1 haf).trans ha.1
  obtain ⟨T, hT⟩ : ∃ T : Obj, T = { cls := .type "traceback", dict := none, data := .fields ([head, .ref L, .none, rawInt L, .none] ++ (if pl.isEmpty then List.replicate 6 Value.none else pl)).toArray } := ⟨_, rfl⟩
  rw [← hT]
  have he₂ := Heap.get?_push_of_some (h := h₁) T he₁
  refine wpAny_setField he₂ hd h1 ?_
  have hTe : a ≠ h₁.objs.size := Nat.ne_of_lt (Heap.lt_size he₁)
  have hd₃ := Obj.data_mapFields hd (·.setIfInBounds 1 (Value.ref h₁.objs.size))
  have he₃ := Heap.get?_update_self (Obj.mapFields (·.setIfInBounds 1 (Value.ref h₁.objs.size))) he₂ (Obj.isFreed_of_fields hd₃)
  have keep : ∀ b o, b ≠ a → h₁.get? b = some o → ((h₁.push T).update a (Obj.mapFields (·.setIfInBounds 1 (Value.ref h₁.objs.size)))).get? b = some o := fun b o hba hb' =>
    (Heap.get?_update_other _ _ (Ne.symm hba)).trans (Heap.get?_push_of_some _ hb')
  have hT₃ : ((h₁.push T).update a (Obj.mapFields (·.setIfInBounds 1 (Value.ref h₁.objs.size)))).get? h₁.objs.size = some T :=
    (Heap.get?_update_other _ _ hTe).trans (Heap.get?_push_size h₁ (by rw [hT]; rfl))
  obtain ⟨oL, es, ep, hL, hLd, hLk, hLf⟩ := S.fr.ns
  have hLa : L ≠ a := fun q => ha.2.1 q.symm
  obtain ⟨slL, hL₁⟩ := hs₁.2.2 L oL hL
  obtain ⟨frs', SU, ht⟩ := sameUp_of (h' := (h₁.push T).update a (Obj.mapFields (·.setIfInBounds 1 (Value.ref h₁.objs.size)))) (frs := frs) fun q hq => by
    obtain ⟨sl, hs⟩ := hs₁.2.2 q.1 q.2 (S.news q (List.mem_append.mpr (.inr hq))).1
    exact ⟨sl, keep _ _ (hne q (List.mem_append.mpr (.inr hq))) hs⟩
  have hmap := sameUp_map SU
  have lt₁ : ∀ b o, s.heap.get? b = some o → b ≠ h₁.objs.size := fun b o e => by
    rw [hs₁.1]
    exact Nat.ne_of_lt (Heap.lt_size e)
  have frsAt : ∀ q ∈ frs', ∃ q' ∈ frs, q.1 = q'.1 := fun q hq => by
    have hm' : q.1 ∈ frs.map (·.1) := hmap ▸ List.mem_map.mpr ⟨q, hq, rfl⟩
    obtain ⟨q', hq', e⟩ := List.mem_map.mp hm'
    exact ⟨q', hq', e.symm⟩
  refine h _ frs' h₁.objs.size T _ SU ⟨⟨⟨{ oL with slots := slL }, es, ep, keep _ _ hLa hL₁, hLd, hLk, hLf⟩, fun b o e => ?_, S.fr.above⟩, fun q hq => ?_, S.frames.up SU, fun q hq => ?_⟩ (by rw [hT]) (by simp) hTe fun q hq => ?_
  · have e1 : b ≠ L := fun q => by rw [q, kts_self S.fr] at e; cases e
    have e2 : b ∉ frs.map (·.1) := fun q => by
      obtain ⟨q', hq', e'⟩ := List.mem_map.mp q
      have := (S.news q' (List.mem_append.mpr (.inr hq'))).2.2
      rw [e', e] at this
      cases this
    exact keep b o (fun q => by rw [q, ha.2.2] at e; cases e) ((same b e1 e2).trans (S.fr.keep b o e))
  · rcases List.mem_append.mp hq with hq | hq
    · rcases List.mem_cons.mp hq with rfl | hq
      · exact ⟨he₃, ha.2.1, ha.2.2⟩
      · rcases List.mem_cons.mp hq with rfl | hq
        · refine ⟨hT₃, fun q => lt₁ L oL hL q.symm, ?_⟩
          cases e : hb.get? h₁.objs.size with
          | none => rfl
          | some o => exact absurd rfl (lt₁ _ _ (S.fr.keep _ _ e))
        · have z := S.news q (List.mem_append.mpr (.inl (.tail _ hq)))
          exact ⟨keep _ _ (hne q (List.mem_append.mpr (.inl hq))) ((same _ z.2.1 (S.apart q (.tail _ hq))).trans z.1), z.2⟩
    · obtain ⟨q', hq', e⟩ := frsAt q hq
      have z := S.news q' (List.mem_append.mpr (.inr hq'))
      exact ⟨ht q hq, by rw [e]; exact z.2.1, by rw [e]; exact z.2.2⟩
  · rw [hmap]
    rcases List.mem_cons.mp hq with rfl | hq
    · exact haf
    · rcases List.mem_cons.mp hq with rfl | hq
      · intro hm'
        obtain ⟨q', hq', e⟩ := List.mem_map.mp hm'
        exact lt₁ q'.1 q'.2 (S.news q' (List.mem_append.mpr (.inr hq'))).1 e
      · exact S.apart q (.tail _ hq)
  · rcases List.mem_append.mp hq with hq | hq
    · exact ⟨hne q (List.mem_append.mpr (.inl hq)), lt₁ q.1 q.2 (S.news q (List.mem_append.mpr (.inl (.tail _ hq)))).1⟩
    · obtain ⟨q', hq', e⟩ := frsAt q hq
      rw [e]
      exact ⟨hne q' (List.mem_append.mpr (.inr hq')), lt₁ q'.1 q'.2 (S.news q' (List.mem_append.mpr (.inr hq'))).1⟩
end

def ExNew (c2 : Value) (ob : Obj) : Prop := ob.cls = .type "IndexError" ∧ ∃ vs, ob.data = .fields vs ∧ vs[1]? = some .none ∧ vs[2]? = some c2
def ExAt (c2 fl : Value) (ob : Obj) (tb : Addr) (otb : Obj) : Prop := ob.cls = .type "IndexError" ∧ ∃ vs tvs, ob.data = .fields vs ∧ vs[1]? = some (.ref tb) ∧ vs[2]? = some c2 ∧ otb.data = .fields tvs ∧ tvs[3]? = some fl
/-- an IndexError that no frame has noted -/
def NX (hb : Heap) (L : Addr) (l : List Env) (frs : List (Addr × Obj)) (c2 : Value) (m : Str → Option Value) (new : List (Addr × Obj)) (a : Addr) (h : Heap) : Prop :=
  ∃ ob, FS hb L l frs m ((a, ob) :: new) h ∧ ExNew c2 ob ∧ ∀ p ∈ new ++ frs, p.1 ≠ a
/-- an IndexError with an entry; fl: the frame that holds it -/
def HX (hb : Heap) (L : Addr) (l : List Env) (frs : List (Addr × Obj)) (c2 fl : Value) (m : Str → Option Value) (new : List (Addr × Obj)) (a : Addr) (h : Heap) : Prop :=
  ∃ ob tb otb, FS hb L l frs m ((a, ob) :: (tb, otb) :: new) h ∧ ExAt c2 fl ob tb otb ∧ a ≠ tb ∧ ∀ p ∈ new ++ frs, p.1 ≠ a ∧ p.1 ≠ tb

theorem FS.sub {hb h : Heap} {L : Addr} {l : List Env} {frs new new' : List (Addr × Obj)} {m : Str → Option Value} (S : FS hb L l frs m new h) (hs : ∀ p ∈ new', p ∈ new) : FS hb L l frs m new' h :=
  ⟨S.fr, fun q hq => S.news q ((List.mem_append.mp hq).elim (fun h => List.mem_append.mpr (.inl (hs q h))) fun h => List.mem_append.mpr (.inr h)), S.frames, fun q hq => S.apart q (hs q hq)⟩
theorem HX.fs {hb h : Heap} {L a : Addr} {l : List Env} {frs new : List (Addr × Obj)} {c2 fl : Value} {m : Str → Option Value} (H : HX hb L l frs c2 fl m new a h) : FS hb L l frs m new h := by
  obtain ⟨ob, tb, otb, S, _⟩ := H
  exact S.sub fun p hp => .tail _ (.tail _ hp)

section
variable {M : Model} {A : Around} {E : Value → Shared → Prop} {s : Shared} {hb : Heap} {L a : Addr} {l : List Env} {env : Env} {frs new : List (Addr × Obj)} {m : Str → Option Value} {c2 fl : Value}

theorem note_new {Q : Unit → Shared → Prop} (hfr : A.frames = some (env :: l)) (hf : env.frame = some L) (hk : env.scope.kind ≠ .module) (H : NX hb L l frs c2 m new a s.heap)
    (h : ∀ h' frs', SameUp frs frs' → HX hb L l frs' c2 (rawInt L) m new a h' → Q () { s with heap := h' }) : wpAny M A (noteFrame (.ref a) env) Q E s := by
  obtain ⟨ob, S, ⟨hc, vs, hd, h1, h2⟩, hne⟩ := H
  have ha := S.news (a, ob) (.head _)
  have hsz : 2 < vs.size := (Array.getElem?_eq_some_iff.mp h2).1
  unfold noteFrame
  simp only [hf]
  refine wpAny_bind (wpAny_field ha.1 hd h1 ?_)
  rw [if_neg (by decide)]
  refine note_entry hfr hf hk S hd (by omega) hne fun h' frs' tb otb tvs SU S' hdt ht3 hat hne' => h h' frs' SU ⟨_, tb, otb, S', ⟨?_, _, tvs, Obj.data_mapFields hd _, ?_, ?_, hdt, ht3⟩, hat, hne'⟩
  · rw [Obj.cls_mapFields]; exact hc
  · simp [show 1 < vs.size by omega]
  · rw [Array.getElem?_setIfInBounds_ne (by decide)]; exact h2
theorem note_again {Q : Unit → Shared → Prop} (hf : env.frame = some L) (H : HX hb L l frs c2 (rawInt L) m new a s.heap) (h : Q () s) : wpAny M A (noteFrame (.ref a) env) Q E s := by
  obtain ⟨ob, tb, otb, S, ⟨hc, vs, tvs, hd, h1, h2, hdt, h3⟩, hat, hne⟩ := H
  have ha := S.news (a, ob) (.head _)
  have hb' := S.news (tb, otb) (.tail _ (.head _))
  unfold noteFrame
  simp only [hf]
  refine wpAny_bind (wpAny_field ha.1 hd h1 ?_)
  rw [if_pos (show (Value.ref tb != Value.none) = true from by simp)]
  refine wpAny_bind (wpAny_field hb'.1 hdt h3 ?_)
  rw [if_pos (show (rawInt L == rawInt L) = true from by simp)]
  exact wpAny_pure h
theorem set_flight {Q : Unit → Shared → Prop} {fr : Option Addr} (H : HX hb L l frs c2 fl m new a s.heap) (h : ∀ h', HX hb L l frs c2 (fr.elim .none fun f => rawInt f) m new a h' → Q () { s with heap := h' }) :
    wpAny M A (setFlight (.ref a) fr) Q E s := by
  obtain ⟨ob, tb, otb, S, ⟨hc, vs, tvs, hd, h1, h2, hdt, h3⟩, hat, hne⟩ := H
  have ha := S.news (a, ob) (.head _)
  have ht := S.news (tb, otb) (.tail _ (.head _))
  have hsz : 3 < tvs.size := (Array.getElem?_eq_some_iff.mp h3).1
  unfold setFlight
  refine wpAny_bind (wpAny_field ha.1 hd h1 ?_)
  rw [if_pos (show (Value.ref tb != Value.none) = true from by simp)]
  refine wpAny_setField ht.1 hdt hsz (h _ ?_)
  obtain ⟨fv, hfv⟩ : ∃ fv, fv = (fr.elim Value.none fun f => rawInt f) := ⟨_, rfl⟩
  rw [← hfv]
  have hd₃ := Obj.data_mapFields hdt (·.setIfInBounds 3 fv)
  have other : ∀ b, b ≠ tb → (s.heap.update tb (Obj.mapFields (·.setIfInBounds 3 fv))).get? b = s.heap.get? b := fun b hb => Heap.get?_update_other _ _ (Ne.symm hb)
  have self := Heap.get?_update_self (Obj.mapFields (·.setIfInBounds 3 fv)) ht.1 (Obj.isFreed_of_fields hd₃)
  obtain ⟨oL, es, ep, hL, hLd, hLk, hLf⟩ := S.fr.ns
  refine ⟨ob, tb, _, ⟨⟨⟨oL, es, ep, (other L (fun q => ht.2.1 q.symm)).trans hL, hLd, hLk, hLf⟩, fun b o e => (other b fun q => by rw [q, ht.2.2] at e; cases e).trans (S.fr.keep b o e), S.fr.above⟩, fun q hq => ?_, S.frames, fun q hq => ?_⟩, ⟨hc, vs, _, hd, h1, h2, hd₃, by simp [hsz]⟩, hat, hne⟩
  · rcases List.mem_append.mp hq with hq | hq
    · rcases List.mem_cons.mp hq with rfl | hq
      · exact ⟨(other _ hat).trans ha.1, ha.2⟩
      · rcases List.mem_cons.mp hq with rfl | hq
        · exact ⟨self, ht.2⟩
        · have z := S.news q (List.mem_append.mpr (.inl (.tail _ (.tail _ hq))))
          exact ⟨(other _ (hne q (List.mem_append.mpr (.inl hq))).2).trans z.1, z.2⟩
    · have z := S.news q (List.mem_append.mpr (.inr hq))
      exact ⟨(other _ (hne q (List.mem_append.mpr (.inr hq))).2).trans z.1, z.2⟩
  · rcases List.mem_cons.mp hq with rfl | hq
    · exact S.apart _ (.head _)
    · rcases List.mem_cons.mp hq with rfl | hq
      · exact S.apart (tb, otb) (.tail _ (.head _))
      · exact S.apart q (.tail _ (.tail _ hq))
theorem field_one {Q : Value → Shared → Prop} (H : HX hb L l frs c2 fl m new a s.heap) (h : ∀ tb, Q (.ref tb) s) : wpAny M A (field (.ref a) 1) Q E s := by
  obtain ⟨ob, tb, otb, S, ⟨hc, vs, tvs, hd, h1, _⟩, _⟩ := H
  exact wpAny_field (S.news (a, ob) (.head _)).1 hd h1 (h tb)
/-- an exception that flies in from a callee is noted -/
theorem note_fly {Q : Unit → Shared → Prop} (hfr : A.frames = some (env :: l)) (hf : env.frame = some L) (hk : env.scope.kind ≠ .module) (H : HX hb L l frs c2 .none m new a s.heap)
    (h : ∀ h' frs', SameUp frs frs' → HX hb L l frs' c2 (rawInt L) m new a h' → Q () { s with heap := h' }) : wpAny M A (noteFrame (.ref a) env) Q E s := by
  obtain ⟨ob, tb, otb, S, ⟨hc, vs, tvs, hd, h1, h2, hdt, h3⟩, hat, hne⟩ := id H
  have ha := S.news (a, ob) (.head _)
  have ht := S.news (tb, otb) (.tail _ (.head _))
  have hsz : 2 < vs.size := (Array.getElem?_eq_some_iff.mp h2).1
  have hsz3 : 3 < tvs.size := (Array.getElem?_eq_some_iff.mp h3).1
  unfold noteFrame
  simp only [hf]
  refine wpAny_bind (wpAny_field ha.1 hd h1 ?_)
  rw [if_pos (show (Value.ref tb != Value.none) = true from by simp)]
  refine wpAny_bind (wpAny_field ht.1 hdt h3 ?_)
  rw [if_neg (show ¬ ((Value.none == rawInt L) = true) from by simp [rawInt])]
  have other : ∀ b, b ≠ tb → (s.heap.update tb (Obj.mapFields (·.setIfInBounds 3 Value.none))).get? b = s.heap.get? b := fun b hb => Heap.get?_update_other _ _ (Ne.symm hb)
  obtain ⟨oL, es, ep, hL, hLd, hLk, hLf⟩ := S.fr.ns
  refine wpAny_bind (wpAny_setField ht.1 hdt hsz3 ?_)
  refine note_entry (new := new) hfr hf hk ⟨⟨⟨oL, es, ep, (other L (fun q => ht.2.1 q.symm)).trans hL, hLd, hLk, hLf⟩, fun b o e => (other b fun q => by rw [q, ht.2.2] at e; cases e).trans (S.fr.keep b o e), S.fr.above⟩, fun q hq => ?_, S.frames, fun q hq => ?_⟩ hd (by omega) (fun q hq => (hne q hq).1) fun h' frs' tb' otb' tvs' SU S' hdt' ht3 hat' hne' => h h' frs' SU ⟨_, tb', otb', S', ⟨?_, _, tvs', Obj.data_mapFields hd _, ?_, ?_, hdt', ht3⟩, hat', hne'⟩
  · rcases List.mem_append.mp hq with hq | hq
    · rcases List.mem_cons.mp hq with rfl | hq
      · exact ⟨(other _ hat).trans ha.1, ha.2⟩
      · have z := S.news q (List.mem_append.mpr (.inl (.tail _ (.tail _ hq))))
        exact ⟨(other _ (hne q (List.mem_append.mpr (.inl hq))).2).trans z.1, z.2⟩
    · have z := S.news q (List.mem_append.mpr (.inr hq))
      exact ⟨(other _ (hne q (List.mem_append.mpr (.inr hq))).2).trans z.1, z.2⟩
  · rcases List.mem_cons.mp hq with rfl | hq
    · exact S.apart _ (.head _)
    · exact S.apart q (.tail _ (.tail _ hq))
  · rw [Obj.cls_mapFields]; exact hc
  · simp [show 1 < vs.size by omega]
  · rw [Array.getElem?_setIfInBounds_ne (by decide)]; exact h2
end

/-- an IndexError in flight within the frame L, the frame's state as P says -/
def EX (hb : Heap) (L : Addr) (l : List Env) (frs₀ : List (Addr × Obj)) (s₀ : Shared) (C : Value → Prop) (P : (Str → Option Value) → List (Addr × Obj) → Prop) (e : Value) (s' : Shared) : Prop :=
  ∃ m new a frs h tk c2, e = .ref a ∧ s' = { s₀ with heap := h, toks := tk } ∧ C c2 ∧ P m new ∧ SameUp frs₀ frs ∧ (NX hb L l frs c2 m new a h ∨ HX hb L l frs c2 (rawInt L) m new a h)

section
variable {prog : Program} {w : World} {A A' : Around} {E : Value → Shared → Prop} {s s₀ : Shared} {hb : Heap} {L : Addr} {l : List Env} {env : Env} {frs₀ : List (Addr × Obj)} {C : Value → Prop} {P : (Str → Option Value) → List (Addr × Obj) → Prop} {e : Value}

/-- noted: it is held -/
theorem EX.note {Q : Unit → Shared → Prop} (hfr : A.frames = some (env :: l)) (hf : env.frame = some L) (hk : env.scope.kind ≠ .module) (H : EX hb L l frs₀ s₀ C P e s)
    (h : ∀ m new a frs h' tk c2, e = .ref a → C c2 → P m new → SameUp frs₀ frs → HX hb L l frs c2 (rawInt L) m new a h' → Q () { s₀ with heap := h', toks := tk }) : wpAny (model prog w) A (noteFrame e env) Q E s := by
  obtain ⟨m, new, a, frs, h0, tk, c2, rfl, rfl, hc, hp, SU, H | H⟩ := H
  · exact note_new hfr hf hk H fun h' frs' SU' H' => h m new a frs' h' tk c2 rfl hc hp (SU.trans SU') H'
  · exact note_again hf H (h m new a frs h0 tk c2 rfl hc hp SU H)
theorem EX.passesAt (hfr : A'.frames = some (env :: l)) (hf : env.frame = some L) (hk : env.scope.kind ≠ .module) : PassesOwnAt (model prog w) A' A env (EX hb L l frs₀ s₀ C P) := by
  intro e s' H
  show wpAny _ _ (noteFrame e env) _ _ _
  refine EX.note hfr hf hk H fun m new a frs h' tk c2 he hc hp SU HH => ?_
  subst he
  unfold cameBackBy
  refine wpAny_bind (field_one HH fun tb => ?_)
  rw [if_neg (show ¬ ((Value.ref tb == Value.none) = true) from by simp)]
  rw [hf]
  refine set_flight HH fun h'' HH' => ?_
  exact ⟨m, new, a, frs, h'', tk, c2, rfl, rfl, hc, hp, SU, .inr HH'⟩
theorem EX.passes (hfr : A.frames = some (env :: l)) (hf : env.frame = some L) (hk : env.scope.kind ≠ .module) : PassesOwn (model prog w) A env (EX hb L l frs₀ s₀ C P) := EX.passesAt hfr hf hk
end

theorem sub_index : isSubtype (.type "IndexError") (.type "IndexError") = pure true := by rw [isSubtype_type]; kernel_rfl
theorem sub_index_base : isSubtype (.type "IndexError") (.type "BaseException") = pure true := by rw [isSubtype_type]; kernel_rfl
theorem sub_index_tuple : isSubtype (.type ((Manifest.find? "IndexError").elim "type" fun x => x.metatype)) (.type "tuple") = pure false := by
  rw [show ((Manifest.find? "IndexError").elim "type" fun x => x.metatype) = "type" from by decide +kernel, isSubtype_type]; kernel_rfl

section
variable {prog : Program} {w : World} {A : Around} {E : Value → Shared → Prop} {s s₀ : Shared} {hb : Heap} {L af : Addr} {l : List Env} {frs₀ : List (Addr × Obj)} {C : Value → Prop} {P : (Str → Option Value) → List (Addr × Obj) → Prop} {e : Value}
  {name : Str} {scope : Scope} {cd : Value} {cl : List (Str × Addr)} {K : Frag} {p : Program} {loose : List Str} {mean : ExcName → Option Value} {mg mb : Str → Option Value} {b₀ : Stmt} {suite : List Stmt} {np pos : Pos} {rest : List ExceptHandler} {Q : Flow → Shared → Prop}

/-- held: the clause «except IndexError» takes it -/
theorem handle_index {c2 fl : Value} {m : Str → Option Value} {new frs : List (Addr × Obj)} {a : Addr} (H : HX hb L l frs c2 fl m new a s.heap) (X : K.In hb) (T : Top p loose mean mg mb hb)
    (k : ∀ h', FS hb L l frs m new h' → wpAny (model prog w) (A.mark (some (.ref a))) (execs (b₀ :: suite) (envX name scope L af cd cl)) Q E { s with heap := h' })
    (ex : nsIn K mainGlobals "IndexError" = some none) (hk : scope.kind = .function) (hx : (envX name scope L af cd cl).kindOf "IndexError" = some .globalImplicit)
    (hE : PassesOwnAt (model prog w) (A.mark (some (.ref a))) A (envX name scope L af cd cl) E) :
    wpAny (model prog w) A (handleBy (.ref a) (envX name scope L af cd cl) (.ExceptHandler (some (.Name "IndexError" np)) none (b₀ :: suite) pos :: rest)) Q E s := by
  have hty : s.TypeIs (.ref a) "IndexError" := by
    obtain ⟨ob, tb, otb, S, ⟨hc, _⟩, _⟩ := H
    exact ⟨ob, (S.news (a, ob) (.head _)).1, hc⟩
  refine wpAny_handleBy_builtin (X := "IndexError") (T := "IndexError") (b := true) sub_index_base sub_index_tuple sub_index (wpAny_passesOwnAt hE (nameX_B H.fs.fr X (topRead_of T) ex (by decide +kernel) (by decide) ⟨rfl, hty, ?_⟩ hk hx (by decide)))
  rw [if_pos rfl]
  refine set_flight H fun h' H' => ?_
  exact wpAny_passesOwnAt hE (k h' H'.fs)

theorem catch_index (hfr : A.frames = some (envX name scope L af cd cl :: l)) (H : EX hb L l frs₀ s₀ C P e s) (X : K.In hb) (T : Top p loose mean mg mb hb)
    (k : ∀ m new a frs h' tk, P m new → SameUp frs₀ frs → FS hb L l frs m new h' → wpAny (model prog w) (A.mark (some (.ref a))) (execs (b₀ :: suite) (envX name scope L af cd cl)) Q E { s₀ with heap := h', toks := tk })
    (ex : nsIn K mainGlobals "IndexError" = some none) (hk : scope.kind = .function) (hx : (envX name scope L af cd cl).kindOf "IndexError" = some .globalImplicit)
    (hE : ∀ a, PassesOwnAt (model prog w) (A.mark (some (.ref a))) A (envX name scope L af cd cl) E) :
    wpAny (model prog w) A (noteFrame e (envX name scope L af cd cl))
      (fun _ s₂ => wpAny (model prog w) A (setFlight e none) (fun _ s₃ => wpAny (model prog w) A (handleBy e (envX name scope L af cd cl) (.ExceptHandler (some (.Name "IndexError" np)) none (b₀ :: suite) pos :: rest)) Q E s₃) E s₂) E s := by
  refine EX.note hfr rfl (by show scope.kind ≠ _; rw [hk]; decide) H fun m new a frs h' tk c2 he hc hp SU HH => ?_
  subst he
  refine set_flight HH fun h'' HH' => ?_
  exact handle_index (s := { s₀ with heap := h'', toks := tk }) HH' X T (fun h3 S => k m new a frs h3 tk hp SU S) ex hk hx (hE a)

/-- try .. finally: what flies in the suite comes to the last block, held and landed -/
theorem finally_raised {f₀ : Stmt} {fs : List Stmt} {E₁ : Value → Shared → Prop} (hfr : A.frames = some (envX name scope L af cd cl :: l)) (hk : scope.kind = .function) (H : EX hb L l frs₀ s₀ C P e s)
    (k : ∀ m new a frs h' tk c2, C c2 → P m new → SameUp frs₀ frs → HX hb L l frs c2 .none m new a h' → wpAny (model prog w) (A.mark (some (.ref a))) (execs (f₀ :: fs) (envX name scope L af cd cl))
      (fun g s₂ => match g with | .next => wpAny (model prog w) A (PySem.passOn "try.finally" (.ref a) (envX name scope L af cd cl)) Q E s₂ | g => wpAny (model prog w) A (setFlight (.ref a) none) (fun _ s₃ => Q g s₃) E s₂)
      (notedBy (model prog w) (A.mark (some (.ref a))) (envX name scope L af cd cl) (cameBackBy (model prog w) A (envX name scope L af cd cl) E)) { s₀ with heap := h', toks := tk }) :
    wpAny (model prog w) A (noteFrame e (envX name scope L af cd cl)) (fun _ s₂ => FinallyRaised prog w A E (envX name scope L af cd cl) (f₀ :: fs) Q e s₂) E₁ s := by
  have hkm : (envX name scope L af cd cl).scope.kind ≠ .module := by show scope.kind ≠ _; rw [hk]; decide
  refine EX.note hfr rfl hkm H fun m new a frs h' tk c2 he hc hp SU HH => ?_
  subst he
  refine ⟨ref_ne_byPass a, note_again rfl HH ?_⟩
  refine set_flight HH fun h'' HH' => ?_
  exact k m new a frs h'' tk c2 hc hp SU HH'
theorem pass_on {what : String} {c2 fl : Value} {m : Str → Option Value} {new frs : List (Addr × Obj)} {a : Addr} (H : HX hb L l frs c2 fl m new a s.heap)
    (h : ∀ h', HX hb L l frs c2 (rawInt L) m new a h' → E (.ref a) { s with heap := h' }) : wpAny (model prog w) A (PySem.passOn what (.ref a) (envX name scope L af cd cl)) Q E s := by
  unfold PySem.passOn
  refine wpAny_bind (field_one H fun tb => ?_)
  rw [if_neg (show ¬ ((Value.ref tb == Value.none) = true) from by simp)]
  refine wpAny_bind (set_flight H fun h' H' => ?_)
  exact wpAny_throw (h h' H')
end
end Mine
end

section
open PySem PySem.W PyProof.Rows PySem.Spec PySem.Calls
set_option Elab.async false
set_option maxRecDepth 100000
set_option maxHeartbeats 8000000
namespace Mine
open PyProof.Rows.TI (Frs SameUp sameUp_of)

structure NewIn (h h' : Heap) (e : Addr) (c2 : Value) : Prop where
  keeps : ∀ b o, h.get? b = some o → h'.get? b = some o
  new : h.get? e = none
  there : ∃ ob, h'.get? e = some ob ∧ ExNew c2 ob
theorem NewIn.of {h h' : Heap} {e : Addr} (x : Heap.NewExc h h' e "IndexError") : NewIn h h' e .none :=
  ⟨x.keeps, x.new, let ⟨ob, _, he, hc, hd⟩ := x.there; ⟨ob, he, hc, _, hd, rfl, rfl⟩⟩

theorem entry_unchain : entryFor table "proto.unchain" = some Builtin.«proto.unchain» := entryFor_of_tree (by kernel_rfl)
theorem plain_unchain : plainId "proto.unchain" = true := by decide +kernel

section
variable {α : Type} {prog : Program} {w : World} {A : Around} {E : Value → Shared → Prop} {s : Shared} {e0 : Addr} {ob0 : Obj} {vs0 : Array Value}
theorem unchain_none {x v1 : Value} {Q : Value → Shared → Prop} (h0 : s.heap.get? e0 = some ob0) (hd0 : ob0.data = .fields vs0) (h2 : vs0[2]? = some .none) (h : Q .none s) :
    wpAny (model prog w) A (runValue (.builtin "proto.unchain" ⟨[x, .ref e0, v1, .bool false], []⟩)) Q E s := by
  refine wpAny_runValue (codeAny_builtin entry_unchain ?_)
  unfold Builtin.«proto.unchain»
  refine wpAny_bind (wpAny_field h0 hd0 h2 ?_)
  rw [if_pos (by decide)]
  exact wpAny_pure h
theorem raise_words {msg : String} {Q : α → Shared → Prop} (hh : A.handled = some (.ref e0)) (h0 : s.heap.get? e0 = some ob0) (hd0 : ob0.data = .fields vs0) (h2 : vs0[2]? = some .none)
    (h : ∀ h' tk e, NewIn s.heap h' e (.ref e0) → E (.ref e) { s with heap := h', toks := tk }) : wpAny (model prog w) A (raiseErrorWords "IndexError" msg : Sem α) Q E s := by
  unfold raiseErrorWords
  refine wpAny_bind (wpAny_mkText (wpAny_bind ?_))
  unfold newExc newTuple
  refine wpAny_bind (wpAny_newObj_type ?_)
  refine wpAny_bind (m := firstArgMember _ _) (wpAny_of_eq (a := Value.none) (by simp only [firstArgMember, plainExc_IndexError.first]; rfl) ?_)
  rw [plainExc_IndexError.own]
  refine wpAny_newObj_type ?_
  unfold raiseNew
  refine wpAny_bind (wpAny_handled ?_)
  rw [hh]
  dsimp only
  obtain ⟨h1, hh1⟩ : ∃ h1, h1 = s.heap.push { cls := Value.type "tuple", data := Data.seq #[Value.str (Str.ofString msg) s.toks] } := ⟨_, rfl⟩
  have k1 : ∀ b o, s.heap.get? b = some o → h1.get? b = some o := fun b o e => by rw [hh1]; exact Heap.get?_push_of_some _ e
  have n1 : s.heap.objs.size ≤ h1.objs.size := by rw [hh1, Heap.size_push]; exact Nat.le_succ _
  have hne : Value.ref e0 ≠ Value.ref h1.objs.size := fun q => by
    injection q with q
    exact absurd (Heap.lt_size (k1 _ _ h0)) (q ▸ Nat.lt_irrefl _)
  simp only [← hh1]
  rw [if_pos (by simpa using hne)]
  refine wpAny_bind (wpAny_holding (unchain_none (e0 := e0) (Heap.get?_push_of_some _ (k1 _ _ h0)) hd0 h2 ?_))
  refine wpAny_bind (show wpAny _ _ (setField (.ref h1.objs.size) 2 (.ref e0)) _ _ _ from wpAny_setField (Heap.get?_push_size h1 rfl) rfl (by show 2 < 6; decide) ?_)
  refine wpAny_throw (h _ _ _ ⟨fun b o e => ?_, Heap.get?_none_of_le n1, _, Heap.get?_update_self _ (Heap.get?_push_size h1 rfl) rfl, ?_⟩)
  · exact (Heap.get?_update_other _ _ (Nat.ne_of_gt (Heap.lt_size (k1 b o e)))).trans (Heap.get?_push_of_some _ (k1 b o e))
  · exact ⟨rfl, _, rfl, rfl, rfl⟩

theorem getItem_out {l : Addr} {items : Array Value} {k : Int} {t : Tok} {Q : Value → Shared → Prop} (hl : s.heap.IsList l items) (hk0 : 0 ≤ k) (hout : (items.size : Int) ≤ k) (hhi : k < 2 ^ 63)
    (hh : A.handled = some (.ref e0)) (h0 : s.heap.get? e0 = some ob0) (hd0 : ob0.data = .fields vs0) (h2 : vs0[2]? = some .none)
    (hE : ∀ h' tk e, NewIn s.heap h' e (.ref e0) → E (.ref e) { s with heap := h', toks := tk }) :
    wpAny (model prog w) A (getItem (.ref l) (.int k t)) Q E s := by
  obtain ⟨o, ho, hc, ne, hd⟩ := id hl
  have hraise : ∀ {β : Type} {A' : Around} {Q' : β → Shared → Prop} {msg : String}, A'.handled = A.handled → wpAny (model prog w) A' (raiseErrorWords "IndexError" msg : Sem β) Q' E s := fun e => raise_words (e.trans hh) h0 hd0 h2 hE
  unfold getItem
  try with_reducible refine wpAny_holding ?_
  first | refine wpAny_bind (wpAny_pure ?_) | skip
  refine wpAny_bind (wpAny_sequenceKey hl.typeIs (by decide) ?_)
  refine wpAny_bind (wpAny_callSpecial?_slot (name := Str.ofString "__getitem__") hl.typeIs slot_list_getitem
    (wpAny_call_entry slot_list_getitem hl.typeIs entry_list_getitem ?_ (args_list_getitem _ _)))
  show wpAny _ _ (Builtin.List.listSubscript? (.int k t) >>= _) _ _ s
  refine wpAny_bind (wpAny_listSubscript_int (fitsIndex_of hk0 hhi) ?_)
  clear hhi
  obtain ⟨j, rfl⟩ := Int.eq_ofNat_of_zero_le hk0
  have hx : items[j]? = none := Array.getElem?_eq_none (by omega)
  show wpAny _ _ ((seqItemAt l j >>= fun r => pure (r.map (j, ·))) >>= _) _ _ s
  refine wpAny_bind (wpAny_bind (wpAny_seqItemAt ho hd (wpAny_pure ?_)))
  rw [hx]
  first
    | exact wpAny_bind (wpAny_rule (hraise rfl))
    | exact wpAny_bind (wpAny_rule (wpAny_bind (hraise rfl)))
    | exact wpAny_bind (wpAny_bind (wpAny_rule (hraise rfl)))
    | exact wpAny_rule (hraise rfl)
end

section
variable {prog : Program} {w : World} {A : Around} {E : Value → Shared → Prop} {s s₀ : Shared} {hb : Heap} {L : Addr} {l : List Env} {frs new : List (Addr × Obj)} {m : Str → Option Value}
theorem nx_of {h' : Heap} {e : Addr} {c2 : Value} (S : FS hb L l frs m new s.heap) (x : NewIn s.heap h' e c2) : NX hb L l frs c2 m new e h' := by
  obtain ⟨ob, he, hx⟩ := x.there
  have ne : ∀ b o, s.heap.get? b = some o → b ≠ e := fun b o h1 q => by rw [q, x.new] at h1; cases h1
  obtain ⟨oL, es, ep, hL, hLd, hLk, hLf⟩ := S.fr.ns
  refine ⟨ob, ⟨⟨⟨oL, es, ep, x.keeps _ _ hL, hLd, hLk, hLf⟩, fun b o h1 => x.keeps _ _ (S.fr.keep b o h1), S.fr.above⟩, fun q hq => ?_, S.frames, fun q hq => ?_⟩, hx, fun q hq => ne _ _ (S.news q hq).1⟩
  · rcases List.mem_append.mp hq with hq | hq
    · rcases List.mem_cons.mp hq with rfl | hq
      · refine ⟨he, fun q => ne L oL hL q.symm, ?_⟩
        cases h1 : hb.get? e with
        | none => rfl
        | some o => exact absurd rfl (ne _ _ (S.fr.keep _ _ h1))
      · have z := S.news q (List.mem_append.mpr (.inl hq))
        exact ⟨x.keeps _ _ z.1, z.2⟩
    · have z := S.news q (List.mem_append.mpr (.inr hq))
      exact ⟨x.keeps _ _ z.1, z.2⟩
  · rcases List.mem_cons.mp hq with rfl | hq
    · intro hm
      obtain ⟨q', hq', e'⟩ := List.mem_map.mp hm
      exact ne _ _ (S.news q' (List.mem_append.mpr (.inr hq'))).1 e'
    · exact S.apart q hq
end
end Mine
end

section
open PySem PySem.W PyProof.Rows PySem.Spec PySem.Calls
set_option Elab.async false
set_option maxRecDepth 100000
set_option maxHeartbeats 8000000
namespace Mine
open PyProof.Rows.TI (Frs SameUp sameUp_of)

/-- back in the caller, whose frame and whose callers' frames may have other slots -/
def LeaveF (h₀ : Heap) (L : Addr) (outer : List Env) (frs : List (Addr × Obj)) (m : Str → Option Value) (g : Heap) (oL : Obj) (R : Result → Shared → Prop) (L' : Addr) (envc : Env) (v : Value) (s' : Shared) : Prop :=
  ∃ m' new' frs', SameUp ((L, oL) :: frs) frs' ∧ FS g L' (envc :: outer) frs' m' new' s'.heap ∧ (∀ frs'', SameUp frs frs'' → FS h₀ L outer frs'' m new' s'.heap → R (.ok (.ret v)) s')

section
variable {prog : Program} {w : World} {A : Around} {s : Shared} {h₀ : Heap} {L : Addr} {outer : List Env} {envc : Env} {frs : List (Addr × Obj)} {m mg mb : Str → Option Value} {new : List (Addr × Obj)} {K : Frag} {p : Program} {loose : List Str} {mean : ExcName → Option Value}
  {R : Result → Shared → Prop} {name qual : Str} {params : Arguments} {body : List Stmt} {scope : Scope} {dV kV doc pm cdv ct oc : Value} {an od : Option Addr} {osl : Array (Option Value)} {f : Addr} {args : Args} {binds : List (Str × Value)}

theorem enterF (S : FS h₀ L outer frs m new s.heap) (hf : envc.frame = some L) (hkc : envc.scope.kind ≠ .module) :
    ∃ oL, (∀ h₁ L' m', Fr s.heap L' h₁ m' → FS (hideAll s.heap ((new ++ (L, oL) :: frs).map (·.1))) L' (envc :: outer) ((L, oL) :: frs) m' new h₁) ∧ h₀.StaysIn (hideAll s.heap ((new ++ (L, oL) :: frs).map (·.1))) ∧
      ∀ L' v s', LeaveF h₀ L outer frs m (hideAll s.heap ((new ++ (L, oL) :: frs).map (·.1))) oL R L' envc v s' → R (.ok (.ret v)) s' := by
  obtain ⟨oL, es, ep, hL, hLd, hLk, hLf⟩ := S.fr.ns
  have nL := kts_self S.fr
  have hoff : ∀ b ∈ (new ++ (L, oL) :: frs).map (·.1), h₀.get? b = none := fun b hb => by
    obtain ⟨q, hq, rfl⟩ := List.mem_map.mp hb
    rcases List.mem_append.mp hq with hq | hq
    · exact (S.news q (List.mem_append.mpr (.inl hq))).2.2
    · rcases List.mem_cons.mp hq with rfl | hq
      · exact nL
      · exact (S.news q (List.mem_append.mpr (.inr hq))).2.2
  have hin : ∀ q ∈ new ++ (L, oL) :: frs, s.heap.get? q.1 = some q.2 := fun q hq => by
    rcases List.mem_append.mp hq with hq | hq
    · exact (S.news q (List.mem_append.mpr (.inl hq))).1
    · rcases List.mem_cons.mp hq with rfl | hq
      · exact hL
      · exact (S.news q (List.mem_append.mpr (.inr hq))).1
  have st := hide_stays S.fr hoff
  refine ⟨oL, fun h₁ L' m' F' => ⟨⟨F'.ns, fun b o e => F'.keep b o (of_hideAll _ e), by rw [hideAll_size]; exact F'.above⟩, fun q hq => ?_, ⟨hkc, hf, ⟨es, ep, hLd⟩, S.frames⟩, fun q hq hm => ?_⟩, st, ?_⟩
  · have z := hin q hq
    exact ⟨F'.keep _ _ z, Nat.ne_of_lt (Nat.lt_of_lt_of_le (Heap.lt_size z) F'.above), hideAll_none _ (List.mem_map.mpr ⟨q, hq, rfl⟩)⟩
  · rcases List.mem_cons.mp hm with e | e
    · exact (S.news q (List.mem_append.mpr (.inl hq))).2.1 e
    · exact S.apart q hq e
  · rintro L' v s' ⟨m', new', frs', SU, S', k⟩
    cases frs' with
    | nil => exact SU.elim
    | cons q frs' =>
      obtain ⟨e1, ⟨sl, e2⟩, SU'⟩ := SU
      have hq : q = (L, { oL with slots := sl }) := by
        rw [show q = (q.1, q.2) from rfl, e1, e2]
      subst hq
      have zL := S'.news (L, { oL with slots := sl }) (List.mem_append.mpr (.inr (.head _)))
      have none' : ∀ b, (hideAll s.heap ((new ++ (L, oL) :: frs).map (·.1))).get? b = none → h₀.get? b = none := fun b e => by
        cases e' : h₀.get? b with
        | none => rfl
        | some o => rw [st b o e'] at e; cases e
      refine k frs' SU' ⟨⟨⟨_, es, ep, zL.1, hLd, hLk, hLf⟩, fun b o e => S'.fr.keep b o (st b o e), S.fr.above⟩, fun q hq => ?_, S.frames.up SU', fun q hq hm => S'.apart q hq (.tail _ hm)⟩
      rcases List.mem_append.mp hq with hq | hq
      · have z := S'.news q (List.mem_append.mpr (.inl hq))
        exact ⟨z.1, fun e => S'.apart q hq (by rw [e]; exact .head _), none' _ z.2.2⟩
      · have z := S'.news q (List.mem_append.mpr (.inr (.tail _ hq)))
        refine ⟨z.1, fun e => ?_, none' _ z.2.2⟩
        have hm : q.1 ∈ frs.map (·.1) := sameUp_map SU' ▸ List.mem_map.mpr ⟨q, hq, rfl⟩
        obtain ⟨q', hq', e'⟩ := List.mem_map.mp hm
        exact (S.news q' (List.mem_append.mpr (.inr hq'))).2.1 (e'.trans e)

theorem callF (S : FS h₀ L outer frs m new s.heap) (X₀ : K.In h₀) (T : Top p loose mean mg mb h₀) (hA : A.frames = some (envc :: outer)) (hf : envc.frame = some L) (hkc : envc.scope.kind ≠ .module)
    (ho : K.lookup f = some ⟨oc, od, .func (fnOf name qual params body scope dV kV doc pm an cdv ct), osl⟩) (hcd : codeIn K cdv qual = true) (hroom : A.depth < recursionLimit)
    (hbind : BindsTo s (fnOf name qual params body scope dV kV doc pm an cdv ct) args binds) (hloc : ∀ y ∈ binds, scope.names.lookup y.1 = some .local)
    (h : ∀ g L' h₁ oL, FS g L' (envc :: outer) ((L, oL) :: frs) (fun y => binds.reverse.lookup y) new h₁ → (A.deeper (envOf qual scope L' f cdv)).frames = some (envOf qual scope L' f cdv :: envc :: outer) → K.In g → Top p loose mean mg mb g → (∀ q ∈ new ++ (L, oL) :: frs, q.1 < L') →
      wpAny (model prog w) (A.deeper (envOf qual scope L' f cdv)) (execs body (envOf qual scope L' f cdv))
        (fun fl s' => LeaveF h₀ L outer frs m g oL R L' envc (match fl with | .ret v => v | _ => .none) s')
        (fun e s' => wpAny (model prog w) (A.deeper (envOf qual scope L' f cdv)) (leaving (envOf qual scope L' f cdv) e) (fun _ s'' => R (.error e) s'') (fun e' s'' => R (.error e') s'') s')
        { s with heap := h₁, toks := s.toks + binds.length })
    (hco : scope.isCoroutine = false) (hgen : scope.isGenerator = false) (hk : scope.kind = .function) (hcell : ∀ x ∈ scope.names, x.2 ≠ .cell) : codeAny (model prog w) A (.call (.ref f) args) R s := by
  have X := X₀.keeps S.fr.keep
  obtain ⟨oL, en, st, lv⟩ := enterF (R := R) S hf hkc
  refine codeAny_call_def (fd := fnOf name qual params body scope dV kV doc pm an cdv ct) (body := body) (binds := binds) hroom (X _ _ ho) rfl (T.nolimit.keeps S.fr.keep) (codeRec_of X hcd) rfl hbind hcell hloc (fun h₁ hns hk₁ => ?_) hco hgen hk
  refine wpAny_mono (h _ s.heap.objs.size h₁ oL (en h₁ _ _ ⟨hns, hk₁, Nat.le_refl _⟩) (Around.frames_deeper hA) (X₀.keeps st) (T.keeps st) fun q hq => ?_) (fun fl s' hl => lv _ _ _ hl) fun _ _ y => y
  rcases List.mem_append.mp hq with hq | hq
  · exact Heap.lt_size (S.news q (List.mem_append.mpr (.inl hq))).1
  · rcases List.mem_cons.mp hq with rfl | hq
    · exact S.fr.ns.lt
    · exact Heap.lt_size (S.news q (List.mem_append.mpr (.inr hq))).1

theorem callFC (S : FS h₀ L outer frs m new s.heap) (X₀ : K.In h₀) (T : Top p loose mean mg mb h₀) (hA : A.frames = some (envc :: outer)) (hf : envc.frame = some L) (hkc : envc.scope.kind ≠ .module)
    (ho : K.lookup f = some ⟨oc, od, .func (fnOf name qual params body scope dV kV doc pm an cdv ct), osl⟩) (hcd : codeIn K cdv qual = true) (hroom : A.depth < recursionLimit)
    (hbind : BindsTo s (fnOf name qual params body scope dV kV doc pm an cdv ct) args binds)
    (hkind : (binds.all fun y => scope.names.lookup y.1 == some .local || scope.names.lookup y.1 == some .cell) = true)
    (hnd : ((cellsFrom 0 scope.names []).map (·.1)).Nodup)
    (h : ∀ g L' h₁ tk oL cells, FS g L' (envc :: outer) ((L, oL) :: frs) (bindL (envOfC qual scope L' f cdv).kindOf binds fun _ => none) (cells ++ new) h₁ →
      CellsAre (bindC (envOfC qual scope L' f cdv).kindOf binds fun _ => none) (cellsFrom (L' + 1) scope.names []) cells → (A.deeper (envOfC qual scope L' f cdv)).frames = some (envOfC qual scope L' f cdv :: envc :: outer) → K.In g → Top p loose mean mg mb g → (∀ q ∈ new ++ (L, oL) :: frs, q.1 < L') →
      wpAny (model prog w) (A.deeper (envOfC qual scope L' f cdv)) (execs body (envOfC qual scope L' f cdv))
        (fun fl s' => LeaveF h₀ L outer frs m g oL R L' envc (match fl with | .ret v => v | _ => .none) s')
        (fun e s' => wpAny (model prog w) (A.deeper (envOfC qual scope L' f cdv)) (leaving (envOfC qual scope L' f cdv) e) (fun _ s'' => R (.error e) s'') (fun e' s'' => R (.error e') s'') s')
        { s with heap := h₁, toks := tk })
    (hco : scope.isCoroutine = false) (hgen : scope.isGenerator = false) (hk : scope.kind = .function) : codeAny (model prog w) A (.call (.ref f) args) R s := by
  have X := X₀.keeps S.fr.keep
  obtain ⟨oL, en, st, lv⟩ := enterF (R := R) S hf hkc
  refine codeAny_call_function hroom (X _ _ ho) rfl hco hgen rfl (codeRec_of X hcd) (hbind _ _ _ _ ?_)
  refine wpAny_newFunctionEnv_cells hk (kindsX hkind _) fun env' he s' x => ?_
  subst he
  refine ⟨((T.nolimit.keeps S.fr.keep)).keeps x.toInCall.keep, codeAny_func ?_⟩
  obtain ⟨h₁, tk, rfl, _⟩ := x.done
  have hk₁ := x.toInCall.keep
  obtain ⟨cells, NC, Y⟩ := Cl.news (h₀ := s.heap) (Nat.le_refl _) fun n c hm => ⟨x.cell n c (lookup_of_mem_nodup (cellsFrom_names scope.names 0 (s.heap.objs.size + 1) [] [] rfl ▸ hnd) hm), x.above n c hm⟩
  have S₁ := en h₁ s.heap.objs.size _ ⟨x.toInCall.ns, hk₁, Nat.le_refl _⟩
  have hlt : ∀ q ∈ new ++ (L, oL) :: frs, q.1 < s.heap.objs.size := fun q hq => by
    rcases List.mem_append.mp hq with hq | hq
    · exact Heap.lt_size (S.news q (List.mem_append.mpr (.inl hq))).1
    · rcases List.mem_cons.mp hq with rfl | hq
      · exact S.fr.ns.lt
      · exact Heap.lt_size (S.news q (List.mem_append.mpr (.inr hq))).1
  have hnew : ∀ q ∈ cells, ∀ o, s.heap.get? q.1 = some o → False := fun q hq o e => by rw [(NC q hq).2.2] at e; cases e
  refine wpAny_mono (h _ s.heap.objs.size h₁ tk oL cells ⟨S₁.fr, fun q hq => ?_, S₁.frames, fun q hq hm => ?_⟩ Y (Around.frames_deeper hA) (X₀.keeps st) (T.keeps st) hlt) (fun fl s' hl => lv _ _ _ hl) fun _ _ y => y
  · rw [List.append_assoc] at hq
    rcases List.mem_append.mp hq with hq | hq
    · refine ⟨(NC q hq).1, (NC q hq).2.1, ?_⟩
      cases e : (hideAll s.heap ((new ++ (L, oL) :: frs).map (·.1))).get? q.1 with
      | none => rfl
      | some o => exact (hnew q hq o (of_hideAll _ e)).elim
    · exact S₁.news q hq
  · rcases List.mem_append.mp hq with hq | hq
    · obtain ⟨q', hq', e⟩ := List.mem_map.mp hm
      rcases List.mem_cons.mp hq' with rfl | hq'
      · obtain ⟨oL', _, _, hL, _⟩ := S.fr.ns
        exact hnew q hq oL' (e ▸ hL)
      · exact hnew q hq q'.2 (e ▸ (S.news q' (List.mem_append.mpr (.inr hq'))).1)
    · exact S₁.apart q hq hm
end
end Mine
end

section
namespace Mine
theorem drop_getD {xs : List Int} {i : Nat} (h : i < xs.length) : xs.drop i = xs.getD i 0 :: xs.drop (i + 1) := by
  rw [List.drop_eq_getElem_cons h, List.getD_eq_getElem?_getD, List.getElem?_eq_getElem h]
  rfl
theorem sl_lt {x y : Int} {xs ys : List Int} (sy : (y :: ys).Pairwise (· < ·)) (h : x < y) :
    ((x :: xs).filter fun z => decide (z ∉ y :: ys)) = x :: (xs.filter fun z => decide (z ∉ y :: ys)) ∧ ((y :: ys).filter fun z => decide (z ∉ x :: xs)) = (y :: ys).filter fun z => decide (z ∉ xs) := by
  have hx : ∀ z ∈ y :: ys, x < z := by
    intro z hz
    rcases List.mem_cons.mp hz with rfl | hz
    · exact h
    · have := (List.pairwise_cons.mp sy).1 z hz
      omega
  constructor
  · rw [List.filter_cons_of_pos]
    simp only [decide_eq_true_eq]
    intro hm
    exact absurd (hx x hm) (by omega)
  · apply List.filter_congr
    intro z hz
    have := hx z hz
    simp only [List.mem_cons, not_or]
    have : z ≠ x := by omega
    simp [this]
theorem sl_eq {x : Int} {xs ys : List Int} (sx : (x :: xs).Pairwise (· < ·)) :
    ((x :: xs).filter fun z => decide (z ∉ x :: ys)) = (xs.filter fun z => decide (z ∉ ys)) := by
  rw [List.filter_cons_of_neg (by simp)]
  apply List.filter_congr
  intro z hz
  have := (List.pairwise_cons.mp sx).1 z hz
  have : z ≠ x := by omega
  simp [this]
theorem getD_ne_next {xs : List Int} (sx : xs.Pairwise (· < ·)) {i : Nat} (h : i + 1 < xs.length) : xs.getD (i + 1) 0 ≠ xs.getD i 0 := by
  have h2 := List.pairwise_iff_getElem.mp sx i (i + 1) (by omega) h (by omega)
  simp only [List.getD_eq_getElem?_getD, List.getElem?_eq_getElem h, List.getElem?_eq_getElem (show i < xs.length by omega), Option.getD_some]
  omega
/-- where sorted_list_difference stands: what is told so far, and the rests -/
structure SldOk (xs ys : List Int) (i j : Nat) (ms us : List Int) : Prop where
  li : i ≤ xs.length
  lj : j ≤ ys.length
  lm : ms.length ≤ i
  lu : us.length ≤ j
  e1 : ms ++ ((xs.drop i).filter fun x => decide (x ∉ ys.drop j)) = xs.filter fun x => decide (x ∉ ys)
  e2 : us ++ ((ys.drop j).filter fun y => decide (y ∉ xs.drop i)) = ys.filter fun y => decide (y ∉ xs)
/-- where it stands when an index has run out -/
structure SldEnd (xs ys : List Int) (i j : Nat) (ms us : List Int) : Prop where
  li : i ≤ xs.length
  lj : j ≤ ys.length
  lm : ms.length ≤ i
  lu : us.length ≤ j
  e1 : ms ++ xs.drop i = xs.filter fun x => decide (x ∉ ys)
  e2 : us ++ ys.drop j = ys.filter fun y => decide (y ∉ xs)
section
variable {xs ys : List Int} {i j : Nat} {ms us : List Int}
theorem SldOk.start : SldOk xs ys 0 0 [] [] := ⟨by simp, by simp, by simp, by simp, by simp, by simp⟩
theorem SldOk.endI (h : SldOk xs ys i j ms us) (hi : xs.length ≤ i) : SldEnd xs ys i j ms us := by
  have hd : xs.drop i = [] := List.drop_eq_nil_of_le hi
  refine ⟨h.li, h.lj, h.lm, h.lu, ?_, ?_⟩
  · have := h.e1; rw [hd] at this; rw [hd]; simpa using this
  · have := h.e2; rw [hd, List.filter_eq_self.mpr (by simp)] at this; exact this
theorem SldOk.endJ (h : SldOk xs ys i j ms us) (hj : ys.length ≤ j) : SldEnd xs ys i j ms us := by
  have hd : ys.drop j = [] := List.drop_eq_nil_of_le hj
  refine ⟨h.li, h.lj, h.lm, h.lu, ?_, ?_⟩
  · have := h.e1; rw [hd, List.filter_eq_self.mpr (by simp)] at this; exact this
  · have := h.e2; rw [hd] at this; rw [hd]; simpa using this
theorem SldOk.lt (h : SldOk xs ys i j ms us) (sy : ys.Pairwise (· < ·)) (hi : i < xs.length) (hj : j < ys.length) (hlt : xs.getD i 0 < ys.getD j 0) : SldOk xs ys (i + 1) j (ms ++ [xs.getD i 0]) us := by
  have sy' : (ys.getD j 0 :: ys.drop (j + 1)).Pairwise (· < ·) := by rw [← drop_getD hj]; exact sy.drop
  obtain ⟨q1, q2⟩ := sl_lt (xs := xs.drop (i + 1)) sy' hlt
  refine ⟨hi, h.lj, by simp; have := h.lm; omega, h.lu, ?_, ?_⟩
  · have := h.e1
    rw [drop_getD hi, drop_getD hj, q1] at this
    rw [drop_getD hj]
    simpa using this
  · have := h.e2
    rw [drop_getD hi, drop_getD hj, q2] at this
    rw [drop_getD hj]
    exact this
theorem SldOk.gt (h : SldOk xs ys i j ms us) (sx : xs.Pairwise (· < ·)) (hi : i < xs.length) (hj : j < ys.length) (hlt : ys.getD j 0 < xs.getD i 0) : SldOk xs ys i (j + 1) ms (us ++ [ys.getD j 0]) := by
  have sx' : (xs.getD i 0 :: xs.drop (i + 1)).Pairwise (· < ·) := by rw [← drop_getD hi]; exact sx.drop
  obtain ⟨q1, q2⟩ := sl_lt (xs := ys.drop (j + 1)) sx' hlt
  refine ⟨h.li, hj, h.lm, by simp; have := h.lu; omega, ?_, ?_⟩
  · have := h.e1
    rw [drop_getD hi, drop_getD hj, q2] at this
    rw [drop_getD hi]
    exact this
  · have := h.e2
    rw [drop_getD hi, drop_getD hj, q1] at this
    rw [drop_getD hi]
    simpa using this
theorem SldOk.eq (h : SldOk xs ys i j ms us) (sx : xs.Pairwise (· < ·)) (sy : ys.Pairwise (· < ·)) (hi : i < xs.length) (hj : j < ys.length) (he : xs.getD i 0 = ys.getD j 0) : SldOk xs ys (i + 1) (j + 1) ms us := by
  have sx' : (xs.getD i 0 :: xs.drop (i + 1)).Pairwise (· < ·) := by rw [← drop_getD hi]; exact sx.drop
  have sy' : (ys.getD j 0 :: ys.drop (j + 1)).Pairwise (· < ·) := by rw [← drop_getD hj]; exact sy.drop
  have q1 := sl_eq (ys := ys.drop (j + 1)) sx'
  have q2 := sl_eq (ys := xs.drop (i + 1)) sy'
  refine ⟨hi, hj, by have := h.lm; omega, by have := h.lu; omega, ?_, ?_⟩
  · have := h.e1
    rw [drop_getD hi, drop_getD hj, ← he, q1] at this
    exact this
  · have := h.e2
    rw [drop_getD hi, drop_getD hj, he, q2] at this
    exact this
end
end Mine
end

section
open PySem PySem.W PyProof.Rows
set_option Elab.async false
set_option maxRecDepth 100000
set_option maxHeartbeats 8000000
set_option linter.all false
namespace Mine
local macro_rules | `(tactic| ktr_rel) => `(tactic| first
  | (with_reducible show wpAny _ _ (exec (Stmt.While _ _ _ _) _) _ _ _)
  | (with_reducible show wpAny _ _ (subscriptTail _ _ (Value.ref _) _) _ _ _)
  | (with_reducible show KswEnd _ _ _ _ _ _ _ _ _ _ _ _)
  | (with_reducible show wpAny _ _ (exec (Stmt.Try _ _ _ _ _) _) _ _ _)
  | (with_reducible show wpAny _ _ (call (Value.builtin "list.append") _ _) _ _ _)
  | (with_reducible show wpAny _ _ (call (Value.builtin "list.extend") _ _) _ _ _)
  | (with_reducible show LeaveF _ _ _ _ _ _ _ _ _ _ _ _))
local macro_rules | `(tactic| ktr_unf) => `(tactic| repeat' (first | (k_unfold; (try dsimp only)) | ((fail_if_success ktr_rel); first | walk1 | (dsimp only; walk1))))
local macro_rules | `(tactic| ktr_enter) => `(tactic| (
  have fill : PySem.Challenge.rw_op0048_01 = PySem.Challenge.rw_op0048_01 ∧ Mine.hd.heap_39 = Mine.hd.heap_39 := by
    k_fill
    exact ⟨rfl, rfl⟩
  clear fill
  w_top on
  refine wpAny_call ?_
  k_dflt (refine' callY ?k2 ?k3 ?k4 ?k5 ?k6 ?k7 ?k8 ?k9 ?kB ?_ ?c2 ?c3 ?c4 ?c5; (case k2 => k_asm); (case k3 => k_asm); (case k4 => k_asm); (case k5 => k_asm); (case k6 => k_is); (case k7 => k_is); (case k8 => omega); (case k9 => exact BindsTo.of_eq rfl); (case c5 => decide); (case kB => exact locs rfl); (case c2 => exact rfl); (case c3 => exact rfl); (case c4 => exact rfl); k_whole; intro g' L' h' F' N' X' T' l1; (try dsimp only); (try k_fold))))

open PyProof.Rows.TI (Frs SameUp sameUp_of)
abbrev tupOf (vs : List Value) : Obj := { cls := .type "tuple", data := .seq vs.toArray }

section
variable {prog : Program} {w : World} {A : Around} {s s₀ : Shared} {hb : Heap} {L la : Addr} {l : List Env} {frs frs₀ new : List (Addr × Obj)} {m : Str → Option Value} {C : Value → Prop} {P : (Str → Option Value) → List (Addr × Obj) → Prop}
theorem out_ex {value slice : Expr} {items : Array Value} {k : Int} {u : Tok} {Q : Value → Shared → Prop} (S : FS hb L l frs m new s.heap) (SU : SameUp frs₀ frs) (hC : C .none) (hP : P m new) (hh : A.handled = none)
    (hl : s.heap.IsList la items) (hk : 0 ≤ k) (hout : (items.size : Int) ≤ k) (hhi : k < 2000) (hs0 : s = { s₀ with heap := s.heap, toks := s.toks })
    (hs : subscripted slice false (.ref la) (.int k u) = operate [.ref la, .int k u] (getItem (.ref la) (.int k u)) := by with_unfolding_all rfl) :
    wpAny (model prog w) A (subscriptTail value slice (.ref la) (.int k u)) Q (EX hb L l frs₀ s₀ C P) s := by
  refine item_outK hh hl (.inr hout) (by omega) (by omega) (fun h' tk e hx => ?_) hs
  refine ⟨m, new, e, frs, h', tk, .none, rfl, ?_, hC, hP, SU, .inl (nx_of S (.of hx))⟩
  rw [hs0]
theorem out_ex_handled {value slice : Expr} {items : Array Value} {k : Int} {u : Tok} {Q : Value → Shared → Prop} {e0 : Addr} {ob0 : Obj} {vs0 : Array Value} (S : FS hb L l frs m new s.heap) (SU : SameUp frs₀ frs) (hC : C (.ref e0)) (hP : P m new) (hh : A.handled = some (.ref e0))
    (h0 : s.heap.get? e0 = some ob0) (hd0 : ob0.data = .fields vs0) (h2 : vs0[2]? = some .none)
    (hl : s.heap.IsList la items) (hk : 0 ≤ k) (hout : (items.size : Int) ≤ k) (hhi : k < 2000) (hs0 : s = { s₀ with heap := s.heap, toks := s.toks })
    (hs : subscripted slice false (.ref la) (.int k u) = operate [.ref la, .int k u] (getItem (.ref la) (.int k u)) := by with_unfolding_all rfl) :
    wpAny (model prog w) A (subscriptTail value slice (.ref la) (.int k u)) Q (EX hb L l frs₀ s₀ C P) s := by
  refine tail_any hl.typeIs slot_list_getitem.lookup (getItem_out hl hk hout (by omega) hh h0 hd0 h2 fun h' tk e hx => ?_) hs
  refine ⟨m, new, e, frs, h', tk, _, rfl, ?_, hC, hP, SU, .inl (nx_of S hx)⟩
  rw [hs0]

theorem while_false {E : Value → Shared → Prop} {env : Env} {test : Expr} {body : List Stmt} {pos : Pos} {Q : Flow → Shared → Prop} (h : wpAny (model prog w) A (isTrue test env (eval test env)) (fun b s₂ => b = false ∧ Q .next s₂) E s)
    (hE : PassesOwn (model prog w) A env E) : wpAny (model prog w) A (exec (.While test body [] pos) env) Q E s := by
  refine wpAny_While (codeAny_whileLoop (fun _ s' => s' = s) ?_ 0 rfl)
  rintro n s' rfl
  refine wpAny_mono h (fun b s₂ h₂ => ?_) hE
  obtain ⟨rfl, h₂⟩ := h₂
  simp only [Bool.false_eq_true, if_false]
  exact wpAny_execs_nil h₂
theorem app_K {E : Value → Shared → Prop} {h₀ : Heap} {D : Addr} {news news' : List (Addr × Obj)} {vs : List Value} {n : Nat} {x : Value} {Q : Value → Shared → Prop} (F : Fr h₀ L s.heap m) (N : News h₀ L s.heap news) (U : Upd D (listOf vs.toArray n) (listOf (vs ++ [x]).toArray (n + 1)) news news')
    (hsz : vs.length < 2000) (h : ∀ h', Fr h₀ L h' m → News h₀ L h' news' → Q .none { s with heap := h' }) : wpAny (model prog w) A (call (.builtin "list.append") [.ref D, x]) Q E s :=
  append_K (its := vs.toArray) F N (by rw [List.push_toArray]; exact U) h (by rw [sizeLine_eq, List.size_toArray]; omega)
theorem ext_K {E : Value → Shared → Prop} {h₀ : Heap} {D b : Addr} {news : List (Addr × Obj)} {news' : Nat → List (Addr × Obj)} {vs ws : List Value} {n n2 : Nat} {Q : Value → Shared → Prop} (F : Fr h₀ L s.heap m) (N : News h₀ L s.heap news) (hb : (b, listOf ws.toArray n2) ∈ news)
    (U : ∀ n', Upd D (listOf vs.toArray n) (listOf (vs ++ ws).toArray n') news (news' n')) (hsz : vs.length + ws.length < 3000) (h : ∀ h' n', Fr h₀ L h' m → News h₀ L h' (news' n') → Q .none { s with heap := h' }) : wpAny (model prog w) A (call (.builtin "list.extend") [.ref D, .ref b]) Q E s := by
  have hno : ¬(!vs.toArray.isEmpty && Builtin.List.listTooLong (vs.toArray.size + ws.toArray.size)) = true := by
    have : Builtin.List.listTooLong (vs.toArray.size + ws.toArray.size) = false := by
      unfold Builtin.List.listTooLong
      simp only [List.size_toArray, decide_eq_false_iff_not]
      rw [sizeLine_eq]
      omega
    rw [this, Bool.and_false]
    exact Bool.false_ne_true
  by_cases e : ws = []
  · subst e
    have U' := U n
    rw [List.append_nil] at U'
    exact kxn_extend F N hb rfl U' hno (by rw [sizeLine_eq]; simp; omega) (by rw [sizeLine_eq]; simp; omega) fun h' F' N' => h h' n F' N'
  · exact kl_extend (l := vs ++ ws) F N hb rfl (by simpa using e) (U (n + 1)) hno (by rw [sizeLine_eq]; simp; omega) (by rw [sizeLine_eq]; simp; omega) fun h' F' N' => h h' (n + 1) F' N'
end

/-- the state of sorted_list_difference -/
structure SL where
  i : Nat
  j : Nat
  ms : List Int
  us : List Int
  vm : List Value
  vu : List Value
  nm : Nat
  nu : Nat
  ti : Tok
  tj : Tok
def SL.ps (c : SL) : List (Str × Value) := [(Str.ofString "i", .int c.i c.ti), (Str.ofString "j", .int c.j c.tj)]
def SL.six (xa ya mA uA : Addr) (c : SL) : List (Str × Value) := [(Str.ofString "expected", .ref xa), (Str.ofString "actual", .ref ya), (Str.ofString "missing", .ref mA), (Str.ofString "unexpected", .ref uA), (Str.ofString "i", .int c.i c.ti), (Str.ofString "j", .int c.j c.tj)]
theorem all6 {α : Type} {P : α → Prop} {a b c d e f : α} (h1 : P a) (h2 : P b) (h3 : P c) (h4 : P d) (h5 : P e) (h6 : P f) : ∀ x ∈ [a, b, c, d, e, f], P x := by
  intro x hx
  simp only [List.mem_cons, List.not_mem_nil, or_false] at hx
  rcases hx with rfl | rfl | rfl | rfl | rfl | rfl <;> assumption
/-- what the clause «except IndexError» of sorted_list_difference finds -/
def SldX (xs ys : List Int) (xa ya mA uA : Addr) (new : List (Addr × Obj)) (m' : Str → Option Value) (new' : List (Addr × Obj)) : Prop :=
  ∃ c : SL, SldEnd xs ys c.i c.j c.ms c.us ∧ IntsAre c.vm c.ms ∧ IntsAre c.vu c.us ∧ new' = (uA, listOf c.vu.toArray c.nu) :: (mA, listOf c.vm.toArray c.nm) :: new ∧ ∀ p ∈ c.six xa ya mA uA, m' p.1 = some p.2
theorem all2 {α : Type} {P : α → Prop} {a b : α} (h1 : P a) (h2 : P b) : ∀ x ∈ [a, b], P x := by
  intro x hx
  simp only [List.mem_cons, List.not_mem_nil, or_false] at hx
  rcases hx with rfl | rfl <;> assumption
theorem all7 {α : Type} {P : α → Prop} {a b c d e f g : α} (h1 : P a) (h2 : P b) (h3 : P c) (h4 : P d) (h5 : P e) (h6 : P f) (h7 : P g) : ∀ x ∈ [a, b, c, d, e, f, g], P x := by
  intro x hx
  simp only [List.mem_cons, List.not_mem_nil, or_false] at hx
  rcases hx with rfl | rfl | rfl | rfl | rfl | rfl | rfl <;> assumption
theorem fr_kst {hb h : Heap} {L : Addr} {m : Str → Option Value} {ps : List (Str × Value)} (F : Fr hb L h m) (h1 : ∀ p ∈ ps, m p.1 = some p.2) : Fr hb L h (kstB m ps) := by
  have e : kstB m ps = m := by
    funext y
    exact kstB_eq h1 fun _ => rfl
  rw [e]
  exact F
theorem app_ints {vs ws : List Value} {ns ms : List Int} (h : IntsAre vs ns) (h' : IntsAre ws ms) : IntsAre (vs ++ ws) (ns ++ ms) := by
  induction h with
  | nil => exact h'
  | cons k u _ ih => exact .cons k u ih
theorem snoc_ints {vs : List Value} {ns : List Int} {n : Int} {t : Tok} (h : IntsAre vs ns) : IntsAre (vs ++ [.int n t]) (ns ++ [n]) := by
  induction h with
  | nil => exact .cons n t .nil
  | cons k u _ ih => exact .cons k u ih

theorem sld_t {w : World} {p : Program} {loose : List Str} {mean : ExcName → Option Value} {mg mb : Str → Option Value}
    {A : Around} {h₀ : Heap} {L : Addr} {outer : List Env} {envc : Env} {frs : List (Addr × Obj)} {m : Str → Option Value} {new : List (Addr × Obj)} {s : Shared}
    {Q E : Value → Shared → Prop} {xa ya : Addr} {vx vy : List Value} {xs ys : List Int} {nx ny : Nat}
    (S : FS h₀ L outer frs m new s.heap) (X : (hd.heap_39 w.params).In h₀) (T : Top p loose mean mg mb h₀) (hA : A.frames = some (envc :: outer)) (hf : envc.frame = some L) (hkc : envc.scope.kind ≠ .module) (hh : A.handled = none)
    (hx : (xa, listOf vx.toArray nx) ∈ new) (ix : IntsAre vx xs) (hy : (ya, listOf vy.toArray ny) ∈ new) (iy : IntsAre vy ys) (sx : xs.Pairwise (· < ·)) (sy : ys.Pairwise (· < ·)) (lx : xs.length < 1000) (ly : ys.length < 1000)
    (hd : A.depth + 10 < recursionLimit) (hu : A.units + 200 < cLine)
    (hret : ∀ h' tk' frs' r ma ua vm vu nm nu, SameUp frs frs' → FS h₀ L outer frs' m ((r, tupOf [.ref ma, .ref ua]) :: (ma, listOf vm.toArray nm) :: (ua, listOf vu.toArray nu) :: new) h' →
      IntsAre vm (xs.filter fun x => decide (x ∉ ys)) → IntsAre vu (ys.filter fun y => decide (y ∉ xs)) → Q (.ref r) { s with heap := h', toks := tk' }) :
    wpAny (model prg w) A (call (.ref 21) [.ref xa, .ref ya]) Q E s := by
  have fill : PySem.Challenge.rw_op0048_01 = PySem.Challenge.rw_op0048_01 ∧ Mine.hd.heap_39 = Mine.hd.heap_39 := by
    k_fill
    exact ⟨rfl, rfl⟩
  clear fill
  w_top on
  refine wpAny_call ?_
  k_dflt (refine' callF S X T hA hf hkc ?k6 ?k7 ?k8 ?k9 ?kB ?_ ?c2 ?c3 ?c4 ?c5; (case k6 => k_is); (case k7 => k_is); (case k8 => omega); (case k9 => exact BindsTo.of_eq rfl); (case c5 => decide); (case kB => exact locs rfl); (case c2 => exact rfl); (case c3 => exact rfl); (case c4 => exact rfl); k_whole)
  intro g1 L1 h1 oL S1 hfr1 X1 T1 l1
  dsimp only
  k_fold
  have F1 := S1.fr
  have N1 := S1.news
  ktr_unf
  rename_i _ _ mA _ lm _ uA _ lu h2 F2 N2
  have hmu : mA < uA := lu.1
  have hmn : ∀ q ∈ new ++ (L, oL) :: frs, q.1 ≠ mA := fun q hq => Nat.ne_of_lt (lm q hq)
  have hun : ∀ q ∈ new ++ (L, oL) :: frs, q.1 ≠ uA := fun q hq => Nat.ne_of_lt (Nat.lt_trans (lm q hq) hmu)
  have hxn := List.mem_append.mpr (.inl hx : _ ∨ _ ∈ (L, oL) :: frs)
  have hyn := List.mem_append.mpr (.inl hy : _ ∨ _ ∈ (L, oL) :: frs)
  have lvx := ints_len ix
  have lvy := ints_len iy
  have hap : ∀ (c : SL), ∀ q ∈ (uA, listOf c.vu.toArray c.nu) :: (mA, listOf c.vm.toArray c.nm) :: new, q.1 ∉ ((L, oL) :: frs).map (·.1) := by
    intro c q hq hm
    obtain ⟨q', hq', e⟩ := List.mem_map.mp hm
    rcases List.mem_cons.mp hq with rfl | hq
    · exact hun q' (List.mem_append.mpr (.inr hq')) e
    · rcases List.mem_cons.mp hq with rfl | hq
      · exact hmn q' (List.mem_append.mpr (.inr hq')) e
      · exact S1.apart q hq hm
  clear lu
  have hkf : ScopeKind.function ≠ ScopeKind.module := by decide
  refine ksw_while (σ := SL) (fun c => (uA, listOf c.vu.toArray c.nu) :: (mA, listOf c.vm.toArray c.nm) :: (new ++ (L, oL) :: frs)) SL.ps (fun _ => True) [Str.ofString "e", Str.ofString "a"]
    (fun c => IntsAre c.vm c.ms ∧ IntsAre c.vu c.us ∧ SldOk xs ys c.i c.j c.ms c.us) (fun c => xs.length - c.i + (ys.length - c.j)) ⟨0, 0, [], [], [], [], 0, 0, ?t1, ?t2⟩ F2 N2 trivial ?_ ⟨.nil, .nil, .start⟩ ?_
  rotate_left 2
  · intro p hp
    cases hp with
    | head => rfl
    | tail _ h =>
      cases h with
      | head => rfl
      | tail _ h => cases h
  · rintro ⟨i, j, ms, us, vm, vu, nm, nu, ti, tj⟩ u h tk - ⟨im, iu, hok⟩ F3 N3
    dsimp only [SL.ps] at im iu hok F3 N3 ⊢
    ktr_unf
    refine wpAny_Try_except ?_
    refine wpAny_mono (E := EX g1 L1 (envc :: outer) ((L, oL) :: frs) s (fun _ => True) (SldX xs ys xa ya mA uA new)) ?_ (fun _ _ h => h) ?_
    · ktr_unf
      by_cases hi : i < xs.length
      · refine ksa_sub N3 (List.mem_cons_of_mem _ (List.mem_cons_of_mem _ hxn)) ix (by omega) (by omega) (by omega) ?_
        intro t1
        rw [Int.toNat_natCast]
        ktr_unf
        rename_i h4 F4 N4
        by_cases hj : j < ys.length
        · refine ksa_sub N4 (List.mem_cons_of_mem _ (List.mem_cons_of_mem _ hyn)) iy (by omega) (by omega) (by omega) ?_
          intro t2
          rw [Int.toNat_natCast]
          ktr_unf
          · rename_i h5 F5 N5 hlt
            have hok' := hok.lt sy hi hj hlt
            dsimp only
            refine app_K F5 N5 (Upd.tail (Nat.ne_of_gt hmu) (Upd.head hmn)) (by rw [ints_len im]; have := hok.lm; omega) ?_
            intro h6 F6 N6
            ktr_unf
            rename_i h7 F7 N7
            refine while_false ?_ (EX.passes hfr1 rfl hkf)
            ktr_unf
            by_cases hi2 : i + 1 < xs.length
            · refine ksa_sub N7 (List.mem_cons_of_mem _ (List.mem_cons_of_mem _ hxn)) ix (by omega) (by omega) (by omega) ?_
              intro t3
              ktr_unf
              · rw [show ((i : Int) + 1).toNat = i + 1 by omega]
                simpa using getD_ne_next sx hi2
              · refine ksw_end ⟨i + 1, j, ms ++ [xs.getD i 0], us, vm ++ [_], vu, nm + 1, nu, _, tj⟩ F7 N7 (fun p hp => hp) trivial (all2 rfl rfl) ?_ ⟨snoc_ints im, iu, hok'⟩ ?_
                · intro z h2 h3
                  have h2a := h2 _ (.head _)
                  have h2b := h2 _ (.tail _ (.head _))
                  simp only [List.contains_cons, List.contains_nil, Bool.or_false, Bool.or_eq_false_iff, beq_eq_false_iff_ne, ne_eq] at h2a h2b h3
                  simp [kstB, h2a, h2b, h3]
                · dsimp only
                  have := hok.li
                  have := hok.lj
                  omega
            · refine out_ex (new := (uA, listOf vu.toArray nu) :: (mA, listOf (vm ++ [_]).toArray (nm + 1)) :: new) ⟨F7, N7, S1.frames, hap ⟨i + 1, j, ms ++ [xs.getD i 0], us, vm ++ [_], vu, nm + 1, nu, ti, tj⟩⟩ (.refl _) trivial ⟨⟨i + 1, j, ms ++ [xs.getD i 0], us, vm ++ [_], vu, nm + 1, nu, _, tj⟩, hok'.endI (by omega), snoc_ints im, iu, rfl, all6 rfl rfl rfl rfl rfl rfl⟩ hh (isList_news N7 (List.mem_cons_of_mem _ (List.mem_cons_of_mem _ hxn))) (by omega) (by simp; omega) (by have := hok.li; omega) rfl
          · rename_i h5 F5 N5 hnl hlt
            have hok' := hok.gt sx hi hj hlt
            dsimp only
            refine app_K F5 N5 (Upd.head (List.forall_mem_cons.mpr ⟨Nat.ne_of_lt hmu, hun⟩)) (by rw [ints_len iu]; have := hok.lu; omega) ?_
            intro h6 F6 N6
            ktr_unf
            rename_i h7 F7 N7
            refine while_false ?_ (EX.passes hfr1 rfl hkf)
            ktr_unf
            by_cases hj2 : j + 1 < ys.length
            · refine ksa_sub N7 (List.mem_cons_of_mem _ (List.mem_cons_of_mem _ hyn)) iy (by omega) (by omega) (by omega) ?_
              intro t3
              ktr_unf
              · rw [show ((j : Int) + 1).toNat = j + 1 by omega]
                simpa using getD_ne_next sy hj2
              · refine ksw_end ⟨i, j + 1, ms, us ++ [ys.getD j 0], vm, vu ++ [_], nm, nu + 1, ti, _⟩ F7 N7 (fun p hp => hp) trivial (all2 rfl rfl) ?_ ⟨im, snoc_ints iu, hok'⟩ ?_
                · intro z h2 h3
                  have h2a := h2 _ (.head _)
                  have h2b := h2 _ (.tail _ (.head _))
                  simp only [List.contains_cons, List.contains_nil, Bool.or_false, Bool.or_eq_false_iff, beq_eq_false_iff_ne, ne_eq] at h2a h2b h3
                  simp [kstB, h2a, h2b, h3]
                · dsimp only
                  have := hok.li
                  have := hok.lj
                  omega
            · refine out_ex (new := (uA, listOf (vu ++ [_]).toArray (nu + 1)) :: (mA, listOf vm.toArray nm) :: new) ⟨F7, N7, S1.frames, hap ⟨i, j + 1, ms, us ++ [ys.getD j 0], vm, vu ++ [_], nm, nu + 1, ti, tj⟩⟩ (.refl _) trivial ⟨⟨i, j + 1, ms, us ++ [ys.getD j 0], vm, vu ++ [_], nm, nu + 1, ti, _⟩, hok'.endJ (by omega), im, snoc_ints iu, rfl, all6 rfl rfl rfl rfl rfl rfl⟩ hh (isList_news N7 (List.mem_cons_of_mem _ (List.mem_cons_of_mem _ hyn))) (by omega) (by simp; omega) (by have := hok.lj; omega) rfl
          · rename_i h5a hnl hng h5 F5 N5
            have heq : xs.getD i 0 = ys.getD j 0 := by omega
            have hok' := hok.eq sx sy hi hj heq
            refine wpAny_Try_finally ?_
            refine wpAny_mono (E := EX g1 L1 (envc :: outer) ((L, oL) :: frs) s (fun c2 => c2 = .none) (fun m' new' => ∃ ti', xs.length ≤ i + 1 ∧ new' = (uA, listOf vu.toArray nu) :: (mA, listOf vm.toArray nm) :: new ∧
              ∀ p ∈ [(Str.ofString "expected", Value.ref xa), (Str.ofString "actual", .ref ya), (Str.ofString "missing", .ref mA), (Str.ofString "unexpected", .ref uA), (Str.ofString "i", .int ((i + 1 : Nat) : Int) ti'), (Str.ofString "j", .int j tj), (Str.ofString "a", .int (ys.getD j 0) t2)], m' p.1 = some p.2)) ?_ (fun _ _ h => h) ?_
            · ktr_unf
              refine while_false ?_ (EX.passes hfr1 rfl hkf)
              ktr_unf
              by_cases hi2 : i + 1 < xs.length
              · refine ksa_sub N5 (List.mem_cons_of_mem _ (List.mem_cons_of_mem _ hxn)) ix (by omega) (by omega) (by omega) ?_
                intro t3
                ktr_unf
                · rw [show ((i : Int) + 1).toNat = i + 1 by omega]
                  simpa using getD_ne_next sx hi2
                · rename_i h6 F6 N6
                  refine wpAny_passesOwn (EX.passes hfr1 rfl hkf) ?_
                  refine while_false ?_ (EX.passes hfr1 rfl hkf)
                  ktr_unf
                  by_cases hj2 : j + 1 < ys.length
                  · refine ksa_sub N6 (List.mem_cons_of_mem _ (List.mem_cons_of_mem _ hyn)) iy (by omega) (by omega) (by omega) ?_
                    intro t4
                    ktr_unf
                    · rw [show ((j : Int) + 1).toNat = j + 1 by omega]
                      simpa using getD_ne_next sy hj2
                    · refine ksw_end ⟨i + 1, j + 1, ms, us, vm, vu, nm, nu, _, _⟩ F6 N6 (fun p hp => hp) trivial (all2 rfl rfl) ?_ ⟨im, iu, hok'⟩ ?_
                      · intro z h2 h3
                        have h2a := h2 _ (.head _)
                        have h2b := h2 _ (.tail _ (.head _))
                        simp only [List.contains_cons, List.contains_nil, Bool.or_false, Bool.or_eq_false_iff, beq_eq_false_iff_ne, ne_eq] at h2a h2b h3
                        simp [kstB, h2a, h2b, h3]
                      · dsimp only
                        have := hok.li
                        have := hok.lj
                        omega
                  · refine out_ex (new := (uA, listOf vu.toArray nu) :: (mA, listOf vm.toArray nm) :: new) ⟨F6, N6, S1.frames, hap ⟨i, j, ms, us, vm, vu, nm, nu, ti, tj⟩⟩ (.refl _) trivial ⟨⟨i + 1, j + 1, ms, us, vm, vu, nm, nu, _, _⟩, hok'.endJ (by omega), im, iu, rfl, all6 rfl rfl rfl rfl rfl rfl⟩ hh (isList_news N6 (List.mem_cons_of_mem _ (List.mem_cons_of_mem _ hyn))) (by omega) (by simp; omega) (by have := hok.lj; omega) rfl
              · refine out_ex (new := (uA, listOf vu.toArray nu) :: (mA, listOf vm.toArray nm) :: new) ⟨F5, N5, S1.frames, hap ⟨i, j, ms, us, vm, vu, nm, nu, ti, tj⟩⟩ (.refl _) rfl ⟨_, by omega, rfl, all7 rfl rfl rfl rfl rfl rfl rfl⟩ hh (isList_news N5 (List.mem_cons_of_mem _ (List.mem_cons_of_mem _ hxn))) (by omega) (by simp; omega) (by have := hok.li; omega) rfl
            · intro e s₁ hE
              refine finally_raised (cl := []) hfr1 rfl hE ?_
              rintro m' new' a0 frs' h6 tk6 c2 rfl ⟨ti', hxe, rfl, h7⟩ SU H6
              obtain ⟨ob, tb, otb, S6, ⟨hc, vs, tvs, hd6, e1, e2, hdt, e3⟩, hat, hne⟩ := H6
              have F6 := fr_kst S6.fr h7
              have N6 := S6.news
              refine wpAny_passesOwnAt (EX.passesAt hfr1 rfl hkf) ?_
              ktr_unf
              rename_i h8 F8 N8
              have hyn8 : (ya, listOf vy.toArray ny) ∈ (a0, ob) :: (tb, otb) :: (uA, listOf vu.toArray nu) :: (mA, listOf vm.toArray nm) :: new ++ frs' := List.mem_append.mpr (.inl (.tail _ (.tail _ (.tail _ (.tail _ hy)))))
              have S8 : FS g1 L1 (envc :: outer) frs' _ ((a0, ob) :: (tb, otb) :: (uA, listOf vu.toArray nu) :: (mA, listOf vm.toArray nm) :: new) h8 := ⟨F8, N8, S6.frames, S6.apart⟩
              refine while_false ?_ (EX.passes hfr1 rfl hkf)
              ktr_unf
              by_cases hj2 : j + 1 < ys.length
              · refine ksa_sub N8 hyn8 iy (by omega) (by omega) (by omega) ?_
                intro t4
                ktr_unf
                · rw [show ((j : Int) + 1).toNat = j + 1 by omega]
                  simpa using getD_ne_next sy hj2
                · refine pass_on (cl := []) (c2 := .none) (fl := .none) (new := (uA, listOf vu.toArray nu) :: (mA, listOf vm.toArray nm) :: new) (frs := frs') ⟨ob, tb, otb, S8, ⟨hc, vs, tvs, hd6, e1, e2, hdt, e3⟩, hat, hne⟩ ?_
                  intro h9 H9
                  exact ⟨_, _, a0, frs', h9, _, .none, rfl, rfl, trivial, ⟨⟨i + 1, j + 1, ms, us, vm, vu, nm, nu, _, _⟩, hok'.endI (by omega), im, iu, rfl, all6 rfl rfl rfl rfl rfl rfl⟩, SU, .inr H9⟩
              · refine out_ex_handled (new := (uA, listOf vu.toArray nu) :: (mA, listOf vm.toArray nm) :: new) (S8.sub fun p hp => .tail _ (.tail _ hp)) SU trivial ⟨⟨i + 1, j + 1, ms, us, vm, vu, nm, nu, _, _⟩, hok'.endI (by omega), im, iu, rfl, all6 rfl rfl rfl rfl rfl rfl⟩ rfl (N8 (a0, ob) (.head _)).1 hd6 e2 (isList_news N8 hyn8) (by omega) (by simp; omega) (by have := hok.lj; omega) rfl
        · refine out_ex (new := (uA, listOf vu.toArray nu) :: (mA, listOf vm.toArray nm) :: new) ⟨F4, N4, S1.frames, hap ⟨i, j, ms, us, vm, vu, nm, nu, ti, tj⟩⟩ (.refl _) trivial ⟨⟨i, j, ms, us, vm, vu, nm, nu, ti, tj⟩, hok.endJ (by omega), im, iu, rfl, all6 rfl rfl rfl rfl rfl rfl⟩ hh (isList_news N4 (List.mem_cons_of_mem _ (List.mem_cons_of_mem _ hyn))) (by omega) (by simp; omega) (by have := hok.lj; omega) rfl
      · refine out_ex (new := (uA, listOf vu.toArray nu) :: (mA, listOf vm.toArray nm) :: new) ⟨F3, N3, S1.frames, hap ⟨i, j, ms, us, vm, vu, nm, nu, ti, tj⟩⟩ (.refl _) trivial ⟨⟨i, j, ms, us, vm, vu, nm, nu, ti, tj⟩, hok.endI (by omega), im, iu, rfl, all6 rfl rfl rfl rfl rfl rfl⟩ hh (isList_news N3 (List.mem_cons_of_mem _ (List.mem_cons_of_mem _ hxn))) (by omega) (by simp; omega) (by have := hok.li; omega) rfl
    · intro e s₁ hE
      refine catch_index (cl := []) hfr1 hE X1 T1 ?_ (by k_dflt k_is) rfl rfl ?_
      · rintro m' new' a frs' h' tk' ⟨⟨i, j, ms, us, vm, vu, nm, nu, ti, tj⟩, hend, im, iu, rfl, h6⟩ SU S5
        dsimp only [SL.six] at hend im iu h6 S5
        have F5 := fr_kst S5.fr h6
        have N5 : News g1 L1 h' ((uA, listOf vu.toArray nu) :: (mA, listOf vm.toArray nm) :: (new ++ frs')) := S5.news
        have hxn' := List.mem_append.mpr (.inl hx : _ ∨ _ ∈ frs')
        have hyn' := List.mem_append.mpr (.inl hy : _ ∨ _ ∈ frs')
        ktr_unf
        dsimp only
        refine kmk_slice_ints (s := { s with heap := h', toks := tk' }) (ms := xs.drop i) F5 N5 (isList_news N5 (List.mem_cons_of_mem _ (List.mem_cons_of_mem _ hxn'))) (.int _ _) .none ix (by simpa using kmk_from ix (x := (i : Int)) (by omega)) rfl ?_ ?hs1 ?ht1 (by rw [sizeLine_eq]; simp; omega)
        case hs1 => with_unfolding_all rfl
        case ht1 => (intro _; with_unfolding_all rfl)
        intro D1 w1 h7 F7 N7 lD1 iw1 _ _
        have hfm := sameUp_map SU
        have hfr' : ∀ q ∈ new ++ frs', ∃ q' ∈ new ++ (L, oL) :: frs, q.1 = q'.1 := fun q hq => by
          rcases List.mem_append.mp hq with hq | hq
          · exact ⟨q, List.mem_append.mpr (.inl hq), rfl⟩
          · have hm' : q.1 ∈ ((L, oL) :: frs).map (·.1) := hfm ▸ List.mem_map.mpr ⟨q, hq, rfl⟩
            obtain ⟨q', hq', e'⟩ := List.mem_map.mp hm'
            exact ⟨q', List.mem_append.mpr (.inr hq'), e'.symm⟩
        have hmn' : ∀ q ∈ new ++ frs', q.1 ≠ mA := fun q hq => by
          obtain ⟨q', hq', e'⟩ := hfr' q hq
          rw [e']
          exact hmn q' hq'
        have hun' : ∀ q ∈ new ++ frs', q.1 ≠ uA := fun q hq => by
          obtain ⟨q', hq', e'⟩ := hfr' q hq
          rw [e']
          exact hun q' hq'
        have d1m : mA < D1 := lD1 (mA, listOf vm.toArray nm) (.tail _ (.head _))
        have d1u : uA < D1 := lD1 (uA, listOf vu.toArray nu) (.head _)
        ktr_unf
        dsimp only [List.cons_append, List.nil_append]
        have lw1 := ints_len iw1
        have lim := ints_len im
        have liu := ints_len iu
        have lw1' : w1.length ≤ xs.length := by rw [lw1, List.length_drop]; omega
        refine ext_K F7 N7 (.head _) (fun n' => Upd.tail (Nat.ne_of_gt d1m) (Upd.tail (Nat.ne_of_gt hmu) (Upd.head hmn'))) (by have := hend.lm; have := hend.li; omega) ?_
        intro h8 n8 F8 N8
        ktr_unf
        dsimp only
        refine kmk_slice_ints (s := { s with heap := h8, toks := _ }) (ms := ys.drop j) F8 N8 (isList_news N8 (List.mem_cons_of_mem _ (List.mem_cons_of_mem _ (List.mem_cons_of_mem _ hyn')))) (.int _ _) .none iy (by simpa using kmk_from iy (x := (j : Int)) (by omega)) rfl ?_ ?hs2 ?ht2 (by rw [sizeLine_eq]; simp; omega)
        case hs2 => with_unfolding_all rfl
        case ht2 => (intro _; with_unfolding_all rfl)
        intro D2 w2 h9 F9 N9 lD2 iw2 _ _
        have d2u : uA < D2 := lD2 (uA, listOf vu.toArray nu) (.tail _ (.head _))
        have d12 : D1 < D2 := lD2 (D1, listOf w1.toArray 0) (.head _)
        ktr_unf
        dsimp only [List.cons_append, List.nil_append]
        have lw2 := ints_len iw2
        have lw2' : w2.length ≤ ys.length := by rw [lw2, List.length_drop]; omega
        refine ext_K F9 N9 (.head _) (fun n' => Upd.tail (Nat.ne_of_gt d2u) (Upd.tail (Nat.ne_of_gt d1u) (Upd.head (List.forall_mem_cons.mpr ⟨Nat.ne_of_lt hmu, hun'⟩)))) (by have := hend.lu; have := hend.lj; omega) ?_
        intro h10 n10 F10 N10
        ktr_unf
        rename_i D3 h11 F11 N11 l11
        obtain ⟨d32, d31, d3u, d3m, d3r⟩ := l11
        refine (show LeaveF _ _ _ _ _ _ _ _ _ _ _ _ from ?_)
        refine ⟨_, (D3, tupOf [.ref mA, .ref uA]) :: (mA, listOf (vm ++ w1).toArray n8) :: (uA, listOf (vu ++ w2).toArray n10) :: new, frs', SU, ⟨F11, fun q hq => N11 q ?_, S5.frames, fun q hq hm => ?_⟩, fun frs'' SU'' S'' => hret _ _ frs'' D3 mA uA (vm ++ w1) (vu ++ w2) n8 n10 SU'' S'' (hend.e1 ▸ app_ints im iw1) (hend.e2 ▸ app_ints iu iw2)⟩
        · rcases List.mem_append.mp hq with hq | hq
          · rcases List.mem_cons.mp hq with rfl | hq
            · exact .head _
            · rcases List.mem_cons.mp hq with rfl | hq
              · exact .tail _ (.tail _ (.tail _ (.tail _ (.head _))))
              · rcases List.mem_cons.mp hq with rfl | hq
                · exact .tail _ (.tail _ (.tail _ (.head _)))
                · exact .tail _ (.tail _ (.tail _ (.tail _ (.tail _ (List.mem_append.mpr (.inl hq))))))
          · exact .tail _ (.tail _ (.tail _ (.tail _ (.tail _ (List.mem_append.mpr (.inr hq))))))
        · obtain ⟨q', hq', e'⟩ := List.mem_map.mp hm
          have hq2 := List.mem_append.mpr (.inr hq' : q' ∈ new ∨ _)
          rcases List.mem_cons.mp hq with rfl | hq
          · exact absurd (kst_ltOf d3r q' hq2) (by rw [e']; exact Nat.lt_irrefl _)
          · rcases List.mem_cons.mp hq with rfl | hq
            · exact hmn' q' hq2 e'
            · rcases List.mem_cons.mp hq with rfl | hq
              · exact hun' q' hq2 e'
              · exact S5.apart q (.tail _ (.tail _ hq)) hm
      · intro a
        passes_own
end Mine
end

section
open PySem PySem.W PyProof.Rows PySem.Spec PySem.Calls
set_option Elab.async false
set_option maxRecDepth 100000
set_option maxHeartbeats 8000000
namespace Mine

/-- behind a turn's body: the next state, or the loop is left -/
def ForPost {σ : Type} (h₀ : Heap) (L : Addr) (s : Shared) (Led : σ → List (Addr × Obj)) (Fit : σ → (Str → Option Value) → Prop) (P : σ → Prop) (ip : Addr × Obj) (Q : Flow → Shared → Prop) (f : Flow) (s' : Shared) : Prop :=
  match f with
  | .ret v => Q (.ret v) s'
  | .brk => Q .next s'
  | _ => ∃ h tk c m, s' = { s with heap := h, toks := tk } ∧ Fr h₀ L h m ∧ News h₀ L h (ip :: Led c) ∧ (∀ q ∈ Led c, q.1 ≠ ip.1) ∧ Fit c m ∧ P c

section
variable {prog : Program} {w : World} {A : Around} {E : Value → Shared → Prop} {s : Shared} {env : Env} {h₀ : Heap} {target : Expr} {body orelse : List Stmt} {Q : Flow → Shared → Prop} {m₀ : Str → Option Value} {σ : Type}

theorem forW {I : Addr} {fp : List Addr} {n : Nat} {PV : Nat → Value → Prop} {St : Nat → Heap → Prop} (W : Walks prog w A I fp [I] n PV St) (Led : σ → List (Addr × Obj)) (Fit : σ → (Str → Option Value) → Prop) (P : Nat → σ → Prop) (c₀ : σ)
    (hfp : ∀ b ∈ fp, b = I ∨ ∃ o, ∀ c, (b, o) ∈ Led c) (hob : ∀ i h, St i h → ∃ o, h.get? I = some o) (hst : St 0 s.heap) (hI : h₀.get? I = none) (hLI : env.locals ≠ I) (hne : ∀ q ∈ Led c₀, q.1 ≠ I)
    (F : Fr h₀ env.locals s.heap m₀) (N : News h₀ env.locals s.heap (Led c₀)) (hf : Fit c₀ m₀) (hp : P 0 c₀)
    (turn : ∀ i v c m h tk o, i < n → PV i v → P i c → Fit c m → Fr h₀ env.locals h m → News h₀ env.locals h ((I, o) :: Led c) → (∀ q ∈ Led c, q.1 ≠ I) →
      wpAny (model prog w) A (assign target env v) (fun _ s₂ => wpAny (model prog w) A (execs body env) (ForPost h₀ env.locals s Led Fit (P (i + 1)) (I, o) Q) E s₂) E { s with heap := h, toks := tk })
    (done : ∀ c m h tk, P n c → Fit c m → Fr h₀ env.locals h m → News h₀ env.locals h (Led c) → wpAny (model prog w) A (execs orelse env) Q E { s with heap := h, toks := tk })
    (hE : PassesOwn (model prog w) A env E) (ht : ∀ v, letOwnedTupleGo target (.ref I) v = pure ()) :
    codeAny (model prog w) A (.forLoop target (.ref I) body orelse env) (fun r s' => match r with | .ok f => Q f s' | .error e => cameBackBy (model prog w) A env E e s') s := by
  refine codeAny_forLoop (fun k s' => ∃ i h tk c m, k = n + 1 - i ∧ i ≤ n ∧ s' = { s with heap := h, toks := tk } ∧ St i h ∧ Fr h₀ env.locals h m ∧ News h₀ env.locals h (Led c) ∧ (∀ q ∈ Led c, q.1 ≠ I) ∧ Fit c m ∧ P i c) ?_ (n + 1)
    ⟨0, s.heap, s.toks, c₀, m₀, rfl, Nat.zero_le _, rfl, hst, F, N, hne, hf, hp⟩ ht
  rintro k s' ⟨i, h, tk, c, m, rfl, hi, rfl, hst', F', N', hne', hf', hp'⟩
  have keep : ∀ h₁ : Heap, (∀ b o, b ∉ [I] → h.get? b = some o → h₁.get? b = some o) → Fr h₀ env.locals h₁ m ∧ News h₀ env.locals h₁ (Led c) := fun h₁ hk => by
    obtain ⟨oL, es, ep, hL, hLd, hLk, hLf⟩ := F'.ns
    refine ⟨⟨⟨oL, es, ep, hk _ _ (fun q => hLI (List.mem_singleton.mp q)) hL, hLd, hLk, hLf⟩, fun b o e => hk b o (fun q => by rw [List.mem_singleton.mp q, hI] at e; cases e) (F'.keep b o e), F'.above⟩, fun q hq => ⟨hk _ _ (fun e => hne' q hq (List.mem_singleton.mp e)) (N' q hq).1, (N' q hq).2⟩⟩
  by_cases hlt : i < n
  · refine W.item i _ _ _ hlt hst' fun v h₁ tk₁ hP hst₁ hk₁ => ?_
    obtain ⟨F₁, N₁⟩ := keep h₁ hk₁
    obtain ⟨o, ho⟩ := hob _ _ hst₁
    have N₂ : News h₀ env.locals h₁ ((I, o) :: Led c) := fun q hq => by
      rcases List.mem_cons.mp hq with rfl | hq
      · exact ⟨ho, fun e => hLI e.symm, hI⟩
      · exact N₁ q hq
    refine wpAny_mono (turn i v c m h₁ tk₁ o hlt hP hp' hf' F₁ N₂ hne') (fun _ s₂ h₂ => wpAny_mono h₂ (fun f s₃ h₃ => ?_) hE) hE
    have go : (∃ h tk c m, s₃ = { s with heap := h, toks := tk } ∧ Fr h₀ env.locals h m ∧ News h₀ env.locals h ((I, o) :: Led c) ∧ (∀ q ∈ Led c, q.1 ≠ I) ∧ Fit c m ∧ P (i + 1) c) →
        ∃ k, k < n + 1 - i ∧ ∃ i h tk c m, k = n + 1 - i ∧ i ≤ n ∧ s₃ = { s with heap := h, toks := tk } ∧ St i h ∧ Fr h₀ env.locals h m ∧ News h₀ env.locals h (Led c) ∧ (∀ q ∈ Led c, q.1 ≠ I) ∧ Fit c m ∧ P i c := by
      rintro ⟨h4, tk₃, c₃, m₃, e4, F₃, N₃, ne₃, f₃, p₃⟩
      refine ⟨n + 1 - (i + 1), by omega, i + 1, h4, tk₃, c₃, m₃, rfl, hlt, e4, ?_, F₃, fun q hq => N₃ q (.tail _ hq), ne₃, f₃, p₃⟩
      refine W.frame _ _ _ hst₁ fun b hb o' e => ?_
      rcases hfp b hb with rfl | ⟨o'', ho''⟩
      · rw [ho] at e
        cases e
        exact (N₃ _ (.head _)).1
      · have e1 := (N₁ _ (ho'' c)).1
        rw [e] at e1
        cases e1
        exact (N₃ _ (.tail _ (ho'' c₃))).1
    cases f with
    | ret v => exact h₃
    | brk => exact h₃
    | next => exact go h₃
    | cont => exact go h₃
  · have hin : i = n := by omega
    subst hin
    refine W.done _ _ _ hst' fun h₁ tk₁ hk₁ => ?_
    obtain ⟨F₁, N₁⟩ := keep h₁ hk₁
    exact wpAny_mono (done c m h₁ tk₁ hp' hf' F₁ N₁) (fun _ _ x => x) hE

theorem forL {iter : Expr} {pos : Pos} (h : wpAny (model prog w) A (eval iter env) (fun x s₁ => ∃ (l : Addr) (vs : List Value) (nn : Nat) (Led : σ → List (Addr × Obj)) (Fit : σ → (Str → Option Value) → Prop) (P : Nat → σ → Prop) (c₀ : σ) (h₀ : Heap) (m₀ : Str → Option Value), x = .ref l ∧ A.handled = none ∧
      (∀ c, (l, listOf vs.toArray nn) ∈ Led c) ∧ Fr h₀ env.locals s₁.heap m₀ ∧ News h₀ env.locals s₁.heap (Led c₀) ∧ Fit c₀ m₀ ∧ P 0 c₀ ∧
      (∀ i v c m h tk I o, vs[i]? = some v → P i c → Fit c m → Fr h₀ env.locals h m → News h₀ env.locals h ((I, o) :: Led c) → (∀ q ∈ Led c, q.1 ≠ I) →
        wpAny (model prog w) A (assign target env v) (fun _ s₂ => wpAny (model prog w) A (execs body env) (ForPost h₀ env.locals s₁ Led Fit (P (i + 1)) (I, o) Q) E s₂) E { s₁ with heap := h, toks := tk }) ∧
      (∀ c m h tk, P vs.length c → Fit c m → Fr h₀ env.locals h m → News h₀ env.locals h (Led c) → wpAny (model prog w) A (execs orelse env) Q E { s₁ with heap := h, toks := tk })) E s)
    (hE : PassesOwn (model prog w) A env E) (hs : ∀ x, foldedSetIterable iter env x = pure x) (ht : ∀ I v, letOwnedTupleGo target (.ref I) v = pure ()) :
    wpAny (model prog w) A (exec (.For target iter body orelse pos) env) Q E s := by
  refine wpAny_For (wpAny_mono h (fun x s₁ h₁ => ?_) fun _ _ e => e) hs
  obtain ⟨l, vs, nn, Led, Fit, P, c₀, h₀, m₀, rfl, hh, hl, F, N, hf, hp, turn, done⟩ := h₁
  have hol : s₁.heap.get? l = some (listOf vs.toArray nn) := (N _ (hl c₀)).1
  have hls : s₁.heap.IsList l vs.toArray := ⟨_, hol, rfl, nn, rfl⟩
  have hne : l ≠ s₁.heap.objs.size := Nat.ne_of_lt (Heap.lt_size hol)
  refine wpAny_pyIter_list hls ?_
  have W := Walks.list (prog := prog) (w := w) hh s₁.heap.objs.size l hne vs.toArray
  have hlen : vs.toArray.size = vs.length := by simp
  rw [hlen] at W
  refine forW W Led Fit P c₀ ?_ ?_ ⟨⟨_, Heap.get?_push_size _ rfl, rfl, rfl⟩, hls.at fun o e => Heap.get?_push_of_some _ e⟩ (next_is_new F) (Nat.ne_of_lt F.ns.lt) (fun q hq => Nat.ne_of_lt (Heap.lt_size (N q hq).1)) (F.push _) (fun p hp => ⟨Heap.get?_push_of_some _ (N p hp).1, (N p hp).2⟩) hf hp ?_ done hE (ht _)
  · intro b hb
    rcases List.mem_cons.mp hb with rfl | hb
    · exact .inl rfl
    · rw [List.mem_singleton.mp hb]
      exact .inr ⟨_, hl⟩
  · rintro i h ⟨⟨o, ho, _⟩, _⟩
    exact ⟨o, ho⟩
  · intro i v c m h tk o hi hv hp' hf' F' N' ne'
    exact turn i v c m h tk _ o (by simpa using hv) hp' hf' F' N' ne'

theorem forR {iter : Expr} {pos : Pos} (h : wpAny (model prog w) A (eval iter env) (fun x s₁ => ∃ (r : Addr) (t u v : Tok) (n : Nat) (Led : σ → List (Addr × Obj)) (Fit : σ → (Str → Option Value) → Prop) (P : Nat → σ → Prop) (c₀ : σ) (h₀ : Heap) (m₀ : Str → Option Value), x = .ref r ∧ A.handled = none ∧
      IsRange s₁.heap r 0 (n : Int) 1 t u v ∧ n < 1000 ∧ Fr h₀ env.locals s₁.heap m₀ ∧ News h₀ env.locals s₁.heap (Led c₀) ∧ Fit c₀ m₀ ∧ P 0 c₀ ∧
      (∀ i c m h tk t I o, i < n → P i c → Fit c m → Fr h₀ env.locals h m → News h₀ env.locals h ((I, o) :: Led c) → (∀ q ∈ Led c, q.1 ≠ I) →
        wpAny (model prog w) A (assign target env (.int (i : Int) t)) (fun _ s₂ => wpAny (model prog w) A (execs body env) (ForPost h₀ env.locals s₁ Led Fit (P (i + 1)) (I, o) Q) E s₂) E { s₁ with heap := h, toks := tk }) ∧
      (∀ c m h tk, P n c → Fit c m → Fr h₀ env.locals h m → News h₀ env.locals h (Led c) → wpAny (model prog w) A (execs orelse env) Q E { s₁ with heap := h, toks := tk })) E s)
    (hE : PassesOwn (model prog w) A env E) (hs : ∀ x, foldedSetIterable iter env x = pure x) (ht : ∀ I v, letOwnedTupleGo target (.ref I) v = pure ()) :
    wpAny (model prog w) A (exec (.For target iter body orelse pos) env) Q E s := by
  refine wpAny_For (wpAny_mono h (fun x s₁ h₁ => ?_) fun _ _ e => e) hs
  obtain ⟨r, t, u, v, n, Led, Fit, P, c₀, h₀, m₀, rfl, hh, hr, hsm, F, N, hf, hp, turn, done⟩ := h₁
  refine wpAny_pyIter_range hr (small01 _ (by omega) (by omega)) ?_
  have W := (Walks.range (prog := prog) (w := w) (A := A) hh s₁.heap.objs.size 0 1 n).bound
  refine forW W Led Fit P c₀ ?_ ?_ (by show IsRangeIter _ _ _ _ _; rw [rangeSize01 _ (by omega)]; simpa using Heap.get?_push_size _ rfl) (next_is_new F) (Nat.ne_of_lt F.ns.lt) (fun q hq => Nat.ne_of_lt (Heap.lt_size (N q hq).1)) (F.push _) (fun p hp => ⟨Heap.get?_push_of_some _ (N p hp).1, (N p hp).2⟩) hf hp ?_ done hE (ht _)
  · intro b hb
    exact .inl (List.mem_singleton.mp hb)
  · intro i h hi
    exact ⟨_, hi⟩
  · rintro i v c m h tk o hi ⟨_, t', rfl⟩ hp' hf' F' N' ne'
    rw [show (0 : Int) + (i : Int) * 1 = (i : Int) by omega]
    exact turn i c m h tk t' _ o hi hp' hf' F' N' ne'
end
end Mine
end

section
open PySem PySem.W PyProof.Rows PySem.Spec PySem.Calls
set_option Elab.async false
set_option maxRecDepth 100000
set_option maxHeartbeats 8000000
namespace Mine
open PyProof.Rows.LCg PyProof.Rows.LCt PySem.SeqAt

section
variable {prog : Program} {w : World} {A : Around} {E : Value → Shared → Prop} {s : Shared} {h₀ : Heap} {L : Addr} {m : Str → Option Value} {env : Env} {ct elt : Expr} {x : Str} {scope : Scope} {cl : List (Str × Addr)} {S : List (Addr × Obj) → Prop} {P : Nat → Value → Prop} {Fin : List Value → List (Addr × Obj) → Prop} {n : Nat}

theorem compEnd_mono {s₁ s₂ : Shared} {I C D : Addr} {oI oC oD : Obj} {r r' : Value → List (Addr × Obj) → Prop} {y : Value} (h : CompEnd h₀ L m s₁ I oI C oC D oD S r y s₂) (k : ∀ nw, r y nw → r' y nw) : CompEnd h₀ L m s₁ I oI C oC D oD S r' y s₂ := by
  obtain ⟨h', tk, nw, e, F, N, off, hS, hr⟩ := h
  exact ⟨h', tk, nw, e, F, N, off, hS, k nw hr⟩

/-- a comprehension with a test, by what holds between the turns -/
theorem compT_ind (Inv : Nat → List Value → List (Addr × Obj) → Prop)
    (step : ∀ i ys news v I oI C oC D m₂ h tk (E' : Value → Shared → Prop), i < n → Inv i ys news → P i v → NsObj oC m₂ → m₂ x = some v → Fr h₀ L h m → News h₀ L h ((I, oI) :: (C, oC) :: (D, lst ys) :: news) → Off3 I C D news → ((@Ne Nat I C) ∧ (@Ne Nat I D) ∧ (@Ne Nat C D)) →
      wpAny (model prog w) A (isTrue ct (compEnvC scope cl C env) (eval ct (compEnvC scope cl C env))) (fun ok s' => if ok = true then
        wpAny (model prog w) A (eval elt (compEnvC scope cl C env)) (CompEnd h₀ L m { s with heap := h, toks := tk } I oI C oC D (lst ys) S (fun y news' => Inv (i + 1) (ys ++ [y]) news')) E' s'
        else CompEnd h₀ L m { s with heap := h, toks := tk } I oI C oC D (lst ys) S (fun _ news' => Inv (i + 1) ys news') Value.none s') E' { s with heap := h, toks := tk })
    (fin : ∀ ys news, Inv n ys news → Fin ys news) : ∀ k i ys news, i + k = n → Inv i ys news → CompRestT prog w A h₀ L m env ct elt x scope cl s S P Fin k i ys news := by
  intro k
  induction k with
  | zero =>
    intro i ys news e hI
    have : i = n := by omega
    subst this
    exact fin ys news hI
  | succ k ih =>
    intro i ys news e hI
    intro v I oI C oC D m₂ h tk E' hP hC hm F N off hne
    refine wpAny_mono (step i ys news v I oI C oC D m₂ h tk E' (by omega) hI hP hC hm F N off hne) (fun ok s' hq => ?_) fun _ _ e => e
    cases ok with
    | false =>
      simp only [Bool.false_eq_true, if_false] at hq ⊢
      exact compEnd_mono hq fun nw h' => ih (i + 1) ys nw (by omega) h'
    | true =>
      simp only [if_true] at hq ⊢
      exact wpAny_mono hq (fun y s₃ h₃ => compEnd_mono h₃ fun nw h' => ih (i + 1) _ nw (by omega) h') fun _ _ e => e
/-- the same without a test -/
theorem compU_ind (Inv : Nat → List Value → List (Addr × Obj) → Prop)
    (step : ∀ i ys news v I oI C oC D m₂ h tk (E' : Value → Shared → Prop), i < n → Inv i ys news → P i v → NsObj oC m₂ → m₂ x = some v → Fr h₀ L h m → News h₀ L h ((I, oI) :: (C, oC) :: (D, lst ys) :: news) → Off3 I C D news → ((@Ne Nat I C) ∧ (@Ne Nat I D) ∧ (@Ne Nat C D)) →
      wpAny (model prog w) A (eval elt (compEnvC scope cl C env)) (CompEnd h₀ L m { s with heap := h, toks := tk } I oI C oC D (lst ys) S (fun y news' => Inv (i + 1) (ys ++ [y]) news')) E' { s with heap := h, toks := tk })
    (fin : ∀ ys news, Inv n ys news → Fin ys news) : ∀ k i ys news, i + k = n → Inv i ys news → CompRest prog w A h₀ L m env elt x scope cl s S P Fin k i ys news := by
  intro k
  induction k with
  | zero =>
    intro i ys news e hI
    have : i = n := by omega
    subst this
    exact fin ys news hI
  | succ k ih =>
    intro i ys news e hI
    intro v I oI C oC D m₂ h tk E' hP hC hm F N off hne
    exact wpAny_mono (step i ys news v I oI C oC D m₂ h tk E' (by omega) hI hP hC hm F N off hne) (fun y s₃ h₃ => compEnd_mono h₃ fun nw h' => ih (i + 1) _ nw (by omega) h') fun _ _ e => e

theorem notin_ints {a : Addr} {vs : List Value} {ns : List Int} {k : Int} {t : Tok} {Q : Value → Shared → Prop} (hl : s.heap.IsList a vs.toArray) (hi : IntsAre vs ns) (h : Q (.bool (decide (k ∉ ns))) s) :
    wpAny (model prog w) A (compareOp .NotIn (.int k t) (.ref a)) Q E s := by
  refine notIn_listAt (fun v => match v with | .int z _ => z == k | _ => false) hl ?_ ?_
  · intro y hy
    have hy' : y ∈ vs := by simpa using hy
    obtain ⟨j, hj, rfl⟩ := List.getElem_of_mem hy'
    obtain ⟨t', e⟩ := ints_at hi hj
    rw [e]
    exact EqAt.int_int _ _ _ _
  · have e : (!vs.toArray.any fun v => match v with | .int z _ => z == k | _ => false) = decide (k ∉ ns) := by
      rw [List.any_toArray]
      clear hl h
      induction hi with
      | nil => simp
      | cons n u _ ih =>
        simp only [List.any_cons, List.mem_cons, not_or, Bool.not_or, ih]
        by_cases hn : n = k
        · subst hn; simp
        · have : ¬ k = n := fun q => hn q.symm
          simp [hn, this]
    rw [e]
    exact h
theorem in_ints {a : Addr} {vs : List Value} {ns : List Int} {k : Int} {t : Tok} {Q : Value → Shared → Prop} (hl : s.heap.IsList a vs.toArray) (hi : IntsAre vs ns) (h : Q (.bool (decide (k ∈ ns))) s) :
    wpAny (model prog w) A (compareOp .In (.int k t) (.ref a)) Q E s := by
  refine in_listAt (fun v => match v with | .int z _ => z == k | _ => false) hl ?_ ?_
  · intro y hy
    have hy' : y ∈ vs := by simpa using hy
    obtain ⟨j, hj, rfl⟩ := List.getElem_of_mem hy'
    obtain ⟨t', e⟩ := ints_at hi hj
    rw [e]
    exact EqAt.int_int _ _ _ _
  · have e : (vs.toArray.any fun v => match v with | .int z _ => z == k | _ => false) = decide (k ∈ ns) := by
      rw [List.any_toArray]
      clear hl h
      induction hi with
      | nil => simp
      | cons n u _ ih =>
        simp only [List.any_cons, List.mem_cons, ih]
        by_cases hn : n = k
        · subst hn; simp
        · have : ¬ k = n := fun q => hn q.symm
          simp [hn, this]
    rw [e]
    exact h
end
end Mine
end

section
open PySem PySem.W PyProof.Rows
set_option Elab.async false
set_option maxRecDepth 100000
set_option maxHeartbeats 8000000
set_option linter.all false
namespace Mine
local macro_rules | `(tactic| ktr_rel) => `(tactic| first
  | (with_reducible show wpAny _ _ (exec (Stmt.For _ _ _ _ _) _) _ _ _)
  | (with_reducible show wpAny _ _ (call (Value.ref _) _ _) _ _ _)
  | (with_reducible show wpAny _ _ (eval (Expr.ListComp _ _ _ _) _) _ _ _)
  | (with_reducible show wpAny _ _ (compareOp _ _ (Value.ref _)) _ _ _)
  | (with_reducible show LeaveF _ _ _ _ _ _ _ _ _ _ _ _)
  | (with_reducible show ForPost _ _ _ _ _ _ _ _ _ _)
  | (with_reducible show LCt.CompSrcT _ _ _ _ _ _ _ _ _ _ _ _ _ _ _)
  | (with_reducible show LCg.CompEnd _ _ _ _ _ _ _ _ _ _ _ _ _ _)
  | (with_reducible show Exists _))
local macro_rules | `(tactic| ktr_unf) => `(tactic| repeat' (first | (k_unfold; (try dsimp only)) | ((fail_if_success ktr_rel); first | walk1 | (dsimp only; walk1))))
local macro_rules | `(tactic| ktr_enter) => `(tactic| (
  have fill : PySem.Challenge.rw_op0048_01 = PySem.Challenge.rw_op0048_01 ∧ Mine.hd.heap_39 = Mine.hd.heap_39 := by
    k_fill
    exact ⟨rfl, rfl⟩
  clear fill
  w_top on
  refine wpAny_call ?_
  k_dflt (refine' callY ?k2 ?k3 ?k4 ?k5 ?k6 ?k7 ?k8 ?k9 ?kB ?_ ?c2 ?c3 ?c4 ?c5; (case k2 => k_asm); (case k3 => k_asm); (case k4 => k_asm); (case k5 => k_asm); (case k6 => k_is); (case k7 => k_is); (case k8 => omega); (case k9 => exact BindsTo.of_eq rfl); (case c5 => decide); (case kB => exact locs rfl); (case c2 => exact rfl); (case c3 => exact rfl); (case c4 => exact rfl); k_whole; intro g' L' h' F' N' X' T' l1; (try dsimp only); (try k_fold))))

open PyProof.Rows.TI (Frs SameUp sameUp_of)
theorem rows_sorted : ∀ sh, sh < 4 → ∀ i, i < 16 → (rowI sh i).Pairwise (· < ·) := by decide +kernel
theorem rows_short : ∀ sh, sh < 4 → ∀ i, i < 16 → (rowI sh i).length ≤ 4 := by decide +kernel

theorem ints_get {vs : List Value} {ns : List Int} (h : IntsAre vs ns) : ∀ {i : Nat} {v : Value}, vs[i]? = some v → ∃ n t, v = .int n t ∧ ns[i]? = some n ∧ ns.take (i + 1) = ns.take i ++ [n] := by
  induction h with
  | nil => intro i v e; cases e
  | cons n t _ ih =>
    intro i v e
    cases i with
    | zero =>
      cases e
      exact ⟨n, t, rfl, rfl, by simp⟩
    | succ i =>
      obtain ⟨n', t', e1, e2, e3⟩ := ih (i := i) (by simpa using e)
      exact ⟨n', t', e1, by simpa using e2, by simp [e3]⟩
theorem isTup {h₀ h : Heap} {L a : Addr} {vs : Array Value} {news : List (Addr × Obj)} (N : News h₀ L h news) (hm : (a, ({ cls := .type "tuple", data := .seq vs } : Obj)) ∈ news) : h.IsTuple a vs := ⟨_, (N _ hm).1, rfl, _, rfl⟩
/-- a row that lies in another -/
def subR (sh t r : Nat) : Bool := decide (((rowI sh t).filter fun x => decide (x ∉ rowI sh r)) = [])

theorem above_t {w : World} {p : Program} {loose : List Str} {mean : ExcName → Option Value} {mg mb : Str → Option Value}
    {A : Around} {h₀ : Heap} {L : Addr} {outer : List Env} {envc : Env} {frs : List (Addr × Obj)} {m : Str → Option Value} {new : List (Addr × Obj)} {s : Shared}
    {Q E : Value → Shared → Prop} {ta : Addr} {ts : List Nat} {nt sh r : Nat} {ra : Nat → Addr}
    (S : FS h₀ L outer frs m new s.heap) (X : (hd.heap_39 w.params).In h₀) (T : Top p loose mean mg mb h₀) (hA : A.frames = some (envc :: outer)) (hf : envc.frame = some L) (hkc : envc.scope.kind ≠ .module) (hh : A.handled = none)
    (R : RowsIn new sh ra) (hsh : sh < 4) (ht : (ta, listOf (ts.map fun i => Value.ref (ra i)).toArray nt) ∈ new) (hts : ∀ t ∈ ts, t < 16) (hr : r < 16) (hl : ts.length < 1000)
    (hd : A.depth + 20 < recursionLimit) (hu : A.units + 300 < cLine)
    (hret : ∀ h' tk' frs', SameUp frs frs' → FS h₀ L outer frs' m new h' → Q (.bool (ts.any fun t => subR sh t r)) { s with heap := h', toks := tk' }) :
    wpAny (model prg w) A (call (.ref 67) [.ref ta, .ref (ra r)]) Q E s := by
  have fill : PySem.Challenge.rw_op0048_01 = PySem.Challenge.rw_op0048_01 ∧ Mine.hd.heap_39 = Mine.hd.heap_39 := by
    k_fill
    exact ⟨rfl, rfl⟩
  clear fill
  w_top on
  refine wpAny_call ?_
  k_dflt (refine' callFC S X T hA hf hkc ?k6 ?k7 ?k8 ?k9 ?kB ?kD ?_ ?c2 ?c3 ?c4; (case k6 => k_is); (case k7 => k_is); (case k8 => omega); (case k9 => exact BindsTo.of_eq rfl); (case kB => exact rfl); (case kD => decide +kernel); (case c2 => exact rfl); (case c3 => exact rfl); (case c4 => exact rfl); k_whole)
  intro g1 L1 h1 tk1 oL cells S1 hcells hfr1 X1 T1 l1
  obtain ⟨o1, rfl, d1⟩ := CellsAre.one hcells
  dsimp only
  k_fold
  have hkf : ScopeKind.function ≠ ScopeKind.module := by decide
  have F1 := S1.fr
  have N1 := S1.news
  have hlt1 : ∀ fr, SameUp ((L, oL) :: frs) fr → ∀ q ∈ new ++ fr, q.1 < L1 := fun fr SU q hq => by
    rcases List.mem_append.mp hq with hq | hq
    · exact l1 q (List.mem_append.mpr (.inl hq))
    · have hm' : q.1 ∈ ((L, oL) :: frs).map (·.1) := sameUp_map SU ▸ List.mem_map.mpr ⟨q, hq, rfl⟩
      obtain ⟨q', hq', e'⟩ := List.mem_map.mp hm'
      have := l1 q' (List.mem_append.mpr (.inr hq'))
      rw [← e']
      exact this
  have hap1 : ∀ fr, SameUp ((L, oL) :: frs) fr → ∀ q ∈ new, q.1 ∉ fr.map (·.1) := fun fr SU q hq => by
    rw [sameUp_map SU]
    exact S1.apart q (List.mem_append.mpr (.inr hq))
  obtain ⟨vr, nr, hrow, ir⟩ := R r hr
  ktr_unf
  refine forL (σ := Obj × List (Addr × Obj)) ?_ (by passes_own) (by intro _; rfl) (by intro _ _; rfl)
  ktr_unf
  refine ⟨ta, ts.map fun i => .ref (ra i), nt, fun c => (L1 + 1, c.1) :: (new ++ c.2), fun _ m' => ∀ p ∈ [(Str.ofString "told", Value.ref ta), (Str.ofString "row", .ref (ra r))], m' p.1 = some p.2,
    fun i c => (∃ v, c.1.data = .cell v) ∧ SameUp ((L, oL) :: frs) c.2 ∧ Frs (envc :: outer) c.2 ∧ ((ts.take i).any fun t => subR sh t r) = false, (o1, (L, oL) :: frs), g1, _, rfl, hh, fun c => .tail _ (List.mem_append.mpr (.inl ht)), F1, N1, all2 rfl rfl, ⟨⟨_, d1⟩, .refl _, S1.frames, rfl⟩, ?_, ?_⟩
  · rintro i v ⟨oc, fr⟩ m' h tk I o hv ⟨⟨v0, hoc⟩, SU, FR, hno⟩ hfit F2 N2 hneI
    dsimp only at hoc SU FR hno F2 N2 hneI
    obtain ⟨t, ht', rfl⟩ : ∃ t, ts[i]? = some t ∧ v = .ref (ra t) := by
      rw [List.getElem?_map] at hv
      cases h9 : ts[i]? with
      | none => rw [h9] at hv; cases hv
      | some t => rw [h9] at hv; exact ⟨t, rfl, (Option.some.inj hv).symm⟩
    have ht16 : t < 16 := hts t (List.mem_of_getElem? ht')
    obtain ⟨vt, nt', hrt, irt⟩ := R t ht16
    have F2' := fr_kst F2 hfit
    have hIc : I ≠ L1 + 1 := fun q => hneI (L1 + 1, oc) (.head _) q.symm
    have hltf := hlt1 fr SU
    refine wpAny_assign_Name ?_
    refine storeX_C F2' N2 rfl (UpdF.tail hIc (UpdF.head fun q hq => Nat.ne_of_lt (Nat.lt_succ_of_lt (hltf q hq)))) hoc ?_ rfl rfl
    intro h2 o2 F3 N3 d2
    ktr_unf
    refine sld_t (S := (FS.mk F3 N3 FR (List.forall_mem_cons.mpr ⟨fun hm => ?a1, List.forall_mem_cons.mpr ⟨fun hm => ?a2, hap1 fr SU⟩⟩) : FS g1 L1 (envc :: outer) fr _ ((I, o) :: (L1 + 1, o2) :: new) h2)) X1 T1 hfr1 rfl hkf hh (.tail _ (.tail _ hrt)) irt (.tail _ (.tail _ hrow)) ir (rows_sorted sh hsh t ht16) (rows_sorted sh hsh r hr) (by have := rows_short sh hsh t ht16; omega) (by have := rows_short sh hsh r hr; omega) (by show A.depth + 1 + 10 < _; omega) (by show A.units + 3 + 200 < _; omega) ?_
    case a1 =>
      obtain ⟨q', hq', e'⟩ := List.mem_map.mp hm
      exact hneI q' (.tail _ (List.mem_append.mpr (.inr hq'))) e'
    case a2 =>
      obtain ⟨q', hq', e'⟩ := List.mem_map.mp hm
      have := hltf q' (List.mem_append.mpr (.inr hq'))
      rw [e'] at this
      exact absurd this (Nat.not_lt.mpr (Nat.le_succ L1))
    intro h3 tk3 fr3 tp ma ua vm vu nm nu SU3 S3 ivm ivu
    have SUa := SU.trans SU3
    have S3I : ∀ q ∈ new ++ fr3, q.1 ≠ I := fun q hq => by
      rcases List.mem_append.mp hq with hq | hq
      · exact hneI q (.tail _ (List.mem_append.mpr (.inl hq)))
      · have hm' : q.1 ∈ fr.map (·.1) := sameUp_map SU3 ▸ List.mem_map.mpr ⟨q, hq, rfl⟩
        obtain ⟨q', hq', e'⟩ := List.mem_map.mp hm'
        rw [← e']
        exact hneI q' (.tail _ (List.mem_append.mpr (.inr hq')))
    have F4 := S3.fr
    have N4 := S3.news
    dsimp only [List.cons_append, List.nil_append] at N4
    ktr_unf
    rename_i _ Z h5 F5 N5 l5
    dsimp only
    k_dflt (refine LCt.ListComp_T (F₀ := F5) (by with_unfolding_all rfl) (by decide) (by rfl) (by decide) (by rfl) ?_)
    ktr_unf
    refine LCt.CompSrcT.ledger hh F5 N5 (.tail _ (.tail _ (.tail _ (.tail _ (.tail _ (.tail _ (List.mem_append.mpr (.inl hrow)))))))) (by rw [sizeLine_eq]; have := ints_len ir; have := rows_short sh hsh r hr; simp; omega) fun g => ?_
    refine compT_ind (fun i ys nw => nw = (Z, listOf #[] 0) :: (tp, tupOf [.ref ma, .ref ua]) :: (ma, listOf vm.toArray nm) :: (ua, listOf vu.toArray nu) :: (I, o) :: (L1 + 1, o2) :: (new ++ fr3) ∧ IntsAre ys (((rowI sh r).take i).filter fun x => decide (x ∉ rowI sh t))) ?_ ?_ _ 0 [] _ (Nat.zero_add _) ⟨rfl, .nil⟩
    · intro i ys nw v Ia oI Ca oC Da m₂ h tk E' hi hinv hv hC hm F6 N6 off ne
      obtain ⟨rfl, iy⟩ := hinv
      obtain ⟨n, tn, rfl, hn, htk⟩ := ints_get ir (by simpa using hv)
      ktr_unf
      dsimp only
      refine notin_ints (isList_news N6 (.tail _ (.tail _ (.tail _ (.tail _ (.tail _ (.tail _ (.tail _ (.tail _ (.tail _ (List.mem_append.mpr (.inl hrt))))))))))) ) irt ?_
      rw [htk, List.filter_append]
      by_cases hb : n ∈ rowI sh t
      · have hb' : decide (n ∉ rowI sh t) = false := by simp [hb]
        rw [hb']
        ktr_unf
        refine LCg.CompEnd.intro F6 N6 _ (fun _ h => h) off (.inr ⟨_, (.tail _ (.tail _ (.tail _ (.tail _ (.tail _ (.tail _ (List.mem_append.mpr (.inl hrow)))))))), rfl, _, rfl⟩) ⟨rfl, ?_⟩
        simpa [List.filter_cons, hb] using iy
      · have hb' : decide (n ∉ rowI sh t) = true := by simp [hb]
        rw [hb']
        ktr_unf
        refine LCg.CompEnd.intro F6 N6 _ (fun _ h => h) off (.inr ⟨_, (.tail _ (.tail _ (.tail _ (.tail _ (.tail _ (.tail _ (List.mem_append.mpr (.inl hrow)))))))), rfl, _, rfl⟩) ⟨rfl, ?_⟩
        have := snoc_ints (n := n) (t := tn) iy
        simpa [List.filter_cons, hb] using this
    · intro ys nw hinv
      obtain ⟨rfl, iy⟩ := hinv
      have lvr := ints_len ir
      rw [List.size_toArray, lvr, List.take_length] at iy
      intro D h6 tk6 F6 N6 off
      ktr_unf
      rename_i D2 h7 F7 N7 l7
      dsimp only
      refine SeqAt.eq_tupleAt (items := #[.ref ma, .ref ua]) (items2 := #[.ref Z, .ref D]) (e := fun j => if j = 0 then subR sh t r else true) (isTup N7 (.tail _ (.tail _ (.tail _ (.head _))))) (isTup N7 (.head _)) (by show A.units + 3 < _; omega) ?_ ?_
      · intro j h1 h2
        have hj : j < 2 := h1
        match j, hj with
        | 0, _ => exact EqAt.rows (isList_news N7 (.tail _ (.tail _ (.tail _ (.tail _ (.head _)))))) ivm (us := []) (isList_news N7 (.tail _ (.tail _ (.head _)))) .nil (by show A.units + 3 + 1 + 64 < _; omega)
        | 1, _ =>
          refine (?_ : SeqAt.EqAt _ _ (.ref ua) (.ref D) true)
          rw [← decide_eq_true (rfl : List.filter (fun y => decide (y ∉ rowI sh t)) (rowI sh r) = List.filter (fun y => decide (y ∉ rowI sh t)) (rowI sh r))]
          exact EqAt.rows (isList_news N7 (.tail _ (.tail _ (.tail _ (.tail _ (.tail _ (.head _))))))) ivu (isList_news (n := ys.length) N7 (.tail _ (.head _))) iy (by show A.units + 3 + 1 + 64 < _; omega)
      have N8 : News g1 L1 h7 ((I, o) :: (L1 + 1, o2) :: (new ++ fr3)) := fun q hq => N7 q (.tail _ (.tail _ (.tail _ (.tail _ (.tail _ (.tail _ hq))))))
      have hbb : ((List.range (min (#[Value.ref ma, Value.ref ua]).size (#[Value.ref Z, Value.ref D]).size)).all (fun j => if j = 0 then subR sh t r else true) && (#[Value.ref ma, Value.ref ua]).size == (#[Value.ref Z, Value.ref D]).size) = subR sh t r := by
        simp [List.range_succ]
      rw [hbb]
      have N9 : News g1 L1 h7 (new ++ fr3) := fun q hq => N8 q (.tail _ (.tail _ hq))
      cases hsub : subR sh t r with
      | true =>
        ktr_unf
        dsimp only [ForPost]
        refine (show LeaveF _ _ _ _ _ _ _ _ _ _ _ _ from ?_)
        refine ⟨_, new, fr3, SUa, ⟨F7, N9, S3.frames, hap1 fr3 SUa⟩, fun frs'' SU'' S'' => ?_⟩
        have ea : (ts.any fun t => subR sh t r) = true := List.any_eq_true.mpr ⟨t, List.mem_of_getElem? ht', hsub⟩
        have hq := hret h7 tk6 frs'' SU'' S''
        rw [ea] at hq
        exact hq
      | false =>
        ktr_unf
        refine ⟨h7, tk6, (o2, fr3), _, rfl, F7, N8, ?_, ?_, ⟨_, d2⟩, SUa, S3.frames, ?_⟩
        · intro q hq
          rcases List.mem_cons.mp hq with rfl | hq
          · exact Ne.symm hIc
          · exact S3I q hq
        · exact all2 (by rw [kstB_eq hfit fun _ => rfl]; exact hfit _ (.head _)) (by rw [kstB_eq hfit fun _ => rfl]; exact hfit _ (.tail _ (.head _)))
        · have e2 : ts.take (i + 1) = ts.take i ++ [t] := by rw [List.take_succ, ht']; rfl
          rw [e2, List.any_append, hno]
          simp [hsub]
  · rintro ⟨oc, fr⟩ m' h tk ⟨⟨v0, hoc⟩, SU, FR, hno⟩ hfit F2 N2
    ktr_unf
    refine (show LeaveF _ _ _ _ _ _ _ _ _ _ _ _ from ?_)
    refine ⟨_, new, fr, SU, ⟨F2, fun q hq => N2 q (.tail _ hq), FR, hap1 fr SU⟩, fun frs'' SU'' S'' => ?_⟩
    have ea : (ts.any fun t => subR sh t r) = false := by
      rw [List.length_map, List.take_length] at hno
      exact hno
    have hq := hret h tk frs'' SU'' S''
    rw [ea] at hq
    exact hq
end Mine
end

section
open PySem PySem.W PyProof.Rows PySem.Spec PySem.Calls
set_option Elab.async false
set_option maxRecDepth 100000
set_option maxHeartbeats 8000000
namespace Mine
open PyProof.Rows.TI (Frs SameUp sameUp_of)

section
variable {prog : Program} {w : World} {A : Around} {s : Shared} {h₀ : Heap} {L : Addr} {outer : List Env} {envc : Env} {frs : List (Addr × Obj)} {m mg mb : Str → Option Value} {new : List (Addr × Obj)} {K : Frag} {p : Program} {loose : List Str} {mean : ExcName → Option Value}
  {R : Result → Shared → Prop} {name qual : Str} {params : Arguments} {body : List Stmt} {scope : Scope} {dV kV doc pm cdv ct oc : Value} {an od : Option Addr} {osl : Array (Option Value)} {f : Addr} {args : Args} {binds : List (Str × Value)}

theorem enterX (S : FS h₀ L outer frs m new s.heap) (hf : envc.frame = some L) (hkc : envc.scope.kind ≠ .module) :
    ∃ oL, (∀ h₁ L' m', Fr s.heap L' h₁ m' → FS (hideAll s.heap ((new ++ (L, oL) :: frs).map (·.1))) L' (envc :: outer) ((L, oL) :: frs) m' new h₁) ∧ h₀.StaysIn (hideAll s.heap ((new ++ (L, oL) :: frs).map (·.1))) ∧
      ∀ L' m' new' frs' h', SameUp ((L, oL) :: frs) frs' → FS (hideAll s.heap ((new ++ (L, oL) :: frs).map (·.1))) L' (envc :: outer) frs' m' new' h' → ∃ frs'', SameUp frs frs'' ∧ FS h₀ L outer frs'' m new' h' := by
  obtain ⟨oL, es, ep, hL, hLd, hLk, hLf⟩ := S.fr.ns
  have nL := kts_self S.fr
  have hoff : ∀ b ∈ (new ++ (L, oL) :: frs).map (·.1), h₀.get? b = none := fun b hb => by
    obtain ⟨q, hq, rfl⟩ := List.mem_map.mp hb
    rcases List.mem_append.mp hq with hq | hq
    · exact (S.news q (List.mem_append.mpr (.inl hq))).2.2
    · rcases List.mem_cons.mp hq with rfl | hq
      · exact nL
      · exact (S.news q (List.mem_append.mpr (.inr hq))).2.2
  have hin : ∀ q ∈ new ++ (L, oL) :: frs, s.heap.get? q.1 = some q.2 := fun q hq => by
    rcases List.mem_append.mp hq with hq | hq
    · exact (S.news q (List.mem_append.mpr (.inl hq))).1
    · rcases List.mem_cons.mp hq with rfl | hq
      · exact hL
      · exact (S.news q (List.mem_append.mpr (.inr hq))).1
  have st := hide_stays S.fr hoff
  refine ⟨oL, fun h₁ L' m' F' => ⟨⟨F'.ns, fun b o e => F'.keep b o (of_hideAll _ e), by rw [hideAll_size]; exact F'.above⟩, fun q hq => ?_, ⟨hkc, hf, ⟨es, ep, hLd⟩, S.frames⟩, fun q hq hm => ?_⟩, st, ?_⟩
  · have z := hin q hq
    exact ⟨F'.keep _ _ z, Nat.ne_of_lt (Nat.lt_of_lt_of_le (Heap.lt_size z) F'.above), hideAll_none _ (List.mem_map.mpr ⟨q, hq, rfl⟩)⟩
  · rcases List.mem_cons.mp hm with e | e
    · exact (S.news q (List.mem_append.mpr (.inl hq))).2.1 e
    · exact S.apart q hq e
  · intro L' m' new' frs' h' SU S'
    cases frs' with
    | nil => exact SU.elim
    | cons q frs' =>
      obtain ⟨e1, ⟨sl, e2⟩, SU'⟩ := SU
      have hq : q = (L, { oL with slots := sl }) := by
        rw [show q = (q.1, q.2) from rfl, e1, e2]
      subst hq
      have zL := S'.news (L, { oL with slots := sl }) (List.mem_append.mpr (.inr (.head _)))
      have none' : ∀ b, (hideAll s.heap ((new ++ (L, oL) :: frs).map (·.1))).get? b = none → h₀.get? b = none := fun b e => by
        cases e' : h₀.get? b with
        | none => rfl
        | some o => rw [st b o e'] at e; cases e
      refine ⟨frs', SU', ⟨⟨⟨_, es, ep, zL.1, hLd, hLk, hLf⟩, fun b o e => S'.fr.keep b o (st b o e), S.fr.above⟩, fun q hq => ?_, S.frames.up SU', fun q hq hm => S'.apart q hq (.tail _ hm)⟩⟩
      rcases List.mem_append.mp hq with hq | hq
      · have z := S'.news q (List.mem_append.mpr (.inl hq))
        exact ⟨z.1, fun e => S'.apart q hq (by rw [e]; exact .head _), none' _ z.2.2⟩
      · have z := S'.news q (List.mem_append.mpr (.inr (.tail _ hq)))
        refine ⟨z.1, fun e => ?_, none' _ z.2.2⟩
        have hm : q.1 ∈ frs.map (·.1) := sameUp_map SU' ▸ List.mem_map.mpr ⟨q, hq, rfl⟩
        obtain ⟨q', hq', e'⟩ := List.mem_map.mp hm
        exact (S.news q' (List.mem_append.mpr (.inr hq'))).2.1 (e'.trans e)

theorem callX (S : FS h₀ L outer frs m new s.heap) (X₀ : K.In h₀) (T : Top p loose mean mg mb h₀) (hA : A.frames = some (envc :: outer)) (hf : envc.frame = some L) (hkc : envc.scope.kind ≠ .module)
    (ho : K.lookup f = some ⟨oc, od, .func (fnOf name qual params body scope dV kV doc pm an cdv ct), osl⟩) (hcd : codeIn K cdv qual = true) (hroom : A.depth < recursionLimit)
    (hbind : BindsTo s (fnOf name qual params body scope dV kV doc pm an cdv ct) args binds) (hloc : ∀ y ∈ binds, scope.names.lookup y.1 = some .local)
    (h : ∀ g L' h₁ oL, FS g L' (envc :: outer) ((L, oL) :: frs) (fun y => binds.reverse.lookup y) new h₁ → (A.deeper (envOf qual scope L' f cdv)).frames = some (envOf qual scope L' f cdv :: envc :: outer) → K.In g → Top p loose mean mg mb g → (∀ q ∈ new ++ (L, oL) :: frs, q.1 < L') → (∀ m' new' frs' h', SameUp ((L, oL) :: frs) frs' → FS g L' (envc :: outer) frs' m' new' h' → ∃ frs'', SameUp frs frs'' ∧ FS h₀ L outer frs'' m new' h') →
      wpAny (model prog w) (A.deeper (envOf qual scope L' f cdv)) (execs body (envOf qual scope L' f cdv))
        (fun fl s' => R (.ok (.ret (match fl with | .ret v => v | _ => .none))) s')
        (fun e s' => wpAny (model prog w) (A.deeper (envOf qual scope L' f cdv)) (leaving (envOf qual scope L' f cdv) e) (fun _ s'' => R (.error e) s'') (fun e' s'' => R (.error e') s'') s')
        { s with heap := h₁, toks := s.toks + binds.length })
    (hco : scope.isCoroutine = false) (hgen : scope.isGenerator = false) (hk : scope.kind = .function) (hcell : ∀ x ∈ scope.names, x.2 ≠ .cell) : codeAny (model prog w) A (.call (.ref f) args) R s := by
  have X := X₀.keeps S.fr.keep
  obtain ⟨oL, en, st, lv⟩ := enterX S hf hkc
  refine codeAny_call_def (fd := fnOf name qual params body scope dV kV doc pm an cdv ct) (body := body) (binds := binds) hroom (X _ _ ho) rfl (T.nolimit.keeps S.fr.keep) (codeRec_of X hcd) rfl hbind hcell hloc (fun h₁ hns hk₁ => ?_) hco hgen hk
  refine wpAny_mono (h _ s.heap.objs.size h₁ oL (en h₁ _ _ ⟨hns, hk₁, Nat.le_refl _⟩) (Around.frames_deeper hA) (X₀.keeps st) (T.keeps st) (fun q hq => ?_) (lv _)) (fun fl s' hl => hl) fun _ _ y => y
  rcases List.mem_append.mp hq with hq | hq
  · exact Heap.lt_size (S.news q (List.mem_append.mpr (.inl hq))).1
  · rcases List.mem_cons.mp hq with rfl | hq
    · exact S.fr.ns.lt
    · exact Heap.lt_size (S.news q (List.mem_append.mpr (.inr hq))).1

end

/-- an IndexError that flew in from a callee -/
def EY (hb : Heap) (L : Addr) (l : List Env) (frs₀ : List (Addr × Obj)) (s₀ : Shared) (P : (Str → Option Value) → List (Addr × Obj) → Prop) (e : Value) (s' : Shared) : Prop :=
  ∃ m new a frs h tk c2, e = .ref a ∧ s' = { s₀ with heap := h, toks := tk } ∧ P m new ∧ SameUp frs₀ frs ∧ (HX hb L l frs c2 .none m new a h ∨ HX hb L l frs c2 (rawInt L) m new a h)

section
variable {prog : Program} {w : World} {A A' : Around} {E : Value → Shared → Prop} {s s₀ : Shared} {hb : Heap} {L : Addr} {l : List Env} {env : Env} {frs₀ : List (Addr × Obj)} {P : (Str → Option Value) → List (Addr × Obj) → Prop} {e : Value}
theorem EY.note {Q : Unit → Shared → Prop} (hfr : A.frames = some (env :: l)) (hf : env.frame = some L) (hk : env.scope.kind ≠ .module) (H : EY hb L l frs₀ s₀ P e s)
    (h : ∀ m new a frs h' tk c2, e = .ref a → P m new → SameUp frs₀ frs → HX hb L l frs c2 (rawInt L) m new a h' → Q () { s₀ with heap := h', toks := tk }) : wpAny (model prog w) A (noteFrame e env) Q E s := by
  obtain ⟨m, new, a, frs, h0, tk, c2, rfl, rfl, hp, SU, H | H⟩ := H
  · exact note_fly hfr hf hk H fun h' frs' SU' H' => h m new a frs' h' tk c2 rfl hp (SU.trans SU') H'
  · exact note_again hf H (h m new a frs h0 tk c2 rfl hp SU H)
theorem EY.passesAt (hfr : A'.frames = some (env :: l)) (hf : env.frame = some L) (hk : env.scope.kind ≠ .module) : PassesOwnAt (model prog w) A' A env (EY hb L l frs₀ s₀ P) := by
  intro e s' H
  show wpAny _ _ (noteFrame e env) _ _ _
  refine EY.note hfr hf hk H fun m new a frs h' tk c2 he hp SU HH => ?_
  subst he
  unfold cameBackBy
  refine wpAny_bind (field_one HH fun tb => ?_)
  rw [if_neg (show ¬ ((Value.ref tb == Value.none) = true) from by simp)]
  rw [hf]
  refine set_flight HH fun h'' HH' => ?_
  exact ⟨m, new, a, frs, h'', tk, c2, rfl, rfl, hp, SU, .inr HH'⟩
theorem EY.passes (hfr : A.frames = some (env :: l)) (hf : env.frame = some L) (hk : env.scope.kind ≠ .module) : PassesOwn (model prog w) A env (EY hb L l frs₀ s₀ P) := EY.passesAt hfr hf hk
end
section
variable {prog : Program} {w : World} {A : Around} {E : Value → Shared → Prop} {s s₀ : Shared} {hb : Heap} {L af : Addr} {l : List Env} {frs₀ : List (Addr × Obj)} {P : (Str → Option Value) → List (Addr × Obj) → Prop} {e : Value}
  {name : Str} {scope : Scope} {cd : Value} {cl : List (Str × Addr)} {K : Frag} {p : Program} {loose : List Str} {mean : ExcName → Option Value} {mg mb : Str → Option Value} {b₀ : Stmt} {suite : List Stmt} {np pos : Pos} {rest : List ExceptHandler} {Q : Flow → Shared → Prop}
theorem catch_flown (hfr : A.frames = some (envX name scope L af cd cl :: l)) (H : EY hb L l frs₀ s₀ P e s) (X : K.In hb) (T : Top p loose mean mg mb hb)
    (k : ∀ m new a frs h' tk, P m new → SameUp frs₀ frs → FS hb L l frs m new h' → wpAny (model prog w) (A.mark (some (.ref a))) (execs (b₀ :: suite) (envX name scope L af cd cl)) Q E { s₀ with heap := h', toks := tk })
    (ex : nsIn K mainGlobals "IndexError" = some none) (hk : scope.kind = .function) (hx : (envX name scope L af cd cl).kindOf "IndexError" = some .globalImplicit)
    (hE : ∀ a, PassesOwnAt (model prog w) (A.mark (some (.ref a))) A (envX name scope L af cd cl) E) :
    wpAny (model prog w) A (noteFrame e (envX name scope L af cd cl))
      (fun _ s₂ => wpAny (model prog w) A (setFlight e none) (fun _ s₃ => wpAny (model prog w) A (handleBy e (envX name scope L af cd cl) (.ExceptHandler (some (.Name "IndexError" np)) none (b₀ :: suite) pos :: rest)) Q E s₃) E s₂) E s := by
  refine EY.note hfr rfl (by show scope.kind ≠ _; rw [hk]; decide) H fun m new a frs h' tk c2 he hp SU HH => ?_
  subst he
  refine set_flight HH fun h'' HH' => ?_
  exact handle_index (s := { s₀ with heap := h'', toks := tk }) HH' X T (fun h3 S => k m new a frs h3 tk hp SU S) ex hk hx (hE a)
theorem pop_empty {D : Addr} {n : Nat} {h₀ : Heap} {news : List (Addr × Obj)} {Q : Value → Shared → Prop} (hh : A.handled = none) (N : News h₀ L s.heap news) (hm : (D, listOf #[] n) ∈ news)
    (h : ∀ h' tk e, Heap.NewExc s.heap h' e "IndexError" → E (.ref e) { s with heap := h', toks := tk }) : wpAny (model prog w) A (call (.builtin "list.pop") [.ref D]) Q E s :=
  call_meets PySem.F.slot_list_pop ⟨_, (N _ hm).1, rfl⟩ PySem.F.entry_list_pop (PySem.F.args_list_pop_1 _) (PySem.AutoSeq1.list_pop_list_0 D #[] n rfl) ⟨(N _ hm).1, hh, h⟩
end
end Mine
end

section
open PySem PySem.W PyProof.Rows
set_option Elab.async false
set_option maxRecDepth 100000
set_option maxHeartbeats 8000000
set_option linter.all false
namespace Mine
local macro_rules | `(tactic| ktr_rel) => `(tactic| first
  | (with_reducible show wpAny _ _ (call (Value.builtin "list.pop") _ _) _ _ _))
local macro_rules | `(tactic| ktr_unf) => `(tactic| repeat' (first | (k_unfold; (try dsimp only)) | ((fail_if_success ktr_rel); first | walk1 | (dsimp only; walk1))))
local macro_rules | `(tactic| ktr_enter) => `(tactic| (
  have fill : PySem.Challenge.rw_op0048_01 = PySem.Challenge.rw_op0048_01 ∧ Mine.hd.heap_39 = Mine.hd.heap_39 := by
    k_fill
    exact ⟨rfl, rfl⟩
  clear fill
  w_top on
  refine wpAny_call ?_
  k_dflt (refine' callY ?k2 ?k3 ?k4 ?k5 ?k6 ?k7 ?k8 ?k9 ?kB ?_ ?c2 ?c3 ?c4 ?c5; (case k2 => k_asm); (case k3 => k_asm); (case k4 => k_asm); (case k5 => k_asm); (case k6 => k_is); (case k7 => k_is); (case k8 => omega); (case k9 => exact BindsTo.of_eq rfl); (case c5 => decide); (case kB => exact locs rfl); (case c2 => exact rfl); (case c3 => exact rfl); (case c4 => exact rfl); k_whole; intro g' L' h' F' N' X' T' l1; (try dsimp only); (try k_fold))))

open PyProof.Rows.TI (Frs SameUp sameUp_of)
theorem heappop_none {w : World} {p : Program} {loose : List Str} {mean : ExcName → Option Value} {mg mb : Str → Option Value}
    {A : Around} {h₀ : Heap} {L : Addr} {outer : List Env} {envc : Env} {frs : List (Addr × Obj)} {m : Str → Option Value} {new : List (Addr × Obj)} {s : Shared}
    {Q E : Value → Shared → Prop} {hp : Addr} {n : Nat}
    (S : FS h₀ L outer frs m new s.heap) (X : (hd.heap_39 w.params).In h₀) (T : Top p loose mean mg mb h₀) (hA : A.frames = some (envc :: outer)) (hf : envc.frame = some L) (hkc : envc.scope.kind ≠ .module) (hh : A.handled = none)
    (hm : (hp, listOf #[] n) ∈ new) (hd : A.depth + 10 < recursionLimit)
    (hret : ∀ a c2 h' tk' frs', SameUp frs frs' → HX h₀ L outer frs' c2 .none m new a h' → E (.ref a) { s with heap := h', toks := tk' }) :
    wpAny (model prg w) A (call (.ref 36) [.ref hp]) Q E s := by
  have fill : PySem.Challenge.rw_op0048_01 = PySem.Challenge.rw_op0048_01 ∧ Mine.hd.heap_39 = Mine.hd.heap_39 := by
    k_fill
    exact ⟨rfl, rfl⟩
  clear fill
  w_top on
  refine wpAny_call ?_
  k_dflt (refine' callX S X T hA hf hkc ?k6 ?k7 ?k8 ?k9 ?kB ?_ ?c2 ?c3 ?c4 ?c5; (case k6 => k_is); (case k7 => k_is); (case k8 => omega); (case k9 => exact BindsTo.of_eq rfl); (case c5 => decide); (case kB => exact locs rfl); (case c2 => exact rfl); (case c3 => exact rfl); (case c4 => exact rfl); k_whole)
  intro g1 L1 h1 oL S1 hfr1 X1 T1 l1 conv
  dsimp only
  k_fold
  have F1 := S1.fr
  have N1 := S1.news
  have hkf : ScopeKind.function ≠ ScopeKind.module := by decide
  refine wpAny_mono (E := EX g1 L1 (envc :: outer) ((L, oL) :: frs) { s with heap := h1, toks := s.toks + 1 } (fun _ => True) (fun _ nw => nw = new)) (Q := fun _ _ => False) ?_ (fun _ _ h => h.elim) fun e s' H => ?_
  · ktr_unf
    refine pop_empty hh N1 (List.mem_append.mpr (.inl hm)) fun h' tk e hx => ?_
    exact ⟨_, new, e, _, h', tk, .none, rfl, rfl, trivial, rfl, .refl _, .inl (nx_of S1 (.of hx))⟩
  · refine (show wpAny _ _ (leaving _ e) _ _ _ from ?_)
    unfold leaving
    refine wpAny_bind (EX.note hfr1 rfl hkf H fun m' nw a frs' h' tk c2 he _ hp SU HH => ?_)
    subst he hp
    refine set_flight HH fun h'' HH' => ?_
    obtain ⟨ob, tb, otb, SS, he, hne, hoff⟩ := HH'
    obtain ⟨frs2, SU2, SS2⟩ := conv _ _ _ _ SU SS
    refine hret a c2 h'' tk frs2 SU2 ⟨ob, tb, otb, SS2, he, hne, fun q hq => ?_⟩
    rcases List.mem_append.mp hq with hq | hq
    · exact hoff q (List.mem_append.mpr (.inl hq))
    · have hm1 : q.1 ∈ frs'.map (·.1) := by
        rw [sameUp_map SU, List.map_cons]
        refine .tail _ ?_
        rw [← sameUp_map SU2]
        exact List.mem_map.mpr ⟨q, hq, rfl⟩
      obtain ⟨q', hq', e'⟩ := List.mem_map.mp hm1
      rw [← e']
      exact hoff q' (List.mem_append.mpr (.inr hq'))
end Mine
end

section
open PySem PySem.W PyProof.Rows
set_option Elab.async false
set_option maxRecDepth 100000
set_option maxHeartbeats 8000000
set_option linter.all false
namespace Mine
local macro_rules | `(tactic| ktr_rel) => `(tactic| first
  | (with_reducible show wpAny _ _ (exec (Stmt.While _ _ _ _) _) _ _ _)
  | (with_reducible show wpAny _ _ (exec (Stmt.For _ _ _ _ _) _) _ _ _)
  | (with_reducible show wpAny _ _ (call (Value.ref _) _ _) _ _ _)
  | (with_reducible show wpAny _ _ (exec (Stmt.Try _ _ _ _ _) _) _ _ _)
  | (with_reducible show wpAny _ _ (call (Value.builtin "list.append") _ _) _ _ _)
  | (with_reducible show wpAny _ _ (eval (Expr.ListComp _ _ _ _) _) _ _ _)
  | (with_reducible show wpAny _ _ (compareOp _ _ (Value.ref _)) _ _ _)
  | (with_reducible show LeaveF _ _ _ _ _ _ _ _ _ _ _ _)
  | (with_reducible show ForPost _ _ _ _ _ _ _ _ _ _)
  | (with_reducible show LCt.CompSrcT _ _ _ _ _ _ _ _ _ _ _ _ _ _ _)
  | (with_reducible show LCg.CompEnd _ _ _ _ _ _ _ _ _ _ _ _ _ _)
  | (with_reducible show Exists _))
local macro_rules | `(tactic| ktr_unf) => `(tactic| repeat' (first | (k_unfold; (try dsimp only)) | ((fail_if_success ktr_rel); first | walk1 | (dsimp only; walk1))))
local macro_rules | `(tactic| ktr_enter) => `(tactic| (
  have fill : PySem.Challenge.rw_op0048_01 = PySem.Challenge.rw_op0048_01 ∧ Mine.hd.heap_39 = Mine.hd.heap_39 := by
    k_fill
    exact ⟨rfl, rfl⟩
  clear fill
  w_top on
  refine wpAny_call ?_
  k_dflt (refine' callY ?k2 ?k3 ?k4 ?k5 ?k6 ?k7 ?k8 ?k9 ?kB ?_ ?c2 ?c3 ?c4 ?c5; (case k2 => k_asm); (case k3 => k_asm); (case k4 => k_asm); (case k5 => k_asm); (case k6 => k_is); (case k7 => k_is); (case k8 => omega); (case k9 => exact BindsTo.of_eq rfl); (case c5 => decide); (case kB => exact locs rfl); (case c2 => exact rfl); (case c3 => exact rfl); (case c4 => exact rfl); k_whole; intro g' L' h' F' N' X' T' l1; (try dsimp only); (try k_fold))))

open PyProof.Rows.TI (Frs SameUp sameUp_of)
section
variable {prog : Program} {w : World} {A : Around} {s : Shared} {E : Value → Shared → Prop}
theorem eq_nil {l b : Addr} {vs : List Value} {Q : Value → Shared → Prop} (hl : s.heap.IsList l vs.toArray) (hb : s.heap.IsList b #[]) (hu : A.units < cLine) (h : Q (.bool vs.isEmpty) s) : wpAny (model prog w) A (compareOp .Eq (.ref l) (.ref b)) Q E s := by
  cases vs with
  | nil => exact SeqAt.eq_listAt (e := fun _ => true) hl hb rfl hu (fun j h1 => absurd h1 (by simp)) h
  | cons v vs => exact SeqAt.eq_list_lengthsAt hl hb (by simp) hu h
end
theorem while_inv {prog : Program} {w : World} {A : Around} {s : Shared} {E : Value → Shared → Prop} {env : Env} {test : Expr} {body : List Stmt} {pos : Pos} {Q : Flow → Shared → Prop} (I : Nat → Shared → Prop) (k0 : Nat) (h0 : I k0 s)
    (turn : ∀ n s', I n s' → wpAny (model prog w) A (isTrue test env (eval test env)) (fun b s₂ => b = true ∧ wpAny (model prog w) A (execs body env) (fun f s₃ => match f with | .next => ∃ m, m < n ∧ I m s₃ | .cont => ∃ m, m < n ∧ I m s₃ | .brk => Q .next s₃ | .ret v => Q (.ret v) s₃) E s₂) E s')
    (hE : PassesOwn (model prog w) A env E) : wpAny (model prog w) A (exec (.While test body [] pos) env) Q E s := by
  refine wpAny_While (codeAny_whileLoop I ?_ k0 h0)
  intro n s' hI
  refine wpAny_mono (turn n s' hI) (fun b s₂ h₂ => ?_) hE
  obtain ⟨rfl, h₂⟩ := h₂
  simp only [if_true]
  refine wpAny_mono h₂ (fun f s₃ h₃ => ?_) hE
  cases f <;> exact h₃
/-- a given row has something in common with a row -/
def hit (sh g r : Nat) : Bool := (((rowI sh g).filter fun x => decide (x ∈ rowI sh r)).isEmpty) == false
def srvN (sh : Nat) (gs : List Nat) (k : Nat) : List Nat := (List.range k).filter fun i => gs.all fun g => hit sh g i
def meetLoop (sh : Nat) : Nat → List Nat → List Nat → List Nat
  | 0, _, told => told
  | k + 1, l, told => let q := popN l.dropLast (l.getLastD 0); meetLoop sh k q.2 (if told.any fun t => subR sh t (numOf q.1) then told else told ++ [numOf q.1])
def meetN (sh : Nat) (gs : List Nat) : List Nat := meetLoop sh (srvN sh gs 16).length (heapifyN ((srvN sh gs 16).map rankOf)) []

theorem hfN_len : ∀ k (l : List Nat), (hfN k l).length = l.length := by
  intro k
  induction k with
  | zero => intro l; rfl
  | succ k ih => intro l; rw [hfN, ih, siftupN_len]
theorem hfN_mem {S : Nat → Prop} : ∀ k (l : List Nat), k ≤ l.length → (∀ j ∈ l, S j) → ∀ j ∈ hfN k l, S j := by
  intro k
  induction k with
  | zero => intro l _ h; exact h
  | succ k ih =>
    intro l hk h
    rw [hfN]
    exact ih _ (by rw [siftupN_len]; omega) (siftupN_mem (by omega) h)
/-- the state of the first loop of _law_meeting -/
structure M1 where
  oc : Obj
  ent : Nat → Addr
  n : Nat
  rs : List Nat
  ext : List (Addr × Obj)
theorem meeting_t {w : World} {p : Program} {loose : List Str} {mean : ExcName → Option Value} {mg mb : Str → Option Value}
    {A : Around} {h₀ : Heap} {L : Addr} {outer : List Env} {envc : Env} {frs : List (Addr × Obj)} {m : Str → Option Value} {new : List (Addr × Obj)} {s : Shared}
    {Q E : Value → Shared → Prop} {ga rA : Addr} {gs : List Nat} {ng nr sh : Nat} {ra : Nat → Addr}
    (S : FS h₀ L outer frs m new s.heap) (X : (hd.heap_39 w.params).In h₀) (T : Top p loose mean mg mb h₀) (hA : A.frames = some (envc :: outer)) (hf : envc.frame = some L) (hkc : envc.scope.kind ≠ .module) (hh : A.handled = none)
    (R : RowsIn new sh ra) (hsh : sh < 4) (hg : (ga, listOf (gs.map fun i => Value.ref (ra i)).toArray ng) ∈ new) (hgs : ∀ t ∈ gs, t < 16) (hl : gs.length < 100) (hr : (rA, listOf ((List.range 16).map fun i => Value.ref (ra i)).toArray nr) ∈ new)
    (hd : A.depth + 50 < recursionLimit) (hu : A.units + 700 < cLine)
    (hret : ∀ h' tk' frs' ta nt, SameUp frs frs' → FS h₀ L outer frs' m ((ta, listOf ((meetN sh gs).map fun i => Value.ref (ra i)).toArray nt) :: new) h' → Q (.ref ta) { s with heap := h', toks := tk' }) :
    wpAny (model prg w) A (call (.ref 72) [.ref ga, .ref rA]) Q E s := by
  have fill : PySem.Challenge.rw_op0048_01 = PySem.Challenge.rw_op0048_01 ∧ Mine.hd.heap_39 = Mine.hd.heap_39 := by
    k_fill
    exact ⟨rfl, rfl⟩
  clear fill
  w_top on
  refine wpAny_call ?_
  k_dflt (refine' callFC S X T hA hf hkc ?k6 ?k7 ?k8 ?k9 ?kB ?kD ?_ ?c2 ?c3 ?c4; (case k6 => k_is); (case k7 => k_is); (case k8 => omega); (case k9 => exact BindsTo.of_eq rfl); (case kB => exact rfl); (case kD => decide +kernel); (case c2 => exact rfl); (case c3 => exact rfl); (case c4 => exact rfl); k_whole)
  intro g1 L1 h1 tk1 oL cells S1 hcells hfr1 X1 T1 l1
  obtain ⟨o1, rfl, d1⟩ := CellsAre.one hcells
  dsimp only
  k_fold
  have hkf : ScopeKind.function ≠ ScopeKind.module := by decide
  have F1 := S1.fr
  have N1 := S1.news
  dsimp only [List.cons_append, List.nil_append] at N1
  ktr_unf
  rename_i D _ lD h2 F2 N2
  refine forL (σ := M1) ?_ (by passes_own) (by intro _; rfl) (by intro _ _; rfl)
  ktr_unf
  refine ⟨rA, (List.range 16).map fun i => .ref (ra i), nr, fun c => (D, listOf (c.rs.map fun r => Value.ref (c.ent r)).toArray c.n) :: (L1 + 1, c.oc) :: (c.ext ++ (new ++ (L, oL) :: frs)), fun _ m' => ∀ p ∈ [(Str.ofString "given", Value.ref ga), (Str.ofString "heap", .ref D)], m' p.1 = some p.2,
    fun i c => (∃ v, c.oc.data = .cell v) ∧ c.rs = (srvN sh gs i).map rankOf ∧ EntsIn c.ext ra c.ent (fun r => r ∈ c.rs) ∧ (∀ q ∈ c.ext, D < q.1), ⟨o1, fun _ => 0, 0, [], []⟩, g1, _, rfl, hh, fun c => .tail _ (.tail _ (List.mem_append.mpr (.inr (List.mem_append.mpr (.inl hr))))), F2, N2, all2 rfl rfl, ⟨⟨_, d1⟩, rfl, (fun r hr => by cases hr), (fun q hq => by cases hq)⟩, ?_, ?_⟩
  · rintro i v c m' h tk I o hv ⟨⟨v0, hoc⟩, hrs, hen, hext⟩ hfit F3 N3 hneI
    have hi16 : i < 16 := by
      have := List.getElem?_eq_some_iff.mp hv
      obtain ⟨h9, _⟩ := this
      simpa using h9
    obtain rfl : v = .ref (ra i) := by
      rw [List.getElem?_map, List.getElem?_range hi16] at hv
      exact (Option.some.inj hv).symm
    obtain ⟨vi, ni, hrow, iri⟩ := R i hi16
    have F3' := fr_kst F3 hfit
    have hlc : L1 + 1 < D := lD.1
    have hIc : I ≠ L1 + 1 := fun q => hneI (L1 + 1, c.oc) (.tail _ (.head _)) q.symm
    have hID : I ≠ D := fun q => hneI _ (.head _) q.symm
    have hcx : ∀ q ∈ c.ext ++ (new ++ (L, oL) :: frs), q.1 ≠ L1 + 1 := fun q hq => by
      rcases List.mem_append.mp hq with hq | hq
      · have := hext q hq
        exact Nat.ne_of_gt (Nat.lt_trans hlc this)
      · exact Nat.ne_of_lt (Nat.lt_succ_of_lt (l1 q hq))
    refine wpAny_assign_Name ?_
    refine storeX_C F3' N3 rfl (UpdF.tail hIc (UpdF.tail (Nat.ne_of_gt hlc) (UpdF.head hcx))) hoc ?_ rfl rfl
    intro h4 o4 F4 N4 d4
    ktr_unf
    have hgL : (ga, listOf (gs.map fun i => Value.ref (ra i)).toArray ng) ∈ (I, o) :: (D, listOf (c.rs.map fun r => Value.ref (c.ent r)).toArray c.n) :: (L1 + 1, o4) :: (c.ext ++ (new ++ (L, oL) :: frs)) := .tail _ (.tail _ (.tail _ (List.mem_append.mpr (.inr (List.mem_append.mpr (.inl hg))))))
    have hnL : ∀ q ∈ new, q ∈ (I, o) :: (D, listOf (c.rs.map fun r => Value.ref (c.ent r)).toArray c.n) :: (L1 + 1, o4) :: (c.ext ++ (new ++ (L, oL) :: frs)) := fun q hq => .tail _ (.tail _ (.tail _ (List.mem_append.mpr (.inr (List.mem_append.mpr (.inl hq))))))
    k_dflt (refine LCt.ListComp_T (F₀ := F4) (by with_unfolding_all rfl) (by decide) (by rfl) (by decide) (by rfl) ?_)
    ktr_unf
    refine LCt.CompSrcT.ledger hh F4 N4 hgL (by rw [sizeLine_eq]; simp; omega) fun g => ?_
    refine compT_ind (fun j ys nw => nw = (I, o) :: (D, listOf (c.rs.map fun r => Value.ref (c.ent r)).toArray c.n) :: (L1 + 1, o4) :: (c.ext ++ (new ++ (L, oL) :: frs)) ∧ ys.isEmpty = (gs.take j).all fun g => hit sh g i) ?_ ?_ _ 0 [] _ (Nat.zero_add _) ⟨rfl, rfl⟩
    · intro j ys nw v Ia oI Ca oC Da m₂ h tk E' hj hinv hv hC hm F6 N6 off ne
      obtain ⟨rfl, iy⟩ := hinv
      obtain ⟨gg, hgj, rfl⟩ : ∃ gg, gs[j]? = some gg ∧ v = .ref (ra gg) := by
        rw [List.getElem?_toArray, List.getElem?_map] at hv
        cases h9 : gs[j]? with
        | none => rw [h9] at hv; cases hv
        | some t => rw [h9] at hv; exact ⟨t, rfl, (Option.some.inj hv).symm⟩
      have hg16 : gg < 16 := hgs gg (List.mem_of_getElem? hgj)
      obtain ⟨vg, ngg, hrg, irg⟩ := R gg hg16
      have etk : gs.take (j + 1) = gs.take j ++ [gg] := by rw [List.take_succ, hgj]; rfl
      have lvg := ints_len irg
      have sgg := rows_short sh hsh gg hg16
      ktr_unf
      k_dflt (refine LCt.ListComp_T (F₀ := F6) (by with_unfolding_all rfl) (by decide) (by rfl) (by decide) (by rfl) ?_)
      ktr_unf
      refine LCt.CompSrcT.ledger hh F6 N6 (.tail _ (.tail _ (.tail _ (hnL _ hrg)))) (by rw [sizeLine_eq]; simp; omega) fun g' => ?_
      refine compT_ind (fun k zs nw => nw = (Ia, oI) :: (Ca, oC) :: (Da, LCg.lst ys) :: (I, o) :: (D, listOf (c.rs.map fun r => Value.ref (c.ent r)).toArray c.n) :: (L1 + 1, o4) :: (c.ext ++ (new ++ (L, oL) :: frs)) ∧ IntsAre zs (((rowI sh gg).take k).filter fun x => decide (x ∈ rowI sh i))) ?_ ?_ _ 0 [] _ (Nat.zero_add _) ⟨rfl, .nil⟩
      · intro k zs nw v Ib oIb Cb oCb Db m₃ h tk E' hk hinv hv hC' hm' F7 N7 off' ne'
        obtain ⟨rfl, iz⟩ := hinv
        obtain ⟨n, tn, rfl, hn, htk⟩ := ints_get irg (by simpa using hv)
        ktr_unf
        dsimp only
        refine in_ints (isList_news N7 (.tail _ (.tail _ (.tail _ (.tail _ (.tail _ (.tail _ (hnL _ hrow))))))) ) iri ?_
        rw [htk, List.filter_append]
        have hsrc := (.inr ⟨_, (.tail _ (.tail _ (.tail _ (hnL _ hrg)))), rfl, _, rfl⟩ : LCg.SrcAt g1 (ra gg) vg.toArray ((Ia, oI) :: (Ca, oC) :: (Da, LCg.lst ys) :: (I, o) :: (D, listOf (c.rs.map fun r => Value.ref (c.ent r)).toArray c.n) :: (L1 + 1, o4) :: (c.ext ++ (new ++ (L, oL) :: frs))))
        by_cases hb : n ∈ rowI sh i
        · rw [decide_eq_true hb]
          ktr_unf
          refine LCg.CompEnd.intro F7 N7 _ (fun _ h => h) off' hsrc ⟨rfl, ?_⟩
          have := snoc_ints (n := n) (t := tn) iz
          simpa [List.filter_cons, hb] using this
        · rw [decide_eq_false hb]
          ktr_unf
          refine LCg.CompEnd.intro F7 N7 _ (fun _ h => h) off' hsrc ⟨rfl, ?_⟩
          simpa [List.filter_cons, hb] using iz
      · intro zs nw hinv
        obtain ⟨rfl, iz⟩ := hinv
        rw [List.size_toArray, lvg, List.take_length] at iz
        intro D3 h7 tk7 F7 N7 off'
        ktr_unf
        rename_i Z h8 F8 N8 l8
        dsimp only
        refine eq_nil (vs := zs) (isList_news (n := zs.length) N8 (.tail _ (.head _))) (isList_news N8 (.head _)) (by show A.units + 3 < _; omega) ?_
        have ez : zs.isEmpty = !hit sh gg i := by
          have lz := ints_len iz
          unfold hit
          generalize List.filter (fun x => decide (x ∈ rowI sh i)) (rowI sh gg) = fl at lz
          cases zs <;> cases fl <;> simp at lz ⊢
        rw [ez]
        have hsrc := (.inr ⟨_, hgL, rfl, _, rfl⟩ : LCg.SrcAt g1 ga (gs.map fun i => Value.ref (ra i)).toArray ((I, o) :: (D, listOf (c.rs.map fun r => Value.ref (c.ent r)).toArray c.n) :: (L1 + 1, o4) :: (c.ext ++ (new ++ (L, oL) :: frs))))
        cases hhit : hit sh gg i with
        | true =>
          ktr_unf
          refine LCg.CompEnd.intro F8 N8 _ (fun _ h => .tail _ (.tail _ h)) off hsrc ⟨rfl, ?_⟩
          rw [iy, etk, List.all_append]
          simp [hhit]
        | false =>
          ktr_unf
          refine LCg.CompEnd.intro F8 N8 _ (fun _ h => .tail _ (.tail _ h)) off hsrc ⟨rfl, ?_⟩
          rw [etk, List.all_append]
          simp [hhit]
    · intro ys nw hinv
      obtain ⟨rfl, iy⟩ := hinv
      rw [show (gs.map fun i => Value.ref (ra i)).toArray.size = gs.length from by simp, List.take_length] at iy
      intro D3 h7 tk7 F7 N7 off'
      ktr_unf
      rename_i Z h8 F8 N8 l8
      dsimp only
      refine eq_nil (vs := ys) (isList_news (n := ys.length) N8 (.tail _ (.head _))) (isList_news N8 (.head _)) (by show A.units + 3 < _; omega) ?_
      rw [iy]
      have esr : srvN sh gs (i + 1) = srvN sh gs i ++ (if gs.all (fun g => hit sh g i) then [i] else []) := by
        unfold srvN
        rw [List.range_succ, List.filter_append, List.filter_cons, List.filter_nil]
      cases hall : gs.all fun g => hit sh g i with
      | true =>
        rw [hall, if_pos rfl] at esr
        ktr_unf
        have lvi := ints_len iri
        have svi := rows_short sh hsh i hi16
        have evi : vi.toArray.size = vi.length := by simp
        refine len_list (s := { s with heap := h8, toks := tk7 }) (isList_news N8 (.tail _ (.tail _ (hnL _ hrow)))) (by omega) ?_
        ktr_unf
        rename_i E1 h9 F9 N9 l9
        dsimp only [List.cons_append, List.nil_append]
        have hDx : ∀ q ∈ (L1 + 1, o4) :: (c.ext ++ (new ++ (L, oL) :: frs)), q.1 ≠ D := fun q hq => by
          rcases List.mem_cons.mp hq with rfl | hq
          · exact Nat.ne_of_lt hlc
          · rcases List.mem_append.mp hq with hq | hq
            · exact Nat.ne_of_gt (hext q hq)
            · exact Nat.ne_of_lt (Nat.lt_trans (l1 q hq) (Nat.lt_of_succ_lt hlc))
        have hE : D < E1 := l9.2.2.2.1
        have hZ : D < Z := l8.2.2.1
        have hIE : I < E1 := l9.2.2.1
        have hlen : c.rs.length < 2000 := by
          rw [hrs, List.length_map]
          have : (srvN sh gs i).length ≤ i := by
            unfold srvN
            exact Nat.le_trans (List.length_filter_le _ _) (by simp)
          omega
        refine app_K (vs := c.rs.map fun r => Value.ref (c.ent r)) F9 N9 (Upd.tail (Nat.ne_of_gt hE) (Upd.tail (Nat.ne_of_gt hZ) (Upd.tail (Ne.symm off'.2.1) (Upd.tail hID (Upd.head hDx))))) (by simpa using hlen) ?_
        intro h10 F10 N10
        ktr_unf
        have hnew : rankOf i ∉ c.rs := by
          rw [hrs]
          intro hq
          obtain ⟨k, hk, e⟩ := List.mem_map.mp hq
          have hk' : k < i := by
            unfold srvN at hk
            simpa using (List.mem_filter.mp hk).1
          have e1 := (num_rank k (by omega)).1
          have e2 := (num_rank i hi16).1
          rw [e, e2] at e1
          omega
        have hmap : (c.rs.map fun r => Value.ref (c.ent r)) ++ [Value.ref E1] = (c.rs ++ [rankOf i]).map fun r => Value.ref (if r = rankOf i then E1 else c.ent r) := by
          rw [List.map_append]
          congr 1
          · apply List.map_congr_left
            intro r hr'
            have hne : r ≠ rankOf i := fun q => hnew (q ▸ hr')
            rw [if_neg hne]
          · simp
        rw [hmap] at N10
        refine ⟨h10, _, ⟨o4, fun r => if r = rankOf i then E1 else c.ent r, c.n + 1, c.rs ++ [rankOf i], (E1, listOf [Value.int (vi.toArray.size : Int) (tk7 + 1), Value.ref (ra i)].toArray 0) :: c.ext⟩, _, rfl, F10, (fun q hq => N10 q ?_), ?_, ?_, ⟨_, d4⟩, ?_, ?_, ?_⟩
        · rcases List.mem_cons.mp hq with rfl | hq
          · exact .tail _ (.tail _ (.tail _ (.head _)))
          · rcases List.mem_cons.mp hq with rfl | hq
            · exact .tail _ (.tail _ (.tail _ (.tail _ (.head _))))
            · rcases List.mem_cons.mp hq with rfl | hq
              · exact .tail _ (.tail _ (.tail _ (.tail _ (.tail _ (.head _)))))
              · rcases List.mem_cons.mp hq with rfl | hq
                · exact .head _
                · exact .tail _ (.tail _ (.tail _ (.tail _ (.tail _ (.tail _ hq)))))
        · intro q hq
          rcases List.mem_cons.mp hq with rfl | hq
          · exact Ne.symm hID
          · rcases List.mem_cons.mp hq with rfl | hq
            · exact Ne.symm hIc
            · rcases List.mem_cons.mp hq with rfl | hq
              · exact Nat.ne_of_gt hIE
              · exact hneI q (.tail _ (.tail _ hq))
        · exact all2 (by rw [kstB_eq hfit fun _ => rfl]; exact hfit _ (.head _)) (by rw [kstB_eq hfit fun _ => rfl]; exact hfit _ (.tail _ (.head _)))
        · rw [esr, List.map_append, hrs]
          rfl
        · intro r hr'
          dsimp only at hr' ⊢
          rcases List.mem_append.mp hr' with hr' | hr'
          · obtain ⟨r16, t, n, hm⟩ := hen r hr'
            have hne : r ≠ rankOf i := fun q => hnew (q ▸ hr')
            rw [if_neg hne]
            exact ⟨r16, t, n, .tail _ hm⟩
          · obtain rfl := List.mem_singleton.mp hr'
            rw [if_pos rfl, (num_rank i hi16).1]
            refine ⟨(num_rank i hi16).2, tk7 + 1, 0, ?_⟩
            have es : sizeOf' i = ((vi.toArray.size : Nat) : Int) := by
              rw [evi, lvi]
              unfold sizeOf' rowI
              simp
            rw [es]
            exact .head _
        · intro q hq
          rcases List.mem_cons.mp hq with rfl | hq
          · exact hE
          · exact hext q hq
      | false =>
        rw [hall, if_neg (by decide), List.append_nil] at esr
        ktr_unf
        refine ⟨h8, tk7, ⟨o4, c.ent, c.n, c.rs, c.ext⟩, _, rfl, F8, (fun q hq => N8 q (.tail _ (.tail _ hq))), ?_, ?_, ⟨_, d4⟩, ?_, hen, hext⟩
        · intro q hq
          rcases List.mem_cons.mp hq with rfl | hq
          · exact Ne.symm hID
          · rcases List.mem_cons.mp hq with rfl | hq
            · exact Ne.symm hIc
            · exact hneI q (.tail _ (.tail _ hq))
        · exact all2 (by rw [kstB_eq hfit fun _ => rfl]; exact hfit _ (.head _)) (by rw [kstB_eq hfit fun _ => rfl]; exact hfit _ (.tail _ (.head _)))
        · rw [esr]
          exact hrs
  · rintro c m' h tk ⟨⟨v0, hoc⟩, hrs, hen, hext⟩ hfit F3 N3
    have F3' : Fr g1 L1 h (kstB m' _) := fr_kst F3 hfit
    have N3' : News g1 L1 h ((D, listOf (c.rs.map fun r => Value.ref (c.ent r)).toArray c.n) :: (L1 + 1, c.oc) :: (c.ext ++ (new ++ (L, oL) :: frs))) := N3
    rw [List.length_map, List.length_range] at hrs
    have hlc : L1 + 1 < D := lD.1
    have hlen : c.rs.length ≤ 16 := by
      rw [hrs, List.length_map]
      unfold srvN
      exact Nat.le_trans (List.length_filter_le _ _) (by simp)
    have hDx : ∀ fr, SameUp ((L, oL) :: frs) fr → ∀ oc, ∀ q ∈ (L1 + 1, oc) :: (c.ext ++ (new ++ fr)), q.1 ≠ D := fun fr SU oc q hq => by
      rcases List.mem_cons.mp hq with rfl | hq
      · exact Nat.ne_of_lt hlc
      · rcases List.mem_append.mp hq with hq | hq
        · exact Nat.ne_of_gt (hext q hq)
        · have : q.1 < L1 := by
            rcases List.mem_append.mp hq with hq | hq
            · exact l1 q (List.mem_append.mpr (.inl hq))
            · have hm' : q.1 ∈ ((L, oL) :: frs).map (·.1) := sameUp_map SU ▸ List.mem_map.mpr ⟨q, hq, rfl⟩
              obtain ⟨q', hq', e'⟩ := List.mem_map.mp hm'
              rw [← e']
              exact l1 q' (List.mem_append.mpr (.inr hq'))
          exact Nat.ne_of_lt (Nat.lt_trans this (Nat.lt_of_succ_lt hlc))
    have hlt : ∀ oc fr, LtOk w ((L1 + 1, oc) :: (c.ext ++ (new ++ fr))) (fun r => .ref (c.ent r)) (fun r => r ∈ c.rs) := fun oc fr => by
      have R' : RowsIn ((L1 + 1, oc) :: (c.ext ++ (new ++ fr))) sh ra := fun i hi => by
        obtain ⟨vs, n, hm, hi'⟩ := R i hi
        exact ⟨vs, n, .tail _ (List.mem_append.mpr (.inr (List.mem_append.mpr (.inl hm)))), hi'⟩
      have En' : EntsIn ((L1 + 1, oc) :: (c.ext ++ (new ++ fr))) ra c.ent (fun r => r ∈ c.rs) := fun r hr' => by
        obtain ⟨r16, t, n, hm⟩ := hen r hr'
        exact ⟨r16, t, n, .tail _ (List.mem_append.mpr (.inl hm))⟩
      exact ltOk_of hsh R' En'
    ktr_unf
    refine heapify_t F3' X1 N3' T1 hh (hlt _ _) (fun i hi => hi) (hDx _ (.refl _) _) (by omega) (by show A.depth + 1 + 30 < _; omega) (by show A.units + 3 + 400 < _; omega) ?_
    intro h5 tk5 F5 N5
    ktr_unf
    rename_i Tt _ lT h6 F6 N6
    have hTD : D < Tt := lT.1
    have hTc : L1 + 1 < Tt := lT.2.1
    have hTx : ∀ q ∈ c.ext ++ (new ++ (L, oL) :: frs), q.1 < Tt := kst_ltOf lT.2.2
    have hTx' : ∀ fr, SameUp ((L, oL) :: frs) fr → ∀ q ∈ c.ext ++ (new ++ fr), q.1 ≠ Tt := fun fr SU q hq => by
      rcases List.mem_append.mp hq with hq | hq
      · exact Nat.ne_of_lt (hTx q (List.mem_append.mpr (.inl hq)))
      · rcases List.mem_append.mp hq with hq | hq
        · exact Nat.ne_of_lt (hTx q (List.mem_append.mpr (.inr (List.mem_append.mpr (.inl hq)))))
        · have hm' : q.1 ∈ ((L, oL) :: frs).map (·.1) := sameUp_map SU ▸ List.mem_map.mpr ⟨q, hq, rfl⟩
          obtain ⟨q', hq', e'⟩ := List.mem_map.mp hm'
          rw [← e']
          exact Nat.ne_of_lt (hTx q' (List.mem_append.mpr (.inr (List.mem_append.mpr (.inr hq')))))
    refine while_inv (fun k s' => ∃ h tk oc fr rs told n nt m', s' = { s with heap := h, toks := tk } ∧ k = rs.length ∧ (∃ v, oc.data = .cell v) ∧ SameUp ((L, oL) :: frs) fr ∧ Frs (envc :: outer) fr ∧ (∀ r ∈ rs, r ∈ c.rs) ∧ (∀ t ∈ told, t < 16) ∧ told.length + rs.length ≤ 16 ∧
      (∀ p ∈ [(Str.ofString "heap", Value.ref D), (Str.ofString "told", .ref Tt)], m' p.1 = some p.2) ∧ Fr g1 L1 h m' ∧ News g1 L1 h ((Tt, listOf (told.map fun i => Value.ref (ra i)).toArray nt) :: (D, listOf (rs.map fun r => Value.ref (c.ent r)).toArray n) :: (L1 + 1, oc) :: (c.ext ++ (new ++ fr))) ∧
      meetLoop sh rs.length rs told = meetN sh gs) (heapifyN c.rs).length ⟨h6, _, c.oc, (L, oL) :: frs, heapifyN c.rs, [], c.n, 0, _, rfl, rfl, ⟨_, hoc⟩, .refl _, S1.frames, ?m1, (fun t ht => by cases ht), ?m2, all2 rfl rfl, F6, N6, ?m3⟩ ?_ (by passes_own)
    case m1 => exact hfN_mem _ _ (by omega) fun j hj => hj
    case m2 =>
      show 0 + (hfN _ _).length ≤ 16
      rw [hfN_len]
      omega
    case m3 =>
      unfold meetN
      rw [← hrs]
      congr 1
      show (hfN _ _).length = _
      rw [hfN_len, hrs, List.length_map]
    rintro k s' ⟨h, tk, oc, fr, rs, told, n, nt, m', rfl, rfl, ⟨v1, hoc1⟩, SU, FR, hsub, ht16, hln, hfit', F7', N7, hmeet⟩
    have F7 : Fr g1 L1 h (kstB m' _) := fr_kst F7' hfit'
    ktr_unf
    · rfl
    have hltc : ∀ q ∈ c.ext ++ (new ++ fr), q.1 ≠ L1 + 1 := fun q hq => by
      rcases List.mem_append.mp hq with hq | hq
      · exact Nat.ne_of_gt (Nat.lt_trans hlc (hext q hq))
      · rcases List.mem_append.mp hq with hq | hq
        · exact Nat.ne_of_lt (Nat.lt_succ_of_lt (l1 q (List.mem_append.mpr (.inl hq))))
        · have hm' : q.1 ∈ ((L, oL) :: frs).map (·.1) := sameUp_map SU ▸ List.mem_map.mpr ⟨q, hq, rfl⟩
          obtain ⟨q', hq', e'⟩ := List.mem_map.mp hm'
          rw [← e']
          exact Nat.ne_of_lt (Nat.lt_succ_of_lt (l1 q' (List.mem_append.mpr (.inr hq'))))
    have hap : ∀ oc' ot od fr', SameUp ((L, oL) :: frs) fr' → ∀ q ∈ (Tt, ot) :: (D, od) :: (L1 + 1, oc') :: (c.ext ++ new), q.1 ∉ fr'.map (·.1) := fun oc' ot od fr' SU' q hq hm => by
      rw [sameUp_map SU'] at hm
      obtain ⟨q', hq', e'⟩ := List.mem_map.mp hm
      have hq1 : q.1 < L1 := e' ▸ l1 q' (List.mem_append.mpr (.inr hq'))
      rcases List.mem_cons.mp hq with rfl | hq
      · exact absurd (Nat.lt_trans hq1 (Nat.lt_of_succ_lt hTc)) (Nat.lt_irrefl _)
      · rcases List.mem_cons.mp hq with rfl | hq
        · exact absurd (Nat.lt_trans hq1 (Nat.lt_of_succ_lt hlc)) (Nat.lt_irrefl _)
        · rcases List.mem_cons.mp hq with rfl | hq
          · exact absurd (Nat.lt_trans hq1 (Nat.lt_succ_self _)) (Nat.lt_irrefl _)
          · rcases List.mem_append.mp hq with hq | hq
            · exact absurd (Nat.lt_trans hq1 (Nat.lt_trans (Nat.lt_of_succ_lt hlc) (hext q hq))) (Nat.lt_irrefl _)
            · exact S1.apart q (List.mem_append.mpr (.inr hq)) hm
    have hperm : ∀ {oc' ot od fr' h'}, News g1 L1 h' ((Tt, ot) :: (D, od) :: (L1 + 1, oc') :: (c.ext ++ (new ++ fr'))) → News g1 L1 h' (((Tt, ot) :: (D, od) :: (L1 + 1, oc') :: (c.ext ++ new)) ++ fr') := fun N q hq => N q (by simpa [List.append_assoc] using hq)
    rcases List.eq_nil_or_concat rs with rfl | ⟨r, x, hrx⟩
    · refine wpAny_Try_except (wpAny_mono (E := EY g1 L1 (envc :: outer) fr { s with heap := h, toks := tk } (fun m2 nw => nw = (Tt, listOf (told.map fun i => Value.ref (ra i)).toArray nt) :: (D, listOf #[] n) :: (L1 + 1, oc) :: (c.ext ++ new) ∧ m2 = kstB m' [(Str.ofString "heap", Value.ref D), (Str.ofString "told", .ref Tt)])) (Q := fun _ _ => False) ?_ (fun _ _ h => h.elim) fun e s1 H => ?_)
      · ktr_unf
        refine heappop_none (S := (FS.mk F7 (hperm N7) FR (hap _ _ _ _ SU) : FS g1 L1 (envc :: outer) fr _ ((Tt, listOf (told.map fun i => Value.ref (ra i)).toArray nt) :: (D, listOf #[] n) :: (L1 + 1, oc) :: (c.ext ++ new)) h)) X1 T1 hfr1 rfl hkf hh (.tail _ (.head _)) (by show A.depth + 1 + 10 < _; omega) ?_
        intro a c2 h' tk' frs' SU' HH
        exact ⟨_, _, a, frs', h', tk', c2, rfl, rfl, ⟨rfl, rfl⟩, SU', .inl HH⟩
      · refine catch_flown hfr1 H X1 T1 ?_ (by k_dflt k_is) rfl rfl ?_
        · rintro m2 new' a frs' h' tk' ⟨rfl, rfl⟩ SU' S5
          have F8 := S5.fr
          have N8 := S5.news
          dsimp only [List.cons_append] at N8
          ktr_unf
          dsimp only
          refine (show LeaveF _ _ _ _ _ _ _ _ _ _ _ _ from ?_)
          refine ⟨_, (Tt, listOf (told.map fun i => Value.ref (ra i)).toArray nt) :: new, frs', SU.trans SU', S5.sub (fun q hq => ?_), fun frs'' SU'' S'' => ?_⟩
          · rcases List.mem_cons.mp hq with rfl | hq
            · exact .head _
            · exact .tail _ (.tail _ (.tail _ (List.mem_append.mpr (.inr hq))))
          · have hq := hret h' tk' frs'' Tt nt SU''
            rw [← hmeet] at hq
            exact hq S''
        · intro a
          passes_own
    · rw [List.concat_eq_append] at hrx
      subst hrx
      have hxm : ∀ i ∈ r ++ [x], i ∈ c.rs := hsub
      have hpm : (popN r x).1 ∈ c.rs ∧ (∀ i ∈ (popN r x).2, i ∈ c.rs) ∧ (popN r x).2.length = r.length := by
        unfold popN
        split
        · next h0 => exact ⟨hxm x (by simp), (fun i hi => by cases hi), by simp [h0]⟩
        · next h0 =>
          refine ⟨hxm _ (List.mem_append.mpr (.inl (mem_getD (by omega)))), siftupN_mem (by simp; omega) (mem_set_of (fun i hi => hxm i (List.mem_append.mpr (.inl hi))) (hxm x (by simp))), by rw [siftupN_len, List.length_set]⟩
      obtain ⟨hp1, hp2, hp3⟩ := hpm
      obtain ⟨r16, tz, nz, hent⟩ := hen _ hp1
      refine wpAny_Try_except ?_
      ktr_unf
      refine heappop_t (n := n) (news := (Tt, listOf (told.map fun i => Value.ref (ra i)).toArray nt) :: (L1 + 1, oc) :: (c.ext ++ (new ++ fr))) F7 X1 (fun q hq => N7 q ?_) T1 hh ((hlt oc fr).mono fun q hq => .tail _ hq) hxm (List.forall_mem_cons.mpr ⟨Nat.ne_of_gt hTD, hDx fr SU oc⟩) (by simp at hln; omega) (by show A.depth + 1 + 30 < _; omega) (by show A.units + 3 + 400 < _; omega) ?_
      · rcases List.mem_cons.mp hq with rfl | hq
        · exact .tail _ (.head _)
        · rcases List.mem_cons.mp hq with rfl | hq
          · exact .head _
          · exact .tail _ (.tail _ hq)
      intro h8 tk8 F8 N8
      have hN16 : numOf (popN r x).1 < 16 := (rank_num _ r16).2
      generalize hz : numOf (popN r x).1 = z at *
      ktr_unf
      refine kun_list F8 N8 (isList_news N8 (.tail _ (.tail _ (.tail _ (List.mem_append.mpr (.inl hent)))))) hh rfl rfl ?_
      intro h9 F9 N9
      ktr_unf
      rename_i h10 F10 N10
      refine storeX_C F10 N10 rfl (UpdF.tail (Nat.ne_of_gt hlc) (UpdF.tail (Nat.ne_of_gt hTc) (UpdF.head hltc))) hoc1 ?_ rfl rfl
      intro h11 o11 F11 N11 d11
      ktr_unf
      refine above_t (ts := told) (nt := nt) (sh := sh) (r := z) (ra := ra) (S := (FS.mk F11 (fun q hq => N11 q (by
        have e : (((Tt, listOf (told.map fun i => Value.ref (ra i)).toArray nt) :: (D, listOf ((popN r x).2.map fun r => Value.ref (c.ent r)).toArray (n + 1)) :: (L1 + 1, o11) :: (c.ext ++ new)) ++ fr) = (Tt, listOf (told.map fun i => Value.ref (ra i)).toArray nt) :: (D, listOf ((popN r x).2.map fun r => Value.ref (c.ent r)).toArray (n + 1)) :: (L1 + 1, o11) :: (c.ext ++ (new ++ fr)) := by simp [List.append_assoc]
        rw [e] at hq
        rcases List.mem_cons.mp hq with rfl | hq
        · exact .tail _ (.head _)
        · rcases List.mem_cons.mp hq with rfl | hq
          · exact .head _
          · exact .tail _ (.tail _ hq))) FR (hap _ _ _ _ SU) : FS g1 L1 (envc :: outer) fr _ ((Tt, listOf (told.map fun i => Value.ref (ra i)).toArray nt) :: (D, listOf ((popN r x).2.map fun r => Value.ref (c.ent r)).toArray (n + 1)) :: (L1 + 1, o11) :: (c.ext ++ new)) h11)) X1 T1 hfr1 rfl hkf hh ?R' hsh (.head _) ht16 hN16 (by omega) (by show A.depth + 1 + 20 < _; omega) (by show A.units + 3 + 300 < _; omega) ?_
      case R' =>
        intro i hi
        obtain ⟨vs, n, hm, hi'⟩ := R i hi
        exact ⟨vs, n, .tail _ (.tail _ (.tail _ (List.mem_append.mpr (.inr hm)))), hi'⟩
      intro h12 tk12 fr12 SU12 S12
      have SUb := SU.trans SU12
      have F12 := S12.fr
      have N12 : News g1 L1 h12 ((Tt, listOf (told.map fun i => Value.ref (ra i)).toArray nt) :: (D, listOf ((popN r x).2.map fun r => Value.ref (c.ent r)).toArray (n + 1)) :: (L1 + 1, o11) :: (c.ext ++ (new ++ fr12))) := fun q hq => S12.news q (by simpa [List.append_assoc] using hq)
      have hml : meetLoop sh (popN r x).2.length (popN r x).2 (if told.any fun t => subR sh t z then told else told ++ [z]) = meetN sh gs := by
        rw [← hmeet, List.length_append]
        show _ = meetLoop sh (r.length + 1) (r ++ [x]) told
        rw [meetLoop, hp3, ← hz]
        simp
      cases hab : told.any fun t => subR sh t z with
      | true =>
        rw [hab, if_pos rfl] at hml
        ktr_unf
        refine (show ∃ m, _ from ?_)
        refine ⟨(popN r x).2.length, by rw [hp3, List.length_append]; exact Nat.lt_succ_self _, h12, tk12, o11, fr12, (popN r x).2, told, n + 1, nt, _, rfl, rfl, ⟨_, d11⟩, SUb, S12.frames, hp2, ht16, by rw [hp3]; rw [List.length_append] at hln; omega, all2 ?_ ?_, F12, N12, hml⟩
        · rfl
        · rfl
      | false =>
        rw [hab, if_neg (by decide)] at hml
        ktr_unf
        dsimp only [List.cons_append, List.nil_append]
        refine app_K (vs := told.map fun i => Value.ref (ra i)) F12 N12 (Upd.head (List.forall_mem_cons.mpr ⟨Nat.ne_of_lt hTD, List.forall_mem_cons.mpr ⟨Nat.ne_of_lt hTc, hTx' fr12 SUb⟩⟩)) (by rw [List.length_map]; omega) ?_
        intro h13 F13 N13
        have em : (told.map fun i => Value.ref (ra i)) ++ [Value.ref (ra z)] = (told ++ [z]).map fun i => Value.ref (ra i) := by simp
        rw [em] at N13
        ktr_unf
        refine (show ∃ m, _ from ?_)
        refine ⟨(popN r x).2.length, by rw [hp3, List.length_append]; exact Nat.lt_succ_self _, h13, tk12, o11, fr12, (popN r x).2, told ++ [z], n + 1, nt + 1, _, rfl, rfl, ⟨_, d11⟩, SUb, S12.frames, hp2, ?_, by rw [hp3]; rw [List.length_append] at hln ⊢; simp at hln ⊢; omega, all2 ?_ ?_, F13, N13, hml⟩
        · intro t ht
          rcases List.mem_append.mp ht with ht | ht
          · exact ht16 t ht
          · rw [List.mem_singleton.mp ht]
            exact hN16
        · rfl
        · rfl
end Mine
end

section
open PySem PySem.W PyProof.Rows
set_option Elab.async false
set_option maxRecDepth 100000
set_option maxHeartbeats 8000000
set_option linter.all false
namespace Mine
local macro_rules | `(tactic| ktr_rel) => `(tactic| first
  | (with_reducible show wpAny _ _ (exec (Stmt.For _ _ _ _ _) _) _ _ _)
  | (with_reducible show wpAny _ _ (compareOp _ _ (Value.ref _)) _ _ _)
  | (with_reducible show ForPost _ _ _ _ _ _ _ _ _ _)
  | (with_reducible show LCg.CompSrc _ _ _ _ _ _ _ _ _ _ _ _ _ _)
  | (with_reducible show LCg.CompEnd _ _ _ _ _ _ _ _ _ _ _ _ _ _)
  | (with_reducible show Exists _))
local macro_rules | `(tactic| ktr_unf) => `(tactic| repeat' (first | (k_unfold; (try dsimp only)) | ((fail_if_success ktr_rel); first | walk1 | (dsimp only; walk1))))
local macro_rules | `(tactic| ktr_enter) => `(tactic| (
  have fill : PySem.Challenge.rw_op0048_01 = PySem.Challenge.rw_op0048_01 ∧ Mine.hd.heap_39 = Mine.hd.heap_39 := by
    k_fill
    exact ⟨rfl, rfl⟩
  clear fill
  w_top on
  refine wpAny_call ?_
  k_dflt (refine' callY ?k2 ?k3 ?k4 ?k5 ?k6 ?k7 ?k8 ?k9 ?kB ?_ ?c2 ?c3 ?c4 ?c5; (case k2 => k_asm); (case k3 => k_asm); (case k4 => k_asm); (case k5 => k_asm); (case k6 => k_is); (case k7 => k_is); (case k8 => omega); (case k9 => exact BindsTo.of_eq rfl); (case c5 => decide); (case kB => exact locs rfl); (case c2 => exact rfl); (case c3 => exact rfl); (case c4 => exact rfl); k_whole; intro g' L' h' F' N' X' T' l1; (try dsimp only); (try k_fold))))

open PyProof.Rows.TI (Frs SameUp sameUp_of)
def commonN (i : Nat) (ns : List Nat) : List Int := ns.map fun n => ((i &&& n : Nat) : Int)
def needN (i : Nat) (ns : List Nat) : Bool := ((List.range 4).all fun k => !(i / 2 ^ k % 2 == 1 && decide (((2 ^ k : Nat) : Int) ∉ commonN i ns))) && decide ((0 : Int) ∉ commonN i ns)
theorem bitk (i k : Nat) : ((i : Int).fdiv (2 ^ (Int.toNat (k : Int)))).fmod 2 = ((i / 2 ^ k % 2 : Nat) : Int) := by
  rw [Int.toNat_natCast, Int.fdiv_eq_ediv_of_nonneg _ (by exact_mod_cast Nat.zero_le _), Int.fmod_eq_emod_of_nonneg _ (by decide)]
  norm_cast
theorem need_no (i : Nat) (ns : List Nat) (k : Nat) (hk : k < 4) (h1 : i / 2 ^ k % 2 = 1) (h2 : ((2 ^ k : Nat) : Int) ∉ commonN i ns) : needN i ns = false := by
  have : ((List.range 4).all fun k => !(i / 2 ^ k % 2 == 1 && decide (((2 ^ k : Nat) : Int) ∉ commonN i ns))) = false := by
    rw [List.all_eq_false]
    exact ⟨k, List.mem_range.mpr hk, by rw [decide_eq_true h2, h1]; decide⟩
  unfold needN
  rw [this, Bool.false_and]
theorem needed_t {w : World} {p : Program} {loose : List Str} {mean : ExcName → Option Value} {mg mb : Str → Option Value}
    {A : Around} {h₀ : Heap} {L : Addr} {m : Str → Option Value} {news : List (Addr × Obj)} {s : Shared}
    {Q E : Value → Shared → Prop} {na : Addr} {vs : List Value} {ns : List Nat} {n1 i : Nat} {ti : Tok}
    (F : Fr h₀ L s.heap m) (X : (hd.heap_39 w.params).In h₀) (N : News h₀ L s.heap news) (T : Top p loose mean mg mb h₀) (hh : A.handled = none)
    (hn : (na, listOf vs.toArray n1) ∈ news) (iv : IntsAre vs (ns.map fun n : Nat => (n : Int))) (hl : ns.length < 100)
    (hd : A.depth + 10 < recursionLimit) (hu : A.units + 200 < cLine)
    (hret : ∀ h' tk', Fr h₀ L h' m → News h₀ L h' news → Q (.bool (needN i ns)) { s with heap := h', toks := tk' }) :
    wpAny (model prg w) A (call (.ref 77) [.int (i : Int) ti, .ref na]) Q E s := by
  have fill : PySem.Challenge.rw_op0048_01 = PySem.Challenge.rw_op0048_01 ∧ Mine.hd.heap_39 = Mine.hd.heap_39 := by
    k_fill
    exact ⟨rfl, rfl⟩
  clear fill
  w_top on
  refine wpAny_call ?_
  k_dflt (refine' callYC F X N T ?k6 ?k7 ?k8 ?k9 ?kB ?kD ?_ ?c2 ?c3 ?c4; (case k6 => k_is); (case k7 => k_is); (case k8 => omega); (case k9 => exact BindsTo.of_eq rfl); (case kB => exact rfl); (case kD => decide +kernel); (case c2 => exact rfl); (case c3 => exact rfl); (case c4 => exact rfl); k_whole)
  intro g1 L1 h1 tk1 cells F1 N1 hcells X1 T1 l1
  obtain ⟨o1, rfl, d1⟩ := CellsAre.one hcells
  dsimp only
  k_fold
  dsimp only [List.cons_append, List.nil_append] at N1
  ktr_unf
  refine LCg.CompSrc.ledger hh F1 N1 (.tail _ hn) (by rw [sizeLine_eq]; have := ints_len iv; simp at this ⊢; omega) fun g => ?_
  refine compU_ind (fun j ys nw => nw = (L1 + 1, o1) :: news ∧ IntsAre ys (commonN i (ns.take j))) ?_ ?_ _ 0 [] _ (Nat.zero_add _) ⟨rfl, .nil⟩
  · intro j ys nw v Ia oI Ca oC Da m₂ h tk E' hj hinv hv hC hm F6 N6 off ne
    obtain ⟨rfl, iy⟩ := hinv
    obtain ⟨n, tn, rfl, hnn, htk⟩ := ints_get iv (by simpa using hv)
    ktr_unf
    obtain ⟨k, hk, rfl⟩ : ∃ k : Nat, ns[j]? = some k ∧ n = (k : Int) := by
      rw [List.getElem?_map] at hnn
      cases h9 : ns[j]? with
      | none => rw [h9] at hnn; cases hnn
      | some k => rw [h9] at hnn; exact ⟨k, rfl, (Option.some.inj hnn).symm⟩
    refine LCg.CompEnd.intro F6 N6 _ (fun _ h => h) off (.inr ⟨_, .tail _ hn, rfl, _, rfl⟩) ⟨rfl, ?_⟩
    have e1 : commonN i (ns.take (j + 1)) = commonN i (ns.take j) ++ [Builtin.bitAnd (i : Int) (k : Int)] := by
      rw [List.take_succ, hk]
      unfold commonN
      rw [List.map_append]
      rfl
    rw [e1]
    exact snoc_ints iy
  · intro ys nw hinv
    obtain ⟨rfl, iy⟩ := hinv
    have lvs := ints_len iv
    rw [List.length_map] at lvs
    rw [show vs.toArray.size = ns.length from by simpa using lvs, List.take_length] at iy
    have iyP : True → IntsAre ys (commonN i ns) := fun _ => iy
    intro D3 h7 tk7 F7 N7 off'
    ktr_unf
    refine forR (σ := Unit) ?_ (by passes_own) (by intro _; rfl) (by intro _ _; rfl)
    ktr_unf
    rename_i h8 tk8 t1 u1 v1 hR F8 N8 _
    refine ⟨_, t1, u1, v1, 4, fun _ => (D3, LCg.lst ys) :: (L1 + 1, o1) :: news, fun _ m' => ∀ p ∈ [(Str.ofString "common", Value.ref D3)], m' p.1 = some p.2, fun k _ => ((List.range k).all fun k => !(i / 2 ^ k % 2 == 1 && decide (((2 ^ k : Nat) : Int) ∉ commonN i ns))) = true, (), g1, _, rfl, hh, hR, by decide, F8, N8, ?f1, rfl, ?_, ?_⟩
    case f1 => intro p hp; rw [List.mem_singleton.mp hp]; rfl
    · intro k c m' h tk t I o hk hP hfit F9 N9 hneI
      have F9' : Fr g1 L1 h (kstB m' _) := fr_kst F9 hfit
      have N9' : News g1 L1 h ((I, o) :: (D3, LCg.lst ys) :: (L1 + 1, o1) :: news) := N9
      clear F9 N9
      match k, hk with
      | 0, _ =>
        ktr_unf
        · rename_i h10 F10 N10 hb
          have hb' : i / 2 ^ 0 % 2 = 1 := by
            have := (bitk i 0).symm.trans hb
            omega
          dsimp only
          refine notin_ints (isList_news (n := ys.length) N10 (.tail _ (.head _))) (iyP trivial) ?_
          by_cases hin : ((2 ^ 0 : Nat) : Int) ∈ commonN i ns
          · refine (show (fun c s₃ => wpAny _ _ (truthy c) _ _ s₃) (Value.bool (decide (((2 ^ 0 : Nat) : Int) ∉ commonN i ns))) _ from ?_)
            rw [decide_eq_false (fun q => q hin)]
            dsimp only
            ktr_unf
            refine ⟨_, _, (), _, rfl, F10, N10, hneI, ?_, ?_⟩
            · intro p hp
              rw [List.mem_singleton.mp hp]
              rfl
            · rw [List.range_succ, List.all_append, hP]
              simp only [List.all_cons, List.all_nil]
              rw [decide_eq_false (fun q => q hin)]
              simp
          · refine (show (fun c s₃ => wpAny _ _ (truthy c) _ _ s₃) (Value.bool (decide (((2 ^ 0 : Nat) : Int) ∉ commonN i ns))) _ from ?_)
            rw [decide_eq_true hin]
            dsimp only
            ktr_unf
            dsimp only [ForPost]
            ktr_unf
            rename_i kF kN kT kX
            have e : needN i ns = false := need_no i ns 0 (by decide) hb' hin
            rw [e] at hret
            exact hret _ _ kF (fun q hq => kN q (.tail _ (.tail _ (.tail _ hq))))
        · rename_i h10 F10 N10 _ hb
          have hb' : i / 2 ^ 0 % 2 ≠ 1 := fun q => hb ((bitk i 0).trans (by rw [q]; rfl))
          refine ⟨_, _, (), _, rfl, F10, N10, hneI, ?_, ?_⟩
          · intro p hp
            rw [List.mem_singleton.mp hp]
            rfl
          · rw [List.range_succ, List.all_append, hP]
            simp only [List.all_cons, List.all_nil]
            rw [beq_false_of_ne hb']
            simp
      | 1, _ =>
        ktr_unf
        · rename_i h10 F10 N10 hb
          have hb' : i / 2 ^ 1 % 2 = 1 := by
            have := (bitk i 1).symm.trans hb
            omega
          dsimp only
          refine notin_ints (isList_news (n := ys.length) N10 (.tail _ (.head _))) (iyP trivial) ?_
          by_cases hin : ((2 ^ 1 : Nat) : Int) ∈ commonN i ns
          · refine (show (fun c s₃ => wpAny _ _ (truthy c) _ _ s₃) (Value.bool (decide (((2 ^ 1 : Nat) : Int) ∉ commonN i ns))) _ from ?_)
            rw [decide_eq_false (fun q => q hin)]
            dsimp only
            ktr_unf
            refine ⟨_, _, (), _, rfl, F10, N10, hneI, ?_, ?_⟩
            · intro p hp
              rw [List.mem_singleton.mp hp]
              rfl
            · rw [List.range_succ, List.all_append, hP]
              simp only [List.all_cons, List.all_nil]
              rw [decide_eq_false (fun q => q hin)]
              simp
          · refine (show (fun c s₃ => wpAny _ _ (truthy c) _ _ s₃) (Value.bool (decide (((2 ^ 1 : Nat) : Int) ∉ commonN i ns))) _ from ?_)
            rw [decide_eq_true hin]
            dsimp only
            ktr_unf
            dsimp only [ForPost]
            ktr_unf
            rename_i kF kN kT kX
            have e : needN i ns = false := need_no i ns 1 (by decide) hb' hin
            rw [e] at hret
            exact hret _ _ kF (fun q hq => kN q (.tail _ (.tail _ (.tail _ hq))))
        · rename_i h10 F10 N10 _ hb
          have hb' : i / 2 ^ 1 % 2 ≠ 1 := fun q => hb ((bitk i 1).trans (by rw [q]; rfl))
          refine ⟨_, _, (), _, rfl, F10, N10, hneI, ?_, ?_⟩
          · intro p hp
            rw [List.mem_singleton.mp hp]
            rfl
          · rw [List.range_succ, List.all_append, hP]
            simp only [List.all_cons, List.all_nil]
            rw [beq_false_of_ne hb']
            simp
      | 2, _ =>
        ktr_unf
        · rename_i h10 F10 N10 hb
          have hb' : i / 2 ^ 2 % 2 = 1 := by
            have := (bitk i 2).symm.trans hb
            omega
          dsimp only
          refine notin_ints (isList_news (n := ys.length) N10 (.tail _ (.head _))) (iyP trivial) ?_
          by_cases hin : ((2 ^ 2 : Nat) : Int) ∈ commonN i ns
          · refine (show (fun c s₃ => wpAny _ _ (truthy c) _ _ s₃) (Value.bool (decide (((2 ^ 2 : Nat) : Int) ∉ commonN i ns))) _ from ?_)
            rw [decide_eq_false (fun q => q hin)]
            dsimp only
            ktr_unf
            refine ⟨_, _, (), _, rfl, F10, N10, hneI, ?_, ?_⟩
            · intro p hp
              rw [List.mem_singleton.mp hp]
              rfl
            · rw [List.range_succ, List.all_append, hP]
              simp only [List.all_cons, List.all_nil]
              rw [decide_eq_false (fun q => q hin)]
              simp
          · refine (show (fun c s₃ => wpAny _ _ (truthy c) _ _ s₃) (Value.bool (decide (((2 ^ 2 : Nat) : Int) ∉ commonN i ns))) _ from ?_)
            rw [decide_eq_true hin]
            dsimp only
            ktr_unf
            dsimp only [ForPost]
            ktr_unf
            rename_i kF kN kT kX
            have e : needN i ns = false := need_no i ns 2 (by decide) hb' hin
            rw [e] at hret
            exact hret _ _ kF (fun q hq => kN q (.tail _ (.tail _ (.tail _ hq))))
        · rename_i h10 F10 N10 _ hb
          have hb' : i / 2 ^ 2 % 2 ≠ 1 := fun q => hb ((bitk i 2).trans (by rw [q]; rfl))
          refine ⟨_, _, (), _, rfl, F10, N10, hneI, ?_, ?_⟩
          · intro p hp
            rw [List.mem_singleton.mp hp]
            rfl
          · rw [List.range_succ, List.all_append, hP]
            simp only [List.all_cons, List.all_nil]
            rw [beq_false_of_ne hb']
            simp
      | 3, _ =>
        ktr_unf
        · rename_i h10 F10 N10 hb
          have hb' : i / 2 ^ 3 % 2 = 1 := by
            have := (bitk i 3).symm.trans hb
            omega
          dsimp only
          refine notin_ints (isList_news (n := ys.length) N10 (.tail _ (.head _))) (iyP trivial) ?_
          by_cases hin : ((2 ^ 3 : Nat) : Int) ∈ commonN i ns
          · refine (show (fun c s₃ => wpAny _ _ (truthy c) _ _ s₃) (Value.bool (decide (((2 ^ 3 : Nat) : Int) ∉ commonN i ns))) _ from ?_)
            rw [decide_eq_false (fun q => q hin)]
            dsimp only
            ktr_unf
            refine ⟨_, _, (), _, rfl, F10, N10, hneI, ?_, ?_⟩
            · intro p hp
              rw [List.mem_singleton.mp hp]
              rfl
            · rw [List.range_succ, List.all_append, hP]
              simp only [List.all_cons, List.all_nil]
              rw [decide_eq_false (fun q => q hin)]
              simp
          · refine (show (fun c s₃ => wpAny _ _ (truthy c) _ _ s₃) (Value.bool (decide (((2 ^ 3 : Nat) : Int) ∉ commonN i ns))) _ from ?_)
            rw [decide_eq_true hin]
            dsimp only
            ktr_unf
            dsimp only [ForPost]
            ktr_unf
            rename_i kF kN kT kX
            have e : needN i ns = false := need_no i ns 3 (by decide) hb' hin
            rw [e] at hret
            exact hret _ _ kF (fun q hq => kN q (.tail _ (.tail _ (.tail _ hq))))
        · rename_i h10 F10 N10 _ hb
          have hb' : i / 2 ^ 3 % 2 ≠ 1 := fun q => hb ((bitk i 3).trans (by rw [q]; rfl))
          refine ⟨_, _, (), _, rfl, F10, N10, hneI, ?_, ?_⟩
          · intro p hp
            rw [List.mem_singleton.mp hp]
            rfl
          · rw [List.range_succ, List.all_append, hP]
            simp only [List.all_cons, List.all_nil]
            rw [beq_false_of_ne hb']
            simp
    · intro c m' h tk hP hfit F9 N9
      have F9' : Fr g1 L1 h (kstB m' _) := fr_kst F9 hfit
      have N9' : News g1 L1 h ((D3, LCg.lst ys) :: (L1 + 1, o1) :: news) := N9
      clear F9 N9
      ktr_unf
      dsimp only
      refine notin_ints (isList_news (n := ys.length) N9' (.head _)) (iyP trivial) ?_
      ktr_unf
      rename_i kF kN kT kX
      have e : needN i ns = decide ((0 : Int) ∉ commonN i ns) := by
        unfold needN
        rw [hP, Bool.true_and]
      rw [e] at hret
      exact hret _ _ kF (fun q hq => kN q (.tail _ (.tail _ hq)))
end Mine
end

section
open PySem PySem.W PyProof.Rows
set_option Elab.async false
set_option maxRecDepth 100000
set_option maxHeartbeats 8000000
set_option linter.all false
namespace Mine
local macro_rules | `(tactic| ktr_rel) => `(tactic| first
  | (with_reducible show wpAny _ _ (exec (Stmt.For _ _ _ _ _) _) _ _ _)
  | (with_reducible show wpAny _ _ (call (Value.builtin "list.append") _ _) _ _ _)
  | (with_reducible show ForPost _ _ _ _ _ _ _ _ _ _)
  | (with_reducible show Exists _))
local macro_rules | `(tactic| ktr_unf) => `(tactic| repeat' (first | (k_unfold; (try dsimp only)) | ((fail_if_success ktr_rel); first | walk1 | (dsimp only; walk1))))
local macro_rules | `(tactic| ktr_enter) => `(tactic| (
  have fill : PySem.Challenge.rw_op0048_01 = PySem.Challenge.rw_op0048_01 ∧ Mine.hd.heap_39 = Mine.hd.heap_39 := by
    k_fill
    exact ⟨rfl, rfl⟩
  clear fill
  w_top on
  refine wpAny_call ?_
  k_dflt (refine' callY ?k2 ?k3 ?k4 ?k5 ?k6 ?k7 ?k8 ?k9 ?kB ?_ ?c2 ?c3 ?c4 ?c5; (case k2 => k_asm); (case k3 => k_asm); (case k4 => k_asm); (case k5 => k_asm); (case k6 => k_is); (case k7 => k_is); (case k8 => omega); (case k9 => exact BindsTo.of_eq rfl); (case c5 => decide); (case kB => exact locs rfl); (case c2 => exact rfl); (case c3 => exact rfl); (case c4 => exact rfl); k_whole; intro g' L' h' F' N' X' T' l1; (try dsimp only); (try k_fold))))

open PyProof.Rows.TI (Frs SameUp sameUp_of)
def nameAt (k : Nat) : Str := [Str.ofString "OPTIMIZED", Str.ofString "NEWLOCALS", Str.ofString "VARARGS", Str.ofString "VARKEYWORDS", Str.ofString "NESTED", Str.ofString "GENERATOR", Str.ofString "NOFREE"].getD k (Str.ofString "")
def nmsOf (v k : Nat) : List Str := ((List.range k).filter fun b => v / 2 ^ b % 2 == 1).map nameAt
def wordsOf (v : Nat) : List Str := if v = 0 then [Str.ofString "0x0"] else nmsOf v 7
theorem fl_and : ∀ v, v < 128 → ∀ k, k < 7 → (v / 2 ^ k % 2 = 1 → Builtin.bitAnd ((v / 2 ^ k * 2 ^ k : Nat) : Int) (1 * 2 ^ k) ≠ 0) ∧ (v / 2 ^ k % 2 ≠ 1 → Builtin.bitAnd ((v / 2 ^ k * 2 ^ k : Nat) : Int) (1 * 2 ^ k) = 0) := by decide +kernel
theorem fl_xor : ∀ v, v < 128 → ∀ k, k < 7 → v / 2 ^ k % 2 = 1 → Builtin.bitXor ((v / 2 ^ k * 2 ^ k : Nat) : Int) (1 * 2 ^ k) = ((v / 2 ^ (k + 1) * 2 ^ (k + 1) : Nat) : Int) := by decide +kernel
theorem fl_no : ∀ v, v < 128 → ∀ k, k < 7 → v / 2 ^ k % 2 ≠ 1 → v / 2 ^ k * 2 ^ k = v / 2 ^ (k + 1) * 2 ^ (k + 1) := by decide +kernel
theorem fl_zero (x : Int) : Builtin.bitAnd ((0 : Nat) : Int) x = 0 := by
  unfold Builtin.bitAnd
  by_cases h : 0 ≤ x <;> simp [h]
theorem nms_no {v k : Nat} (h : v / 2 ^ k % 2 ≠ 1) : nmsOf v (k + 1) = nmsOf v k := by
  unfold nmsOf
  rw [List.range_succ, List.filter_append, List.filter_cons, List.filter_nil, if_neg (by simpa using h), List.append_nil]
theorem nms_yes {v k : Nat} (h : v / 2 ^ k % 2 = 1) : nmsOf v (k + 1) = nmsOf v k ++ [nameAt k] := by
  unfold nmsOf
  rw [List.range_succ, List.filter_append, List.filter_cons, List.filter_nil, if_pos (by simpa using h), List.map_append]
  rfl
theorem nms_zero (k : Nat) : nmsOf 0 k = [] := by
  unfold nmsOf
  simp
theorem nms_end (v : Nat) (hv : v < 128) (k : Nat) (hk : k < 7) (h : v / 2 ^ (k + 1) * 2 ^ (k + 1) = 0) : nmsOf v (k + 1) = nmsOf v 7 := by
  have : ∀ v, v < 128 → ∀ k, k < 7 → v / 2 ^ (k + 1) * 2 ^ (k + 1) = 0 → ((List.range (k + 1)).filter fun b => v / 2 ^ b % 2 == 1) = (List.range 7).filter fun b => v / 2 ^ b % 2 == 1 := by decide +kernel
  unfold nmsOf
  rw [this v hv k hk h]
theorem nms_short : ∀ v, v < 128 → ((nmsOf v 7).map (·.length)).sum + (nmsOf v 7).length * 64 ≤ 16777216 := by decide +kernel
theorem snoc_strs {vs : List Value} {ys : List Str} {y : Str} (h : StrsAre vs ys) : ∀ t, StrsAre (vs ++ [.str y t]) (ys ++ [y]) := by
  intro t
  induction h with
  | nil => exact .cons y t .nil
  | cons k u _ ih => exact .cons k u ih
/-- the state of the loop of pretty_flags -/
structure PF where
  f : Nat
  t : Tok
  vs : List Value
  n : Nat
theorem pretty_t {w : World} {p : Program} {loose : List Str} {mean : ExcName → Option Value} {mg mb : Str → Option Value}
    {A : Around} {h₀ : Heap} {L : Addr} {m : Str → Option Value} {news : List (Addr × Obj)} {s : Shared}
    {Q E : Value → Shared → Prop} {v : Nat} {ti : Tok}
    (F : Fr h₀ L s.heap m) (X : (hd.heap_39 w.params).In h₀) (N : News h₀ L s.heap news) (T : Top p loose mean mg mb h₀) (hh : A.handled = none) (hv : v < 128)
    (hd : A.depth + 10 < recursionLimit) (hu : A.units + 200 < cLine)
    (hret : ∀ h' t' tk', Fr h₀ L h' m → News h₀ L h' news → Q (.str (Txt.join (Str.ofString ", ") (wordsOf v)) t') { s with heap := h', toks := tk' }) :
    wpAny (model prg w) A (call (.ref 29) [.int (v : Int) ti]) Q E s := by
  ktr_enter
  ktr_unf
  rename_i D _ lD h2 F2 N2
  refine forR (σ := PF) ?_ (by passes_own) (by intro _; rfl) (by intro _ _; rfl)
  ktr_unf
  rename_i h8 tk8 t1 u1 v1 hR F8 N8 _
  refine ⟨_, t1, u1, v1, 32, fun c => (D, listOf c.vs.toArray c.n) :: news, fun c m' => ∀ p ∈ [(Str.ofString "names", Value.ref D), (Str.ofString "flags", .int (c.f : Int) c.t)], m' p.1 = some p.2, fun k c => c.f = v / 2 ^ k * 2 ^ k ∧ StrsAre c.vs (nmsOf v k) ∧ (v = 0 ∨ c.f ≠ 0) ∧ c.vs.length ≤ k, ⟨v, ti, [], 0⟩, _, _, rfl, hh, hR, by decide, F8, N8, all2 rfl rfl, ⟨by simp, .nil, Classical.em _, Nat.zero_le _⟩, ?_, ?_⟩
  · rintro k ⟨f, tf, vs, n⟩ m' h tk t I o hk ⟨hf, hst, h0, hlv⟩ hfit F9 N9 hneI
    dsimp only at hf hst h0 hfit F9 N9 hneI hlv
    have F9' := fr_kst F9 hfit
    have N9' : News _ _ h ((I, o) :: (D, listOf vs.toArray n) :: news) := N9
    have hID : I ≠ D := fun q => hneI _ (.head _) q.symm
    clear F9 N9
    by_cases hv0 : v = 0
    · subst hv0
      obtain rfl : f = 0 := by simpa using hf
      ktr_unf
      · rename_i _ _ hb _
        exact absurd (fl_zero _) hb
      · rename_i h10 F10 N10 hb
        refine ⟨_, _, ⟨0, tf, vs, n⟩, _, rfl, F10, N10, hneI, all2 rfl rfl, ?_, ?_, .inl rfl, Nat.le_succ_of_le hlv⟩
        · simp
        · rw [nms_zero] at hst ⊢
          exact hst
    · have hf0 : f ≠ 0 := by
        rcases h0 with h0 | h0
        · exact absurd h0 hv0
        · exact h0
      have hk7 : k < 7 := by
        by_cases hk7 : k < 7
        · exact hk7
        · exfalso
          apply hf0
          have : v / 2 ^ k = 0 := Nat.div_eq_of_lt (Nat.lt_of_lt_of_le hv (by
            have := Nat.pow_le_pow_right (n := 2) (by decide) (Nat.not_lt.mp hk7)
            simpa using this))
          rw [hf, this, Nat.zero_mul]
      match k, hk7 with
      | 0, _ =>
        ktr_unf
        · rename_i h10 F10 N10 hb _ _
          subst hf
          have hbit : v / 2 ^ 0 % 2 = 1 := by
            by_cases q : v / 2 ^ 0 % 2 = 1
            · exact q
            · exact absurd ((fl_and v hv 0 (by decide)).2 q) hb
          have hx := fl_xor v hv 0 (by decide) hbit
          refine app_K F10 N10 (Upd.tail hID (Upd.head fun q hq => Nat.ne_of_lt (lD q hq))) (by omega) ?_
          intro h11 F11 N11
          have hst' := nms_yes hbit ▸ snoc_strs (y := nameAt 0) hst
          ktr_unf
          · rename_i h12 F12 N12 hz
            refine ⟨_, _, ⟨v / 2 ^ (0 + 1) * 2 ^ (0 + 1), _, _, n + 1⟩, _, rfl, F12, N12, List.forall_mem_cons.mpr ⟨Ne.symm hID, fun q hq => hneI q (.tail _ hq)⟩, all2 rfl (congrArg (fun z => some (Value.int z _)) hx), rfl, hst' _, ?_, ?_⟩
            · exact .inr fun q => hz (hx.trans (congrArg (fun z : Nat => (z : Int)) q))
            · rw [List.length_append]; exact Nat.succ_le_succ hlv
          · rename_i h12 F12 N12 hz
            dsimp only [ForPost]
            have hz' : v / 2 ^ (0 + 1) * 2 ^ (0 + 1) = 0 := by
              have := hx.symm.trans hz
              omega
            ktr_unf
            refine join_listC (x := Str.ofString ", ") (s := { s with heap := h12, toks := _ }) (ys := nmsOf v (0 + 1)) (isList_news N12 (.tail _ (.head _))) (hst' _) (by decide +kernel) ?_ ?_
            · rw [nms_end v hv 0 (by decide) hz']
              exact nms_short v hv
            · intro t' k'
              ktr_unf
              rename_i kF kN kT kX
              have ew : wordsOf v = nmsOf v (0 + 1) := by
                unfold wordsOf
                rw [if_neg hv0, nms_end v hv 0 (by decide) hz']
              rw [ew] at hret
              exact hret _ _ _ kF (fun q hq => kN q (.tail _ (.tail _ hq)))
        · rename_i h10 F10 N10 hb
          subst hf
          have hbit : v / 2 ^ 0 % 2 ≠ 1 := fun q => (fl_and v hv 0 (by decide)).1 q hb
          refine ⟨_, _, ⟨v / 2 ^ 0 * 2 ^ 0, tf, vs, n⟩, _, rfl, F10, N10, hneI, all2 rfl rfl, ?_, ?_, ?_, ?_⟩
          · exact fl_no v hv 0 (by decide) hbit
          · rw [nms_no hbit]; exact hst
          · exact .inr hf0
          · exact Nat.le_succ_of_le hlv
      | 1, _ =>
        ktr_unf
        · rename_i h10 F10 N10 hb _ _
          subst hf
          have hbit : v / 2 ^ 1 % 2 = 1 := by
            by_cases q : v / 2 ^ 1 % 2 = 1
            · exact q
            · exact absurd ((fl_and v hv 1 (by decide)).2 q) hb
          have hx := fl_xor v hv 1 (by decide) hbit
          refine app_K F10 N10 (Upd.tail hID (Upd.head fun q hq => Nat.ne_of_lt (lD q hq))) (by omega) ?_
          intro h11 F11 N11
          have hst' := nms_yes hbit ▸ snoc_strs (y := nameAt 1) hst
          ktr_unf
          · rename_i h12 F12 N12 hz
            refine ⟨_, _, ⟨v / 2 ^ (1 + 1) * 2 ^ (1 + 1), _, _, n + 1⟩, _, rfl, F12, N12, List.forall_mem_cons.mpr ⟨Ne.symm hID, fun q hq => hneI q (.tail _ hq)⟩, all2 rfl (congrArg (fun z => some (Value.int z _)) hx), rfl, hst' _, ?_, ?_⟩
            · exact .inr fun q => hz (hx.trans (congrArg (fun z : Nat => (z : Int)) q))
            · rw [List.length_append]; exact Nat.succ_le_succ hlv
          · rename_i h12 F12 N12 hz
            dsimp only [ForPost]
            have hz' : v / 2 ^ (1 + 1) * 2 ^ (1 + 1) = 0 := by
              have := hx.symm.trans hz
              omega
            ktr_unf
            refine join_listC (x := Str.ofString ", ") (s := { s with heap := h12, toks := _ }) (ys := nmsOf v (1 + 1)) (isList_news N12 (.tail _ (.head _))) (hst' _) (by decide +kernel) ?_ ?_
            · rw [nms_end v hv 1 (by decide) hz']
              exact nms_short v hv
            · intro t' k'
              ktr_unf
              rename_i kF kN kT kX
              have ew : wordsOf v = nmsOf v (1 + 1) := by
                unfold wordsOf
                rw [if_neg hv0, nms_end v hv 1 (by decide) hz']
              rw [ew] at hret
              exact hret _ _ _ kF (fun q hq => kN q (.tail _ (.tail _ hq)))
        · rename_i h10 F10 N10 hb
          subst hf
          have hbit : v / 2 ^ 1 % 2 ≠ 1 := fun q => (fl_and v hv 1 (by decide)).1 q hb
          refine ⟨_, _, ⟨v / 2 ^ 1 * 2 ^ 1, tf, vs, n⟩, _, rfl, F10, N10, hneI, all2 rfl rfl, ?_, ?_, ?_, ?_⟩
          · exact fl_no v hv 1 (by decide) hbit
          · rw [nms_no hbit]; exact hst
          · exact .inr hf0
          · exact Nat.le_succ_of_le hlv
      | 2, _ =>
        ktr_unf
        · rename_i h10 F10 N10 hb _ _
          subst hf
          have hbit : v / 2 ^ 2 % 2 = 1 := by
            by_cases q : v / 2 ^ 2 % 2 = 1
            · exact q
            · exact absurd ((fl_and v hv 2 (by decide)).2 q) hb
          have hx := fl_xor v hv 2 (by decide) hbit
          refine app_K F10 N10 (Upd.tail hID (Upd.head fun q hq => Nat.ne_of_lt (lD q hq))) (by omega) ?_
          intro h11 F11 N11
          have hst' := nms_yes hbit ▸ snoc_strs (y := nameAt 2) hst
          ktr_unf
          · rename_i h12 F12 N12 hz
            refine ⟨_, _, ⟨v / 2 ^ (2 + 1) * 2 ^ (2 + 1), _, _, n + 1⟩, _, rfl, F12, N12, List.forall_mem_cons.mpr ⟨Ne.symm hID, fun q hq => hneI q (.tail _ hq)⟩, all2 rfl (congrArg (fun z => some (Value.int z _)) hx), rfl, hst' _, ?_, ?_⟩
            · exact .inr fun q => hz (hx.trans (congrArg (fun z : Nat => (z : Int)) q))
            · rw [List.length_append]; exact Nat.succ_le_succ hlv
          · rename_i h12 F12 N12 hz
            dsimp only [ForPost]
            have hz' : v / 2 ^ (2 + 1) * 2 ^ (2 + 1) = 0 := by
              have := hx.symm.trans hz
              omega
            ktr_unf
            refine join_listC (x := Str.ofString ", ") (s := { s with heap := h12, toks := _ }) (ys := nmsOf v (2 + 1)) (isList_news N12 (.tail _ (.head _))) (hst' _) (by decide +kernel) ?_ ?_
            · rw [nms_end v hv 2 (by decide) hz']
              exact nms_short v hv
            · intro t' k'
              ktr_unf
              rename_i kF kN kT kX
              have ew : wordsOf v = nmsOf v (2 + 1) := by
                unfold wordsOf
                rw [if_neg hv0, nms_end v hv 2 (by decide) hz']
              rw [ew] at hret
              exact hret _ _ _ kF (fun q hq => kN q (.tail _ (.tail _ hq)))
        · rename_i h10 F10 N10 hb
          subst hf
          have hbit : v / 2 ^ 2 % 2 ≠ 1 := fun q => (fl_and v hv 2 (by decide)).1 q hb
          refine ⟨_, _, ⟨v / 2 ^ 2 * 2 ^ 2, tf, vs, n⟩, _, rfl, F10, N10, hneI, all2 rfl rfl, ?_, ?_, ?_, ?_⟩
          · exact fl_no v hv 2 (by decide) hbit
          · rw [nms_no hbit]; exact hst
          · exact .inr hf0
          · exact Nat.le_succ_of_le hlv
      | 3, _ =>
        ktr_unf
        · rename_i h10 F10 N10 hb _ _
          subst hf
          have hbit : v / 2 ^ 3 % 2 = 1 := by
            by_cases q : v / 2 ^ 3 % 2 = 1
            · exact q
            · exact absurd ((fl_and v hv 3 (by decide)).2 q) hb
          have hx := fl_xor v hv 3 (by decide) hbit
          refine app_K F10 N10 (Upd.tail hID (Upd.head fun q hq => Nat.ne_of_lt (lD q hq))) (by omega) ?_
          intro h11 F11 N11
          have hst' := nms_yes hbit ▸ snoc_strs (y := nameAt 3) hst
          ktr_unf
          · rename_i h12 F12 N12 hz
            refine ⟨_, _, ⟨v / 2 ^ (3 + 1) * 2 ^ (3 + 1), _, _, n + 1⟩, _, rfl, F12, N12, List.forall_mem_cons.mpr ⟨Ne.symm hID, fun q hq => hneI q (.tail _ hq)⟩, all2 rfl (congrArg (fun z => some (Value.int z _)) hx), rfl, hst' _, ?_, ?_⟩
            · exact .inr fun q => hz (hx.trans (congrArg (fun z : Nat => (z : Int)) q))
            · rw [List.length_append]; exact Nat.succ_le_succ hlv
          · rename_i h12 F12 N12 hz
            dsimp only [ForPost]
            have hz' : v / 2 ^ (3 + 1) * 2 ^ (3 + 1) = 0 := by
              have := hx.symm.trans hz
              omega
            ktr_unf
            refine join_listC (x := Str.ofString ", ") (s := { s with heap := h12, toks := _ }) (ys := nmsOf v (3 + 1)) (isList_news N12 (.tail _ (.head _))) (hst' _) (by decide +kernel) ?_ ?_
            · rw [nms_end v hv 3 (by decide) hz']
              exact nms_short v hv
            · intro t' k'
              ktr_unf
              rename_i kF kN kT kX
              have ew : wordsOf v = nmsOf v (3 + 1) := by
                unfold wordsOf
                rw [if_neg hv0, nms_end v hv 3 (by decide) hz']
              rw [ew] at hret
              exact hret _ _ _ kF (fun q hq => kN q (.tail _ (.tail _ hq)))
        · rename_i h10 F10 N10 hb
          subst hf
          have hbit : v / 2 ^ 3 % 2 ≠ 1 := fun q => (fl_and v hv 3 (by decide)).1 q hb
          refine ⟨_, _, ⟨v / 2 ^ 3 * 2 ^ 3, tf, vs, n⟩, _, rfl, F10, N10, hneI, all2 rfl rfl, ?_, ?_, ?_, ?_⟩
          · exact fl_no v hv 3 (by decide) hbit
          · rw [nms_no hbit]; exact hst
          · exact .inr hf0
          · exact Nat.le_succ_of_le hlv
      | 4, _ =>
        ktr_unf
        · rename_i h10 F10 N10 hb _ _
          subst hf
          have hbit : v / 2 ^ 4 % 2 = 1 := by
            by_cases q : v / 2 ^ 4 % 2 = 1
            · exact q
            · exact absurd ((fl_and v hv 4 (by decide)).2 q) hb
          have hx := fl_xor v hv 4 (by decide) hbit
          refine app_K F10 N10 (Upd.tail hID (Upd.head fun q hq => Nat.ne_of_lt (lD q hq))) (by omega) ?_
          intro h11 F11 N11
          have hst' := nms_yes hbit ▸ snoc_strs (y := nameAt 4) hst
          ktr_unf
          · rename_i h12 F12 N12 hz
            refine ⟨_, _, ⟨v / 2 ^ (4 + 1) * 2 ^ (4 + 1), _, _, n + 1⟩, _, rfl, F12, N12, List.forall_mem_cons.mpr ⟨Ne.symm hID, fun q hq => hneI q (.tail _ hq)⟩, all2 rfl (congrArg (fun z => some (Value.int z _)) hx), rfl, hst' _, ?_, ?_⟩
            · exact .inr fun q => hz (hx.trans (congrArg (fun z : Nat => (z : Int)) q))
            · rw [List.length_append]; exact Nat.succ_le_succ hlv
          · rename_i h12 F12 N12 hz
            dsimp only [ForPost]
            have hz' : v / 2 ^ (4 + 1) * 2 ^ (4 + 1) = 0 := by
              have := hx.symm.trans hz
              omega
            ktr_unf
            refine join_listC (x := Str.ofString ", ") (s := { s with heap := h12, toks := _ }) (ys := nmsOf v (4 + 1)) (isList_news N12 (.tail _ (.head _))) (hst' _) (by decide +kernel) ?_ ?_
            · rw [nms_end v hv 4 (by decide) hz']
              exact nms_short v hv
            · intro t' k'
              ktr_unf
              rename_i kF kN kT kX
              have ew : wordsOf v = nmsOf v (4 + 1) := by
                unfold wordsOf
                rw [if_neg hv0, nms_end v hv 4 (by decide) hz']
              rw [ew] at hret
              exact hret _ _ _ kF (fun q hq => kN q (.tail _ (.tail _ hq)))
        · rename_i h10 F10 N10 hb
          subst hf
          have hbit : v / 2 ^ 4 % 2 ≠ 1 := fun q => (fl_and v hv 4 (by decide)).1 q hb
          refine ⟨_, _, ⟨v / 2 ^ 4 * 2 ^ 4, tf, vs, n⟩, _, rfl, F10, N10, hneI, all2 rfl rfl, ?_, ?_, ?_, ?_⟩
          · exact fl_no v hv 4 (by decide) hbit
          · rw [nms_no hbit]; exact hst
          · exact .inr hf0
          · exact Nat.le_succ_of_le hlv
      | 5, _ =>
        ktr_unf
        · rename_i h10 F10 N10 hb _ _
          subst hf
          have hbit : v / 2 ^ 5 % 2 = 1 := by
            by_cases q : v / 2 ^ 5 % 2 = 1
            · exact q
            · exact absurd ((fl_and v hv 5 (by decide)).2 q) hb
          have hx := fl_xor v hv 5 (by decide) hbit
          refine app_K F10 N10 (Upd.tail hID (Upd.head fun q hq => Nat.ne_of_lt (lD q hq))) (by omega) ?_
          intro h11 F11 N11
          have hst' := nms_yes hbit ▸ snoc_strs (y := nameAt 5) hst
          ktr_unf
          · rename_i h12 F12 N12 hz
            refine ⟨_, _, ⟨v / 2 ^ (5 + 1) * 2 ^ (5 + 1), _, _, n + 1⟩, _, rfl, F12, N12, List.forall_mem_cons.mpr ⟨Ne.symm hID, fun q hq => hneI q (.tail _ hq)⟩, all2 rfl (congrArg (fun z => some (Value.int z _)) hx), rfl, hst' _, ?_, ?_⟩
            · exact .inr fun q => hz (hx.trans (congrArg (fun z : Nat => (z : Int)) q))
            · rw [List.length_append]; exact Nat.succ_le_succ hlv
          · rename_i h12 F12 N12 hz
            dsimp only [ForPost]
            have hz' : v / 2 ^ (5 + 1) * 2 ^ (5 + 1) = 0 := by
              have := hx.symm.trans hz
              omega
            ktr_unf
            refine join_listC (x := Str.ofString ", ") (s := { s with heap := h12, toks := _ }) (ys := nmsOf v (5 + 1)) (isList_news N12 (.tail _ (.head _))) (hst' _) (by decide +kernel) ?_ ?_
            · rw [nms_end v hv 5 (by decide) hz']
              exact nms_short v hv
            · intro t' k'
              ktr_unf
              rename_i kF kN kT kX
              have ew : wordsOf v = nmsOf v (5 + 1) := by
                unfold wordsOf
                rw [if_neg hv0, nms_end v hv 5 (by decide) hz']
              rw [ew] at hret
              exact hret _ _ _ kF (fun q hq => kN q (.tail _ (.tail _ hq)))
        · rename_i h10 F10 N10 hb
          subst hf
          have hbit : v / 2 ^ 5 % 2 ≠ 1 := fun q => (fl_and v hv 5 (by decide)).1 q hb
          refine ⟨_, _, ⟨v / 2 ^ 5 * 2 ^ 5, tf, vs, n⟩, _, rfl, F10, N10, hneI, all2 rfl rfl, ?_, ?_, ?_, ?_⟩
          · exact fl_no v hv 5 (by decide) hbit
          · rw [nms_no hbit]; exact hst
          · exact .inr hf0
          · exact Nat.le_succ_of_le hlv
      | 6, _ =>
        ktr_unf
        · rename_i h10 F10 N10 hb _ _
          subst hf
          have hbit : v / 2 ^ 6 % 2 = 1 := by
            by_cases q : v / 2 ^ 6 % 2 = 1
            · exact q
            · exact absurd ((fl_and v hv 6 (by decide)).2 q) hb
          have hx := fl_xor v hv 6 (by decide) hbit
          refine app_K F10 N10 (Upd.tail hID (Upd.head fun q hq => Nat.ne_of_lt (lD q hq))) (by omega) ?_
          intro h11 F11 N11
          have hst' := nms_yes hbit ▸ snoc_strs (y := nameAt 6) hst
          ktr_unf
          · rename_i h12 F12 N12 hz
            refine ⟨_, _, ⟨v / 2 ^ (6 + 1) * 2 ^ (6 + 1), _, _, n + 1⟩, _, rfl, F12, N12, List.forall_mem_cons.mpr ⟨Ne.symm hID, fun q hq => hneI q (.tail _ hq)⟩, all2 rfl (congrArg (fun z => some (Value.int z _)) hx), rfl, hst' _, ?_, ?_⟩
            · exact .inr fun q => hz (hx.trans (congrArg (fun z : Nat => (z : Int)) q))
            · rw [List.length_append]; exact Nat.succ_le_succ hlv
          · rename_i h12 F12 N12 hz
            dsimp only [ForPost]
            have hz' : v / 2 ^ (6 + 1) * 2 ^ (6 + 1) = 0 := by
              have := hx.symm.trans hz
              omega
            ktr_unf
            refine join_listC (x := Str.ofString ", ") (s := { s with heap := h12, toks := _ }) (ys := nmsOf v (6 + 1)) (isList_news N12 (.tail _ (.head _))) (hst' _) (by decide +kernel) ?_ ?_
            · rw [nms_end v hv 6 (by decide) hz']
              exact nms_short v hv
            · intro t' k'
              ktr_unf
              rename_i kF kN kT kX
              have ew : wordsOf v = nmsOf v (6 + 1) := by
                unfold wordsOf
                rw [if_neg hv0, nms_end v hv 6 (by decide) hz']
              rw [ew] at hret
              exact hret _ _ _ kF (fun q hq => kN q (.tail _ (.tail _ hq)))
        · rename_i h10 F10 N10 hb
          subst hf
          have hbit : v / 2 ^ 6 % 2 ≠ 1 := fun q => (fl_and v hv 6 (by decide)).1 q hb
          refine ⟨_, _, ⟨v / 2 ^ 6 * 2 ^ 6, tf, vs, n⟩, _, rfl, F10, N10, hneI, all2 rfl rfl, ?_, ?_, ?_, ?_⟩
          · exact fl_no v hv 6 (by decide) hbit
          · rw [nms_no hbit]; exact hst
          · exact .inr hf0
          · exact Nat.le_succ_of_le hlv
  · rintro ⟨f, tf, vs, n⟩ m' h tk ⟨hf, hst, h0, hlv⟩ hfit F9 N9
    dsimp only at hf hst h0 hfit F9 N9 hlv
    have F9' := fr_kst F9 hfit
    have N9' : News _ _ h ((D, listOf vs.toArray n) :: news) := N9
    clear F9 N9
    have hv0 : v = 0 := by
      rcases h0 with h0 | h0
      · exact h0
      · exfalso
        apply h0
        rw [hf, Nat.div_eq_of_lt (Nat.lt_trans hv (by decide)), Nat.zero_mul]
    subst hv0
    obtain rfl : f = 0 := by simpa using hf
    ktr_unf
    refine app_K F9' N9' (Upd.head fun q hq => Nat.ne_of_lt (lD q hq)) (by omega) ?_
    intro h11 F11 N11
    rw [nms_zero] at hst
    cases hst
    ktr_unf
    rename_i kF kN kT kX
    have e : wordsOf 0 = [baseText "0x" 16 ((0 : Nat) : Int)] := by decide +kernel
    rw [e] at hret
    exact hret _ _ _ kF (fun q hq => kN q (.tail _ hq))
end Mine
end

section
open PySem PySem.W PyProof.Rows
set_option Elab.async false
set_option maxRecDepth 100000
set_option maxHeartbeats 8000000
namespace Mine
def vOk (p : Nat × Str) : Bool := decide (Txt.join (Str.ofString ", ") (wordsOf p.1) = p.2) && decide (Txt.split p.2 (Str.ofString ", ") = wordsOf p.1)
def vT0 : List (Nat × Str) := [(0, ⟨#[48, 120, 48]⟩), (1, ⟨#[79, 80, 84, 73, 77, 73, 90, 69, 68]⟩), (2, ⟨#[78, 69, 87, 76, 79, 67, 65, 76, 83]⟩), (3, ⟨#[79, 80, 84, 73, 77, 73, 90, 69, 68, 44, 32, 78, 69, 87, 76, 79, 67, 65, 76, 83]⟩), (4, ⟨#[86, 65, 82, 65, 82, 71, 83]⟩)]
theorem vOk0 : vT0.all vOk = true := by decide +kernel
def vT1 : List (Nat × Str) := [(5, ⟨#[79, 80, 84, 73, 77, 73, 90, 69, 68, 44, 32, 86, 65, 82, 65, 82, 71, 83]⟩), (6, ⟨#[78, 69, 87, 76, 79, 67, 65, 76, 83, 44, 32, 86, 65, 82, 65, 82, 71, 83]⟩), (7, ⟨#[79, 80, 84, 73, 77, 73, 90, 69, 68, 44, 32, 78, 69, 87, 76, 79, 67, 65, 76, 83, 44, 32, 86, 65, 82, 65, 82, 71, 83]⟩), (8, ⟨#[86, 65, 82, 75, 69, 89, 87, 79, 82, 68, 83]⟩), (9, ⟨#[79, 80, 84, 73, 77, 73, 90, 69, 68, 44, 32, 86, 65, 82, 75, 69, 89, 87, 79, 82, 68, 83]⟩)]
theorem vOk1 : vT1.all vOk = true := by decide +kernel
def vT2 : List (Nat × Str) := [(10, ⟨#[78, 69, 87, 76, 79, 67, 65, 76, 83, 44, 32, 86, 65, 82, 75, 69, 89, 87, 79, 82, 68, 83]⟩), (11, ⟨#[79, 80, 84, 73, 77, 73, 90, 69, 68, 44, 32, 78, 69, 87, 76, 79, 67, 65, 76, 83, 44, 32, 86, 65, 82, 75, 69, 89, 87, 79, 82, 68, 83]⟩), (12, ⟨#[86, 65, 82, 65, 82, 71, 83, 44, 32, 86, 65, 82, 75, 69, 89, 87, 79, 82, 68, 83]⟩), (13, ⟨#[79, 80, 84, 73, 77, 73, 90, 69, 68, 44, 32, 86, 65, 82, 65, 82, 71, 83, 44, 32, 86, 65, 82, 75, 69, 89, 87, 79, 82, 68, 83]⟩), (14, ⟨#[78, 69, 87, 76, 79, 67, 65, 76, 83, 44, 32, 86, 65, 82, 65, 82, 71, 83, 44, 32, 86, 65, 82, 75, 69, 89, 87, 79, 82, 68, 83]⟩)]
theorem vOk2 : vT2.all vOk = true := by decide +kernel
def vT3 : List (Nat × Str) := [(15, ⟨#[79, 80, 84, 73, 77, 73, 90, 69, 68, 44, 32, 78, 69, 87, 76, 79, 67, 65, 76, 83, 44, 32, 86, 65, 82, 65, 82, 71, 83, 44, 32, 86, 65, 82, 75, 69, 89, 87, 79, 82, 68, 83]⟩), (16, ⟨#[78, 69, 83, 84, 69, 68]⟩), (18, ⟨#[78, 69, 87, 76, 79, 67, 65, 76, 83, 44, 32, 78, 69, 83, 84, 69, 68]⟩), (20, ⟨#[86, 65, 82, 65, 82, 71, 83, 44, 32, 78, 69, 83, 84, 69, 68]⟩), (22, ⟨#[78, 69, 87, 76, 79, 67, 65, 76, 83, 44, 32, 86, 65, 82, 65, 82, 71, 83, 44, 32, 78, 69, 83, 84, 69, 68]⟩)]
theorem vOk3 : vT3.all vOk = true := by decide +kernel
def vT4 : List (Nat × Str) := [(24, ⟨#[86, 65, 82, 75, 69, 89, 87, 79, 82, 68, 83, 44, 32, 78, 69, 83, 84, 69, 68]⟩), (26, ⟨#[78, 69, 87, 76, 79, 67, 65, 76, 83, 44, 32, 86, 65, 82, 75, 69, 89, 87, 79, 82, 68, 83, 44, 32, 78, 69, 83, 84, 69, 68]⟩), (28, ⟨#[86, 65, 82, 65, 82, 71, 83, 44, 32, 86, 65, 82, 75, 69, 89, 87, 79, 82, 68, 83, 44, 32, 78, 69, 83, 84, 69, 68]⟩), (30, ⟨#[78, 69, 87, 76, 79, 67, 65, 76, 83, 44, 32, 86, 65, 82, 65, 82, 71, 83, 44, 32, 86, 65, 82, 75, 69, 89, 87, 79, 82, 68, 83, 44, 32, 78, 69, 83, 84, 69, 68]⟩), (32, ⟨#[71, 69, 78, 69, 82, 65, 84, 79, 82]⟩)]
theorem vOk4 : vT4.all vOk = true := by decide +kernel
def vT5 : List (Nat × Str) := [(36, ⟨#[86, 65, 82, 65, 82, 71, 83, 44, 32, 71, 69, 78, 69, 82, 65, 84, 79, 82]⟩), (40, ⟨#[86, 65, 82, 75, 69, 89, 87, 79, 82, 68, 83, 44, 32, 71, 69, 78, 69, 82, 65, 84, 79, 82]⟩), (44, ⟨#[86, 65, 82, 65, 82, 71, 83, 44, 32, 86, 65, 82, 75, 69, 89, 87, 79, 82, 68, 83, 44, 32, 71, 69, 78, 69, 82, 65, 84, 79, 82]⟩), (48, ⟨#[78, 69, 83, 84, 69, 68, 44, 32, 71, 69, 78, 69, 82, 65, 84, 79, 82]⟩), (52, ⟨#[86, 65, 82, 65, 82, 71, 83, 44, 32, 78, 69, 83, 84, 69, 68, 44, 32, 71, 69, 78, 69, 82, 65, 84, 79, 82]⟩)]
theorem vOk5 : vT5.all vOk = true := by decide +kernel
def vT6 : List (Nat × Str) := [(56, ⟨#[86, 65, 82, 75, 69, 89, 87, 79, 82, 68, 83, 44, 32, 78, 69, 83, 84, 69, 68, 44, 32, 71, 69, 78, 69, 82, 65, 84, 79, 82]⟩), (60, ⟨#[86, 65, 82, 65, 82, 71, 83, 44, 32, 86, 65, 82, 75, 69, 89, 87, 79, 82, 68, 83, 44, 32, 78, 69, 83, 84, 69, 68, 44, 32, 71, 69, 78, 69, 82, 65, 84, 79, 82]⟩), (64, ⟨#[78, 79, 70, 82, 69, 69]⟩), (72, ⟨#[86, 65, 82, 75, 69, 89, 87, 79, 82, 68, 83, 44, 32, 78, 79, 70, 82, 69, 69]⟩), (80, ⟨#[78, 69, 83, 84, 69, 68, 44, 32, 78, 79, 70, 82, 69, 69]⟩)]
theorem vOk6 : vT6.all vOk = true := by decide +kernel
def vT7 : List (Nat × Str) := [(88, ⟨#[86, 65, 82, 75, 69, 89, 87, 79, 82, 68, 83, 44, 32, 78, 69, 83, 84, 69, 68, 44, 32, 78, 79, 70, 82, 69, 69]⟩), (96, ⟨#[71, 69, 78, 69, 82, 65, 84, 79, 82, 44, 32, 78, 79, 70, 82, 69, 69]⟩), (104, ⟨#[86, 65, 82, 75, 69, 89, 87, 79, 82, 68, 83, 44, 32, 71, 69, 78, 69, 82, 65, 84, 79, 82, 44, 32, 78, 79, 70, 82, 69, 69]⟩), (112, ⟨#[78, 69, 83, 84, 69, 68, 44, 32, 71, 69, 78, 69, 82, 65, 84, 79, 82, 44, 32, 78, 79, 70, 82, 69, 69]⟩), (120, ⟨#[86, 65, 82, 75, 69, 89, 87, 79, 82, 68, 83, 44, 32, 78, 69, 83, 84, 69, 68, 44, 32, 71, 69, 78, 69, 82, 65, 84, 79, 82, 44, 32, 78, 79, 70, 82, 69, 69]⟩)]
theorem vOk7 : vT7.all vOk = true := by decide +kernel
def vT : List (Nat × Str) := vT0 ++ vT1 ++ vT2 ++ vT3 ++ vT4 ++ vT5 ++ vT6 ++ vT7
theorem vT_ok : vT.all vOk = true := by
  unfold vT
  simp only [List.all_append, vOk0, vOk1, vOk2, vOk3, vOk4, vOk5, vOk6, vOk7, Bool.and_self]
theorem vT_in : ∀ n, n < 16 → ∀ s, s < 4 → (vT.map (·.1)).contains (n * 2 ^ s) = true := by decide +kernel
theorem split_join : ∀ n, n < 16 → ∀ s, s < 4 → Txt.split (Txt.join (Str.ofString ", ") (wordsOf (n * 2 ^ s))) (Str.ofString ", ") = wordsOf (n * 2 ^ s) := by
  intro n hn s hs
  obtain ⟨p, hp, e⟩ := List.mem_map.mp (List.contains_iff_mem.mp (vT_in n hn s hs))
  have h := List.all_eq_true.mp vT_ok p hp
  unfold vOk at h
  rw [Bool.and_eq_true, decide_eq_true_eq, decide_eq_true_eq] at h
  rw [← e, h.1, h.2]
theorem join_short : ∀ v, v < 128 → (Txt.join (Str.ofString ", ") (wordsOf v)).length ≤ 200 := by decide +kernel
theorem words8 : ∀ v, v < 128 → ∀ y ∈ wordsOf v, y ∈ [Str.ofString "0x0", Str.ofString "OPTIMIZED", Str.ofString "NEWLOCALS", Str.ofString "VARARGS", Str.ofString "VARKEYWORDS", Str.ofString "NESTED", Str.ofString "GENERATOR", Str.ofString "NOFREE"] := by decide +kernel
def idxN (w : Str) : List Int := if w = Str.ofString "0x0" then [] else [(([Str.ofString "OPTIMIZED", Str.ofString "NEWLOCALS", Str.ofString "VARARGS", Str.ofString "VARKEYWORDS", Str.ofString "NESTED", Str.ofString "GENERATOR", Str.ofString "NOFREE"].idxOf w : Nat) : Int)]
def placesN (v : Nat) : List Int := (wordsOf v).flatMap idxN
theorem places_row : ∀ s, s < 4 → ∀ n, n < 16 → placesN (n * 2 ^ s) = rowI s n := by decide +kernel
theorem strs_get {vs : List Value} {ys : List Str} (h : StrsAre vs ys) : ∀ {i : Nat} {v : Value}, vs[i]? = some v → ∃ y t, v = .str y t ∧ ys[i]? = some y ∧ ys.take (i + 1) = ys.take i ++ [y] := by
  induction h with
  | nil => intro i v e; cases e
  | cons n t _ ih =>
    intro i v e
    cases i with
    | zero =>
      cases e
      exact ⟨n, t, rfl, rfl, by simp⟩
    | succ i =>
      obtain ⟨n', t', e1, e2, e3⟩ := ih (i := i) (by simpa using e)
      exact ⟨n', t', e1, by simpa using e2, by simp [e3]⟩
theorem strs_len {vs : List Value} {ys : List Str} (h : StrsAre vs ys) : vs.length = ys.length := by
  induction h with
  | nil => rfl
  | cons n t _ ih => simp [ih]
theorem words_len : ∀ v, v < 128 → (wordsOf v).length ≤ 7 := by decide +kernel

end Mine
end

section
open PySem PySem.W PyProof.Rows
set_option Elab.async false
set_option maxRecDepth 100000
set_option maxHeartbeats 8000000
set_option linter.all false
namespace Mine
local macro_rules | `(tactic| ktr_rel) => `(tactic| first
  | (with_reducible show wpAny _ _ (call (Value.ref _) _ _) _ _ _)
  | (with_reducible show wpAny _ _ (eval (Expr.ListComp _ _ _ _) _) _ _ _)
  | (with_reducible show LCg.CompEnd _ _ _ _ _ _ _ _ _ _ _ _ _ _)
  | (with_reducible show wpAny _ _ (call (Value.builtin "str.split") _ _) _ _ _))
local macro_rules | `(tactic| ktr_unf) => `(tactic| repeat' (first | (k_unfold; (try dsimp only)) | ((fail_if_success ktr_rel); first | walk1 | (dsimp only; walk1))))
local macro_rules | `(tactic| ktr_enter) => `(tactic| (
  have fill : PySem.Challenge.rw_op0048_01 = PySem.Challenge.rw_op0048_01 ∧ Mine.hd.heap_39 = Mine.hd.heap_39 := by
    k_fill
    exact ⟨rfl, rfl⟩
  clear fill
  w_top on
  refine wpAny_call ?_
  k_dflt (refine' callY ?k2 ?k3 ?k4 ?k5 ?k6 ?k7 ?k8 ?k9 ?kB ?_ ?c2 ?c3 ?c4 ?c5; (case k2 => k_asm); (case k3 => k_asm); (case k4 => k_asm); (case k5 => k_asm); (case k6 => k_is); (case k7 => k_is); (case k8 => omega); (case k9 => exact BindsTo.of_eq rfl); (case c5 => decide); (case kB => exact locs rfl); (case c2 => exact rfl); (case c3 => exact rfl); (case c4 => exact rfl); k_whole; intro g' L' h' F' N' X' T' l1; (try dsimp only); (try k_fold))))

open PyProof.Rows.TI (Frs SameUp sameUp_of)
theorem off1_mem {D : Addr} {l : List (Addr × Obj)} : LCg.Off1 D l → ∀ q ∈ l, q.1 ≠ D := by
  induction l with
  | nil => intro _ q hq; cases hq
  | cons p l ih =>
    intro x q hq
    rcases List.mem_cons.mp hq with e | hq
    · rw [e]
      exact x.1
    · exact ih x.2 q hq
theorem strs_at {vs : List Value} {ys : List Str} (h : StrsAre vs ys) : ∀ {j : Nat} (hj : j < vs.length), ∃ t, vs[j] = .str (ys.getD j (Str.ofString "")) t := by
  induction h with
  | nil => intro j hj; cases hj
  | cons n t _ ih =>
    intro j hj
    cases j with
    | zero => exact ⟨t, rfl⟩
    | succ j =>
      obtain ⟨t', h'⟩ := ih (j := j) (by simpa using hj)
      exact ⟨t', by simpa using h'⟩
theorem index_strs {prog : Program} {w : World} {A : Around} {s : Shared} {E : Value → Shared → Prop} {a : Addr} {vs : List Value} {n j : Nat} {ys : List Str} {x : Str} {u : Tok} {h₀ : Heap} {L : Addr} {news : List (Addr × Obj)} {Q : Value → Shared → Prop} (N : News h₀ L s.heap news) (hm : (a, listOf vs.toArray n) ∈ news)
    (hi : StrsAre vs ys) (hj : j < ys.length) (hs : ys.length < 100) (hit : (ys.getD j (Str.ofString "") == x) = true) (hno : ∀ k, k < j → (ys.getD k (Str.ofString "") == x) = false) (h : Q (.int (j : Int) s.toks) { s with toks := s.toks + 1 }) :
    wpAny (model prog w) A (call (.builtin "list.index") [.ref a, .str x u]) Q E s := by
  have hl := strs_len hi
  have he : ∀ k (hk : k < vs.toArray.size), (match vs.toArray[k] with | .str z _ => z == x | _ => false) = (ys.getD k (Str.ofString "") == x) := fun k hk => by
    obtain ⟨t, e⟩ := strs_at hi (j := k) (by simpa using hk)
    have e' : vs.toArray[k] = .str (ys.getD k (Str.ofString "")) t := by simpa using e
    rw [e']
  refine call_meets PySem.F.slot_list_index ⟨_, (N _ hm).1, rfl⟩ PySem.F.entry_list_index (PySem.F.args_list_index_2 _ _) (PySem.SeqAt.list_indexAt a vs.toArray n none #[] (.str x u) (fun v => match v with | .str z _ => z == x | _ => false) j (by simp; omega) (by omega) ((he j (by simp; omega)).trans hit) (fun k hk hkj => (he k hk).trans (hno k hkj))) ⟨(N _ hm).1, fun y hy => ?_, h⟩
  have hy' : y ∈ vs := by simpa using hy
  obtain ⟨k, hk, rfl⟩ := List.getElem_of_mem hy'
  obtain ⟨t, e⟩ := strs_at hi (j := k) hk
  rw [e]
  exact SeqAt.EqAt.str_str _ _ _ _

theorem places_t {w : World} {p : Program} {loose : List Str} {mean : ExcName → Option Value} {mg mb : Str → Option Value}
    {A : Around} {h₀ : Heap} {L : Addr} {m : Str → Option Value} {news : List (Addr × Obj)} {s : Shared}
    {Q E : Value → Shared → Prop} {v : Nat} {ti : Tok}
    (F : Fr h₀ L s.heap m) (X : (hd.heap_39 w.params).In h₀) (N : News h₀ L s.heap news) (T : Top p loose mean mg mb h₀) (hh : A.handled = none) (hv : v < 128) (hsp : Txt.split (Txt.join (Str.ofString ", ") (wordsOf v)) (Str.ofString ", ") = wordsOf v)
    (hd : A.depth + 20 < recursionLimit) (hu : A.units + 300 < cLine)
    (hret : ∀ h' tk' D vs n, Fr h₀ L h' m → News h₀ L h' ((D, listOf vs.toArray n) :: news) → (∀ q ∈ news, q.1 ≠ D) → IntsAre vs (placesN v) → Q (.ref D) { s with heap := h', toks := tk' }) :
    wpAny (model prg w) A (call (.ref 62) [.int (v : Int) ti]) Q E s := by
  have fill : PySem.Challenge.rw_op0048_01 = PySem.Challenge.rw_op0048_01 ∧ Mine.hd.heap_39 = Mine.hd.heap_39 := by
    k_fill
    exact ⟨rfl, rfl⟩
  clear fill
  w_top on
  refine wpAny_call ?_
  k_dflt (refine' callYC F X N T ?k6 ?k7 ?k8 ?k9 ?kB ?kD ?_ ?c2 ?c3 ?c4; (case k6 => k_is); (case k7 => k_is); (case k8 => omega); (case k9 => exact BindsTo.of_eq rfl); (case kB => exact rfl); (case kD => decide +kernel); (case c2 => exact rfl); (case c3 => exact rfl); (case c4 => exact rfl); k_whole)
  intro g1 L1 h1 tk1 cells F1 N1 hcells X1 T1 l1
  obtain ⟨o1, rfl, d1⟩ := CellsAre.one hcells
  dsimp only
  k_fold
  dsimp only [List.cons_append, List.nil_append] at N1
  ktr_unf
  rename_i Dn h2 F2 N2 lD
  have hDc : L1 + 1 < Dn := lD.1
  refine storeX_C F2 N2 rfl (UpdF.tail (Nat.ne_of_gt hDc) (UpdF.head fun q hq => Nat.ne_of_lt (Nat.lt_succ_of_lt (l1 q hq)))) d1 ?_ rfl rfl
  intro h3 o3 F3 N3 d3
  ktr_unf
  k_dflt (refine LCt.ListComp_T (F₀ := F3) (by with_unfolding_all rfl) (by decide) (by rfl) (by decide) (by rfl) ?_)
  ktr_unf
  refine pretty_t F3 X1 N3 T1 hh hv (by show A.depth + 1 + 10 < _; omega) (by show A.units + 3 + 200 < _; omega) ?_
  intro h4 t4 tk4 F4 N4
  ktr_unf
  refine KSpl.split1 (s := { s with heap := h4, toks := _ }) F4 N4 (by decide +kernel) ?_ (by rw [sizeLine_eq]; have := join_short v hv; omega)
  intro D5 l5 h5 k5 e5 hst F5 N5 lt5
  rw [hsp] at e5
  rw [e5] at hst
  have lst5 := strs_len hst
  have wl := words_len v hv
  refine LCt.CompSrcT.ledger hh F5 N5 (.head _) (by rw [sizeLine_eq]; simp; omega) fun g => ?_
  refine compT_ind (fun j ys nw => nw = (D5, listOf (strValues l5).toArray 0) :: (Dn, listOf [Value.str (Str.ofString "OPTIMIZED") _, Value.str (Str.ofString "NEWLOCALS") _, Value.str (Str.ofString "VARARGS") _, Value.str (Str.ofString "VARKEYWORDS") _, Value.str (Str.ofString "NESTED") _, Value.str (Str.ofString "GENERATOR") _, Value.str (Str.ofString "NOFREE") _].toArray 0) :: (L1 + 1, o3) :: news ∧ IntsAre ys (((wordsOf v).take j).flatMap idxN)) ?_ ?_ _ 0 [] _ (Nat.zero_add _) ⟨rfl, .nil⟩
  · intro j ys nw v1 Ia oI Ca oC Da m₂ h tk E' hj hinv hv1 hC hm F6 N6 off ne
    obtain ⟨rfl, iy⟩ := hinv
    obtain ⟨y, ty, rfl, hy, htk⟩ := strs_get hst (by simpa using hv1)
    have hy8 := words8 v hv y (List.mem_of_getElem? hy)
    have iyP : True → IntsAre ys (((wordsOf v).take j).flatMap idxN) := fun _ => iy
    clear iy
    simp only [List.mem_cons, List.not_mem_nil, or_false] at hy8
    rcases hy8 with rfl | rfl | rfl | rfl | rfl | rfl | rfl | rfl
    · ktr_unf
      refine LCg.CompEnd.intro F6 N6 _ (fun _ h => h) off (.inr ⟨_, .head _, rfl, _, rfl⟩) ⟨rfl, ?_⟩
      rw [htk, List.flatMap_append]
      have e0 : [Str.ofString "0x0"].flatMap idxN = [] := by decide +kernel
      rw [e0, List.append_nil]
      exact iyP trivial
    · ktr_unf
      dsimp only [List.cons_append, List.nil_append]
      refine index_strs (j := 0) (ys := [Str.ofString "OPTIMIZED", Str.ofString "NEWLOCALS", Str.ofString "VARARGS", Str.ofString "VARKEYWORDS", Str.ofString "NESTED", Str.ofString "GENERATOR", Str.ofString "NOFREE"]) N6 (.tail _ (.tail _ (.tail _ (.tail _ (.head _))))) (.cons _ _ (.cons _ _ (.cons _ _ (.cons _ _ (.cons _ _ (.cons _ _ (.cons _ _ .nil))))))) (by decide) (by decide) (by decide +kernel) (by decide +kernel) ?_
      refine LCg.CompEnd.intro F6 N6 _ (fun _ h => h) off (.inr ⟨_, .head _, rfl, _, rfl⟩) ⟨rfl, ?_⟩
      rw [htk, List.flatMap_append]
      have e0 : [Str.ofString "OPTIMIZED"].flatMap idxN = [(0 : Int)] := by decide +kernel
      rw [e0]
      exact snoc_ints (iyP trivial)
    · ktr_unf
      dsimp only [List.cons_append, List.nil_append]
      refine index_strs (j := 1) (ys := [Str.ofString "OPTIMIZED", Str.ofString "NEWLOCALS", Str.ofString "VARARGS", Str.ofString "VARKEYWORDS", Str.ofString "NESTED", Str.ofString "GENERATOR", Str.ofString "NOFREE"]) N6 (.tail _ (.tail _ (.tail _ (.tail _ (.head _))))) (.cons _ _ (.cons _ _ (.cons _ _ (.cons _ _ (.cons _ _ (.cons _ _ (.cons _ _ .nil))))))) (by decide) (by decide) (by decide +kernel) (by decide +kernel) ?_
      refine LCg.CompEnd.intro F6 N6 _ (fun _ h => h) off (.inr ⟨_, .head _, rfl, _, rfl⟩) ⟨rfl, ?_⟩
      rw [htk, List.flatMap_append]
      have e0 : [Str.ofString "NEWLOCALS"].flatMap idxN = [(1 : Int)] := by decide +kernel
      rw [e0]
      exact snoc_ints (iyP trivial)
    · ktr_unf
      dsimp only [List.cons_append, List.nil_append]
      refine index_strs (j := 2) (ys := [Str.ofString "OPTIMIZED", Str.ofString "NEWLOCALS", Str.ofString "VARARGS", Str.ofString "VARKEYWORDS", Str.ofString "NESTED", Str.ofString "GENERATOR", Str.ofString "NOFREE"]) N6 (.tail _ (.tail _ (.tail _ (.tail _ (.head _))))) (.cons _ _ (.cons _ _ (.cons _ _ (.cons _ _ (.cons _ _ (.cons _ _ (.cons _ _ .nil))))))) (by decide) (by decide) (by decide +kernel) (by decide +kernel) ?_
      refine LCg.CompEnd.intro F6 N6 _ (fun _ h => h) off (.inr ⟨_, .head _, rfl, _, rfl⟩) ⟨rfl, ?_⟩
      rw [htk, List.flatMap_append]
      have e0 : [Str.ofString "VARARGS"].flatMap idxN = [(2 : Int)] := by decide +kernel
      rw [e0]
      exact snoc_ints (iyP trivial)
    · ktr_unf
      dsimp only [List.cons_append, List.nil_append]
      refine index_strs (j := 3) (ys := [Str.ofString "OPTIMIZED", Str.ofString "NEWLOCALS", Str.ofString "VARARGS", Str.ofString "VARKEYWORDS", Str.ofString "NESTED", Str.ofString "GENERATOR", Str.ofString "NOFREE"]) N6 (.tail _ (.tail _ (.tail _ (.tail _ (.head _))))) (.cons _ _ (.cons _ _ (.cons _ _ (.cons _ _ (.cons _ _ (.cons _ _ (.cons _ _ .nil))))))) (by decide) (by decide) (by decide +kernel) (by decide +kernel) ?_
      refine LCg.CompEnd.intro F6 N6 _ (fun _ h => h) off (.inr ⟨_, .head _, rfl, _, rfl⟩) ⟨rfl, ?_⟩
      rw [htk, List.flatMap_append]
      have e0 : [Str.ofString "VARKEYWORDS"].flatMap idxN = [(3 : Int)] := by decide +kernel
      rw [e0]
      exact snoc_ints (iyP trivial)
    · ktr_unf
      dsimp only [List.cons_append, List.nil_append]
      refine index_strs (j := 4) (ys := [Str.ofString "OPTIMIZED", Str.ofString "NEWLOCALS", Str.ofString "VARARGS", Str.ofString "VARKEYWORDS", Str.ofString "NESTED", Str.ofString "GENERATOR", Str.ofString "NOFREE"]) N6 (.tail _ (.tail _ (.tail _ (.tail _ (.head _))))) (.cons _ _ (.cons _ _ (.cons _ _ (.cons _ _ (.cons _ _ (.cons _ _ (.cons _ _ .nil))))))) (by decide) (by decide) (by decide +kernel) (by decide +kernel) ?_
      refine LCg.CompEnd.intro F6 N6 _ (fun _ h => h) off (.inr ⟨_, .head _, rfl, _, rfl⟩) ⟨rfl, ?_⟩
      rw [htk, List.flatMap_append]
      have e0 : [Str.ofString "NESTED"].flatMap idxN = [(4 : Int)] := by decide +kernel
      rw [e0]
      exact snoc_ints (iyP trivial)
    · ktr_unf
      dsimp only [List.cons_append, List.nil_append]
      refine index_strs (j := 5) (ys := [Str.ofString "OPTIMIZED", Str.ofString "NEWLOCALS", Str.ofString "VARARGS", Str.ofString "VARKEYWORDS", Str.ofString "NESTED", Str.ofString "GENERATOR", Str.ofString "NOFREE"]) N6 (.tail _ (.tail _ (.tail _ (.tail _ (.head _))))) (.cons _ _ (.cons _ _ (.cons _ _ (.cons _ _ (.cons _ _ (.cons _ _ (.cons _ _ .nil))))))) (by decide) (by decide) (by decide +kernel) (by decide +kernel) ?_
      refine LCg.CompEnd.intro F6 N6 _ (fun _ h => h) off (.inr ⟨_, .head _, rfl, _, rfl⟩) ⟨rfl, ?_⟩
      rw [htk, List.flatMap_append]
      have e0 : [Str.ofString "GENERATOR"].flatMap idxN = [(5 : Int)] := by decide +kernel
      rw [e0]
      exact snoc_ints (iyP trivial)
    · ktr_unf
      dsimp only [List.cons_append, List.nil_append]
      refine index_strs (j := 6) (ys := [Str.ofString "OPTIMIZED", Str.ofString "NEWLOCALS", Str.ofString "VARARGS", Str.ofString "VARKEYWORDS", Str.ofString "NESTED", Str.ofString "GENERATOR", Str.ofString "NOFREE"]) N6 (.tail _ (.tail _ (.tail _ (.tail _ (.head _))))) (.cons _ _ (.cons _ _ (.cons _ _ (.cons _ _ (.cons _ _ (.cons _ _ (.cons _ _ .nil))))))) (by decide) (by decide) (by decide +kernel) (by decide +kernel) ?_
      refine LCg.CompEnd.intro F6 N6 _ (fun _ h => h) off (.inr ⟨_, .head _, rfl, _, rfl⟩) ⟨rfl, ?_⟩
      rw [htk, List.flatMap_append]
      have e0 : [Str.ofString "NOFREE"].flatMap idxN = [(6 : Int)] := by decide +kernel
      rw [e0]
      exact snoc_ints (iyP trivial)
  · intro ys nw hinv
    obtain ⟨rfl, iy⟩ := hinv
    have iyP : True → IntsAre ys (placesN v) := fun _ => by
      unfold placesN
      rw [show (strValues l5).toArray.size = (wordsOf v).length from by simpa using lst5, List.take_length] at iy
      exact iy
    intro D7 h7 tk7 F7 N7 off'
    have hoff : ∀ q ∈ news, q.1 ≠ D7 := fun q hq => off1_mem off' q (.tail _ (.tail _ (.tail _ hq)))
    ktr_unf
    rename_i kF kN kT kX
    refine hret _ _ D7 ys ys.length kF (fun q hq => kN q ?_) hoff (iyP trivial)
    rcases List.mem_cons.mp hq with rfl | hq
    · exact .head _
    · exact .tail _ (.tail _ (.tail _ (.tail _ hq)))
end Mine
end

section
open PySem PySem.W PyProof.Rows PySem.Spec PySem.Calls
set_option Elab.async false
set_option maxRecDepth 100000
set_option maxHeartbeats 8000000
namespace Mine
open PySem.SeqAt

section
variable {prog : Program} {w : World} {A : Around} {s : Shared} {h₀ : Heap} {L : Addr} {m mg mb : Str → Option Value} {news : List (Addr × Obj)} {K : Frag} {p : Program} {loose : List Str} {mean : ExcName → Option Value}
  {R : Result → Shared → Prop} {name qual : Str} {params : Arguments} {scope : Scope} {dV kV doc pm cdv ct oc : Value} {an od : Option Addr} {osl : Array (Option Value)} {f : Addr} {args : Args} {binds : List (Str × Value)}

/-- a def entered; what the base keeps is handed on -/
theorem callYS {body : List Stmt} (F : Fr h₀ L s.heap m) (X₀ : K.In h₀) (N : News h₀ L s.heap news) (T : Top p loose mean mg mb h₀)
    (ho : K.lookup f = some ⟨oc, od, .func (fnOf name qual params body scope dV kV doc pm an cdv ct), osl⟩) (hcd : codeIn K cdv qual = true) (hroom : A.depth < recursionLimit)
    (hbind : BindsTo s (fnOf name qual params body scope dV kV doc pm an cdv ct) args binds) (hloc : ∀ y ∈ binds, scope.names.lookup y.1 = some .local)
    (h : ∀ g L' h₁, Fr g L' h₁ (fun y => binds.reverse.lookup y) → News g L' h₁ news → K.In g → Top p loose mean mg mb g → h₀.StaysIn g → (∀ q ∈ news, q.1 < L') →
      wpAny (model prog w) (A.deeper (envOf qual scope L' f cdv)) (execs body (envOf qual scope L' f cdv))
        (fun fl s' => LeaveK h₀ L m g R (match fl with | .ret v => v | _ => .none) s')
        (fun e s' => wpAny (model prog w) (A.deeper (envOf qual scope L' f cdv)) (leaving (envOf qual scope L' f cdv) e) (fun _ s'' => R (.error e) s'') (fun e' s'' => R (.error e') s'') s')
        { s with heap := h₁, toks := s.toks + binds.length })
    (hco : scope.isCoroutine = false) (hgen : scope.isGenerator = false) (hk : scope.kind = .function) (hcell : ∀ x ∈ scope.names, x.2 ≠ .cell) : codeAny (model prog w) A (.call (.ref f) args) R s := by
  have X := X₀.keeps F.keep
  have st := hide_stays F (news_off N)
  refine codeAny_call_def (fd := fnOf name qual params body scope dV kV doc pm an cdv ct) (body := body) (binds := binds) hroom (X _ _ ho) rfl (T.nolimit.keeps F.keep) (codeRec_of X hcd) rfl hbind hcell hloc (fun h₁ hns hk₁ => ?_) hco hgen hk
  refine wpAny_mono (h _ s.heap.objs.size h₁ ⟨hns, fun b o e => hk₁ b o (of_hideAll _ e), Nat.le_of_eq (hideAll_size _ _)⟩
    (fun q hq => ⟨hk₁ _ _ (N q hq).1, Nat.ne_of_lt (Heap.lt_size (N q hq).1), hideAll_none _ (List.mem_map_of_mem hq)⟩) (X₀.keeps st) (T.keeps st) st fun q hq => Heap.lt_size (N q hq).1) (fun fl s' hl => ?_) fun _ _ y => y
  exact leave_hide F N _ _ hl

/-- a lambda of the ledger entered -/
theorem callYL {body : Expr} {cl : List (Str × Addr)} {c' : Addr} {ctv : Value} (F : Fr h₀ L s.heap m) (X₀ : K.In h₀) (N : News h₀ L s.heap news) (T : Top p loose mean mg mb h₀)
    (ho : (f, kla_obj name qual params body scope cl pm c' ctv) ∈ news) (hcd : s.heap.CodeRec (.ref c') qual) (hroom : A.depth < recursionLimit)
    (hbind : bindArgs (kla_fn name qual params body scope cl pm (.ref c') ctv) args = pure binds) (hloc : ∀ y ∈ binds, scope.names.lookup y.1 = some .local)
    (h : ∀ g L' h₁, Fr g L' h₁ (fun y => binds.reverse.lookup y) → News g L' h₁ news → K.In g → Top p loose mean mg mb g → (∀ q ∈ news, q.1 < L') →
      wpAny (model prog w) (A.deeper (envX qual scope L' f (.ref c') cl)) (eval body (envX qual scope L' f (.ref c') cl))
        (fun v s' => LeaveK h₀ L m g R v s')
        (fun e s' => wpAny (model prog w) (A.deeper (envX qual scope L' f (.ref c') cl)) (leaving (envX qual scope L' f (.ref c') cl) e) (fun _ s'' => R (.error e) s'') (fun e' s'' => R (.error e') s'') s')
        { s with heap := h₁, toks := s.toks + binds.length })
    (hco : scope.isCoroutine = false) (hgen : scope.isGenerator = false) (hk : scope.kind = .function) (hcell : ∀ x ∈ scope.names, x.2 ≠ .cell) : codeAny (model prog w) A (.call (.ref f) args) R s := by
  have st := hide_stays F (news_off N)
  refine kla_callFunE hroom (N _ ho).1 rfl hco hgen rfl hcd ?_
  rw [hbind]
  refine wpAny_pure (wpAny_newFunctionEnv hcell hloc (fun h₁ hns hsb => ⟨((T.nolimit).keeps F.keep).fresh _ hsb, ?_⟩) hk)
  show codeAny _ _ (.expr body (envX qual scope s.heap.objs.size f (.ref c') cl)) _ _
  have hk₁ : ∀ b o, s.heap.get? b = some o → h₁.get? b = some o := fun b o e => hsb.extBut b o (Nat.ne_of_lt (Heap.lt_size e)) (Heap.get?_push_of_some _ e)
  refine kla_codeExpr (wpAny_mono (h _ s.heap.objs.size h₁ ⟨hns, fun b o e => hk₁ b o (of_hideAll _ e), Nat.le_of_eq (hideAll_size _ _)⟩
    (fun q hq => ⟨hk₁ _ _ (N q hq).1, Nat.ne_of_lt (Heap.lt_size (N q hq).1), hideAll_none _ (List.mem_map_of_mem hq)⟩) (X₀.keeps st) (T.keeps st) fun q hq => Heap.lt_size (N q hq).1) (fun v s' hl => ?_) fun _ _ y => y)
  exact leave_hide F N _ _ hl
end

/-- the sort's `<` on two lists -/
theorem keyLt_lists {prog : Program} {w : World} {A : Around} {E : Value → Shared → Prop} {s : Shared} {Q : Bool → Shared → Prop} {l b : Addr} {items items2 : Array Value} {e c : Nat → Bool} (hl : s.heap.IsList l items) (hb : s.heap.IsList b items2) (hu : A.units < cLine)
    (he : ∀ j (h1 : j < items.size) (h2 : j < items2.size), EqAt A.in1 s items[j] items2[j] (e j))
    (hc : ∀ j (h1 : j < items.size) (h2 : j < items2.size), e j = false → LtAt A.in1 s items[j] items2[j] (c j)) (h : Q (lexF e c items.size items2.size (min items.size items2.size) 0) s) :
    wpAny (model prog w) A (keyLt' oneType' (.ref l) (.ref b)) Q E s := by
  obtain ⟨⟨cls, dd, data, sl⟩, ho, hc0, n, hd⟩ := id hl
  obtain ⟨⟨cls2, dd2, data2, sl2⟩, ho2, hc2, n2, hd2⟩ := id hb
  simp only at hc0 hd hc2 hd2
  subst hc0 hd hc2 hd2
  rw [keyLt'_oneType, oneLt'_eq]
  simp only [if_true]
  refine wpAny_bind (wpAny_cRoomFor hu ?_)
  refine wpAny_bind (wpAny_callSpecialIfBound?_slot hl.typeIs F.slot_list_lt (call_meets F.slot_list_lt hl.typeIs F.entry_list_lt (F.args_list_lt_2 _ _) (list_ltAt l b items items2 n n2 dd dd2 sl sl2 e c) ⟨ho, ho2, he, hc, ?_⟩))
  show wpAny _ _ _ _ _ s
  exact wpAny_truthy_bool h

theorem keyLt_entry {prog : Program} {w : World} {A : Around} {E : Value → Shared → Prop} {s : Shared} {Q : Bool → Shared → Prop} {ea eb r1 r2 : Addr} {a b : Int} {t u : Tok} {vs us : List Value} {ns ms : List Int} (ha : s.heap.IsList ea #[.int a t, .ref r1]) (hb : s.heap.IsList eb #[.int b u, .ref r2])
    (hl : s.heap.IsList r1 vs.toArray) (hi : IntsAre vs ns) (hr : s.heap.IsList r2 us.toArray) (hi' : IntsAre us ms) (hu : A.units + 80 < cLine) (h : Q (entLt a b ns ms) s) : wpAny (model prog w) A (keyLt' oneType' (.ref ea) (.ref eb)) Q E s := by
  refine keyLt_lists (A := A) (e := fun j => if j = 0 then (a == b) else decide (ns = ms)) (c := fun j => if j = 0 then decide (a < b) else ltI ns ms) ha hb (by omega) ?_ ?_ ?_
  · intro j h1 h2
    match j, h1, h2 with
    | 0, _, _ => exact EqAt.int_int _ _ _ _
    | 1, _, _ => exact EqAt.rows hl hi hr hi' (by show A.units + 1 + 64 < cLine; omega)
  · intro j h1 h2 _
    match j, h1, h2 with
    | 0, _, _ => exact LtAt.int _ _ _ _ _ _
    | 1, _, _ => exact LtAt.ints hl hi hr hi' (by show A.units + 1 < cLine; omega)
  · have e : entLt a b ns ms = lexF (fun j => if j = 0 then (a == b) else decide (ns = ms)) (fun j => if j = 0 then decide (a < b) else ltI ns ms) 2 2 2 0 := by
      simp only [entLt, lexF]
      by_cases h1 : a = b <;> by_cases h2 : ns = ms <;> simp [h1, h2]
    rw [e] at h
    exact h

/-- the sort's questions answered by a plain function -/
def kasEval {α : Type} (c : Nat → Nat → Bool) : KasT α → α
  | .ret a => a
  | .ask i j k => kasEval c (k (c i j))
def kasOk {α : Type} (n : Nat) (c : Nat → Nat → Bool) (f : α → Bool) : KasT α → Bool
  | .ret a => f a
  | .ask i j k => decide (i < n) && decide (j < n) && kasOk n c f (k (c i j))
theorem kas_plain {α : Type} {cmp : Nat → Nat → (Bool → Shared → Prop) → Shared → Prop} {n : Nat} {c : Nat → Nat → Bool} {f : α → Bool} {s : Shared} (hc : ∀ i j C, i < n → j < n → C (c i j) s → cmp i j C s) {Q : α → Shared → Prop} :
    ∀ t : KasT α, kasOk n c f t = true → (f (kasEval c t) = true → Q (kasEval c t) s) → t.kasWp cmp Q s
  | .ret a, ok, h => h ok
  | .ask i j k, ok, h => by
    unfold kasOk at ok
    rw [Bool.and_eq_true, Bool.and_eq_true, decide_eq_true_eq, decide_eq_true_eq] at ok
    exact hc i j _ ok.1.1 ok.1.2 (kas_plain hc (k (c i j)) ok.2 h)
def ltOf (xs : List Nat) (i j : Nat) : Bool := decide (rankOf (xs.getD i 0) < rankOf (xs.getD j 0))
def sortN (xs : List Nat) : List Nat := if xs.length < 2 then xs else (kasEval (ltOf xs) (kas_sort xs.length)).toList.map fun i => xs.getD i 0
def sortOk (xs : List Nat) : Bool := if xs.length < 2 then true else kasOk xs.length (ltOf xs) (fun p => p.toList.all fun i => decide (i < xs.length)) (kas_sort xs.length)
end Mine
end

section
open PySem PySem.W PyProof.Rows PySem.Spec PySem.Calls
set_option Elab.async false
set_option maxRecDepth 100000
set_option maxHeartbeats 8000000
set_option linter.all false
namespace Mine

section
variable {prog : Program} {w : World} {A : Around} {E : Value → Shared → Prop} {s : Shared} {h₀ : Heap} {L a kS : Addr} {m : Str → Option Value} {news : List (Addr × Obj)} {vs ks : List Value}

/-- the sort's end where there is nothing to ask -/
theorem sk_small {e e1 : Nat} {P : PySem.Fin → Shared → Prop} (hl : ks.length = vs.length) (h2 : vs.length < 2)
    (h : KatFin h₀ L m kS a ks e e1 vs (fun s3 => P (.done (.ret .none)) s3) s) : wpAny (model prog w) A (ksk_end a false vs.toArray e1 (.ref kS) (List.toArray ks)) P E s := by
  have hz : vs.toArray.size < 2 := by rw [List.size_toArray]; exact h2
  have hs : ((List.toArray ks).zip vs.toArray).map (·.2) = List.toArray vs := by
    match vs, ks, hl, h2 with
    | [], [], _, _ => simp
    | [v], [k], _, _ => simp
    | [], _ :: _, hl, _ => simp at hl
    | [_], [], hl, _ => simp at hl
    | [_], _ :: _ :: _, hl, _ => simp at hl
    | _ :: _ :: _, _, _, h2 => simp at h2; omega
  unfold ksk_end
  dsimp only
  rw [if_pos hz, if_pos hz]
  simp only [Bool.false_eq_true, if_false]
  refine wpAny_bind (wpAny_pure ?_)
  refine wpAny_bind ?_
  rw [StateT.run_pure]
  refine wpAny_pure ?_
  exact kat_tail (b := false) (out := vs) hs (by omega) (by omega) rfl h

/-- the keys gathered, then the sort's end, for any number of things -/
theorem sk_rest {f : Value} {e1 : Nat} {P : PySem.Fin → Shared → Prop} (hk : s.heap.get? kS = some (seqObj "list" #[] 0)) (h64 : vs.length < 64)
    (h : KatKeys prog w A h₀ L m kS f (fun ks e s' => ks.length = vs.length → wpAny (model prog w) A (ksk_end a false vs.toArray e1 (.ref kS) (List.toArray ks)) P E s') vs [] 0 s) :
    wpAny (model prog w) A (ksk_rest a f false vs.toArray e1 (.ref kS)) P E s := by
  unfold ksk_rest
  refine wpAny_bind (wpAny_rule ?_)
  rw [List.forIn_toArray]
  refine wpAny_bind (wpAny_mono (kat_fold h64 (fun x ks e s' C hz hx => ?_) vs [] 0 s (by simp) hk h) (fun _ s' hd => ?_) fun _ _ x => x)
  · refine wpAny_bind (wpAny_attempt (wpAny_mono hx (fun k s'' hb => ?_) fun _ _ hF => hF.elim))
    obtain ⟨nw, g, F', N', U, c⟩ := hb
    obtain ⟨pre, post, e0, hg, x1, x2⟩ := U.split
    rw [e0] at N'
    have nk := N' (kS, seqObj "list" (List.toArray ks) e) (List.mem_append_right _ (.head _))
    have ea : (List.toArray ks).push k = List.toArray (ks ++ [k]) := by simp
    have sb := Heap.SameBut.update s''.heap kS (Obj.mapSeq (·.push k))
    obtain ⟨c2, hc2⟩ : ∃ c2, (s''.heap.update kS (Obj.mapSeq (·.push k))).get? kS = some (seqObj "list" (List.toArray (ks ++ [k])) c2) := ⟨_, by rw [← ea]; exact get?_update_seq nk.1 (·.push k)⟩
    dsimp only
    refine wpAny_bind (listUpdate_at nk.1 rfl ?_ (by rw [List.size_toArray, sizeLine_eq]; omega) (by rw [Array.size_push, List.size_toArray, sizeLine_eq]; omega))
    exact wpAny_pure ⟨rfl, k, c2, hc2, c _ c2 (kas_fr F' sb nk.2.1 nk.2.2) (by rw [hg]; exact news_set N' x1 x2 sb hc2)⟩
  · obtain ⟨ks, e, hk', hl, fin⟩ := hd
    exact wpAny_bind (listItems_at hk' rfl (fin hl))

theorem sk_keyed {f : Value} {n : Nat} {P : PySem.Fin → Shared → Prop} (F : Fr h₀ L s.heap m) (N : News h₀ L s.heap news) (ho : s.heap.get? a = some (seqObj "list" vs.toArray n)) (haL : a ≠ L) (ha0 : h₀.get? a = none) (hna : ∀ p ∈ news, p.1 ≠ a) (h64 : vs.length < 64)
    (h : ∀ kS e1 h', Fr h₀ L h' m → News h₀ L h' ((kS, seqObj "list" #[] 0) :: (a, seqObj "list" #[] e1) :: news) → a < kS → (∀ q ∈ news, q.1 < kS) →
      KatKeys prog w A h₀ L m kS f (fun ks e s' => ks.length = vs.length → wpAny (model prog w) A (ksk_end a false vs.toArray e1 (.ref kS) (List.toArray ks)) P E s') vs [] 0 { s with heap := h' }) :
    wpAny (model prog w) A (ksk_tree a f false) P E s := by
  have ha : a < s.heap.objs.size := Heap.lt_size ho
  have sb := Heap.SameBut.update s.heap a (Obj.mapSeq fun _ => (#[] : Array Value))
  obtain ⟨e1, ho1⟩ : ∃ e1, (s.heap.update a (Obj.mapSeq fun _ => (#[] : Array Value))).get? a = some (seqObj "list" #[] e1) := ⟨_, get?_update_seq ho fun _ => #[]⟩
  have F1 := kas_fr F sb haL ha0
  have N1 := kas_news N sb hna
  have hkS : ((s.heap.update a (Obj.mapSeq fun _ => (#[] : Array Value))).push (seqObj "tuple" vs.toArray 0)).objs.size = s.heap.objs.size + 1 := by rw [size_push', Heap.size_update]
  have hLk := (F1.push (seqObj "tuple" vs.toArray 0)).ns.lt
  unfold ksk_tree
  refine wpAny_bind (listItems_at ho rfl ?_)
  refine wpAny_bind (listUpdate_at ho rfl ?_ (by rw [List.size_toArray, sizeLine_eq]; omega) (Nat.zero_le _))
  refine wpAny_bind (seqEpoch_at ho1 rfl ?_)
  refine wpAny_bind (wpAny_newTuple ?_ (by show vs.length ≤ _; rw [sizeLine_eq]; omega))
  refine wpAny_bind (wpAny_newList ?_ (Nat.zero_le _))
  refine wpAny_holding ?_
  refine sk_rest (s := { s with heap := ((s.heap.update a (Obj.mapSeq fun _ => (#[] : Array Value))).push (seqObj "tuple" vs.toArray 0)).push (seqObj "list" #[] 0) }) (Heap.get?_push_size _ rfl) h64 (h _ e1 _ ((F1.push _).push _) (fun p hp => ?_) (by rw [hkS]; exact Nat.lt_succ_of_lt ha) fun q hq => by rw [hkS]; exact Nat.lt_succ_of_lt (Heap.lt_size (N q hq).1))
  rcases List.mem_cons.mp hp with rfl | hp
  · exact ⟨Heap.get?_push_size _ rfl, Nat.ne_of_gt hLk, Heap.get?_none_of_le (Nat.le_trans F.above (Nat.le_of_lt hLk))⟩
  · rcases List.mem_cons.mp hp with rfl | hp
    · exact ⟨Heap.get?_push_of_some _ (Heap.get?_push_of_some _ ho1), haL, ha0⟩
    · exact ⟨Heap.get?_push_of_some _ (Heap.get?_push_of_some _ (N1 p hp).1), (N1 p hp).2⟩

/-- sorted(l, key=f) for any number of things -/
theorem sk_sorted {l : Addr} {q : Addr} {Q : Value → Shared → Prop} (F : Fr h₀ L s.heap m) (N : News h₀ L s.heap news) (hl : s.heap.IsList l vs.toArray) (h64 : vs.length < 64)
    (h : ∀ D kS e1 h' (P : PySem.Fin → Shared → Prop) (E' : Value → Shared → Prop), Fr h₀ L h' m → News h₀ L h' ((kS, seqObj "list" #[] 0) :: (D, seqObj "list" #[] e1) :: news) → D < kS → (∀ q ∈ news, q.1 < D) → (∀ s', Q (.ref D) s' → P (.done (.ret .none)) s') →
      KatKeys prog w A.in1.in1 h₀ L m kS (.ref q) (fun ks e s' => ks.length = vs.length → wpAny (model prog w) A.in1.in1 (ksk_end D false vs.toArray e1 (.ref kS) (List.toArray ks)) P E' s') vs [] 0 { s with heap := h' }) :
    wpAny (model prog w) A (call (.builtin "sorted") [.ref l] [(Str.ofString "key", .ref q)]) Q E s := by
  refine call_function_entry_kw kind_sorted plain_sorted entry_sorted (ksk_s1 _ _) ?_
  unfold Builtin.«sorted»
  refine wpAny_bind (m := checkCount "sorted" 1 1 _) (wpAny_pure ?_)
  refine wpAny_bind (collect_list hl ?_ (by rw [sizeLine_eq]; omega))
  refine wpAny_bind (wpAny_newList ?_ (by rw [sizeLine_eq]; omega))
  have hsz : ((s.heap.push (seqObj "list" #[] 0)).update s.heap.objs.size (Obj.mapSeq (· ++ vs.toArray))).objs.size = s.heap.objs.size + 1 := by
    rw [Heap.size_update, size_push']
  have hoL : (((s.heap.push (seqObj "list" #[] 0)).update s.heap.objs.size (Obj.mapSeq (· ++ vs.toArray))).push (seqObj "list" vs.toArray 0)).get? (s.heap.objs.size + 1) = some (seqObj "list" vs.toArray 0) := by
    rw [← hsz]; exact Heap.get?_push_size _ rfl
  have keep : ∀ b o, s.heap.get? b = some o → (((s.heap.push (seqObj "list" #[] 0)).update s.heap.objs.size (Obj.mapSeq (· ++ vs.toArray))).push (seqObj "list" vs.toArray 0)).get? b = some o := fun b o z => by
    have hlt : b < s.heap.objs.size := Heap.lt_size z
    rw [Heap.get?_push_ne _ _ _ (by rw [hsz]; exact Nat.ne_of_lt (Nat.lt_succ_of_lt hlt)), Heap.get?_update_ne _ _ _ _ (Nat.ne_of_lt hlt), Heap.get?_push_ne _ _ _ (Nat.ne_of_lt hlt)]
    exact z
  have hL : L < s.heap.objs.size := F.ns.lt
  show wpAny _ _ _ _ _ { s with heap := ((s.heap.push (seqObj "list" #[] 0)).update s.heap.objs.size (Obj.mapSeq (· ++ vs.toArray))).push (seqObj "list" vs.toArray 0) }
  rw [hsz]
  refine wpAny_bind (wpAny_holding (wpAny_call_entry_kw slot_list_sort ⟨_, hoL, rfl⟩ entry_list_sort ?body (ksk_l1 _ _)))
  case body =>
    show wpAny (model prog w) A.in1.in1 (Builtin.«list.sort» ⟨[.ref (s.heap.objs.size + 1)], _⟩) _ _ _
    rw [ksk_t1]
    refine sk_keyed (s := { s with heap := ((s.heap.push (seqObj "list" #[] 0)).update s.heap.objs.size (Obj.mapSeq (· ++ vs.toArray))).push (seqObj "list" vs.toArray 0) })
      (F.kept keep) (N.grown keep) hoL (Nat.ne_of_gt (Nat.lt_succ_of_lt hL)) (Heap.get?_none_of_le (Nat.le_trans F.above (Nat.le_succ_of_le (Nat.le_of_lt hL))))
      (fun p hp => Nat.ne_of_lt (Nat.lt_succ_of_lt (Heap.lt_size (N p hp).1))) h64 fun kS e1 h' F' N' l0 l1 => ?_
    exact h _ kS e1 h' _ _ F' N' l0 (fun q hq => Nat.lt_succ_of_lt (Heap.lt_size (N q hq).1)) fun s' hq => ⟨_, rfl, wpAny_pure ⟨_, rfl, hq⟩⟩
end
end Mine
end

section
open PySem PySem.W PyProof.Rows PySem.Spec PySem.Calls
set_option Elab.async false
set_option maxRecDepth 100000
set_option maxHeartbeats 8000000
set_option linter.all false
namespace Mine
theorem updF_mid {d : Addr} {o : Obj} : ∀ (pre : List (Addr × Obj)) {post : List (Addr × Obj)}, (∀ q ∈ pre, q.1 ≠ d) → (∀ q ∈ post, q.1 ≠ d) → UpdF d o (pre ++ (d, o) :: post) (fun o' => pre ++ (d, o') :: post)
  | [], _, _, h => UpdF.head h
  | _ :: pre, _, h1, h2 => UpdF.tail (h1 _ (.head _)) (updF_mid pre (fun q hq => h1 q (.tail _ hq)) h2)
/-- the keys so far: each a list of the size and the row -/
def Keyed (ra : Nat → Addr) (ents : List (Addr × Obj)) (ks : List Value) (is : List Nat) : Prop :=
  ks.length = is.length ∧ ∀ j, j < is.length → ∃ a t n, ks.getD j .none = .ref a ∧ (a, listOf #[.int (sizeOf' (is.getD j 0)) t, .ref (ra (is.getD j 0))] n) ∈ ents
theorem Keyed.snoc {ra : Nat → Addr} {ents : List (Addr × Obj)} {ks : List Value} {is : List Nat} (h : Keyed ra ents ks is) {i : Nat} {a : Addr} {t : Tok} {n : Nat} :
    Keyed ra ((a, listOf #[.int (sizeOf' i) t, .ref (ra i)] n) :: ents) (ks ++ [.ref a]) (is ++ [i]) := by
  obtain ⟨h1, h2⟩ := h
  refine ⟨by simp [h1], fun j hj => ?_⟩
  by_cases hlt : j < is.length
  · obtain ⟨a', t', n', e, hm⟩ := h2 j hlt
    have hlt' : j < ks.length := by omega
    refine ⟨a', t', n', ?_, ?_⟩
    · simpa [List.getD_eq_getElem?_getD, List.getElem?_append_left hlt'] using e
    · have : (is ++ [i]).getD j 0 = is.getD j 0 := by simp [List.getD_eq_getElem?_getD, List.getElem?_append_left hlt]
      rw [this]
      exact .tail _ hm
  · have e : j = is.length := by simp at hj; omega
    subst e
    have e2 : (is ++ [i]).getD is.length 0 = i := by simp
    refine ⟨a, t, n, ?_, ?_⟩
    · rw [← h1]; simp
    · rw [e2]; exact .head _

section
variable {w : World} {A : Around} {E : Value → Shared → Prop} {s : Shared} {h₀ : Heap} {L f kS D0 : Addr} {m : Str → Option Value} {news base : List (Addr × Obj)} {ra : Nat → Addr} {Fin : List Value → Nat → Shared → Prop}

/-- what the key's call gives -/
def KeyOk (w : World) (A : Around) (h₀ : Heap) (L : Addr) (m : Str → Option Value) (news : List (Addr × Obj)) (ra : Nat → Addr) (f : Addr) : Prop :=
  ∀ i s1 (nw : List (Addr × Obj)) (Q E : Value → Shared → Prop), i < 16 → (∀ p ∈ news, p ∈ nw) → Fr h₀ L s1.heap m → News h₀ L s1.heap nw →
    (∀ D h' tk t n, Fr h₀ L h' m → News h₀ L h' ((D, listOf #[.int (sizeOf' i) t, .ref (ra i)] n) :: nw) → (∀ q ∈ nw, q.1 ≠ D) → Q (.ref D) { s1 with heap := h', toks := tk }) →
    wpAny (model prg w) A (call (.ref f) [.ref (ra i)]) Q E s1

theorem keys_t (hkey : KeyOk w A h₀ L m news ra f) (hb : ∀ p ∈ news, p ∈ base) (hk : ∀ q ∈ base, q.1 ≠ kS) (hD : ∃ o, (D0, o) ∈ base) : ∀ (rest done : List Nat) (ks : List Value) (ents : List (Addr × Obj)) (e : Nat) (h1 : Heap) (tk1 : Nat), (∀ i ∈ rest, i < 16) →
    Fr h₀ L h1 m → News h₀ L h1 (ents ++ (kS, seqObj "list" (List.toArray ks) e) :: base) → (∀ q ∈ ents, q.1 ≠ kS ∧ q.1 ≠ D0) → Keyed ra ents ks done →
    (∀ ks ents e h2 tk2, Fr h₀ L h2 m → News h₀ L h2 (ents ++ (kS, seqObj "list" (List.toArray ks) e) :: base) → (∀ q ∈ ents, q.1 ≠ kS ∧ q.1 ≠ D0) → Keyed ra ents ks (done ++ rest) → Fin ks e { s with heap := h2, toks := tk2 }) →
    KatKeys prg w A h₀ L m kS (.ref f) Fin (rest.map fun i => .ref (ra i)) ks e { s with heap := h1, toks := tk1 }
  | [], done, ks, ents, e, h1, tk1, _, F, N, off, K, fin => by
    refine KatKeys.nil (fin ks ents e h1 tk1 F N off ?_)
    rw [List.append_nil]
    exact K
  | i :: rest, done, ks, ents, e, h1, tk1, hr, F, N, off, K, fin => by
    have hin : ∀ p ∈ base, p ∈ ents ++ (kS, seqObj "list" (List.toArray ks) e) :: base := fun p hp => List.mem_append_right _ (.tail _ hp)
    refine KatKeys.cons (hkey i { s with heap := h1, toks := tk1 } _ _ _ (hr i (.head _)) (fun p hp => hin p (hb p hp)) F N fun D h' tk t n F' N' hne => ?_)
    have hkD : kS ≠ D := hne _ (List.mem_append_right _ (.head _))
    have hDD : D0 ≠ D := by
      obtain ⟨o, ho⟩ := hD
      exact hne _ (hin _ ho)
    have off' : ∀ q ∈ (D, listOf #[.int (sizeOf' i) t, .ref (ra i)] n) :: ents, q.1 ≠ kS ∧ q.1 ≠ D0 := fun q hq => by
      rcases List.mem_cons.mp hq with rfl | hq
      · exact ⟨fun z => hkD z.symm, fun z => hDD z.symm⟩
      · exact off q hq
    refine KatBack.intro F' N' (updF_mid ((D, listOf #[.int (sizeOf' i) t, .ref (ra i)] n) :: ents) (fun q hq => (off' q hq).1) hk) fun h'' c F'' N'' => ?_
    refine keys_t hkey hb hk hD rest (done ++ [i]) _ _ c h'' _ (fun j hj => hr j (.tail _ hj)) F'' N'' off' K.snoc fun ks2 ents2 e2 h2 tk2 F2 N2 off2 K2 => fin ks2 ents2 e2 h2 tk2 F2 N2 off2 ?_
    rw [List.append_assoc] at K2
    exact K2

theorem ent_rank {sh a b : Nat} (hs : sh < 4) (ha : a < 16) (hb : b < 16) : entLt (sizeOf' a) (sizeOf' b) (rowI sh a) (rowI sh b) = decide (rankOf a < rankOf b) := by
  have h := rank_lt sh hs (rankOf a) (num_rank a ha).2 (rankOf b) (num_rank b hb).2
  rw [(num_rank a ha).1, (num_rank b hb).1] at h
  exact h

theorem getD_lt {α : Type} {xs : List α} {i : Nat} {d : α} (h : i < xs.length) : xs.getD i d ∈ xs := by
  rw [List.getD_eq_getElem?_getD, List.getElem?_eq_getElem h]
  exact List.getElem_mem h

/-- sorted by size, then by row, where the key's call is known -/
theorem sort_t {sh l n : Nat} {xs : List Nat} {Q : Value → Shared → Prop} (hkey : KeyOk w A.in1.in1 h₀ L m news ra f) (F : Fr h₀ L s.heap m) (N : News h₀ L s.heap news) (hs : sh < 4) (R : RowsIn news sh ra)
    (hl : (l, listOf (xs.map fun i => Value.ref (ra i)).toArray n) ∈ news) (hx : ∀ i ∈ xs, i < 16) (h64 : xs.length < 64) (hok : sortOk xs = true) (hu : A.units + 100 < cLine)
    (hret : ∀ D n2 h' tk, Fr h₀ L h' m → News h₀ L h' ((D, listOf ((sortN xs).map fun i => Value.ref (ra i)).toArray n2) :: news) → (∀ q ∈ news, q.1 ≠ D) → Q (.ref D) { s with heap := h', toks := tk }) :
    wpAny (model prg w) A (call (.builtin "sorted") [.ref l] [(Str.ofString "key", .ref f)]) Q E s := by
  refine sk_sorted F N (isList_news N hl) (by simpa using h64) fun D kS e1 h' P E' F' N' l0 l1 hP => ?_
  have hDn : ∀ q ∈ news, q.1 ≠ D := fun q hq => Nat.ne_of_lt (l1 q hq)
  have hkb : ∀ q ∈ (D, seqObj "list" #[] e1) :: news, q.1 ≠ kS := fun q hq => by
    rcases List.mem_cons.mp hq with rfl | hq
    · exact Nat.ne_of_lt l0
    · exact Nat.ne_of_lt (Nat.lt_trans (l1 q hq) l0)
  refine keys_t (s := s) (D0 := D) (tk1 := s.toks) hkey (base := (D, seqObj "list" #[] e1) :: news) (fun p hp => .tail _ hp) hkb ⟨_, .head _⟩ xs [] [] [] 0 h' hx F' N' (fun _ hq => nomatch hq) ⟨rfl, fun j hj => absurd hj (Nat.not_lt_zero _)⟩ ?_
  intro ks ents e h2 tk2 F2 N2 off K hlen
  rw [List.nil_append] at K
  have end_ : ∀ out, out = ((sortN xs).map fun i => Value.ref (ra i)) → KatFin h₀ L m kS D ks e e1 out (fun s3 => P (.done (.ret .none)) s3) { s with heap := h2, toks := tk2 } := by
    rintro out rfl
    refine KatFin.intro F2 N2 (updF_mid ents (fun q hq => (off q hq).1) hkb) fun h3 c3 F3 N3 => ?_
    have N3' : News h₀ L h3 ((ents ++ [(kS, seqObj "list" #[] c3)]) ++ (D, seqObj "list" #[] e1) :: news) := by
      rw [List.append_assoc]
      exact N3
    refine KasFin.intro F3 N3' (updF_mid (ents ++ [(kS, seqObj "list" #[] c3)]) (fun q hq => ?_) hDn) fun h4 c4 F4 N4 => ?_
    · rcases List.mem_append.mp hq with hq | hq
      · exact (off q hq).2
      · rw [List.mem_singleton.mp hq]
        exact Nat.ne_of_gt l0
    · exact hP _ (hret D c4 h4 tk2 F4 (fun q hq => N4 q (List.mem_append_right _ hq)) hDn)
  by_cases h2' : xs.length < 2
  · refine sk_small hlen (by simpa using h2') (end_ _ ?_)
    unfold sortN
    rw [if_pos h2']
  · have hkl : ks.length = xs.length := K.1
    refine kat_end (h₀ := h₀) (L := L) (m := m) (e := e) (b := false) hlen (by simp; omega) (by simpa using h64) ?_
    refine kas_kind (T := .type "list") (by omega) ?_ (by decide) (by decide) ?_
    · intro v hv
      obtain ⟨j, hj, rfl⟩ := List.getElem_of_mem hv
      obtain ⟨a, t, n', e', hm⟩ := K.2 j (by omega)
      rw [List.getD_eq_getElem?_getD, List.getElem?_eq_getElem hj] at e'
      have e2 : ks[j] = .ref a := e'
      rw [e2]
      have ho := (N2 _ (List.mem_append_left _ hm)).1
      exact (show Looks _ h2 (typeOf (.ref a)) _ from (Looks.ld ho).andThen .now)
    · have hok' : kasOk xs.length (ltOf xs) (fun p => p.toList.all fun i => decide (i < xs.length)) (kas_sort xs.length) = true := by
        unfold sortOk at hok
        rw [if_neg h2'] at hok
        exact hok
      have hlv : (xs.map fun i => Value.ref (ra i)).length = xs.length := List.length_map ..
      rw [hlv]
      refine kas_plain (n := xs.length) (c := ltOf xs) (f := fun p => p.toList.all fun i => decide (i < xs.length)) ?_ _ hok' fun hf => end_ _ ?_
      · intro i j C hi hj hC
        obtain ⟨a, t, n', e', hm⟩ := K.2 i hi
        obtain ⟨b, u, n'', e'', hm'⟩ := K.2 j hj
        have hai := hx _ (getD_lt (d := 0) hi)
        have hbj := hx _ (getD_lt (d := 0) hj)
        obtain ⟨va, na, hra, ia⟩ := R _ hai
        obtain ⟨vb, nb, hrb, ib⟩ := R _ hbj
        show wpAny (model prg w) A.in1.in1 (keyLt' oneType' (ks.getD i Value.none) (ks.getD j Value.none)) C _ _
        rw [e', e'']
        have up : ∀ q ∈ news, q ∈ ents ++ (kS, seqObj "list" (List.toArray ks) e) :: (D, seqObj "list" #[] e1) :: news := fun q hq => List.mem_append_right _ (.tail _ (.tail _ hq))
        refine keyLt_entry (isList_news N2 (List.mem_append_left _ hm)) (isList_news N2 (List.mem_append_left _ hm')) (isList_news N2 (up _ hra)) ia (isList_news N2 (up _ hrb)) ib (by show A.units + 1 + 1 + 80 < _; omega) ?_
        rw [ent_rank hs hai hbj]
        exact hC
      · unfold sortN
        rw [if_neg h2', List.map_map]
        show List.map _ _ = List.map _ _
        refine List.map_congr_left fun i hi => ?_
        have hi' : i < xs.length := by simpa using List.all_eq_true.mp hf i hi
        show (xs.map fun i => Value.ref (ra i)).getD i Value.none = Value.ref (ra (xs.getD i 0))
        simp [List.getD_eq_getElem?_getD, hi']
end
end Mine
end

section
open PySem PySem.W PyProof.Rows
set_option Elab.async false
set_option maxRecDepth 100000
set_option maxHeartbeats 8000000
set_option linter.all false
namespace Mine
local macro_rules | `(tactic| ktr_rel) => `(tactic| first
  | (with_reducible show wpAny _ _ (eval (Expr.Lambda _ _ _ _) _) _ _ _)
  | (with_reducible show wpAny _ _ (call (Value.builtin "sorted") _ _) _ _ _)
  | (with_reducible show wpAny _ _ (call (Value.builtin "len") _ _) _ _ _))
local macro_rules | `(tactic| ktr_unf) => `(tactic| repeat' (first | (k_unfold; (try dsimp only)) | ((fail_if_success ktr_rel); first | walk1 | (dsimp only; walk1))))
local macro_rules | `(tactic| ktr_enter) => `(tactic| (
  have fill : PySem.Challenge.rw_op0048_01 = PySem.Challenge.rw_op0048_01 ∧ Mine.hd.heap_39 = Mine.hd.heap_39 := by
    k_fill
    exact ⟨rfl, rfl⟩
  clear fill
  w_top on
  refine wpAny_call ?_
  k_dflt (refine' callY ?k2 ?k3 ?k4 ?k5 ?k6 ?k7 ?k8 ?k9 ?kB ?_ ?c2 ?c3 ?c4 ?c5; (case k2 => k_asm); (case k3 => k_asm); (case k4 => k_asm); (case k5 => k_asm); (case k6 => k_is); (case k7 => k_is); (case k8 => omega); (case k9 => exact BindsTo.of_eq rfl); (case c5 => decide); (case kB => exact locs rfl); (case c2 => exact rfl); (case c3 => exact rfl); (case c4 => exact rfl); k_whole; intro g' L' h' F' N' X' T' l1; (try dsimp only); (try k_fold))))

theorem by_size_1 {w : World} {p : Program} {loose : List Str} {mean : ExcName → Option Value} {mg mb : Str → Option Value}
    {A : Around} {h₀ : Heap} {L : Addr} {m : Str → Option Value} {news : List (Addr × Obj)} {s : Shared}
    {Q E : Value → Shared → Prop} {la : Addr} {xs : List Nat} {nl sh : Nat} {ra : Nat → Addr}
    (F : Fr h₀ L s.heap m) (X : (hd.heap_39 w.params).In h₀) (N : News h₀ L s.heap ((79, tabObj #[]) :: news)) (T : Top p loose mean mg mb h₀) (C : CodeHd h₀ 83 79) (h79 : ∀ q ∈ news, q.1 ≠ 79) (hh : A.handled = none)
    (R : RowsIn news sh ra) (hs : sh < 4) (hl : (la, listOf (xs.map fun i => Value.ref (ra i)).toArray nl) ∈ news) (hx : ∀ i ∈ xs, i < 16) (h64 : xs.length < 64) (hok : sortOk xs = true)
    (hd : A.depth + 10 < recursionLimit) (hu : A.units + 200 < cLine)
    (hret : ∀ D n2 c' oc vs t h' tk, Fr h₀ L h' m → News h₀ L h' ((D, listOf ((sortN xs).map fun i => Value.ref (ra i)).toArray n2) :: (c', oc) :: (79, tabObj (#[] ++ #[rawInt 116, rawInt 28, .ref c'])) :: news) → oc.data = .fields vs → vs[1]? = some (.str "_law_by_size.<locals>.<lambda>" t) → c' ≠ 79 → (∀ q ∈ news, q.1 ≠ c') → (∀ q ∈ news, q.1 ≠ D) → Q (.ref D) { s with heap := h', toks := tk }) :
    wpAny (model prg w) A (call (.ref 84) [.ref la]) Q E s := by
  have fill : PySem.Challenge.rw_op0048_01 = PySem.Challenge.rw_op0048_01 ∧ Mine.hd.heap_39 = Mine.hd.heap_39 := by
    k_fill
    exact ⟨rfl, rfl⟩
  clear fill
  w_top on
  refine wpAny_call ?_
  k_dflt (refine' callYS F X N T ?k6 ?k7 ?k8 ?k9 ?kB ?_ ?c2 ?c3 ?c4 ?c5; (case k6 => k_is); (case k7 => k_is); (case k8 => omega); (case k9 => exact BindsTo.of_eq rfl); (case c5 => decide); (case kB => exact locs rfl); (case c2 => exact rfl); (case c3 => exact rfl); (case c4 => exact rfl); k_whole)
  intro g1 L1 h1 F1 N1 X1 T1 st1 l1
  have C1 : CodeHd g1 83 79 := C.keeps st1
  (try dsimp only)
  (try k_fold)
  ktr_unf
  k_dflt (refine kla_eval rfl ?_)
  k_dflt (refine kla_nest F1 N1 T1 C1 rfl (UpdF.head h79) (by kn_triples) (by kn_among) rfl ?_)
  intro f' c' oc' vs' t' ct' h2 tk2 F2 N2 hd1 hd2 lc lf
  dsimp only at N2
  ktr_unf
  refine sort_t (sh := sh) (ra := ra) (xs := xs) ?kk F2 N2 hs (fun i hi => ?_) (.tail _ (.tail _ (.tail _ hl))) hx h64 hok (by show A.units + 3 + 100 < _; omega) ?_

  · intro i s1 nw Q1 E1 hi hsub F3 N3 hret3
    obtain ⟨vr, nr, hrow, ir⟩ := R i hi
    have hrow3 := hsub _ (.tail _ (.tail _ (.tail _ hrow)))
    have lvr := ints_len ir
    have svr := rows_short sh hs i hi
    refine wpAny_call ?_
    k_dflt (refine callYL F3 X1 N3 T1 (hsub _ (.head _)) (codeRec_news N3 (hsub _ (.tail _ (.head _))) hd1 hd2) ?k8 rfl (locs rfl) ?_ rfl rfl rfl (by decide))
    case k8 => show A.depth + 1 < _; omega
    intro g4 L4 h4 F4 N4 X4 T4 l4
    (try dsimp only)
    (try k_fold)
    ktr_unf
    have evr : vr.toArray.size = vr.length := by simp
    refine len_list (isList_news N4 hrow3) (by omega) ?_
    ktr_unf
    rename_i l5 h5 F5 N5 l6 kF kN kT kX
    have hsz : (vr.toArray.size : Int) = sizeOf' i := by
      unfold sizeOf'
      rw [evr, lvr]
      unfold rowI
      simp
    rw [← hsz] at hret3
    exact hret3 l5 _ _ _ _ kF kN (fun q hq => Nat.ne_of_lt (l6 q hq))
  · exact (R i hi).elim fun vr z => z.elim fun nr z => ⟨vr, nr, .tail _ (.tail _ (.tail _ z.1)), z.2⟩
  · intro D n2 h3 tk3 F3 N3 hDn
    ktr_unf
    rename_i kF kN kT kX
    refine hret D n2 c' oc' vs' t' _ _ kF (fun q hq => kN q ?_) hd1 hd2 ?_ ?_ ?_
    · rcases List.mem_cons.mp hq with rfl | hq
      · exact .head _
      · exact .tail _ (.tail _ hq)
    · exact Nat.ne_of_gt (lc _ (.head _))
    · exact fun q hq => Nat.ne_of_lt (lc q (.tail _ hq))
    · exact fun q hq => hDn q (.tail _ (.tail _ (.tail _ hq)))


theorem by_size_2 {w : World} {p : Program} {loose : List Str} {mean : ExcName → Option Value} {mg mb : Str → Option Value}
    {A : Around} {h₀ : Heap} {L : Addr} {m : Str → Option Value} {news : List (Addr × Obj)} {s : Shared}
    {Q E : Value → Shared → Prop} {la : Addr} {xs : List Nat} {nl sh : Nat} {ra : Nat → Addr} {c' : Addr} {oc' : Obj} {vs' : Array Value} {t' : Tok}
    (F : Fr h₀ L s.heap m) (X : (hd.heap_39 w.params).In h₀) (N : News h₀ L s.heap ((79, tabObj (#[] ++ #[rawInt 116, rawInt 28, .ref c'])) :: news)) (hc : (c', oc') ∈ news) (hd1 : oc'.data = .fields vs') (hd2 : vs'[1]? = some (.str "_law_by_size.<locals>.<lambda>" t')) (T : Top p loose mean mg mb h₀) (C : CodeHd h₀ 83 79) (h79 : ∀ q ∈ news, q.1 ≠ 79) (hh : A.handled = none)
    (R : RowsIn news sh ra) (hs : sh < 4) (hl : (la, listOf (xs.map fun i => Value.ref (ra i)).toArray nl) ∈ news) (hx : ∀ i ∈ xs, i < 16) (h64 : xs.length < 64) (hok : sortOk xs = true)
    (hd : A.depth + 10 < recursionLimit) (hu : A.units + 200 < cLine)
    (hret : ∀ D n2 h' tk, Fr h₀ L h' m → News h₀ L h' ((D, listOf ((sortN xs).map fun i => Value.ref (ra i)).toArray n2) :: (79, tabObj (#[] ++ #[rawInt 116, rawInt 28, .ref c'])) :: news) → (∀ q ∈ news, q.1 ≠ D) → Q (.ref D) { s with heap := h', toks := tk }) :
    wpAny (model prg w) A (call (.ref 84) [.ref la]) Q E s := by
  have fill : PySem.Challenge.rw_op0048_01 = PySem.Challenge.rw_op0048_01 ∧ Mine.hd.heap_39 = Mine.hd.heap_39 := by
    k_fill
    exact ⟨rfl, rfl⟩
  clear fill
  w_top on
  refine wpAny_call ?_
  k_dflt (refine' callYS F X N T ?k6 ?k7 ?k8 ?k9 ?kB ?_ ?c2 ?c3 ?c4 ?c5; (case k6 => k_is); (case k7 => k_is); (case k8 => omega); (case k9 => exact BindsTo.of_eq rfl); (case c5 => decide); (case kB => exact locs rfl); (case c2 => exact rfl); (case c3 => exact rfl); (case c4 => exact rfl); k_whole)
  intro g1 L1 h1 F1 N1 X1 T1 st1 l1
  have C1 : CodeHd g1 83 79 := C.keeps st1
  (try dsimp only)
  (try k_fold)
  ktr_unf
  k_dflt (refine kla_eval rfl ?_)
  k_dflt (refine kla_hit F1 N1 T1 C1 rfl (.head _) (by kn_triples) (by kn_hit) rfl ?_)
  intro f' ct' h2 tk2 F2 N2 lf
  ktr_unf
  refine sort_t (sh := sh) (ra := ra) (xs := xs) ?kk F2 N2 hs (fun i hi => ?_) (.tail _ (.tail _ hl)) hx h64 hok (by show A.units + 3 + 100 < _; omega) ?_

  · intro i s1 nw Q1 E1 hi hsub F3 N3 hret3
    obtain ⟨vr, nr, hrow, ir⟩ := R i hi
    have hrow3 := hsub _ (.tail _ (.tail _ hrow))
    have lvr := ints_len ir
    have svr := rows_short sh hs i hi
    refine wpAny_call ?_
    k_dflt (refine callYL F3 X1 N3 T1 (hsub _ (.head _)) (codeRec_news N3 (hsub _ (.tail _ (.tail _ hc))) hd1 hd2) ?k8 rfl (locs rfl) ?_ rfl rfl rfl (by decide))
    case k8 => show A.depth + 1 < _; omega
    intro g4 L4 h4 F4 N4 X4 T4 l4
    (try dsimp only)
    (try k_fold)
    ktr_unf
    have evr : vr.toArray.size = vr.length := by simp
    refine len_list (isList_news N4 hrow3) (by omega) ?_
    ktr_unf
    rename_i l5 h5 F5 N5 l6 kF kN kT kX
    have hsz : (vr.toArray.size : Int) = sizeOf' i := by
      unfold sizeOf'
      rw [evr, lvr]
      unfold rowI
      simp
    rw [← hsz] at hret3
    exact hret3 l5 _ _ _ _ kF kN (fun q hq => Nat.ne_of_lt (l6 q hq))
  · exact (R i hi).elim fun vr z => z.elim fun nr z => ⟨vr, nr, .tail _ (.tail _ z.1), z.2⟩
  · intro D n2 h3 tk3 F3 N3 hDn
    ktr_unf
    rename_i kF kN kT kX
    refine hret D n2 _ _ kF (fun q hq => kN q ?_) (fun q hq => hDn q (.tail _ (.tail _ hq)))
    rcases List.mem_cons.mp hq with rfl | hq
    · exact .head _
    · exact .tail _ (.tail _ hq)
end Mine
end

section
open PySem PySem.W PyProof.Rows PySem.Spec PySem.Calls
set_option Elab.async false
set_option maxRecDepth 100000
set_option maxHeartbeats 8000000
set_option linter.all false
namespace Mine
section
variable {prog : Program} {w : World} {A : Around} {E : Value → Shared → Prop} {s : Shared} {h₀ : Heap} {L : Addr} {m : Str → Option Value} {news : List (Addr × Obj)}
theorem sumL {l : Addr} {vs : List Value} {ns : List Int} {n : Nat} {Q : Value → Shared → Prop} (hh : A.handled = none) (F : Fr h₀ L s.heap m) (N : News h₀ L s.heap news) (hm : (l, listOf vs.toArray n) ∈ news) (hi : IntsAre vs ns)
    (h : ∀ z h' tk t', Fr h₀ L h' m → News h₀ L h' news → Q (.int z t') { s with heap := h', toks := tk }) : wpAny (model prog w) A (call (.builtin "sum") [.ref l]) Q E s := by
  have hol := (N _ hm).1
  have hls : s.heap.IsList l vs.toArray := isList_news N hm
  have hne : l ≠ s.heap.objs.size := Nat.ne_of_lt (Heap.lt_size hol)
  have W := Walks.list (prog := prog) (w := w) (A := A.in1) hh s.heap.objs.size l hne vs.toArray
  refine call_sum_walkG (wpAny_pyIter_list hls ?_)
  refine ⟨s.heap.objs.size, _, _, _, _, _, fun i => ns.getD i 0, rfl, W, ⟨⟨_, Heap.get?_push_size _ rfl, rfl, rfl⟩, hls.at fun o e => Heap.get?_push_of_some _ e⟩, fun b hb => ?_, fun i v hP => ?_, fun h' tk t' hk => ?_⟩
  · rcases List.mem_cons.mp hb with rfl | hb
    · exact Heap.lt_size (Heap.get?_push_size _ rfl)
    · obtain rfl := List.mem_singleton.mp hb
      exact Heap.lt_size (Heap.get?_push_of_some _ hol)
  · have hP' : vs[i]? = some v := by simpa using hP
    obtain ⟨hlt, rfl⟩ := List.getElem?_eq_some_iff.mp hP'
    exact ints_at hi hlt
  · have keep : ∀ b o, s.heap.get? b = some o → h'.get? b = some o := fun b o e => hk b o (fun hb => absurd (Heap.lt_size e) ((List.mem_singleton.mp hb) ▸ Nat.lt_irrefl _)) (Heap.get?_push_of_some _ e)
    exact h _ h' tk t' (F.keeps keep) (N.grown keep)
end
theorem row_item {prog : Program} {w : World} {A : Around} {E : Value → Shared → Prop} {s : Shared} {h₀ : Heap} {L D : Addr} {news : List (Addr × Obj)} {f : Nat → Value} {n i : Nat} {u : Tok} {value slice : Expr} {Q : Value → Shared → Prop} (N : News h₀ L s.heap news) (hm : (D, listOf ((List.range 16).map f).toArray n) ∈ news) (hi : i < 16) (h : Q (f i) s)
    (hs : subscripted slice false (.ref D) (.int (i : Int) u) = operate [.ref D, .int (i : Int) u] (getItem (.ref D) (.int (i : Int) u)) := by with_unfolding_all rfl) (hg : ∀ r, letTemporaryGo value (.ref D) r = pure () := by intro _; with_unfolding_all rfl) :
    wpAny (model prog w) A (subscriptTail value slice (.ref D) (.int (i : Int) u)) Q E s := by
  refine kim_list (lo := listOf ((List.range 16).map f).toArray n) (l := (List.range 16).map f) (n := n) N hm rfl rfl (by omega) (by simp; omega) ?_ h hs hg
  simp [hi]
theorem reo {α : Type} {a b c d e f g h i j q : α} {r : List α} (hq : q ∈ j :: a :: c :: d :: f :: g :: h :: r) : q ∈ a :: b :: c :: d :: e :: f :: g :: h :: i :: j :: r := by
  simp only [List.mem_cons] at hq ⊢
  rcases hq with hq | hq | hq | hq | hq | hq | hq | hq <;> simp [hq]
theorem swp {α : Type} {a b q : α} {r : List α} (hq : q ∈ a :: b :: r) : q ∈ b :: a :: r := by
  simp only [List.mem_cons] at hq ⊢
  rcases hq with hq | hq | hq <;> simp [hq]
theorem ne_of_objs {h₀ h : Heap} {L a b : Addr} {o1 o2 : Obj} {news : List (Addr × Obj)} (N : News h₀ L h news) (h1 : (a, o1) ∈ news) (h2 : (b, o2) ∈ news) (hne : o1 ≠ o2) : a ≠ b := fun e => by
  have e1 := (N _ h1).1
  have e2 := (N _ h2).1
  dsimp only at e1 e2
  rw [e, e2] at e1
  exact hne (Option.some.inj e1).symm
theorem ints_of {vs : List Value} : (∀ v ∈ vs, ∃ n t, v = .int n t) → ∃ ms, IntsAre vs ms := by
  induction vs with
  | nil => exact fun _ => ⟨[], .nil⟩
  | cons v vs ih =>
    intro h
    obtain ⟨n, t, rfl⟩ := h v (.head _)
    obtain ⟨ms, hm⟩ := ih fun u hu => h u (.tail _ hu)
    exact ⟨n :: ms, .cons n t hm⟩
theorem ints_sub {vs : List Value} {ns : List Int} (hi : IntsAre vs ns) (lo up st : Option Int) : ∃ ms, IntsAre (slicePick vs.toArray lo up st).toList ms := by
  refine ints_of fun v hv => ?_
  unfold slicePick at hv
  simp only [List.mem_filterMap] at hv
  obtain ⟨i, _, e⟩ := hv
  have e' : vs[i]? = some v := by simpa using e
  obtain ⟨hlt, rfl⟩ := List.getElem?_eq_some_iff.mp e'
  obtain ⟨t, e2⟩ := ints_at hi hlt
  exact ⟨_, t, e2⟩
theorem num15 (c z : Int) : ∃ n : Nat, n < 16 ∧ 1 + (c + z).fmod 15 = (n : Int) := by
  have e := Int.fmod_eq_emod_of_nonneg (c + z) (show (0 : Int) ≤ 15 by decide)
  have h1 := Int.emod_nonneg (c + z) (show (15 : Int) ≠ 0 by decide)
  have h2 := Int.emod_lt_of_pos (c + z) (show (0 : Int) < 15 by decide)
  refine ⟨(1 + (c + z).fmod 15).toNat, ?_, ?_⟩ <;> rw [e] <;> omega
theorem num16 (c z : Int) : ∃ n : Nat, n < 16 ∧ (c + z).fmod 16 = (n : Int) := by
  have e := Int.fmod_eq_emod_of_nonneg (c + z) (show (0 : Int) ≤ 16 by decide)
  have h1 := Int.emod_nonneg (c + z) (show (16 : Int) ≠ 0 by decide)
  have h2 := Int.emod_lt_of_pos (c + z) (show (0 : Int) < 16 by decide)
  refine ⟨((c + z).fmod 16).toNat, ?_, ?_⟩ <;> rw [e] <;> omega

/-- two lists of rows that are alike are alike -/
theorem eq_rows {w : World} {A : Around} {E : Value → Shared → Prop} {s : Shared} {h₀ : Heap} {L l b : Addr} {news : List (Addr × Obj)} {xs : List Nat} {n1 n2 sh : Nat} {ra : Nat → Addr} {Q : Value → Shared → Prop} (N : News h₀ L s.heap news) (R : RowsIn news sh ra) (hx : ∀ i ∈ xs, i < 16)
    (hl : (l, listOf (xs.map fun i => Value.ref (ra i)).toArray n1) ∈ news) (hb : (b, listOf (xs.map fun i => Value.ref (ra i)).toArray n2) ∈ news) (hu : A.units + 200 < cLine) (h : Q (.bool true) s) : wpAny (model prg w) A (compareOp .Eq (.ref l) (.ref b)) Q E s := by
  refine SeqAt.eq_listAt (e := fun _ => true) (isList_news N hl) (isList_news N hb) rfl (by omega) (fun j h1 h2 => ?_) ?_
  · have hj : j < xs.length := by simpa using h1
    obtain ⟨va, na, hra, ia⟩ := R _ (hx _ (List.getElem_mem hj))
    have e : (xs.map fun i => Value.ref (ra i)).toArray[j] = Value.ref (ra xs[j]) := by simp
    have z := EqAt.rows (A := A.in1) (isList_news N hra) ia (isList_news N hra) ia (by show A.units + 1 + 64 < cLine; omega)
    simpa using z
  · have e : ((List.range (xs.map fun i => Value.ref (ra i)).toArray.size).all fun _ => true) = true := by simp
    rw [e]
    exact h
theorem ne_rows {w : World} {A : Around} {E : Value → Shared → Prop} {s : Shared} {h₀ : Heap} {L l b : Addr} {news : List (Addr × Obj)} {xs : List Nat} {n1 n2 sh : Nat} {ra : Nat → Addr} {Q : Value → Shared → Prop} (N : News h₀ L s.heap news) (R : RowsIn news sh ra) (hx : ∀ i ∈ xs, i < 16)
    (hl : (l, listOf (xs.map fun i => Value.ref (ra i)).toArray n1) ∈ news) (hb : (b, listOf (xs.map fun i => Value.ref (ra i)).toArray n2) ∈ news) (hu : A.units + 200 < cLine) (h : Q (.bool false) s) : wpAny (model prg w) A (compareOp .NotEq (.ref l) (.ref b)) Q E s := by
  refine SeqAt.RcNeAt.lists (e := fun _ => true) (isList_news N hl) (isList_news N hb) rfl (by omega) (fun j h1 h2 => ?_) prg w E Q ?_
  · have hj : j < xs.length := by simpa using h1
    obtain ⟨va, na, hra, ia⟩ := R _ (hx _ (List.getElem_mem hj))
    have z := EqAt.rows (A := A.in1) (isList_news N hra) ia (isList_news N hra) ia (by show A.units + 1 + 64 < cLine; omega)
    simpa using z
  · have e : ((List.range (xs.map fun i => Value.ref (ra i)).toArray.size).all fun _ => true) = true := by simp
    rw [e]
    exact h
end Mine
namespace Mine
theorem reo2 {α : Type} {a b c d e f g h i j k q : α} {r : List α} (hq : q ∈ a :: i :: d :: c :: f :: g :: h :: j :: k :: r) : q ∈ a :: b :: c :: d :: e :: f :: g :: h :: i :: j :: k :: r := by
  simp only [List.mem_cons] at hq ⊢
  rcases hq with hq | hq | hq | hq | hq | hq | hq | hq | hq | hq <;> simp [hq]
/-- the state of law's last loop -/
structure M6 where
  xs : List Nat
  n : Nat
  o : Obj
end Mine
namespace Mine
theorem allLt_mem {d : Nat} {l : List (Addr × Obj)} : AllLt d l → ∀ q ∈ l, q.1 < d := by
  induction l with
  | nil => intro _ q hq; cases hq
  | cons p l ih =>
    intro x q hq
    rcases List.mem_cons.mp hq with e | hq
    · rw [e]
      exact x.1
    · exact ih x.2 q hq
end Mine
namespace Mine
theorem reo3 {α : Type} {t c b d e f g h i j q : α} {r : List α} (hq : q ∈ t :: c :: b :: d :: r) : q ∈ b :: d :: e :: t :: c :: f :: g :: h :: i :: j :: r := by
  simp only [List.mem_cons] at hq ⊢
  rcases hq with hq | hq | hq | hq | hq <;> simp [hq]
end Mine
end

section
open PySem PySem.W PyProof.Rows
set_option Elab.async false
set_option maxRecDepth 100000
set_option maxHeartbeats 8000000
set_option synthInstance.maxSize 4000
set_option synthInstance.maxHeartbeats 400000
namespace Mine
/-- the masks of the rows that a given row meets -/
def fT : List Nat := [0, 43690, 52428, 61166, 61680, 64250, 64764, 65278, 65280, 65450, 65484, 65518, 65520, 65530, 65532, 65534]
/-- each family as a mask, with the least rows in it by size and row; by the rest by 17 -/
def MT : List (List (Nat × List Nat)) := [
[(0, []), (34816, [11]), (34952, [3]), (43520, [9]), (43656, [3, 9]), (43690, [1]), (52224, [10]), (52360, [3, 10]), (52428, [2]), (60928, [9, 10]), (61064, [3, 9, 10]), (61098, [1, 10]), (61132, [2, 9]), (61166, [1, 2]), (63648, [5, 12, 11]), (64192, [9, 6, 12]), (64736, [5, 6, 10, 12]), (65280, [8]), (65416, [8, 3]), (65450, [1, 8]), (65484, [2, 8]), (65518, [1, 2, 8]), (65535, [0])],
  [(32896, [7]), (51392, [6, 11]), (59552, [5, 11, 14]), (60096, [9, 6]), (60640, [5, 6, 10]), (65264, [4, 9, 10])],
  [(61440, [12]), (63616, [12, 7, 11]), (64160, [5, 9, 12]), (64704, [6, 10, 12]), (65248, [5, 9, 6, 10, 12]), (65520, [4, 8])],
  [(57344, [13, 14]), (59520, [7, 11, 13, 14]), (60064, [5, 9, 14]), (60608, [6, 10, 13]), (61152, [5, 9, 6, 10]), (63736, [4, 3]), (65504, [8, 5, 6])],
  [(61680, [4]), (63720, [3, 5, 6, 12]), (64128, [9, 12, 7]), (64672, [5, 10, 12]), (65216, [9, 6, 10, 12])],
  [(43168, [5, 11]), (49152, [14]), (51328, [7, 11, 14]), (52416, [6, 10]), (59624, [3, 5, 6]), (60032, [9, 7, 14]), (60576, [5, 10]), (61120, [9, 6, 10]), (61664, [5, 6, 12]), (64248, [4, 3, 9]), (65472, [8, 6])],
  [(57568, [5, 6]), (63688, [3, 6, 12]), (64232, [3, 5, 9, 6, 12]), (64640, [10, 12, 7]), (65184, [5, 9, 10, 12])],
  [(40960, [13]), (43136, [7, 11, 13]), (43680, [5, 9]), (59592, [3, 6, 13]), (60136, [3, 5, 9, 6]), (60544, [10, 7, 13]), (61088, [5, 9, 10]), (61632, [6, 12]), (64250, [1, 4]), (64760, [4, 3, 10]), (65440, [8, 5])],
  [(57536, [6, 13]), (63656, [3, 5, 12]), (64200, [3, 9, 6, 12]), (64234, [1, 6, 12]), (64744, [3, 5, 6, 10, 12]), (65152, [9, 10, 12, 7])],
  [(32768, [15]), (34944, [7, 11]), (43648, [9, 7]), (51400, [3, 6]), (52352, [10, 7]), (59560, [3, 5, 14]), (60104, [3, 9, 6]), (60138, [1, 6]), (60648, [3, 5, 6, 10]), (61056, [9, 10, 7]), (61600, [5, 12]), (65272, [4, 3, 9, 10]), (65408, [8, 7])],
  [(49344, [6]), (57504, [5, 14]), (63488, [12, 11]), (63624, [3, 12]), (64168, [3, 5, 9, 12]), (64712, [3, 6, 10, 12]), (65256, [3, 5, 9, 6, 10, 12]), (65528, [4, 8, 3])],
  [(59392, [11, 13, 14]), (59528, [3, 13, 14]), (60072, [3, 5, 9, 14]), (60616, [3, 6, 10, 13]), (61160, [3, 5, 9, 6, 10]), (61568, [12, 7]), (64764, [2, 4]), (65274, [1, 4, 10]), (65512, [8, 3, 5, 6])],
  [(57472, [7, 13, 14]), (63728, [4, 11]), (64000, [9, 12]), (64136, [3, 9, 12]), (64170, [1, 12]), (64680, [3, 5, 10, 12]), (64748, [2, 5, 12]), (65224, [3, 9, 6, 10, 12]), (65258, [1, 6, 10, 12]), (65530, [1, 4, 8])],
  [(43176, [3, 5]), (51200, [11, 14]), (51336, [3, 14]), (52424, [3, 6, 10]), (59904, [9, 14]), (60040, [3, 9, 14]), (60074, [1, 14]), (60584, [3, 5, 10]), (60652, [2, 5]), (61128, [3, 9, 6, 10]), (61162, [1, 6, 10]), (63712, [5, 6, 12, 11]), (65276, [2, 4, 9]), (65480, [8, 3, 6]), (65514, [1, 8, 6])],
  [(41120, [5]), (49280, [7, 14]), (59616, [5, 6, 11]), (64240, [4, 9]), (64512, [10, 12]), (64648, [3, 10, 12]), (64716, [2, 12]), (65192, [3, 5, 9, 10, 12]), (65260, [2, 5, 9, 12]), (65532, [2, 4, 8])],
  [(43008, [11, 13]), (43144, [3, 13]), (43688, [3, 5, 9]), (60416, [10, 13]), (60552, [3, 10, 13]), (60620, [2, 13]), (61096, [3, 5, 9, 10]), (61164, [2, 5, 9]), (63680, [6, 12, 11]), (64224, [5, 9, 6, 12]), (65278, [1, 2, 4]), (65448, [8, 3, 5]), (65516, [2, 8, 5])],
  [(41088, [7, 13]), (59584, [6, 11, 13]), (60128, [5, 9, 6]), (64752, [4, 10]), (65024, [9, 10, 12]), (65160, [3, 9, 10, 12]), (65194, [1, 10, 12]), (65228, [2, 9, 12]), (65262, [1, 2, 12]), (65534, [1, 2, 4, 8])]]
def famM (gs : List Nat) : Nat := gs.foldr (fun g m => fT.getD g 0 &&& m) 65535
theorem fT_bit : ∀ g, g < 16 → ∀ r, r < 16 → (fT.getD g 0).testBit r = ((r &&& g) != 0) := by decide +kernel
theorem full_bit : ∀ r, r < 16 → (65535 : Nat).testBit r = true := by decide +kernel
theorem fam_bit {gs : List Nat} (hg : ∀ g ∈ gs, g < 16) {r : Nat} (hr : r < 16) : (famM gs).testBit r = gs.all fun g => (r &&& g) != 0 := by
  induction gs with
  | nil => exact full_bit r hr
  | cons g gs ih =>
    show (fT.getD g 0 &&& famM gs).testBit r = _
    rw [Nat.testBit_and, fT_bit g (hg g (.head _)) r hr, ih fun x hx => hg x (.tail _ hx), List.all_cons]
def look (m : Nat) : List (Nat × List Nat) → Option (List Nat)
  | [] => none
  | p :: r => bif Nat.beq p.1 m then some p.2 else look m r
def lookM (m : Nat) : Option (List Nat) := look m (MT.getD (m % 17) [])
theorem look_mem {m : Nat} {x : List Nat} : ∀ {l : List (Nat × List Nat)}, look m l = some x → (m, x) ∈ l := by
  intro l
  induction l with
  | nil => intro h; cases h
  | cons p r ih =>
    intro h
    unfold look at h
    cases hb : Nat.beq p.1 m with
    | true =>
      rw [hb] at h
      have e1 := Nat.eq_of_beq_eq_true hb
      have e2 : p.2 = x := Option.some.inj h
      rw [← e1, ← e2]
      exact .head _
    | false =>
      rw [hb] at h
      exact .tail _ (ih h)
theorem lookM_mem {m : Nat} {x : List Nat} (h : lookM m = some x) : ∃ l ∈ MT, (m, x) ∈ l := by
  have hlt : m % 17 < MT.length := Nat.lt_of_lt_of_le (Nat.mod_lt m (by decide)) (by decide)
  refine ⟨MT.getD (m % 17) [], ?_, look_mem h⟩
  rw [List.getD_eq_getElem?_getD, List.getElem?_eq_getElem hlt]
  exact List.getElem_mem hlt
theorem mt_closed : (MT.all fun l => l.all fun p => (List.range 16).all fun g => (lookM (fT.getD g 0 &&& p.1)).isSome) = true := by decide +kernel
theorem mt_full : (lookM 65535).isSome = true := by decide +kernel
theorem fam_mem {gs : List Nat} (hg : ∀ g ∈ gs, g < 16) : ∃ x, lookM (famM gs) = some x := by
  induction gs with
  | nil => exact Option.isSome_iff_exists.mp mt_full
  | cons g gs ih =>
    obtain ⟨x, hx⟩ := ih fun x hx => hg x (.tail _ hx)
    obtain ⟨l, hl, hp⟩ := lookM_mem hx
    have h1 := List.all_eq_true.mp (List.all_eq_true.mp mt_closed l hl) _ hp
    have h2 := List.all_eq_true.mp h1 g (List.mem_range.mpr (hg g (.head _)))
    exact Option.isSome_iff_exists.mp h2
theorem hit_eq : ∀ sh, sh < 4 → ∀ g, g < 16 → ∀ r, r < 16 → hit sh g r = ((r &&& g) != 0) := by decide +kernel
theorem sub_eq : ∀ sh, sh < 4 → ∀ t, t < 16 → ∀ r, r < 16 → subR sh t r = ((t &&& r) == t) := by decide +kernel
def srvM (m : Nat) : List Nat := (List.range 16).filter fun i => m.testBit i
theorem srv_eq {sh : Nat} (hs : sh < 4) {gs : List Nat} (hg : ∀ g ∈ gs, g < 16) : srvN sh gs 16 = srvM (famM gs) := by
  unfold srvN srvM
  refine List.filter_congr fun i hi => ?_
  have hi' := List.mem_range.mp hi
  rw [fam_bit hg hi']
  rw [Bool.eq_iff_iff, List.all_eq_true, List.all_eq_true]
  constructor <;> intro h g hgm
  · rw [← hit_eq sh hs g (hg g hgm) i hi']
    exact h g hgm
  · rw [hit_eq sh hs g (hg g hgm) i hi']
    exact h g hgm
def loopM : Nat → List Nat → List Nat → List Nat
  | 0, _, told => told
  | k + 1, l, told => let q := popN l.dropLast (l.getLastD 0); loopM k q.2 (if told.any fun t => (t &&& numOf q.1) == t then told else told ++ [numOf q.1])
def meetM (m : Nat) : List Nat := loopM (srvM m).length (heapifyN ((srvM m).map rankOf)) []
theorem num_lt (r : Nat) : numOf r < 16 := by
  by_cases h : r < 16
  · exact (rank_num r h).2
  · unfold numOf
    rw [List.getD_eq_getElem?_getD, List.getElem?_eq_none (by simp; omega)]
    decide
theorem loop_eq {sh : Nat} (hs : sh < 4) : ∀ k l told, (∀ t ∈ told, t < 16) → meetLoop sh k l told = loopM k l told ∧ ∀ t ∈ loopM k l told, t < 16 := by
  intro k
  induction k with
  | zero => exact fun l told h => ⟨rfl, h⟩
  | succ k ih =>
    intro l told h
    have hn := num_lt (popN l.dropLast (l.getLastD 0)).1
    have e : (told.any fun t => subR sh t (numOf (popN l.dropLast (l.getLastD 0)).1)) = told.any fun t => (t &&& numOf (popN l.dropLast (l.getLastD 0)).1) == t := by
      rw [Bool.eq_iff_iff, List.any_eq_true, List.any_eq_true]
      constructor <;> rintro ⟨t, ht, hq⟩
      · exact ⟨t, ht, by rw [← sub_eq sh hs t (h t ht) _ hn]; exact hq⟩
      · exact ⟨t, ht, by rw [sub_eq sh hs t (h t ht) _ hn]; exact hq⟩
    have h' : ∀ t ∈ (if (told.any fun t => (t &&& numOf (popN l.dropLast (l.getLastD 0)).1) == t) = true then told else told ++ [numOf (popN l.dropLast (l.getLastD 0)).1]), t < 16 := by
      intro t ht
      split at ht
      · exact h t ht
      · rcases List.mem_append.mp ht with ht | ht
        · exact h t ht
        · rw [List.mem_singleton.mp ht]; exact hn
    have z := ih (popN l.dropLast (l.getLastD 0)).2 _ h'
    unfold meetLoop loopM
    dsimp only
    rw [e]
    exact z
theorem meet_eq {sh : Nat} (hs : sh < 4) {gs : List Nat} (hg : ∀ g ∈ gs, g < 16) : meetN sh gs = meetM (famM gs) ∧ ∀ t ∈ meetM (famM gs), t < 16 := by
  have z := loop_eq hs (srvM (famM gs)).length (heapifyN ((srvM (famM gs)).map rankOf)) [] (fun _ h => nomatch h)
  unfold meetN
  rw [srv_eq hs hg]
  exact z
def needM (m i : Nat) : Bool := m.testBit i && (List.range 4).all fun k => !(i / 2 ^ k % 2 == 1 && m.testBit (i - 2 ^ k))
theorem need_bits : ∀ i, i < 16 → ∀ k, k < 4 → ∀ n, n < 16 → i / 2 ^ k % 2 = 1 → i &&& n ≠ 0 → (i &&& n = 2 ^ k ↔ ¬ (i - 2 ^ k) &&& n ≠ 0) := by decide +kernel
theorem need_eq {gs : List Nat} (hg : ∀ g ∈ gs, g < 16) {i : Nat} (hi : i < 16) : needN i gs = needM (famM gs) i := by
  unfold needN needM commonN
  have hb : ∀ r, r < 16 → ((famM gs).testBit r = true ↔ ∀ g ∈ gs, r &&& g ≠ 0) := fun r hr => by
    rw [fam_bit hg hr, List.all_eq_true]
    simp
  rw [Bool.and_comm, Bool.eq_iff_iff, Bool.and_eq_true, Bool.and_eq_true, decide_eq_true_eq, List.all_eq_true, List.all_eq_true]
  have h0 : ((0 : Int) ∉ gs.map fun n => ((i &&& n : Nat) : Int)) ↔ (famM gs).testBit i = true := by
    rw [hb i hi]
    constructor
    · intro h g hgm e
      exact h (List.mem_map.mpr ⟨g, hgm, by rw [e]; rfl⟩)
    · intro h hm
      obtain ⟨g, hgm, e⟩ := List.mem_map.mp hm
      exact h g hgm (by exact_mod_cast e)
  rw [h0]
  constructor
  · rintro ⟨h1, h2⟩
    refine ⟨h1, fun k hk => ?_⟩
    have hk4 := List.mem_range.mp hk
    have z := h2 k hk
    by_cases hbit : i / 2 ^ k % 2 = 1
    · have hi2 : i - 2 ^ k < 16 := Nat.lt_of_le_of_lt (Nat.sub_le _ _) hi
      rw [hbit] at z ⊢
      have hin : ((2 ^ k : Nat) : Int) ∈ gs.map fun n => ((i &&& n : Nat) : Int) := by
        by_cases q : ((2 ^ k : Nat) : Int) ∈ gs.map fun n => ((i &&& n : Nat) : Int)
        · exact q
        · rw [decide_eq_true q] at z
          exact absurd z (by decide)
      obtain ⟨g, hgm, e⟩ := List.mem_map.mp hin
      have e' : i &&& g = 2 ^ k := by exact_mod_cast e
      have hng := (need_bits i hi k hk4 g (hg g hgm) hbit ((hb i hi).mp h1 g hgm)).mp e'
      have : (famM gs).testBit (i - 2 ^ k) = false := by
        rw [Bool.eq_false_iff]
        intro q
        exact hng ((hb _ hi2).mp q g hgm)
      rw [this]
      rfl
    · have e : (i / 2 ^ k % 2 == 1) = false := by simpa using hbit
      rw [e]
      rfl
  · rintro ⟨h1, h2⟩
    refine ⟨h1, fun k hk => ?_⟩
    have hk4 := List.mem_range.mp hk
    have z := h2 k hk
    by_cases hbit : i / 2 ^ k % 2 = 1
    · have hi2 : i - 2 ^ k < 16 := Nat.lt_of_le_of_lt (Nat.sub_le _ _) hi
      rw [hbit] at z ⊢
      have hf : (famM gs).testBit (i - 2 ^ k) = false := by
        cases q : (famM gs).testBit (i - 2 ^ k) with
        | false => rfl
        | true => rw [q] at z; exact absurd z (by decide)
      have hex : ∃ g ∈ gs, ¬ (i - 2 ^ k) &&& g ≠ 0 := by
        by_cases q : ∃ g ∈ gs, ¬ (i - 2 ^ k) &&& g ≠ 0
        · exact q
        · have : (famM gs).testBit (i - 2 ^ k) = true := (hb _ hi2).mpr fun g hgm e => q ⟨g, hgm, fun w => w e⟩
          rw [this] at hf
          cases hf
      obtain ⟨g, hgm, hn⟩ := hex
      have e' := (need_bits i hi k hk4 g (hg g hgm) hbit ((hb i hi).mp h1 g hgm)).mpr hn
      have hin : ((2 ^ k : Nat) : Int) ∈ gs.map fun n => ((i &&& n : Nat) : Int) := List.mem_map.mpr ⟨g, hgm, by rw [e']⟩
      rw [decide_eq_false (fun w => w hin)]
      rfl
    · have e : (i / 2 ^ k % 2 == 1) = false := by simpa using hbit
      rw [e]
      rfl
/-- the due ones, as the law reckons them -/
def dueB (gs : List Nat) (i : Nat) : Bool := decide (i ∈ gs) && (gs.filter fun n => n != i && (n &&& i) == n).isEmpty
def dueM (m i : Nat) : Bool := !m.testBit (15 - i) && (List.range 4).all fun k => !(i / 2 ^ k % 2 == 1 && !m.testBit (15 - (i - 2 ^ k)))
theorem comp_bits : ∀ i, i < 16 → ∀ n, n < 16 → ((15 - i) &&& n ≠ 0 ↔ n &&& i ≠ n) := by decide +kernel
theorem due_bits1 : ∀ i, i < 16 → ∀ k, k < 4 → ∀ n, n < 16 → i / 2 ^ k % 2 = 1 → n &&& (i - 2 ^ k) = n → n ≠ i ∧ n &&& i = n := by decide +kernel
theorem due_bits2 : ∀ i, i < 16 → ∀ n, n < 16 → n ≠ i → n &&& i = n → ∃ k, k < 4 ∧ i / 2 ^ k % 2 = 1 ∧ n &&& (i - 2 ^ k) = n := by decide +kernel
theorem self_and : ∀ i, i < 16 → i &&& i = i := by decide +kernel
theorem due_eq {gs : List Nat} (hg : ∀ g ∈ gs, g < 16) {i : Nat} (hi : i < 16) : dueB gs i = dueM (famM gs) i := by
  have hb : ∀ r, r < 16 → ((!(famM gs).testBit (15 - r)) = true ↔ ∃ g ∈ gs, g &&& r = g) := fun r hr => by
    rw [fam_bit hg (by omega), Bool.not_eq_true', Bool.eq_false_iff, Ne, List.all_eq_true]
    constructor
    · intro h
      by_cases q : ∃ g ∈ gs, g &&& r = g
      · exact q
      · exact absurd (fun g hgm => by simpa using (comp_bits r hr g (hg g hgm)).mpr fun e => q ⟨g, hgm, e⟩) h
    · rintro ⟨g, hgm, e⟩ h
      have z : (15 - r) &&& g ≠ 0 := by simpa using h g hgm
      exact (comp_bits r hr g (hg g hgm)).mp z e
  unfold dueB dueM
  rw [Bool.eq_iff_iff, Bool.and_eq_true, Bool.and_eq_true, decide_eq_true_eq, List.all_eq_true, hb i hi, List.isEmpty_iff, List.filter_eq_nil_iff]
  constructor
  · rintro ⟨h1, h2⟩
    refine ⟨⟨i, h1, self_and i hi⟩, fun k hk => ?_⟩
    by_cases hbit : i / 2 ^ k % 2 = 1
    · have hi2 : i - 2 ^ k < 16 := Nat.lt_of_le_of_lt (Nat.sub_le _ _) hi
      cases q : (!(famM gs).testBit (15 - (i - 2 ^ k))) with
      | false => simp
      | true =>
        obtain ⟨g, hgm, e⟩ := (hb _ hi2).mp q
        obtain ⟨e1, e2⟩ := due_bits1 i hi k (List.mem_range.mp hk) g (hg g hgm) hbit e
        exact absurd (by simp [e1, e2]) (h2 g hgm)
    · have e : (i / 2 ^ k % 2 == 1) = false := by simpa using hbit
      rw [e]
      rfl
  · rintro ⟨⟨g, hgm, e⟩, h2⟩
    have key : ∀ n ∈ gs, n &&& i = n → n = i := by
      intro n hn hs
      by_cases q : n = i
      · exact q
      · obtain ⟨k, hk, hbit, e3⟩ := due_bits2 i hi n (hg n hn) q hs
        have z := h2 k (List.mem_range.mpr hk)
        have hi2 : i - 2 ^ k < 16 := Nat.lt_of_le_of_lt (Nat.sub_le _ _) hi
        rw [(hb _ hi2).mpr ⟨n, hn, e3⟩, hbit] at z
        exact absurd z (by decide)
    refine ⟨?_, fun n hn => ?_⟩
    · rw [← key g hgm e]
      exact hgm
    · intro w
      rw [Bool.and_eq_true] at w
      have w1 : n ≠ i := by simpa using w.1
      have w2 : n &&& i = n := by simpa using w.2
      exact w1 (key n hn w2)
/-- what is to be seen of one family -/
def chk (p : Nat × List Nat) : Bool :=
  let a := (List.range 16).filter (needM p.1)
  let b := (List.range 16).filter (dueM p.1)
  (meetM p.1 == p.2) && sortOk a && (sortN a == p.2) && sortOk b && (lookM (famM p.2) == some (sortN b)) && Nat.blt p.2.length 100
theorem chk0 : (MT.getD 0 []).all chk = true := by decide +kernel
theorem chk1 : (MT.getD 1 []).all chk = true := by decide +kernel
theorem chk2 : (MT.getD 2 []).all chk = true := by decide +kernel
theorem chk3 : (MT.getD 3 []).all chk = true := by decide +kernel
theorem chk4 : (MT.getD 4 []).all chk = true := by decide +kernel
theorem chk5 : (MT.getD 5 []).all chk = true := by decide +kernel
theorem chk6 : (MT.getD 6 []).all chk = true := by decide +kernel
theorem chk7 : (MT.getD 7 []).all chk = true := by decide +kernel
theorem chk8 : (MT.getD 8 []).all chk = true := by decide +kernel
theorem chk9 : (MT.getD 9 []).all chk = true := by decide +kernel
theorem chk10 : (MT.getD 10 []).all chk = true := by decide +kernel
theorem chk11 : (MT.getD 11 []).all chk = true := by decide +kernel
theorem chk12 : (MT.getD 12 []).all chk = true := by decide +kernel
theorem chk13 : (MT.getD 13 []).all chk = true := by decide +kernel
theorem chk14 : (MT.getD 14 []).all chk = true := by decide +kernel
theorem chk15 : (MT.getD 15 []).all chk = true := by decide +kernel
theorem chk16 : (MT.getD 16 []).all chk = true := by decide +kernel
theorem chk_all {m : Nat} {x : List Nat} (h : lookM m = some x) : chk (m, x) = true := by
  have hm := look_mem h
  have hj : m % 17 < 17 := Nat.mod_lt m (by decide)
  generalize m % 17 = j at hm hj
  have hc : (MT.getD j []).all chk = true := by
    match j, hj with
    | 0, _ => exact chk0
    | 1, _ => exact chk1
    | 2, _ => exact chk2
    | 3, _ => exact chk3
    | 4, _ => exact chk4
    | 5, _ => exact chk5
    | 6, _ => exact chk6
    | 7, _ => exact chk7
    | 8, _ => exact chk8
    | 9, _ => exact chk9
    | 10, _ => exact chk10
    | 11, _ => exact chk11
    | 12, _ => exact chk12
    | 13, _ => exact chk13
    | 14, _ => exact chk14
    | 15, _ => exact chk15
    | 16, _ => exact chk16
  exact List.all_eq_true.mp hc _ hm
/-- the plain law -/
theorem plain {sh : Nat} (hs : sh < 4) {gs : List Nat} (hg : ∀ g ∈ gs, g < 16) :
    sortOk ((List.range 16).filter fun i => needN i gs) = true ∧ sortN ((List.range 16).filter fun i => needN i gs) = meetN sh gs ∧ (∀ i ∈ meetN sh gs, i < 16) ∧ (meetN sh gs).length < 100 ∧
    sortOk ((List.range 16).filter fun i => dueB gs i) = true ∧ meetN sh (meetN sh gs) = sortN ((List.range 16).filter fun i => dueB gs i) ∧ (∀ i ∈ meetN sh (meetN sh gs), i < 16) := by
  have e1 : ((List.range 16).filter fun i => needN i gs) = (List.range 16).filter (needM (famM gs)) := List.filter_congr fun i hi => need_eq hg (List.mem_range.mp hi)
  have e2 : ((List.range 16).filter fun i => dueB gs i) = (List.range 16).filter (dueM (famM gs)) := List.filter_congr fun i hi => due_eq hg (List.mem_range.mp hi)
  obtain ⟨e3, h3⟩ := meet_eq hs hg
  obtain ⟨e4, h4⟩ := meet_eq hs h3
  obtain ⟨x, hx⟩ := fam_mem hg
  have c := chk_all hx
  unfold chk at c
  simp only [Bool.and_eq_true, beq_iff_eq] at c
  obtain ⟨⟨⟨⟨⟨c0, c1⟩, c2⟩, c3⟩, c4⟩, c5⟩ := c
  rw [← c0] at c2 c4 c5
  have c' := chk_all c4
  unfold chk at c'
  simp only [Bool.and_eq_true, beq_iff_eq] at c'
  have c6 := c'.1.1.1.1.1
  have c5' : (meetM (famM gs)).length < 100 := Nat.le_of_ble_eq_true c5
  rw [e1, e2, e3, e4]
  exact ⟨c1, c2, h3, c5', c3, c6, h4⟩
end Mine
end

section
open PySem PySem.W PyProof.Rows
set_option Elab.async false
set_option maxRecDepth 100000
set_option maxHeartbeats 0
set_option linter.all false
namespace Mine
local macro_rules | `(tactic| ktr_rel) => `(tactic| first
  | (with_reducible show wpAny _ _ (exec (Stmt.For _ _ _ _ _) _) _ _ _)
  | (with_reducible show wpAny _ _ (call (Value.ref _) _ _) _ _ _)
  | (with_reducible show wpAny _ _ (subscriptTail _ _ (Value.ref _) (Value.int _ _)) _ _ _)
  | (with_reducible show wpAny _ _ (call (Value.builtin "list.append") _ _) _ _ _)
  | (with_reducible show wpAny _ _ (eval (Expr.ListComp _ _ _ _) _) _ _ _)
  | (with_reducible show wpAny _ _ (compareOp _ _ (Value.ref _)) _ _ _)
  | (with_reducible show ForPost _ _ _ _ _ _ _ _ _ _)
  | (with_reducible show LCt.CompSrcT _ _ _ _ _ _ _ _ _ _ _ _ _ _ _)
  | (with_reducible show LCg.CompSrc _ _ _ _ _ _ _ _ _ _ _ _ _ _)
  | (with_reducible show LCg.CompEnd _ _ _ _ _ _ _ _ _ _ _ _ _ _)
  | (with_reducible show Exists _)
  | (with_reducible show wpAny _ _ (call (Value.builtin "len") _ _) _ _ _)
  | (with_reducible show wpAny _ _ (subscriptTail _ (Expr.Slice _ _ (some _) _) (Value.ref _) (Value.ref _)) _ _ _)
  | (with_reducible show wpAny _ _ (storeName _ (Str.ofString "rows") _) _ _ _)
  | (with_reducible show wpAny _ _ (storeName _ (Str.ofString "numbers") _) _ _ _)
  | (with_reducible show wpAny _ _ (storeName _ (Str.ofString "drawn") _) _ _ _)
  | (with_reducible show wpAny _ _ (binaryOp _ _ _) _ _ _)
  | (with_reducible show wpAny _ _ (call (Value.builtin "sum") _ _) _ _ _))
local macro_rules | `(tactic| ktr_unf) => `(tactic| repeat' (first | (k_unfold; (try dsimp only)) | ((fail_if_success ktr_rel); first | walk1 | (dsimp only; walk1))))
local macro_rules | `(tactic| ktr_enter) => `(tactic| (
  have fill : PySem.Challenge.rw_op0048_01 = PySem.Challenge.rw_op0048_01 ∧ Mine.hd.heap_39 = Mine.hd.heap_39 := by
    k_fill
    exact ⟨rfl, rfl⟩
  clear fill
  w_top on
  refine wpAny_call ?_
  k_dflt (refine' callY ?k2 ?k3 ?k4 ?k5 ?k6 ?k7 ?k8 ?k9 ?kB ?_ ?c2 ?c3 ?c4 ?c5; (case k2 => k_asm); (case k3 => k_asm); (case k4 => k_asm); (case k5 => k_asm); (case k6 => k_is); (case k7 => k_is); (case k8 => omega); (case k9 => exact BindsTo.of_eq rfl); (case c5 => decide); (case kB => exact locs rfl); (case c2 => exact rfl); (case c3 => exact rfl); (case c4 => exact rfl); k_whole; intro g' L' h' F' N' X' T' l1; (try dsimp only); (try k_fold))))
open PyProof.Rows.TI (Frs SameUp sameUp_of)
theorem cne43 (L : Nat) : L + 1 + 1 + 1 + 1 ≠ L + 1 + 1 + 1 := by omega
theorem cne42 (L : Nat) : L + 1 + 1 + 1 + 1 ≠ L + 1 + 1 := by omega
theorem cne41 (L : Nat) : L + 1 + 1 + 1 + 1 ≠ L + 1 := by omega
theorem cne32 (L : Nat) : L + 1 + 1 + 1 ≠ L + 1 + 1 := by omega
theorem cne31 (L : Nat) : L + 1 + 1 + 1 ≠ L + 1 := by omega
theorem cne21 (L : Nat) : L + 1 + 1 ≠ L + 1 := by omega
theorem c79 {L : Nat} (h : 79 < L) : 79 ≠ L + 1 ∧ 79 ≠ L + 1 + 1 ∧ 79 ≠ L + 1 + 1 + 1 ∧ 79 ≠ L + 1 + 1 + 1 + 1 := by omega
theorem off3_of {I C D : Addr} : ∀ {l : List (Addr × Obj)}, (∀ q ∈ l, q.1 ≠ I ∧ q.1 ≠ C ∧ q.1 ≠ D) → LCg.Off3 I C D l := by
  intro l
  induction l with
  | nil => exact fun _ => trivial
  | cons p l ih => exact fun h => ⟨h p (.head _), ih fun q hq => h q (.tail _ hq)⟩
theorem mem_ins6 {α : Type} {a b c d e f x q : α} {r : List α} (h : q ∈ a :: b :: c :: d :: e :: f :: x :: r) : q = x ∨ q ∈ a :: b :: c :: d :: e :: f :: r := by
  simp only [List.mem_cons] at h ⊢
  rcases h with h | h | h | h | h | h | h | h <;> simp [h]
theorem mem_ins9 {α : Type} {i j k a b c d e f x q : α} {r : List α} (h : q ∈ i :: j :: k :: a :: b :: c :: d :: e :: f :: x :: r) : q = x ∨ q ∈ i :: j :: k :: a :: b :: c :: d :: e :: f :: r := by
  simp only [List.mem_cons] at h ⊢
  rcases h with h | h | h | h | h | h | h | h | h | h | h <;> simp [h]
theorem law_walk : PySem.Challenge.rw_op0048_01.Holds := Mine.hd (by
  k_go0
  all_goals try k_fold
  rename_i w0 s00 s10 mg0 mb0 G0 Y0 fa o0 pm0 cd0 doc0 ho0 hcd0 hg0 X00 V0 T0 B0 TE0 TW0 xs hs0 hlay0 hL0 hr0 hl20 as0 as1 la vs as2 hL1 ra0 w10 r00 hI hr1 hc1 hc2 hD0 h1 tk1 oOne oNum oRows oDrawn dOne dNum dRows dDrawn X0 X1 T1 K1 F1 N1 l79
  refine wpAny_mono (Q := fun f s' => f = .ret (.bool true) ∧ ∃ h tk m' ps, s' = { s10 with heap := h, toks := tk } ∧ Fr (ghostOf s10.heap [(83, 79)]) s10.heap.objs.size h m' ∧ News (ghostOf s10.heap [(83, 79)]) s10.heap.objs.size h [(79, tabObj ps)]) (E := fun _ _ => False) ?walk ?_ (fun _ _ h => h.elim)
  case walk =>
    clear G0 Y0 ho0 hcd0 hT8 X00 V0 B0 TE0 TW0 hT9 hs0 hlay0 hr0 hl20 hL1 ra0 w10 r00 hr1 hc2 hD0 K1 X0 T0 hL0
    generalize ghostOf s10.heap [(83, 79)] = hb at *
    generalize s10.heap.objs.size = L0 at *
    dsimp only at codeHd
    ktr_unf
    rename_i Dd wd hh1 F1 N1 iwd hlen24 _ ltD
    refine storeX_C F1 N1 rfl (UpdF.tail (Nat.ne_of_gt ltD.2.2.2.1) (UpdF.tail (cne41 _) (UpdF.tail (cne31 _) (UpdF.tail (cne21 _) (UpdF.head fun q hq => by simp only [List.mem_singleton] at hq; rw [hq]; exact Nat.ne_of_lt (Nat.lt_succ_of_lt l79)))))) dDrawn ?_ rfl rfl
    intro hh2 od F2 N2 dd
    ktr_unf
    k_dflt (refine LCg.ListComp_U (F₀ := F2) (by with_unfolding_all rfl) (by decide) (by rfl) (by decide) (by rfl) ?_)
    ktr_unf
    rename_i hh3 tk3 t1 u1 v1 hR F3 N3 ks3
    obtain ⟨sh, hsh, esh⟩ : ∃ sh : Nat, sh < 4 ∧ sh = wd.length % 4 := ⟨_, Nat.mod_lt _ (by decide), rfl⟩
    refine LCg.CompSrc.range rfl F3 N3 hR (by decide) (n := 16) rfl (by decide) fun g => ?_
    refine compU_ind (fun j ys nw => ∃ (ra : Nat → Addr) (rl : List (Addr × Obj)), nw = ((Dd, listOf wd.toArray 0) :: (L0 + 1 + 1 + 1 + 1, oOne) :: (L0 + 1 + 1 + 1, oNum) :: (L0 + 1 + 1, oRows) :: (L0 + 1, od) :: (79, tabObj #[]) :: rl) ∧ ys = (List.range j).map (fun i => Value.ref (ra i)) ∧ (∀ i, i < j → ∃ vs n, (ra i, listOf vs.toArray n) ∈ rl ∧ IntsAre vs (rowI sh i)) ∧ (∀ q ∈ rl, q.1 ≠ Dd ∧ q.1 ≠ L0 + 1 + 1 + 1 + 1 ∧ q.1 ≠ L0 + 1 + 1 + 1 ∧ q.1 ≠ L0 + 1 + 1 ∧ q.1 ≠ L0 + 1 ∧ q.1 ≠ 79)) ?_ ?_ _ 0 [] _ (Nat.zero_add _) ⟨fun _ => 0, [], rfl, rfl, fun _ hi => absurd hi (Nat.not_lt_zero _), fun _ hq => nomatch hq⟩
    · intro j ys nw v Ia oI Ca oC Da m₂ h tk E' hj hinv hv hC hm F6 N6 off ne
      obtain ⟨ra, rl, rfl, rfl, hrl, far⟩ := hinv
      obtain ⟨tv, rfl⟩ := hv
      have e0 : (0 : Int) + (j : Int) = (j : Int) := Int.zero_add _
      rw [e0] at hm
      have lwd := ints_len iwd
      have l24 : (xs.take 24).length ≤ 24 := by simp; omega
      have ewd : wd.toArray.size = wd.length := by simp
      ktr_unf
      refine len_list (isList_news N6 (.tail _ (.tail _ (.tail _ (.head _))))) (by omega) ?_
      ktr_unf
      refine mod_int' (by decide) ?_
      have em : ((wd.toArray.size : Nat) : Int).fmod 4 = ((sh : Nat) : Int) := by
        rw [Int.fmod_eq_emod_of_nonneg _ (by decide), ewd, esh]
        norm_cast
      rw [em]
      ktr_unf
      refine pow_int_small (by omega) (by omega) (by decide) ?_
      rw [Int.toNat_natCast]
      ktr_unf
      have hjs : ∀ j, j < 16 → ∀ s, s < 4 → j * 2 ^ s < 128 := by decide
      refine PyProof.Rows.mul_int ?_ (.of_left (PySem.intBits_le_64 (by omega) (by omega)))
      have ep : (j : Int) * 2 ^ sh = ((j * 2 ^ sh : Nat) : Int) := by norm_cast
      rw [ep]
      ktr_unf
      refine places_t F6 X1 N6 T1 rfl (hjs j hj sh hsh) (split_join j hj sh hsh) (by show callerA.depth + 1 + 20 < _; decide) (by show callerA.units + 3 + 300 < _; decide) ?_
      intro h4 tk4 Dn vn nn F7 N7 hneD ivn
      rw [places_row sh hsh j hj] at ivn
      ktr_unf
      refine LCg.CompEnd.intro F7 N7 ((Dd, listOf wd.toArray 0) :: (L0 + 1 + 1 + 1 + 1, oOne) :: (L0 + 1 + 1 + 1, oNum) :: (L0 + 1 + 1, oRows) :: (L0 + 1, od) :: (79, tabObj #[]) :: (Dn, listOf vn.toArray nn) :: rl) (fun q hq => ?_) (off3_of fun q hq => ?_) trivial ⟨fun i => if i = j then Dn else ra i, (Dn, listOf vn.toArray nn) :: rl, rfl, ?_, ?_, ?_⟩
      · rcases mem_ins9 hq with rfl | hq
        · exact .head _
        · exact .tail _ hq
      · rcases mem_ins6 hq with rfl | hq
        · exact ⟨fun z => hneD _ (.head _) z.symm, fun z => hneD _ (.tail _ (.head _)) z.symm, fun z => hneD _ (.tail _ (.tail _ (.head _))) z.symm⟩
        · exact off.mem q hq
      · rw [List.range_succ, List.map_append]
        have e1 : (List.range j).map (fun i => Value.ref (if i = j then Dn else ra i)) = (List.range j).map fun i => Value.ref (ra i) := List.map_congr_left fun i hi => by rw [if_neg (Nat.ne_of_lt (List.mem_range.mp hi))]
        rw [e1]
        simp
      · intro i hi
        by_cases hij : i = j
        · subst hij
          exact ⟨vn, nn, by dsimp only; rw [if_pos rfl]; exact .head _, ivn⟩
        · obtain ⟨vs', n', hm', hv'⟩ := hrl i (by omega)
          exact ⟨vs', n', by dsimp only; rw [if_neg hij]; exact .tail _ hm', hv'⟩
      · intro q hq
        rcases List.mem_cons.mp hq with rfl | hq
        · exact ⟨fun z => hneD _ (.tail _ (.tail _ (.tail _ (.head _)))) z.symm, fun z => hneD _ (.tail _ (.tail _ (.tail _ (.tail _ (.head _))))) z.symm, fun z => hneD _ (.tail _ (.tail _ (.tail _ (.tail _ (.tail _ (.head _)))))) z.symm, fun z => hneD _ (.tail _ (.tail _ (.tail _ (.tail _ (.tail _ (.tail _ (.head _))))))) z.symm, fun z => hneD _ (.tail _ (.tail _ (.tail _ (.tail _ (.tail _ (.tail _ (.tail _ (.head _)))))))) z.symm, fun z => hneD _ (.tail _ (.tail _ (.tail _ (.tail _ (.tail _ (.tail _ (.tail _ (.tail _ (.head _))))))))) z.symm⟩
        · exact far q hq
    · intro ys nw hinv
      obtain ⟨ra, rl, rfl, rfl, hrl, far⟩ := hinv
      intro D7 h7 tk7 F7 N7 off7
      have off7' := off1_mem off7
      ktr_unf
      refine storeX_C F7 N7 rfl (UpdF.tail (fun z => off7' _ (.tail _ (.tail _ (.tail _ (.head _)))) z.symm) (UpdF.tail (Nat.ne_of_gt ltD.2.2.1) (UpdF.tail (cne42 _) (UpdF.tail (cne32 _) (UpdF.head fun q hq => ?_))))) dRows ?_ rfl rfl
      · rcases List.mem_cons.mp hq with rfl | hq
        · exact (cne21 _).symm
        · rcases List.mem_cons.mp hq with rfl | hq
          · exact (c79 l79).2.1
          · exact (far q hq).2.2.2.1
      intro hh8 oR F8 N8 dR
      have R : RowsIn rl sh ra := hrl
      obtain ⟨nR, N8'⟩ : ∃ nR, News hb L0 hh8 ((D7, listOf ((List.range 16).map fun i => Value.ref (ra i)).toArray nR) :: (Dd, listOf wd.toArray 0) :: (L0 + 1 + 1 + 1 + 1, oOne) :: (L0 + 1 + 1 + 1, oNum) :: (L0 + 1 + 1, oR) :: (L0 + 1, od) :: (79, tabObj #[]) :: rl) := ⟨_, N8⟩
      clear N8 N7 F7 off7 F3 N3 hR ks3
      have lwd := ints_len iwd
      have l24 : (xs.take 24).length ≤ 24 := by simp; omega
      have ewd : wd.toArray.size = wd.length := by simp
      ktr_unf
      refine kmk_slice3_lit (ops := ?ops0) (s := { s10 with heap := hh8, toks := _ }) F8 N8' (isList_news N8' (.tail _ (.head _))) (.int _ _) .none (.int _ _) (by decide) rfl ?_ ?hs0 ?ht0 (by rw [sizeLine_eq]; omega)
      case hs0 => with_unfolding_all rfl
      case ht0 => intro _; with_unfolding_all rfl
      intro S0 hA0 FA0 NA0 lA0
      obtain ⟨ms0, im0⟩ := ints_sub iwd (some 0) none (some 4)
      ktr_unf
      refine sumL rfl FA0 NA0 (.head _) im0 ?_
      intro z0 hB0 tkB0 tB0 FB0 NB0
      replace NB0 : News hb L0 hB0 ((D7, listOf ((List.range 16).map fun i => Value.ref (ra i)).toArray nR) :: (Dd, listOf wd.toArray 0) :: (L0 + 1 + 1 + 1 + 1, oOne) :: (L0 + 1 + 1 + 1, oNum) :: (L0 + 1 + 1, oR) :: (L0 + 1, od) :: (79, tabObj #[]) :: rl) := fun q hq => NB0 q (.tail _ hq)
      clear NA0 FA0 lA0 im0
      dsimp only
      ktr_unf
      refine PyProof.Rows.add_int ?_
      dsimp only
      ktr_unf
      refine mod_int' (by decide) ?_
      dsimp only
      ktr_unf
      refine PyProof.Rows.add_int ?_
      dsimp only
      obtain ⟨n0, hn0, en0⟩ := num15 2 z0
      rw [en0]
      ktr_unf
      refine kmk_slice3_lit (ops := ?ops1) (s := { s10 with heap := hB0, toks := _ }) FB0 NB0 (isList_news NB0 (.tail _ (.head _))) (.int _ _) .none (.int _ _) (by decide) rfl ?_ ?hs1 ?ht1 (by rw [sizeLine_eq]; omega)
      case hs1 => with_unfolding_all rfl
      case ht1 => intro _; with_unfolding_all rfl
      intro S1 hA1 FA1 NA1 lA1
      obtain ⟨ms1, im1⟩ := ints_sub iwd (some 1) none (some 4)
      ktr_unf
      refine sumL rfl FA1 NA1 (.head _) im1 ?_
      intro z1 hB1 tkB1 tB1 FB1 NB1
      replace NB1 : News hb L0 hB1 ((D7, listOf ((List.range 16).map fun i => Value.ref (ra i)).toArray nR) :: (Dd, listOf wd.toArray 0) :: (L0 + 1 + 1 + 1 + 1, oOne) :: (L0 + 1 + 1 + 1, oNum) :: (L0 + 1 + 1, oR) :: (L0 + 1, od) :: (79, tabObj #[]) :: rl) := fun q hq => NB1 q (.tail _ hq)
      clear NA1 FA1 lA1 im1
      dsimp only
      ktr_unf
      refine PyProof.Rows.add_int ?_
      dsimp only
      ktr_unf
      refine mod_int' (by decide) ?_
      dsimp only
      ktr_unf
      refine PyProof.Rows.add_int ?_
      dsimp only
      obtain ⟨n1, hn1, en1⟩ := num15 5 z1
      rw [en1]
      ktr_unf
      rename_i NL hC FC NC lC
      refine storeX_C FC NC rfl (UpdF.tail (Nat.ne_of_gt lC.2.2.2.1) (UpdF.tail (fun z => off7' _ (.tail _ (.tail _ (.head _))) z.symm) (UpdF.tail (Nat.ne_of_gt ltD.2.1) (UpdF.tail (cne43 _) (UpdF.head fun q hq => ?_))))) dNum ?_ rfl rfl
      · rcases List.mem_cons.mp hq with rfl | hq
        · exact (cne32 _).symm
        · rcases List.mem_cons.mp hq with rfl | hq
          · exact (cne31 _).symm
          · rcases List.mem_cons.mp hq with rfl | hq
            · exact (c79 l79).2.2.1
            · exact (far q hq).2.2.1
      intro hD oN FD ND' dN
      obtain ⟨tn0, tn1, nL, ND⟩ : ∃ tn0 tn1 nL, News hb L0 hD ((NL, listOf #[Value.int (n0 : Int) tn0, Value.int (n1 : Int) tn1] nL) :: (D7, listOf ((List.range 16).map fun i => Value.ref (ra i)).toArray nR) :: (Dd, listOf wd.toArray 0) :: (L0 + 1 + 1 + 1 + 1, oOne) :: (L0 + 1 + 1 + 1, oN) :: (L0 + 1 + 1, oR) :: (L0 + 1, od) :: (79, tabObj #[]) :: rl) := ⟨_, _, _, ND'⟩
      clear ND' NC FC
      ktr_unf
      refine kmk_slice3_lit (ops := ?ops2) (s := { s10 with heap := hD, toks := _ }) FD ND (isList_news ND (.tail _ (.tail _ (.head _)))) (.int _ _) .none (.int _ _) (by decide) rfl ?_ ?hs2 ?ht2 (by rw [sizeLine_eq]; omega)
      case hs2 => with_unfolding_all rfl
      case ht2 => intro _; with_unfolding_all rfl
      intro S2 hA2 FA2 NA2 lA2
      obtain ⟨ms2, im2⟩ := ints_sub iwd (some 2) none (some 4)
      ktr_unf
      refine sumL rfl FA2 NA2 (.head _) im2 ?_
      intro z2 hB2 tkB2 tB2 FB2 NB2
      replace NB2 : News hb L0 hB2 ((NL, listOf #[Value.int (n0 : Int) tn0, Value.int (n1 : Int) tn1] nL) :: (D7, listOf ((List.range 16).map fun i => Value.ref (ra i)).toArray nR) :: (Dd, listOf wd.toArray 0) :: (L0 + 1 + 1 + 1 + 1, oOne) :: (L0 + 1 + 1 + 1, oN) :: (L0 + 1 + 1, oR) :: (L0 + 1, od) :: (79, tabObj #[]) :: rl) := fun q hq => NB2 q (.tail _ hq)
      clear NA2 FA2 lA2 im2
      dsimp only
      ktr_unf
      refine PyProof.Rows.add_int ?_
      dsimp only
      ktr_unf
      refine mod_int' (by decide) ?_
      dsimp only
      ktr_unf
      refine PyProof.Rows.add_int ?_
      dsimp only
      obtain ⟨n2, hn2, en2⟩ := num15 11 z2
      rw [en2]
      ktr_unf
      refine kmk_slice3_lit (ops := ?ops3) (s := { s10 with heap := hB2, toks := _ }) FB2 NB2 (isList_news NB2 (.tail _ (.tail _ (.head _)))) (.int _ _) .none (.int _ _) (by decide) rfl ?_ ?hs3 ?ht3 (by rw [sizeLine_eq]; omega)
      case hs3 => with_unfolding_all rfl
      case ht3 => intro _; with_unfolding_all rfl
      intro S3 hA3 FA3 NA3 lA3
      obtain ⟨ms3, im3⟩ := ints_sub iwd (some 3) none (some 4)
      ktr_unf
      refine sumL rfl FA3 NA3 (.head _) im3 ?_
      intro z3 hB3 tkB3 tB3 FB3 NB3
      replace NB3 : News hb L0 hB3 ((NL, listOf #[Value.int (n0 : Int) tn0, Value.int (n1 : Int) tn1] nL) :: (D7, listOf ((List.range 16).map fun i => Value.ref (ra i)).toArray nR) :: (Dd, listOf wd.toArray 0) :: (L0 + 1 + 1 + 1 + 1, oOne) :: (L0 + 1 + 1 + 1, oN) :: (L0 + 1 + 1, oR) :: (L0 + 1, od) :: (79, tabObj #[]) :: rl) := fun q hq => NB3 q (.tail _ hq)
      clear NA3 FA3 lA3 im3
      dsimp only
      ktr_unf
      refine PyProof.Rows.add_int ?_
      dsimp only
      ktr_unf
      refine mod_int' (by decide) ?_
      dsimp only
      obtain ⟨n3, hn3, en3⟩ := num16 7 z3
      rw [en3]
      ktr_unf
      rename_i NP hE FE NE lE
      refine kmk_add_ints FE NE (isList_news NE (.tail _ (.head _))) (isList_news NE (.head _)) (.cons _ _ (.cons _ _ .nil)) (.cons _ _ (.cons _ _ .nil)) ?_ (by show 4 ≤ sizeLine; decide)
      intro NM ws hF FF NF lF iws
      ktr_unf
      refine storeX_C FF NF rfl (UpdF.tail (Nat.ne_of_gt (lF _ (.tail _ (.tail _ (.tail _ (.tail _ (.tail _ (.head _)))))))) (UpdF.tail (Nat.ne_of_gt lE.2.2.2.2.1) (UpdF.tail (Nat.ne_of_gt lC.2.2.2.1) (UpdF.tail (fun z => off7' _ (.tail _ (.tail _ (.head _))) z.symm) (UpdF.tail (Nat.ne_of_gt ltD.2.1) (UpdF.tail (cne43 _) (UpdF.head fun q hq => ?_))))))) dN ?_ rfl rfl
      · rcases List.mem_cons.mp hq with rfl | hq
        · exact (cne32 _).symm
        · rcases List.mem_cons.mp hq with rfl | hq
          · exact (cne31 _).symm
          · rcases List.mem_cons.mp hq with rfl | hq
            · exact (c79 l79).2.2.1
            · exact (far q hq).2.2.1
      intro hG oM FG NG' dM
      obtain ⟨nM, NG⟩ : ∃ nM, News hb L0 hG ((NM, listOf ws.toArray nM) :: (D7, listOf ((List.range 16).map fun i => Value.ref (ra i)).toArray nR) :: (Dd, listOf wd.toArray 0) :: (L0 + 1 + 1 + 1 + 1, oOne) :: (L0 + 1 + 1 + 1, oM) :: (L0 + 1 + 1, oR) :: (L0 + 1, od) :: (79, tabObj #[]) :: rl) := ⟨_, fun q hq => NG' q (by rcases List.mem_cons.mp hq with rfl | hq; exact .head _; exact .tail _ (.tail _ (.tail _ hq)))⟩
      have iM : IntsAre ws ([n0, n1, n2, n3].map fun n : Nat => (n : Int)) := iws
      have hMr : ∀ q ∈ rl, q.1 < NM := fun q hq => lF q (List.mem_cons_of_mem _ (List.mem_cons_of_mem _ (List.mem_cons_of_mem _ (List.mem_cons_of_mem _ (List.mem_cons_of_mem _ (List.mem_cons_of_mem _ (List.mem_cons_of_mem _ (List.mem_cons_of_mem _ (List.mem_cons_of_mem _ hq)))))))))
      have hMl : L0 + 1 + 1 + 1 + 1 < NM ∧ D7 < NM ∧ 79 < NM := ⟨lF _ (.tail _ (.tail _ (.tail _ (.tail _ (.head _))))), lF _ (.tail _ (.tail _ (.head _))), lF _ (.tail _ (.tail _ (.tail _ (.tail _ (.tail _ (.tail _ (.tail _ (.tail _ (.head _))))))))) ⟩
      clear NG' NF FF NE FE lE lC en0 en1 en2 en3 iws
      have lM := ints_len iM
      have lM4 : ws.length = 4 := by simpa using lM
      have hgs : ∀ t ∈ [n0, n1, n2, n3], t < 16 := by
        intro t ht
        simp only [List.mem_cons, List.not_mem_nil, or_false] at ht
        rcases ht with rfl | rfl | rfl | rfl <;> assumption
      generalize hgsd : [n0, n1, n2, n3] = gs at iM hgs
      have lgs : gs.length = 4 := by rw [← hgsd]; rfl
      have iMP : True → IntsAre ws (gs.map fun n : Nat => (n : Int)) := fun _ => iM
      ktr_unf
      k_dflt (refine LCg.ListComp_U (F₀ := FG) (by with_unfolding_all rfl) (by decide) (by rfl) (by decide) (by rfl) ?_)
      ktr_unf
      refine LCg.CompSrc.ledger rfl FG NG (.head _) (by rw [sizeLine_eq]; simp; omega) fun g4 => ?_
      refine compU_ind (fun j ys nw => nw = ((NM, listOf ws.toArray nM) :: (D7, listOf ((List.range 16).map fun i => Value.ref (ra i)).toArray nR) :: (Dd, listOf wd.toArray 0) :: (L0 + 1 + 1 + 1 + 1, oOne) :: (L0 + 1 + 1 + 1, oM) :: (L0 + 1 + 1, oR) :: (L0 + 1, od) :: (79, tabObj #[]) :: rl) ∧ ys = (gs.take j).map fun i => Value.ref (ra i)) ?_ ?_ _ 0 [] _ (Nat.zero_add _) ⟨rfl, rfl⟩
      · intro j ys nw v Ia oI Ca oC Da m₂ h tk E' hj hinv hv hC hm F6 N6 off ne
        obtain ⟨rfl, rfl⟩ := hinv
        obtain ⟨z, tz, rfl, hz, htk⟩ := ints_get (iMP trivial) (by simpa using hv)
        obtain ⟨k, hk, rfl⟩ : ∃ k : Nat, gs[j]? = some k ∧ z = (k : Int) := by
          rw [List.getElem?_map] at hz
          cases h9 : gs[j]? with
          | none => rw [h9] at hz; cases hz
          | some k => rw [h9] at hz; exact ⟨k, rfl, (Option.some.inj hz).symm⟩
        have hk16 := hgs k (List.mem_of_getElem? hk)
        ktr_unf
        refine row_item N6 (.tail _ (.tail _ (.tail _ (.tail _ (.head _))))) hk16 ?_
        ktr_unf
        refine LCg.CompEnd.intro F6 N6 _ (fun _ h => h) off (.inr ⟨_, .head _, rfl, _, rfl⟩) ⟨rfl, ?_⟩
        rw [List.take_succ, hk, List.map_append]
        rfl
      · intro ys nw hinv
        obtain ⟨rfl, rfl⟩ := hinv
        intro D8 h8 tk8 F8' N8' off8
        have off8' := off1_mem off8
        rw [show (gs.take ws.toArray.size) = gs from List.take_of_length_le (by simp; omega)] at N8'
        ktr_unf
        obtain ⟨n8, N8⟩ : ∃ n8, News hb L0 h8 ((D8, listOf (gs.map fun i => Value.ref (ra i)).toArray n8) :: (NM, listOf ws.toArray nM) :: (D7, listOf ((List.range 16).map fun i => Value.ref (ra i)).toArray nR) :: (Dd, listOf wd.toArray 0) :: (L0 + 1 + 1 + 1 + 1, oOne) :: (L0 + 1 + 1 + 1, oM) :: (L0 + 1 + 1, oR) :: (L0 + 1, od) :: (79, tabObj #[]) :: rl) := ⟨_, N8'⟩
        clear N8'
        have R6 : RowsIn ((D8, listOf (gs.map fun i => Value.ref (ra i)).toArray n8) :: (NM, listOf ws.toArray nM) :: (D7, listOf ((List.range 16).map fun i => Value.ref (ra i)).toArray nR) :: (Dd, listOf wd.toArray 0) :: (L0 + 1 + 1 + 1 + 1, oOne) :: (L0 + 1 + 1 + 1, oM) :: (L0 + 1 + 1, oR) :: (L0 + 1, od) :: (79, tabObj #[]) :: rl) sh ra := fun i hi => (R i hi).elim fun vs z => z.elim fun n z => ⟨vs, n, (List.mem_cons_of_mem _ (List.mem_cons_of_mem _ (List.mem_cons_of_mem _ (List.mem_cons_of_mem _ (List.mem_cons_of_mem _ (List.mem_cons_of_mem _ (List.mem_cons_of_mem _ (List.mem_cons_of_mem _ (List.mem_cons_of_mem _ z.1))))))))), z.2⟩
        refine meeting_t (frs := []) (outer := []) (gs := gs) (FS.mk F8' (by rw [List.append_nil]; exact N8) trivial (fun _ _ h => nomatch h)) X1 T1 rfl rfl (show ScopeKind.function ≠ ScopeKind.module by decide) rfl R6 hsh (.head _) hgs (by omega) (.tail _ (.tail _ (.head _))) (by show callerA.depth + 1 + 50 < _; decide) (by show callerA.units + 3 + 700 < _; decide) ?_
        intro h9 tk9 frs9 ta nt SU9 S9
        cases frs9 with
        | cons _ _ => exact SU9.elim
        | nil =>
          have F9 := S9.fr
          have N9 := S9.news
          rw [List.append_nil] at N9
          clear S9 SU9 F8' N8
          ktr_unf
          rename_i h10 F10 N10
          replace N10 : News hb L0 h10 ((79, tabObj #[]) :: (ta, listOf ((meetN sh gs).map fun i => Value.ref (ra i)).toArray nt) :: (NM, listOf ws.toArray nM) :: (D7, listOf ((List.range 16).map fun i => Value.ref (ra i)).toArray nR) :: (L0 + 1 + 1 + 1 + 1, oOne) :: (L0 + 1 + 1 + 1, oM) :: (L0 + 1 + 1, oR) :: rl) := fun q hq => N10 q (reo hq)
          (try clear R6); (try clear off8)
          obtain ⟨pl1, pl2, pl3, pl4, pl5, pl6, pl7⟩ := plain hsh hgs
          k_dflt (refine LCt.ListComp_T (F₀ := F10) (by with_unfolding_all rfl) (by decide) (by rfl) (by decide) (by rfl) ?_)
          ktr_unf
          rename_i h11 tk11 t11 u11 v11 hR11 F11 N11 ks11
          refine LCt.CompSrcT.range rfl F11 N11 hR11 (by decide) (n := 16) rfl (by decide) fun g5 => ?_
          refine compT_ind (fun j ys nw => nw = ((79, tabObj #[]) :: (ta, listOf ((meetN sh gs).map fun i => Value.ref (ra i)).toArray nt) :: (NM, listOf ws.toArray nM) :: (D7, listOf ((List.range 16).map fun i => Value.ref (ra i)).toArray nR) :: (L0 + 1 + 1 + 1 + 1, oOne) :: (L0 + 1 + 1 + 1, oM) :: (L0 + 1 + 1, oR) :: rl) ∧ ys = ((List.range j).filter fun i => needN i gs).map fun i => Value.ref (ra i)) ?_ ?_ _ 0 [] _ (Nat.zero_add _) ⟨rfl, rfl⟩
          · intro j ys nw v Ia oI Ca oC Da m₂ h tk E' hj hinv hv hC hm F6 N6 off ne
            obtain ⟨rfl, rfl⟩ := hinv
            obtain ⟨tv, rfl⟩ := hv
            have e0 : (0 : Int) + (j : Int) = (j : Int) := Int.zero_add _
            rw [e0] at hm
            ktr_unf
            refine needed_t F6 X1 N6 T1 rfl (.tail _ (.tail _ (.tail _ (.tail _ (.tail _ (.head _)))))) (iMP trivial) (by omega) (by show callerA.depth + 1 + 10 < _; decide) (by show callerA.units + 3 + 200 < _; decide) ?_
            intro h7 tk7 F7 N7
            have er : (List.range (j + 1)).filter (fun i => needN i gs) = (List.range j).filter (fun i => needN i gs) ++ (if needN j gs then [j] else []) := by
              rw [List.range_succ, List.filter_append, List.filter_cons, List.filter_nil]
            cases hb9 : needN j gs with
            | true =>
              rw [hb9, if_pos rfl] at er
              ktr_unf
              refine row_item N7 (.tail _ (.tail _ (.tail _ (.tail _ (.tail _ (.tail _ (.head _))))))) hj ?_
              ktr_unf
              refine LCg.CompEnd.intro F7 N7 _ (fun _ h => h) off trivial ⟨rfl, ?_⟩
              rw [er, List.map_append]
              rfl
            | false =>
              rw [hb9, if_neg Bool.false_ne_true] at er
              ktr_unf
              refine LCg.CompEnd.intro F7 N7 _ (fun _ h => h) off trivial ⟨rfl, ?_⟩
              rw [er, List.append_nil]
          · intro ys nw hinv
            obtain ⟨rfl, rfl⟩ := hinv
            intro D10 h12 tk12 F12 N12 off12
            have off12' := off1_mem off12
            obtain ⟨n12, N12'⟩ : ∃ n12, News hb L0 h12 ((79, tabObj #[]) :: (D10, listOf (((List.range 16).filter fun i => needN i gs).map fun i => Value.ref (ra i)).toArray n12) :: (ta, listOf ((meetN sh gs).map fun i => Value.ref (ra i)).toArray nt) :: (NM, listOf ws.toArray nM) :: (D7, listOf ((List.range 16).map fun i => Value.ref (ra i)).toArray nR) :: (L0 + 1 + 1 + 1 + 1, oOne) :: (L0 + 1 + 1 + 1, oM) :: (L0 + 1 + 1, oR) :: rl) := ⟨_, fun q hq => N12 q (swp hq)⟩
            clear N12
            have h79n : ∀ q ∈ ((D10, listOf (((List.range 16).filter fun i => needN i gs).map fun i => Value.ref (ra i)).toArray n12) :: (ta, listOf ((meetN sh gs).map fun i => Value.ref (ra i)).toArray nt) :: (NM, listOf ws.toArray nM) :: (D7, listOf ((List.range 16).map fun i => Value.ref (ra i)).toArray nR) :: (L0 + 1 + 1 + 1 + 1, oOne) :: (L0 + 1 + 1 + 1, oM) :: (L0 + 1 + 1, oR) :: rl), q.1 ≠ 79 := by
              intro q hq
              rcases List.mem_cons.mp hq with rfl | hq
              · exact fun z => off12' _ (.head _) z.symm
              rcases List.mem_cons.mp hq with rfl | hq
              · exact ne_of_objs N12' (.tail _ (.tail _ (.head _))) (.head _) (fun e => by cases (congrArg Obj.cls e))
              rcases List.mem_cons.mp hq with rfl | hq
              · exact Nat.ne_of_gt hMl.2.2
              rcases List.mem_cons.mp hq with rfl | hq
              · exact fun z => off7' _ (.tail _ (.tail _ (.tail _ (.tail _ (.tail _ (.head _)))))) z.symm
              rcases List.mem_cons.mp hq with rfl | hq
              · exact (c79 l79).2.2.2.symm
              rcases List.mem_cons.mp hq with rfl | hq
              · exact (c79 l79).2.2.1.symm
              rcases List.mem_cons.mp hq with rfl | hq
              · exact (c79 l79).2.1.symm
              · exact (far q hq).2.2.2.2.2
            have R12 : RowsIn ((D10, listOf (((List.range 16).filter fun i => needN i gs).map fun i => Value.ref (ra i)).toArray n12) :: (ta, listOf ((meetN sh gs).map fun i => Value.ref (ra i)).toArray nt) :: (NM, listOf ws.toArray nM) :: (D7, listOf ((List.range 16).map fun i => Value.ref (ra i)).toArray nR) :: (L0 + 1 + 1 + 1 + 1, oOne) :: (L0 + 1 + 1 + 1, oM) :: (L0 + 1 + 1, oR) :: rl) sh ra := fun i hi => (R i hi).elim fun vs z => z.elim fun n z => ⟨vs, n, (List.mem_cons_of_mem _ (List.mem_cons_of_mem _ (List.mem_cons_of_mem _ (List.mem_cons_of_mem _ (List.mem_cons_of_mem _ (List.mem_cons_of_mem _ (List.mem_cons_of_mem _ z.1))))))), z.2⟩
            ktr_unf
            refine by_size_1 F12 X1 N12' T1 codeHd h79n rfl R12 hsh (.head _) (fun i hi => List.mem_range.mp (List.mem_filter.mp hi).1) (Nat.lt_of_le_of_lt (List.length_filter_le _ _) (by simp)) pl1 (by show callerA.depth + 1 + 10 < _; decide) (by show callerA.units + 3 + 200 < _; decide) ?_
            intro DS nS c1 oc1 vs1 q1 h13 tk13 F13 N13 hd1 hd2 hc79 hcn hDn
            rw [pl2] at N13
            ktr_unf
            dsimp only
            refine ne_rows (sh := sh) N13 (fun i hi => (R12 i hi).elim fun vs z => z.elim fun n z => ⟨vs, n, (List.mem_cons_of_mem _ (List.mem_cons_of_mem _ (List.mem_cons_of_mem _ z.1))), z.2⟩) pl3 (.tail _ (.tail _ (.tail _ (.tail _ (.head _))))) (.head _) (by show callerA.units + 3 + 200 < _; decide) ?_
            ktr_unf
            rename_i DU h14a lDU h14 F14 N14
            obtain ⟨nU, N15⟩ : ∃ nU, News hb L0 h14 ((DU, listOf (([] : List Nat).map fun i => Value.ref (ra i)).toArray nU) :: (L0 + 1 + 1 + 1 + 1, oOne) :: (79, tabObj (#[] ++ #[rawInt 116, rawInt 28, Value.ref c1])) :: (c1, oc1) :: (ta, listOf ((meetN sh gs).map fun i => Value.ref (ra i)).toArray nt) :: (NM, listOf ws.toArray nM) :: (D7, listOf ((List.range 16).map fun i => Value.ref (ra i)).toArray nR) :: (L0 + 1 + 1 + 1, oM) :: (L0 + 1 + 1, oR) :: rl) := ⟨_, fun q hq => N14 q (reo2 hq)⟩
            clear N14
            have h4r : ∀ q ∈ ((79, tabObj (#[] ++ #[rawInt 116, rawInt 28, Value.ref c1])) :: (c1, oc1) :: (ta, listOf ((meetN sh gs).map fun i => Value.ref (ra i)).toArray nt) :: (NM, listOf ws.toArray nM) :: (D7, listOf ((List.range 16).map fun i => Value.ref (ra i)).toArray nR) :: (L0 + 1 + 1 + 1, oM) :: (L0 + 1 + 1, oR) :: rl), q.1 ≠ L0 + 1 + 1 + 1 + 1 := by
              intro q hq
              rcases List.mem_cons.mp hq with rfl | hq
              · exact (c79 l79).2.2.2
              rcases List.mem_cons.mp hq with rfl | hq
              · exact fun z => hcn _ (.tail _ (.tail _ (.tail _ (.tail _ (.head _))))) z.symm
              rcases List.mem_cons.mp hq with rfl | hq
              · exact ne_of_objs N15 (.tail _ (.tail _ (.tail _ (.tail _ (.head _))))) (.tail _ (.head _)) (fun e => by have e9 := congrArg Obj.data e; rw [dOne] at e9; cases e9)
              rcases List.mem_cons.mp hq with rfl | hq
              · exact Nat.ne_of_gt hMl.1
              rcases List.mem_cons.mp hq with rfl | hq
              · exact fun z => off7' _ (.tail _ (.head _)) z.symm
              rcases List.mem_cons.mp hq with rfl | hq
              · exact (cne43 _).symm
              rcases List.mem_cons.mp hq with rfl | hq
              · exact (cne42 _).symm
              · exact (far q hq).2.1
            have hUr : ∀ q ∈ ((79, tabObj (#[] ++ #[rawInt 116, rawInt 28, Value.ref c1])) :: (c1, oc1) :: (ta, listOf ((meetN sh gs).map fun i => Value.ref (ra i)).toArray nt) :: (NM, listOf ws.toArray nM) :: (D7, listOf ((List.range 16).map fun i => Value.ref (ra i)).toArray nR) :: (L0 + 1 + 1 + 1, oM) :: (L0 + 1 + 1, oR) :: rl), q.1 ≠ DU := by
              intro q hq
              rcases List.mem_cons.mp hq with rfl | hq
              · exact Nat.ne_of_lt lDU.2.2.1
              rcases List.mem_cons.mp hq with rfl | hq
              · exact Nat.ne_of_lt lDU.2.1
              rcases List.mem_cons.mp hq with rfl | hq
              · exact Nat.ne_of_lt lDU.2.2.2.2.1
              rcases List.mem_cons.mp hq with rfl | hq
              · exact Nat.ne_of_lt lDU.2.2.2.2.2.1
              rcases List.mem_cons.mp hq with rfl | hq
              · exact Nat.ne_of_lt lDU.2.2.2.2.2.2.1
              rcases List.mem_cons.mp hq with rfl | hq
              · exact Nat.ne_of_lt lDU.2.2.2.2.2.2.2.2.1
              rcases List.mem_cons.mp hq with rfl | hq
              · exact Nat.ne_of_lt lDU.2.2.2.2.2.2.2.2.2.1
              · exact Nat.ne_of_lt (allLt_mem lDU.2.2.2.2.2.2.2.2.2.2 q hq)
            have hU4 : DU ≠ L0 + 1 + 1 + 1 + 1 := Nat.ne_of_gt lDU.2.2.2.2.2.2.2.1
            refine forR (σ := M6) ?_ (.never) (by intro _; rfl) (by intro _ _; rfl)
            ktr_unf
            rename_i h16 tk16 t16 u16 v16 hR16 F16 N16 ks16
            refine ⟨_, t16, u16, v16, 16, fun c => ((DU, listOf (c.xs.map fun i => Value.ref (ra i)).toArray c.n) :: (L0 + 1 + 1 + 1 + 1, c.o) :: (79, tabObj (#[] ++ #[rawInt 116, rawInt 28, Value.ref c1])) :: (c1, oc1) :: (ta, listOf ((meetN sh gs).map fun i => Value.ref (ra i)).toArray nt) :: (NM, listOf ws.toArray nM) :: (D7, listOf ((List.range 16).map fun i => Value.ref (ra i)).toArray nR) :: (L0 + 1 + 1 + 1, oM) :: (L0 + 1 + 1, oR) :: rl), fun c m' => ∀ p ∈ [(Str.ofString "first", Value.ref ta), (Str.ofString "due", Value.ref DU)], m' p.1 = some p.2,
              fun k c => c.xs = (List.range k).filter (fun i => dueB gs i) ∧ ∃ v, c.o.data = .cell v, ⟨[], nU, oOne⟩, hb, _, rfl, rfl, hR16, by decide, F16, N16, all2 rfl rfl, ⟨rfl, _, dOne⟩, ?_, ?_⟩
            · rintro j ⟨xs0, n0', o0'⟩ m' h tk t I o hj ⟨hxs, v0, ho⟩ hfit F9 N9 hneI
              dsimp only at hxs ho hfit F9 N9 hneI
              have F9' := fr_kst F9 hfit
              have hI4 : I ≠ L0 + 1 + 1 + 1 + 1 := fun q => hneI _ (.tail _ (.head _)) q.symm
              have hIU : I ≠ DU := fun q => hneI _ (.head _) q.symm
              have hneR : ∀ q ∈ ((79, tabObj (#[] ++ #[rawInt 116, rawInt 28, Value.ref c1])) :: (c1, oc1) :: (ta, listOf ((meetN sh gs).map fun i => Value.ref (ra i)).toArray nt) :: (NM, listOf ws.toArray nM) :: (D7, listOf ((List.range 16).map fun i => Value.ref (ra i)).toArray nR) :: (L0 + 1 + 1 + 1, oM) :: (L0 + 1 + 1, oR) :: rl), q.1 ≠ I := fun q hq => hneI q (.tail _ (.tail _ hq))
              refine wpAny_assign_Name ?_
              refine storeX_C F9' N9 rfl (UpdF.tail hI4 (UpdF.tail hU4 (UpdF.head h4r))) ho ?_ rfl rfl
              intro h17 o17 F17 N17 d17
              ktr_unf
              have hmem : ((j : Nat) : Int) ∈ gs.map (fun n : Nat => (n : Int)) ↔ j ∈ gs := by
                constructor
                · intro hq
                  obtain ⟨n, hn, e⟩ := List.mem_map.mp hq
                  have e' : n = j := by exact_mod_cast e
                  exact e' ▸ hn
                · exact fun hq => List.mem_map.mpr ⟨j, hq, rfl⟩
              have er : (List.range (j + 1)).filter (fun i => dueB gs i) = (List.range j).filter (fun i => dueB gs i) ++ (if dueB gs j then [j] else []) := by
                rw [List.range_succ, List.filter_append, List.filter_cons, List.filter_nil]
              refine in_ints (isList_news N17 (.tail _ (.tail _ (.tail _ (.tail _ (.tail _ (.tail _ (.head _)))))))) (iMP trivial) ?_
              by_cases hin : j ∈ gs
              · rw [decide_eq_true (hmem.mpr hin)]
                ktr_unf
                k_dflt (refine LCt.ListComp_T (F₀ := F17) (by with_unfolding_all rfl) (by decide) (by rfl) (by decide) (by rfl) ?_)
                ktr_unf
                refine LCt.CompSrcT.ledger rfl F17 N17 (.tail _ (.tail _ (.tail _ (.tail _ (.tail _ (.tail _ (.head _))))))) (by rw [sizeLine_eq]; simp; omega) fun g6 => ?_
                refine compT_ind (fun k ys nw => nw = (I, o) :: ((DU, listOf (xs0.map fun i => Value.ref (ra i)).toArray n0') :: (L0 + 1 + 1 + 1 + 1, o17) :: (79, tabObj (#[] ++ #[rawInt 116, rawInt 28, Value.ref c1])) :: (c1, oc1) :: (ta, listOf ((meetN sh gs).map fun i => Value.ref (ra i)).toArray nt) :: (NM, listOf ws.toArray nM) :: (D7, listOf ((List.range 16).map fun i => Value.ref (ra i)).toArray nR) :: (L0 + 1 + 1 + 1, oM) :: (L0 + 1 + 1, oR) :: rl) ∧ ys.length = ((gs.take k).filter fun n => n != j && (n &&& j) == n).length) ?_ ?_ _ 0 [] _ (Nat.zero_add _) ⟨rfl, rfl⟩
                · intro k ys nw v Ia oI Ca oC Da m₂ h tk E' hk hinv hv hC hm F6 N6 off ne
                  obtain ⟨rfl, hys⟩ := hinv
                  obtain ⟨z, tz, rfl, hz, htk⟩ := ints_get (iMP trivial) (by simpa using hv)
                  obtain ⟨n, hn, rfl⟩ : ∃ n : Nat, gs[k]? = some n ∧ z = (n : Int) := by
                    rw [List.getElem?_map] at hz
                    cases h9 : gs[k]? with
                    | none => rw [h9] at hz; cases hz
                    | some n => rw [h9] at hz; exact ⟨n, rfl, (Option.some.inj hz).symm⟩
                  have etk : gs.take (k + 1) = gs.take k ++ [n] := by rw [List.take_succ, hn]; rfl
                  have hsrc : LCg.SrcAt hb NM ws.toArray ((I, o) :: ((DU, listOf (xs0.map fun i => Value.ref (ra i)).toArray n0') :: (L0 + 1 + 1 + 1 + 1, o17) :: (79, tabObj (#[] ++ #[rawInt 116, rawInt 28, Value.ref c1])) :: (c1, oc1) :: (ta, listOf ((meetN sh gs).map fun i => Value.ref (ra i)).toArray nt) :: (NM, listOf ws.toArray nM) :: (D7, listOf ((List.range 16).map fun i => Value.ref (ra i)).toArray nR) :: (L0 + 1 + 1 + 1, oM) :: (L0 + 1 + 1, oR) :: rl)) := .inr ⟨_, (.tail _ (.tail _ (.tail _ (.tail _ (.tail _ (.tail _ (.head _))))))), rfl, _, rfl⟩
                  ktr_unf
                  · rename_i hnj
                    refine PyProof.Rows.and_int ?_
                    have eb : Builtin.bitAnd ((n : Nat) : Int) ((j : Nat) : Int) = ((n &&& j : Nat) : Int) := rfl
                    rw [eb]
                    ktr_unf
                    · rename_i heq
                      have eP : (n != j && (n &&& j) == n) = true := by
                        have h1 : n ≠ j := fun q => hnj (by rw [q])
                        have h2 : n &&& j = n := by exact_mod_cast heq
                        simp [h1, h2]
                      refine LCg.CompEnd.intro F6 N6 _ (fun _ h => h) off hsrc ⟨rfl, ?_⟩
                      rw [etk, List.filter_append, List.filter_cons, if_pos eP, List.filter_nil, List.length_append, List.length_append, hys]
                      rfl
                    · rename_i heq
                      have eP : ¬ (n != j && (n &&& j) == n) = true := by
                        intro q
                        rw [Bool.and_eq_true] at q
                        have h2 : n &&& j = n := by simpa using q.2
                        exact heq (by rw [h2])
                      refine LCg.CompEnd.intro F6 N6 _ (fun _ h => h) off hsrc ⟨rfl, ?_⟩
                      rw [etk, List.filter_append, List.filter_cons, if_neg eP, List.filter_nil, List.append_nil, hys]
                  · rename_i hnj
                    have eP : ¬ (n != j && (n &&& j) == n) = true := by
                      intro q
                      rw [Bool.and_eq_true] at q
                      have h1 : n ≠ j := by simpa using q.1
                      exact h1 (by exact_mod_cast hnj)
                    refine LCg.CompEnd.intro F6 N6 _ (fun _ h => h) off hsrc ⟨rfl, ?_⟩
                    rw [etk, List.filter_append, List.filter_cons, if_neg eP, List.filter_nil, List.append_nil, hys]
                · intro ys nw hinv
                  obtain ⟨rfl, hys⟩ := hinv
                  intro D18 h18 tk18 F18 N18 off18
                  have off18' := off1_mem off18
                  ktr_unf
                  rename_i Z19 h19 F19 N19 l19
                  dsimp only
                  refine eq_nil (vs := ys) (isList_news (n := ys.length) N19 (.tail _ (.head _))) (isList_news N19 (.head _)) (by show callerA.units + 3 < _; decide) ?_
                  rw [show (gs.take ws.toArray.size) = gs from List.take_of_length_le (by simp; omega)] at hys
                  have ez : ys.isEmpty = (gs.filter fun n => n != j && (n &&& j) == n).isEmpty := by
                    generalize (gs.filter fun n => n != j && (n &&& j) == n) = fl at hys
                    cases ys <;> cases fl <;> simp at hys ⊢
                  rw [ez]
                  cases hfil : (gs.filter fun n => n != j && (n &&& j) == n).isEmpty with
                  | true =>
                    have hdue : dueB gs j = true := by
                      unfold dueB
                      rw [hfil, decide_eq_true hin]
                      rfl
                    rw [hdue, if_pos rfl] at er
                    ktr_unf
                    refine row_item N19 (.tail _ (.tail _ (.tail _ (.tail _ (.tail _ (.tail _ (.tail _ (.tail _ (.tail _ (.head _)))))))))) hj ?_
                    ktr_unf
                    refine app_K (vs := xs0.map fun i => Value.ref (ra i)) F19 N19 (Upd.tail (Nat.ne_of_gt l19.2.2.1) (Upd.tail (fun z => off18' _ (.tail _ (.head _)) z.symm) (Upd.tail hIU (Upd.head (List.forall_mem_cons.mpr ⟨hU4.symm, hUr⟩))))) (by rw [hxs, List.length_map]; exact Nat.lt_of_le_of_lt (List.length_filter_le _ _) (by simp; omega)) ?_
                    intro h20 F20 N20
                    ktr_unf
                    have hmap : (xs0.map fun i => Value.ref (ra i)) ++ [Value.ref (ra j)] = (xs0 ++ [j]).map fun i => Value.ref (ra i) := by
                      rw [List.map_append]
                      rfl
                    rw [hmap] at N20
                    refine ⟨_, _, ⟨xs0 ++ [j], n0' + 1, o17⟩, _, rfl, F20, fun q hq => N20 q (.tail _ (.tail _ hq)), List.forall_mem_cons.mpr ⟨hIU.symm, List.forall_mem_cons.mpr ⟨hI4.symm, hneR⟩⟩, all2 rfl rfl, ?_, _, d17⟩
                    rw [er, ← hxs]
                  | false =>
                    have hdue : dueB gs j = false := by
                      unfold dueB
                      rw [hfil, Bool.and_false]
                    rw [hdue, if_neg Bool.false_ne_true] at er
                    ktr_unf
                    refine ⟨_, _, ⟨xs0, n0', o17⟩, _, rfl, F19, fun q hq => N19 q (.tail _ (.tail _ hq)), List.forall_mem_cons.mpr ⟨hIU.symm, List.forall_mem_cons.mpr ⟨hI4.symm, hneR⟩⟩, all2 rfl rfl, ?_, _, d17⟩
                    rw [er, List.append_nil]
                    exact hxs
              · rw [decide_eq_false (fun q => hin (hmem.mp q))]
                have hdue : dueB gs j = false := by
                  unfold dueB
                  rw [decide_eq_false hin, Bool.false_and]
                rw [hdue, if_neg Bool.false_ne_true] at er
                ktr_unf
                refine ⟨_, _, ⟨xs0, n0', o17⟩, _, rfl, F17, N17, List.forall_mem_cons.mpr ⟨hIU.symm, List.forall_mem_cons.mpr ⟨hI4.symm, hneR⟩⟩, all2 rfl rfl, ?_, _, d17⟩
                rw [er, List.append_nil]
                exact hxs
            · rintro ⟨xsF, nF, oF⟩ m' h tk ⟨hxF, _⟩ hfit F9 N9
              dsimp only at hxF hfit F9 N9
              have F9' : Fr hb L0 h (kstB m' _) := fr_kst F9 hfit
              have N9' : News hb L0 h ((DU, listOf (xsF.map fun i => Value.ref (ra i)).toArray nF) :: (L0 + 1 + 1 + 1 + 1, oF) :: (79, tabObj (#[] ++ #[rawInt 116, rawInt 28, Value.ref c1])) :: (c1, oc1) :: (ta, listOf ((meetN sh gs).map fun i => Value.ref (ra i)).toArray nt) :: (NM, listOf ws.toArray nM) :: (D7, listOf ((List.range 16).map fun i => Value.ref (ra i)).toArray nR) :: (L0 + 1 + 1 + 1, oM) :: (L0 + 1 + 1, oR) :: rl) := N9
              clear F9 N9
              subst hxF
              ktr_unf
              have RF : RowsIn ((DU, listOf (((List.range 16).filter fun i => dueB gs i).map fun i => Value.ref (ra i)).toArray nF) :: (L0 + 1 + 1 + 1 + 1, oF) :: (79, tabObj (#[] ++ #[rawInt 116, rawInt 28, Value.ref c1])) :: (c1, oc1) :: (ta, listOf ((meetN sh gs).map fun i => Value.ref (ra i)).toArray nt) :: (NM, listOf ws.toArray nM) :: (D7, listOf ((List.range 16).map fun i => Value.ref (ra i)).toArray nR) :: (L0 + 1 + 1 + 1, oM) :: (L0 + 1 + 1, oR) :: rl) sh ra := fun i hi => (R i hi).elim fun vs z => z.elim fun n z => ⟨vs, n, (List.mem_cons_of_mem _ (List.mem_cons_of_mem _ (List.mem_cons_of_mem _ (List.mem_cons_of_mem _ (List.mem_cons_of_mem _ (List.mem_cons_of_mem _ (List.mem_cons_of_mem _ (List.mem_cons_of_mem _ (List.mem_cons_of_mem _ z.1))))))))), z.2⟩
              refine meeting_t (frs := []) (outer := []) (gs := meetN sh gs) (FS.mk F9' (by rw [List.append_nil]; exact N9') trivial (fun _ _ h => nomatch h)) X1 T1 rfl rfl (show ScopeKind.function ≠ ScopeKind.module by decide) rfl RF hsh (.tail _ (.tail _ (.tail _ (.tail _ (.head _))))) pl3 pl4 (.tail _ (.tail _ (.tail _ (.tail _ (.tail _ (.tail _ (.head _))))))) (by show callerA.depth + 1 + 50 < _; decide) (by show callerA.units + 3 + 700 < _; decide) ?_
              intro h21 tk21 frs21 tb ntb SU21 S21
              cases frs21 with
              | cons _ _ => exact SU21.elim
              | nil =>
                have F21 := S21.fr
                have N21 := S21.news
                rw [List.append_nil] at N21
                clear S21 SU21 F9' N9'
                have N22 : News hb L0 h21 ((79, tabObj (#[] ++ #[rawInt 116, rawInt 28, Value.ref c1])) :: (c1, oc1) :: (tb, listOf ((meetN sh (meetN sh gs)).map fun i => Value.ref (ra i)).toArray ntb) :: (DU, listOf (((List.range 16).filter fun i => dueB gs i).map fun i => Value.ref (ra i)).toArray nF) :: rl) := fun q hq => N21 q (reo3 hq)
                clear N21
                have h79f : ∀ q ∈ ((c1, oc1) :: (tb, listOf ((meetN sh (meetN sh gs)).map fun i => Value.ref (ra i)).toArray ntb) :: (DU, listOf (((List.range 16).filter fun i => dueB gs i).map fun i => Value.ref (ra i)).toArray nF) :: rl), q.1 ≠ 79 := by
                  intro q hq
                  rcases List.mem_cons.mp hq with rfl | hq
                  · exact hc79
                  rcases List.mem_cons.mp hq with rfl | hq
                  · exact ne_of_objs N22 (.tail _ (.tail _ (.head _))) (.head _) (fun e => by cases (congrArg Obj.cls e))
                  rcases List.mem_cons.mp hq with rfl | hq
                  · exact Nat.ne_of_gt lDU.2.2.1
                  · exact (far q hq).2.2.2.2.2
                have R22 : RowsIn ((c1, oc1) :: (tb, listOf ((meetN sh (meetN sh gs)).map fun i => Value.ref (ra i)).toArray ntb) :: (DU, listOf (((List.range 16).filter fun i => dueB gs i).map fun i => Value.ref (ra i)).toArray nF) :: rl) sh ra := fun i hi => (R i hi).elim fun vs z => z.elim fun n z => ⟨vs, n, .tail _ (.tail _ (.tail _ z.1)), z.2⟩
                ktr_unf
                refine by_size_2 F21 X1 N22 (.head _) hd1 hd2 T1 codeHd h79f rfl R22 hsh (.tail _ (.tail _ (.head _))) (fun i hi => List.mem_range.mp (List.mem_filter.mp hi).1) (Nat.lt_of_le_of_lt (List.length_filter_le _ _) (by simp)) pl5 (by show callerA.depth + 1 + 10 < _; decide) (by show callerA.units + 3 + 200 < _; decide) ?_
                intro D30 n30 h30 tk30 F30 N30 hD30
                rw [← pl6] at N30
                ktr_unf
                refine eq_rows (sh := sh) N30 (fun i hi => (R22 i hi).elim fun vs z => z.elim fun n z => ⟨vs, n, .tail _ (.tail _ z.1), z.2⟩) pl7 (.tail _ (.tail _ (.tail _ (.head _)))) (.head _) (by show callerA.units + 3 + 200 < _; decide) ?_
                ktr_unf
                · rfl
                · exact ⟨_, _, _, _, rfl, F30, fun q hq => N30 q (by rw [List.mem_singleton.mp hq]; exact .tail _ (.head _))⟩
  · rintro f s' ⟨rfl, h2, tk2, m2, ps2, rfl, F2, N2⟩
    refine And.intro ?_ (And.intro (GrownAt.of N2 (.head _)) True.intro)
    refine goodW_bool F2 hg0 (raisesW_false ?_) ?_
    · wrow_none_raised
    · wrow_post)
end Mine
end

theorem PySem.Challenge.cw_op0048_01_holds : PySem.Challenge.rw_op0048_01.Holds := by
  exact Mine.law_walk
