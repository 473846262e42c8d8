import PyProof.Rows.All
import Wide.All
import OpenK.AllK
import Wide.FinOn
import Lean
import PySem.Challenge.RW_vs0001_01
set_option Elab.async false
set_option rowWalk.seconds 0

section
open PySem PySem.W PyProof.Rows
namespace Mine
set_option maxRecDepth 100000 in
set_option maxHeartbeats 8000000 in
open_top hd for PySem.Challenge.rw_vs0001_01
end Mine
end

section
namespace Mine
/-! heaps over keys, purely -/
def HeapFrom (k : Nat → Int) (n t : Nat) : Prop := ∀ i, 0 < i → i < n → t ≤ (i - 1) / 2 → k ((i - 1) / 2) ≤ k i

inductive Sub (t : Nat) : Nat → Prop where
  | refl : Sub t t
  | step {c : Nat} : 0 < c → Sub t ((c - 1) / 2) → Sub t c

theorem Sub.le {t p : Nat} (h : Sub t p) : t ≤ p := by
  induction h with
  | refl => exact Nat.le_refl _
  | step h0 _ ih => omega
theorem Sub.up {t p : Nat} (h : Sub t p) (hp : t < p) : Sub t ((p - 1) / 2) := by
  cases h with
  | refl => omega
  | step _ h => exact h
theorem Sub.all : ∀ p, Sub 0 p := by
  intro p
  induction p using Nat.strongRecOn with
  | ind p ih =>
    by_cases h : p = 0
    · subst h; exact .refl
    · exact .step (by omega) (ih _ (by omega))
theorem Sub.left {t p : Nat} (h : Sub t p) : Sub t (2 * p + 1) := .step (by omega) (by rw [show (2 * p + 1 - 1) / 2 = p by omega]; exact h)
theorem Sub.right {t p : Nat} (h : Sub t p) : Sub t (2 * p + 1 + 1) := .step (by omega) (by rw [show (2 * p + 1 + 1 - 1) / 2 = p by omega]; exact h)

structure Down (k : Nat → Int) (n pos top : Nat) : Prop where
  sub : Sub top pos
  lt : pos < n
  off : ∀ i, 0 < i → i < n → top ≤ (i - 1) / 2 → (i - 1) / 2 ≠ pos → i ≠ pos → k ((i - 1) / 2) ≤ k i
  bridge : top < pos → ∀ c, 0 < c → c < n → (c - 1) / 2 = pos → k ((pos - 1) / 2) ≤ k c
structure Up (k : Nat → Int) (n pos top : Nat) : Prop where
  sub : Sub top pos
  lt : pos < n
  off : ∀ i, 0 < i → i < n → top ≤ (i - 1) / 2 → i ≠ pos → k ((i - 1) / 2) ≤ k i
  bridge : top < pos → ∀ c, 0 < c → c < n → (c - 1) / 2 = pos → k ((pos - 1) / 2) ≤ k c

def swk (k : Nat → Int) (i j : Nat) : Nat → Int := fun p => if p = i then k j else if p = j then k i else k p

theorem Down.start {k : Nat → Int} {n t : Nat} (h : HeapFrom k n (t + 1)) (ht : t < n) : Down k n t t :=
  ⟨.refl, ht, fun i h0 hn h1 h2 _ => h i h0 hn (by omega), fun h => absurd h (Nat.lt_irrefl _)⟩
theorem Down.leaf {k : Nat → Int} {n pos top : Nat} (h : Down k n pos top) (hl : ¬ pos < n / 2) : Up k n pos top :=
  ⟨h.sub, h.lt, fun i h0 hn h1 h2 => h.off i h0 hn h1 (by omega) h2, fun _ c h0 hn hc => by omega⟩
theorem Down.step {k : Nat → Int} {n pos top child : Nat} (h : Down k n pos top) (hc : (child - 1) / 2 = pos) (h0 : 0 < child) (hn : child < n)
    (least : ∀ c, 0 < c → c < n → (c - 1) / 2 = pos → k child ≤ k c) : Down (swk k child pos) n child top := by
  have hle := h.sub.le
  have hlt := h.lt
  refine ⟨.step h0 (hc ▸ h.sub), hn, fun i i0 iN i1 i2 i3 => ?_, fun _ c c0 cN cp => ?_⟩
  · unfold swk
    by_cases e1 : i = pos
    · subst e1
      have hb := h.bridge (by omega) child h0 hn hc
      rw [if_neg (by omega), if_neg (by omega), if_neg (by omega), if_pos rfl]
      exact hb
    · by_cases e2 : (i - 1) / 2 = pos
      · rw [if_neg (by omega), if_pos e2, if_neg i3, if_neg e1]
        exact least i i0 iN e2
      · rw [if_neg i2, if_neg e2, if_neg i3, if_neg e1]
        exact h.off i i0 iN i1 e2 e1
  · unfold swk
    rw [hc, if_neg (by omega), if_pos rfl, if_neg (by omega), if_neg (by omega)]
    have := h.off c c0 cN (by omega) (by omega) (by omega)
    rwa [cp] at this

theorem Up.step {k : Nat → Int} {n pos top : Nat} (h : Up k n pos top) (ht : top < pos) (hk : k pos < k ((pos - 1) / 2)) : Up (swk k ((pos - 1) / 2) pos) n ((pos - 1) / 2) top := by
  have hle := h.sub.le
  have hlt := h.lt
  have hs := h.sub.up ht
  have hsl := hs.le
  refine ⟨hs, by omega, fun i i0 iN i1 i2 => ?_, fun hg c c0 cN cp => ?_⟩
  · unfold swk
    by_cases e1 : i = pos
    · subst e1
      rw [if_pos rfl, if_neg i2, if_pos rfl]
      omega
    · by_cases e2 : (i - 1) / 2 = pos
      · rw [if_neg (by omega), if_pos e2, if_neg i2, if_neg e1]
        exact h.bridge ht i i0 iN e2
      · by_cases e3 : (i - 1) / 2 = (pos - 1) / 2
        · rw [if_pos e3, if_neg i2, if_neg e1]
          have := h.off i i0 iN i1 e1
          rw [e3] at this
          omega
        · rw [if_neg e3, if_neg e2, if_neg i2, if_neg e1]
          exact h.off i i0 iN i1 e1
  · have hgp := h.off ((pos - 1) / 2) (by omega) (by omega) (hs.up hg).le (by omega)
    unfold swk
    rw [if_neg (by omega), if_neg (by omega)]
    by_cases e1 : c = pos
    · subst e1
      rw [if_neg (by omega), if_pos rfl]
      exact hgp
    · rw [if_neg (by omega), if_neg e1]
      have := h.off c c0 cN (by omega) e1
      rw [cp] at this
      omega
theorem Up.done {k : Nat → Int} {n pos top : Nat} (h : Up k n pos top) (hd : ¬ top < pos ∨ k ((pos - 1) / 2) ≤ k pos) : HeapFrom k n top := by
  intro i i0 iN i1
  by_cases e : i = pos
  · subst e
    rcases hd with hd | hd
    · have := h.sub.le; omega
    · exact hd
  · exact h.off i i0 iN i1 e
theorem Up.push {k : Nat → Int} {n : Nat} (h : HeapFrom k n 0) : Up k (n + 1) n 0 :=
  ⟨Sub.all _, by omega, fun i i0 iN i1 i2 => h i i0 (by omega) i1, fun _ c c0 cN cp => by omega⟩
theorem HeapFrom.root {k : Nat → Int} {n : Nat} (h : HeapFrom k n 0) : ∀ i, i < n → k 0 ≤ k i := by
  intro i
  induction i using Nat.strongRecOn with
  | ind i ih =>
    intro hi
    by_cases e : i = 0
    · subst e; exact Int.le_refl _
    · exact Int.le_trans (ih ((i - 1) / 2) (by omega) (by omega)) (h i (by omega) hi (Nat.zero_le _))
theorem HeapFrom.congr {k k' : Nat → Int} {n t : Nat} (h : HeapFrom k n t) (e : ∀ i, t ≤ i → i < n → k' i = k i) : HeapFrom k' n t := by
  intro i i0 iN i1
  rw [e _ i1 (by omega), e i (by omega) iN]
  exact h i i0 iN i1
theorem HeapFrom.vac {k : Nat → Int} {n t : Nat} (ht : n ≤ 2 * t + 1) : HeapFrom k n t := fun i i0 iN i1 => by omega
theorem HeapFrom.mono {k : Nat → Int} {n n' t t' : Nat} (h : HeapFrom k n t) (hn : n' ≤ n) (ht : t ≤ t') : HeapFrom k n' t' := fun i i0 iN i1 => h i i0 (by omega) (by omega)
end Mine
end

section
open PySem PySem.W PyProof.Rows
namespace Mine
set_option maxRecDepth 100000

/-- a tuple whose first two items are ints -/
def Tup3 (h : Heap) (a : Addr) (wn n : Int) (x : Value) : Prop := ∃ tw tn ep, h.get? a = some { cls := .type "tuple", data := .seq #[.int wn tw, .int n tn, x] ep }
theorem Tup3.keeps {h h' : Heap} {a : Addr} {wn n : Int} {x : Value} (t : Tup3 h a wn n x) (k : ∀ o, h.get? a = some o → h'.get? a = some o) : Tup3 h' a wn n x :=
  let ⟨tw, tn, ep, e⟩ := t; ⟨tw, tn, ep, k _ e⟩
theorem Tup3.inj {h : Heap} {a : Addr} {w₁ n₁ w₂ n₂ : Int} {x y : Value} (t : Tup3 h a w₁ n₁ x) (u : Tup3 h a w₂ n₂ y) : w₁ = w₂ ∧ n₁ = n₂ ∧ x = y := by
  obtain ⟨tw, tn, ep, e⟩ := t
  obtain ⟨tw', tn', ep', e'⟩ := u
  rw [e] at e'
  simp only [Option.some.injEq, Obj.mk.injEq, Data.seq.injEq, Array.mk.injEq, List.cons.injEq, Value.int.injEq] at e'
  have := e'.2.2.1.1
  refine ⟨?_, ?_, ?_⟩ <;> simp_all

def lexLt (w₁ n₁ w₂ n₂ : Int) : Bool := decide (w₁ < w₂) || (decide (w₁ = w₂) && decide (n₁ < n₂))

section
variable {prog : Program} {w : World} {A : Around} {E : Value → Shared → Prop} {s : Shared}
theorem tup_lt_tree {a b : Addr} {w₁ n₁ w₂ n₂ : Int} {x y : Value} {P : PySem.Fin → Shared → Prop} (ha : Tup3 s.heap a w₁ n₁ x) (hb : Tup3 s.heap b w₂ n₂ y) (hne : ¬ (w₁ = w₂ ∧ n₁ = n₂))
    (h : P (.done (.ret (.bool (lexLt w₁ n₁ w₂ n₂)))) s) : wpAny (model prog w) A (Builtin.«tuple.__lt__» ⟨[.ref a, .ref b], []⟩) P E s := by
  obtain ⟨tw, tn, ep, ea⟩ := ha
  obtain ⟨tw', tn', ep', eb⟩ := hb
  show wpAny _ _ (isInstance (.ref b) (.type "tuple") >>= _) _ _ s
  refine wpAny_bind (wpAny_isInstance ⟨_, eb, rfl⟩ isSubtype_tuple_tuple ?_)
  simp only [Bool.not_true, Bool.false_eq_true, if_false]
  refine wpAny_bind (wpAny_tupleItemsOf ea rfl ?_)
  refine wpAny_bind (wpAny_tupleItemsOf eb rfl ?_)
  simp only [List.zip_cons_cons, List.zip_nil_right, List.forIn_cons]
  refine wpAny_bind (wpAny_bind (wpAny_bind (wpAny_eqBool_int ?_)))
  by_cases hw : w₁ = w₂
  · have hn : n₁ ≠ n₂ := fun e => hne ⟨hw, e⟩
    subst hw
    simp only [beq_self_eq_true, Bool.not_true, Bool.false_eq_true, if_false]
    refine wpAny_pure ?_
    dsimp only
    refine wpAny_bind (wpAny_bind (wpAny_eqBool_int ?_))
    have e2 : (n₁ == n₂) = false := by simpa using hn
    rw [e2]
    simp only [Bool.not_false, if_true]
    refine wpAny_bind (wpAny_rule (wpAny_bind (lt_int (wpAny_bind (wpAny_pure (wpAny_pure (wpAny_pure (wpAny_pure ?_))))))))
    simpa [lexLt] using h
  · have e1 : (w₁ == w₂) = false := by simpa using hw
    rw [e1]
    simp only [Bool.not_false, if_true]
    refine wpAny_bind (wpAny_rule (wpAny_bind (lt_int (wpAny_bind (wpAny_pure (wpAny_pure (wpAny_pure (wpAny_pure ?_))))))))
    simpa [lexLt, hw] using h

theorem tup_lt {a b : Addr} {w₁ n₁ w₂ n₂ : Int} {x y : Value} {Q : Value → Shared → Prop} (ha : Tup3 s.heap a w₁ n₁ x) (hb : Tup3 s.heap b w₂ n₂ y) (hne : ¬ (w₁ = w₂ ∧ n₁ = n₂)) (hu : A.units < cLine)
    (h : Q (.bool (lexLt w₁ n₁ w₂ n₂)) s) : wpAny (model prog w) A (richCompare .Lt (.ref a) (.ref b)) Q E s := by
  obtain ⟨_, _, _, ea⟩ := id ha
  obtain ⟨_, _, _, eb⟩ := id hb
  refine wpAny_richCompare_same_room (T := "tuple") ⟨_, ea, rfl⟩ ⟨_, eb, rfl⟩ F.slot_tuple_lt ?_ hu
  refine wpAny_call_entry F.slot_tuple_lt ⟨_, ea, rfl⟩ F.entry_tuple_lt ?_ (F.args_tuple_lt_2 _ _)
  exact tup_lt_tree ha hb hne ⟨_, rfl, (fun e => nomatch e), h⟩
end
end Mine
end

section
open PySem PySem.W PyProof.Rows
namespace Mine
set_option maxRecDepth 100000

structure Ent where
  a : Addr
  wn : Int
  n : Int
  x : Value
def Ent.key (e : Ent) : Int := e.wn * 1000 + e.n
def Ent.val (e : Ent) : Value := .ref e.a
def kz (es : Array Ent) (i : Nat) : Int := match es[i]? with
  | some e => e.key
  | none => 0

structure Good (h : Heap) (es : Array Ent) : Prop where
  tup : ∀ e ∈ es, Tup3 h e.a e.wn e.n e.x
  rng : ∀ e ∈ es, 0 ≤ e.n ∧ e.n < 1000
  nod : (es.toList.map (·.n)).Nodup
  sz : es.size ≤ 2000
theorem Good.perm {h : Heap} {es es' : Array Ent} (g : Good h es) (p : es'.Perm es) : Good h es' where
  tup := fun e he => g.tup e (p.mem_iff.mp he)
  rng := fun e he => g.rng e (p.mem_iff.mp he)
  nod := ((Array.perm_iff_toList_perm.mp p).map (·.n)).symm.nodup g.nod
  sz := p.size_eq ▸ g.sz
theorem Good.keeps {h h' : Heap} {es : Array Ent} (g : Good h es) (k : ∀ e ∈ es, ∀ o, h.get? e.a = some o → h'.get? e.a = some o) : Good h' es :=
  ⟨fun e he => (g.tup e he).keeps (k e he), g.rng, g.nod, g.sz⟩
theorem Good.off {h : Heap} {es : Array Ent} {l : Addr} {xs : Array Value} {ep : Nat} (g : Good h es) (hl : h.get? l = some (W.listOf xs ep)) : ∀ e ∈ es, e.a ≠ l := by
  intro e he q
  obtain ⟨tw, tn, ep', h'⟩ := g.tup e he
  rw [q, hl] at h'
  simp at h'
theorem Good.same {h h' : Heap} {es : Array Ent} {l : Addr} {xs : Array Value} {ep : Nat} (g : Good h es) (hl : h.get? l = some (W.listOf xs ep)) (k : Heap.SameBut l h h') : Good h' es :=
  g.keeps fun e he _ q => (k.2 _ (g.off hl e he)).trans q
theorem Good.ne {h : Heap} {es : Array Ent} (g : Good h es) {i j : Nat} (hi : i < es.size) (hj : j < es.size) (hij : i ≠ j) : es[i].n ≠ es[j].n := by
  intro q
  refine hij ((List.getElem_inj (xs := es.toList.map (·.n)) (i := i) (j := j) (h₀ := by simpa using hi) (h₁ := by simpa using hj) g.nod).mp ?_)
  simpa using q
theorem lex_key {a b : Ent} (ha : 0 ≤ a.n ∧ a.n < 1000) (hb : 0 ≤ b.n ∧ b.n < 1000) : lexLt a.wn a.n b.wn b.n = decide (a.key < b.key) := by
  unfold lexLt Ent.key
  rw [Bool.eq_iff_iff]
  simp only [Bool.or_eq_true, Bool.and_eq_true, decide_eq_true_eq]
  omega
theorem kz_of {es : Array Ent} {i : Nat} (hi : i < es.size) : kz es i = es[i].key := by
  unfold kz; rw [Array.getElem?_eq_getElem hi]
theorem item_of {es : Array Ent} {i : Nat} (hi : i < es.size) : (es.map Ent.val)[i]? = some (.ref es[i].a) := by
  simp [hi, Ent.val]
theorem swap_items {es : Array Ent} {i j : Nat} (hi : i < es.size) (hj : j < es.size) : ((es.map Ent.val).setIfInBounds i (.ref es[j].a)).setIfInBounds j (.ref es[i].a) = (es.swap i j hi hj).map Ent.val := by
  have e : es.swap i j hi hj = (es.setIfInBounds i es[j]).setIfInBounds j es[i] := by
    simp only [Array.swap_def, Array.setIfInBounds_def, hi, hj, dif_pos, Array.size_set]
  rw [e, Array.map_setIfInBounds, Array.map_setIfInBounds]
  rfl
theorem kz_swap {es : Array Ent} {i j : Nat} (hi : i < es.size) (hj : j < es.size) : kz (es.swap i j hi hj) = swk (kz es) i j := by
  funext p
  unfold swk
  rw [kz_of hi, kz_of hj]
  unfold kz
  rw [Array.getElem?_swap]
  by_cases h1 : p = i
  · by_cases h2 : j = p
    · subst h1; subst h2; simp
    · rw [if_neg h2, if_pos h1.symm, if_pos h1]
  · by_cases h2 : j = p
    · rw [if_pos h2, if_neg h1, if_pos h2.symm]
    · rw [if_neg h2, if_neg (fun q => h1 q.symm), if_neg h1, if_neg (fun q => h2 q.symm)]

theorem plain_sift : plainId "_heapq.heapify.sift" = true := by decide +kernel
theorem entry_sift : entryFor table "_heapq.heapify.sift" = some Builtin.«_heapq.heapify.sift» := entryFor_of_fast (by kernel_rfl)

def siftArgs (l : Addr) (down : Bool) (pos top : Nat) (result : Value) : Args := ⟨[.ref l, .bool false, .bool down, rawInt pos, rawInt top, result, rawInt ((top : Int) - 1)], []⟩

def siftM (n : Nat) (down : Bool) (pos top : Nat) : Nat := top * (3 * n + 3) + if down then 2 * n + 2 - pos else pos + 1

section
variable {prog : Program} {w : World} {A : Around} {E : Value → Shared → Prop} {s : Shared}

def SiftPost (l : Addr) (es : Array Ent) (result : Value) (R : Result → Shared → Prop) (s : Shared) : Prop :=
  ∀ es' h' ep', es'.Perm es → HeapFrom (kz es') es'.size 0 → h'.get? l = some (W.listOf (es'.map Ent.val) ep') → Heap.SameBut l s.heap h' → R (.ok (.ret result)) { s with heap := h' }

theorem SiftPost.step {l : Addr} {es es₁ : Array Ent} {result : Value} {R : Result → Shared → Prop} {s : Shared} {h₁ : Heap} (h : SiftPost l es result R s) (p : es₁.Perm es) (k : Heap.SameBut l s.heap h₁) :
    SiftPost l es₁ result R { s with heap := h₁ } := fun es' h' ep' p' hh hl k' => h es' h' ep' (p'.trans p) hh hl (k.trans k')

/-- the comparison of two of the heap's items -/
theorem less_ok {es : Array Ent} {i j : Nat} {Q : Value → Shared → Prop} (g : Good s.heap es) (hi : i < es.size) (hj : j < es.size) (hij : i ≠ j) (hu : A.units < cLine) (h : Q (.bool (decide (kz es i < kz es j))) s) :
    wpAny (model prog w) A (richCompare .Lt (.ref es[i].a) (.ref es[j].a)) Q E s := by
  have mi := Array.getElem_mem hi
  have mj := Array.getElem_mem hj
  refine tup_lt (g.tup _ mi) (g.tup _ mj) (fun q => g.ne hi hj hij q.2) hu ?_
  rw [lex_key (g.rng _ mi) (g.rng _ mj), ← kz_of hi, ← kz_of hj]
  exact h

theorem sift_ok (l : Addr) (result : Value) (R : Result → Shared → Prop) (hu : A.units + 1 < cLine) (m : Nat) : ∀ (es : Array Ent) (ep pos top : Nat) (down : Bool) (s : Shared), siftM es.size down pos top = m → Good s.heap es →
    s.heap.get? l = some (W.listOf (es.map Ent.val) ep) → (down = true → Down (kz es) es.size pos top) → (down = false → Up (kz es) es.size pos top) → SiftPost l es result R s →
    codeAny (model prog w) A (.builtin "_heapq.heapify.sift" (siftArgs l down pos top result)) R s := by
  induction m using Nat.strongRecOn with
  | ind m ih =>
  intro es ep pos top down s hm g hl hd hup hp
  refine codeAny_builtin entry_sift ?_
  rw [Around.under_plainId plain_sift _]
  have hsz : (es.map Ent.val).size = es.size := by simp
  have hszl : (es.map Ent.val).size ≤ sizeLine := by rw [hsz, sizeLine_eq]; have := g.sz; omega
  have hnat : ((pos : Int)).toNat = pos := by simp
  have hnat2 : ((top : Int)).toNat = top := by simp
  -- a swap and on
  have swp : ∀ {i j : Nat} (hi : i < es.size) (hj : j < es.size) {Q : Unit → Shared → Prop},
      (∀ h₁ ep₁, h₁.get? l = some (W.listOf ((es.swap i j hi hj).map Ent.val) ep₁) → Heap.SameBut l s.heap h₁ → Q () { s with heap := h₁ }) →
      wpAny (model prog w) A.in1 (updateSeq l fun xs => (xs.setIfInBounds i (.ref es[j].a)).setIfInBounds j (.ref es[i].a)) Q (fun e s' => R (.error e) s') s := by
    intro i j hi hj Q h
    refine wpAny_updateSeq hl rfl ?_ hszl ?_
    · have e := get?_update_seq (a := l) (c := "list") hl fun xs => (xs.setIfInBounds i (.ref es[j].a)).setIfInBounds j (.ref es[i].a)
      rw [swap_items hi hj] at e
      exact h _ _ e (Heap.SameBut.update ..)
    · rw [swap_items hi hj]; simp; rw [sizeLine_eq]; have := g.sz; omega
  -- and the loop again
  have go : ∀ {es₁ : Array Ent} {h₁ : Heap} {ep₁ pos₁ top₁ : Nat} {d₁ : Bool}, es₁.Perm es → siftM es₁.size d₁ pos₁ top₁ < m → h₁.get? l = some (W.listOf (es₁.map Ent.val) ep₁) → Heap.SameBut l s.heap h₁ →
      (d₁ = true → Down (kz es₁) es₁.size pos₁ top₁) → (d₁ = false → Up (kz es₁) es₁.size pos₁ top₁) →
      wpAny (model prog w) A.in1 (again (.builtin "_heapq.heapify.sift" (siftArgs l d₁ pos₁ top₁ result))) (fun fin s' => match fin with | .done f => R (.ok f) s' | .again c' => c'.quiet = true ∧ codeAny (model prog w) A c' R s') (fun e s' => R (.error e) s') { s with heap := h₁ } := by
    intro es₁ h₁ ep₁ pos₁ top₁ d₁ p hlt hl₁ k a b
    exact wpAny_pure ⟨plainId_quiet plain_sift _, ih _ hlt es₁ ep₁ pos₁ top₁ d₁ { s with heap := h₁ } rfl ((g.same hl k).perm p) hl₁ a b (hp.step p k)⟩
  cases down with
  | true =>
    have D := hd rfl
    have lt := D.lt
    unfold siftArgs
    wp_walk
    rw [hsz, hnat, hnat2]
    by_cases hleaf : pos < es.size / 2
    · rw [if_pos hleaf]
      dsimp only
      -- the swap with a child, and on below it
      have child : ∀ {c : Nat} (hc : c < es.size), (c - 1) / 2 = pos → 0 < c → (∀ c', 0 < c' → c' < es.size → (c' - 1) / 2 = pos → kz es c ≤ kz es c') → ∀ (h₁ : Heap) (ep₁ : Nat),
          h₁.get? l = some (W.listOf ((es.swap c pos hc lt).map Ent.val) ep₁) → Heap.SameBut l s.heap h₁ →
          wpAny (model prog w) A.in1 (again (.builtin "_heapq.heapify.sift" (siftArgs l true c top result))) (fun fin s' => match fin with | .done f => R (.ok f) s' | .again c' => c'.quiet = true ∧ codeAny (model prog w) A c' R s') (fun e s' => R (.error e) s') { s with heap := h₁ } := by
        intro c hc cp c0 least h₁ ep₁ hl₁ k
        refine go (Array.swap_perm _ _) ?_ hl₁ k (fun _ => ?_) (fun q => nomatch q)
        · rw [← hm]; unfold siftM; simp only [if_true, Array.size_swap]; omega
        · rw [kz_swap, Array.size_swap]
          exact D.step cp c0 hc least
      by_cases hr : 2 * pos + 1 + 1 < es.size
      · rw [if_pos hr]
        refine wpAny_bind ?_
        wp_delta
        rw [item_of (show 2 * pos + 1 < es.size by omega)]
        refine wpAny_pure ?_
        refine wpAny_bind ?_
        wp_delta
        rw [item_of hr]
        refine wpAny_pure ?_
        rw [if_neg (by simp)]
        refine wpAny_bind ?_
        wp_delta
        refine wpAny_bind (wpAny_holding (wpAny_bind (less_ok g (by omega) hr (by omega) hu ?_)))
        wp_walk
        by_cases hlr : kz es (2 * pos + 1) < kz es (2 * pos + 1 + 1)
        · rw [if_neg (by simp [hlr])]
          refine wpAny_bind ?_
          wp_walk
          rw [item_of (show 2 * pos + 1 < es.size by omega)]
          wp_walk
          rw [item_of lt]
          refine wpAny_pure (swp (by omega) lt fun h₁ ep₁ e k => ?_)
          refine child (by omega) (by omega) (by omega) (fun c' c0 cn cp => ?_) h₁ ep₁ e k
          have q : c' = 2 * pos + 1 ∨ c' = 2 * pos + 1 + 1 := by omega
          rcases q with rfl | rfl
          · exact Int.le_refl _
          · exact Int.le_of_lt hlr
        · rw [if_pos (by simp [hlr])]
          refine wpAny_bind ?_
          wp_walk
          rw [item_of hr]
          wp_walk
          rw [item_of lt]
          refine wpAny_pure (swp hr lt fun h₁ ep₁ e k => ?_)
          refine child hr (by omega) (by omega) (fun c' c0 cn cp => ?_) h₁ ep₁ e k
          have q : c' = 2 * pos + 1 ∨ c' = 2 * pos + 1 + 1 := by omega
          rcases q with rfl | rfl
          · omega
          · exact Int.le_refl _
      · rw [if_neg hr]
        refine wpAny_bind ?_
        wp_walk
        rw [item_of (show 2 * pos + 1 < es.size by omega)]
        wp_walk
        rw [item_of lt]
        refine wpAny_pure (swp (by omega) lt fun h₁ ep₁ e k => ?_)
        refine child (by omega) (by omega) (by omega) (fun c' c0 cn cp => ?_) h₁ ep₁ e k
        have q : c' = 2 * pos + 1 := by omega
        subst q
        exact Int.le_refl _
    · rw [if_neg hleaf]
      exact go (es₁ := es) (h₁ := s.heap) (.refl _) (by rw [← hm]; unfold siftM; simp; omega) hl (.refl ..) (fun q => nomatch q) (fun _ => D.leaf hleaf)
  | false =>
    have U := hup rfl
    have lt := U.lt
    unfold siftArgs
    wp_walk
    rw [hnat, hnat2]
    have tle := U.sub.le
    by_cases ht : top < pos
    · rw [if_pos ht]
      dsimp only
      have lp : (pos - 1) / 2 < es.size := by omega
      refine wpAny_bind ?_
      wp_delta
      rw [item_of lt]
      refine wpAny_pure ?_
      refine wpAny_bind ?_
      wp_delta
      rw [item_of lp]
      refine wpAny_pure ?_
      rw [if_neg (by simp)]
      refine wpAny_bind ?_
      wp_delta
      refine wpAny_bind (wpAny_holding (wpAny_bind (less_ok g lt lp (by omega) hu ?_)))
      wp_walk
      by_cases hlr : kz es pos < kz es ((pos - 1) / 2)
      · rw [if_pos (by simp [hlr])]
        refine wpAny_bind ?_
        wp_walk
        rw [item_of lp]
        wp_walk
        rw [item_of lt]
        refine wpAny_pure (swp lp lt fun h₁ ep₁ e k => ?_)
        refine go (Array.swap_perm _ _) ?_ e k (fun q => nomatch q) fun _ => ?_
        · rw [← hm]; unfold siftM; simp only [Bool.false_eq_true, if_false, Array.size_swap]; omega
        · rw [kz_swap, Array.size_swap]
          exact U.step ht hlr
      · rw [if_neg (by simp [hlr])]
        have H : HeapFrom (kz es) es.size top := U.done (.inr (by omega))
        by_cases t0 : top = 0
        · rw [if_pos (by omega)]
          subst t0
          exact wpAny_pure (hp es s.heap ep (.refl _) H hl (.refl ..))
        · rw [if_neg (by omega)]
          have e1 : ((top : Int) - 1).toNat = top - 1 := by omega
          have e2 : (top : Int) - 1 - 1 = ((top - 1 : Nat) : Int) - 1 := by omega
          rw [e1, e2]
          refine go (es₁ := es) (h₁ := s.heap) (top₁ := top - 1) (pos₁ := top - 1) (d₁ := true) (.refl _) ?_ hl (.refl ..) (fun _ => Down.start (H.mono (Nat.le_refl _) (by omega)) (by omega)) (fun q => nomatch q)
          rw [← hm]
          unfold siftM
          obtain ⟨t, rfl⟩ : ∃ t, top = t + 1 := ⟨top - 1, by omega⟩
          simp only [Nat.add_sub_cancel, Nat.succ_mul, if_true, Bool.false_eq_true, if_false]
          omega
    · rw [if_neg ht]
      dsimp only
      have H : HeapFrom (kz es) es.size top := U.done (.inl ht)
      by_cases t0 : top = 0
      · rw [if_pos (by omega)]
        subst t0
        exact wpAny_pure (hp es s.heap ep (.refl _) H hl (.refl ..))
      · rw [if_neg (by omega)]
        have e1 : ((top : Int) - 1).toNat = top - 1 := by omega
        have e2 : (top : Int) - 1 - 1 = ((top - 1 : Nat) : Int) - 1 := by omega
        rw [e1, e2]
        refine go (es₁ := es) (h₁ := s.heap) (top₁ := top - 1) (pos₁ := top - 1) (d₁ := true) (.refl _) ?_ hl (.refl ..) (fun _ => Down.start (H.mono (Nat.le_refl _) (by omega)) (by omega)) (fun q => nomatch q)
        rw [← hm]
        unfold siftM
        obtain ⟨t, rfl⟩ : ∃ t, top = t + 1 := ⟨top - 1, by omega⟩
        simp only [Nat.add_sub_cancel, Nat.succ_mul, if_true, Bool.false_eq_true, if_false]
        omega
end
end Mine
end

section
open PySem PySem.W PyProof.Rows
namespace Mine
set_option maxRecDepth 100000

theorem kind_push : builtinKind "_heapq.heappush" = none := by decide +kernel
theorem plain_push : plainId "_heapq.heappush" = true := by decide +kernel
theorem entry_push : entryFor table "_heapq.heappush" = some Builtin.«_heapq.heappush» := entryFor_of_fast (by kernel_rfl)
theorem args_push (a b : Value) : argsOk "_heapq.heappush" ⟨[a, b], []⟩ := by unfold argsOk; kernel_rfl
theorem kind_pop : builtinKind "_heapq.heappop" = none := by decide +kernel
theorem plain_pop : plainId "_heapq.heappop" = true := by decide +kernel
theorem entry_pop : entryFor table "_heapq.heappop" = some Builtin.«_heapq.heappop» := entryFor_of_fast (by kernel_rfl)
theorem args_pop (a : Value) : argsOk "_heapq.heappop" ⟨[a], []⟩ := by unfold argsOk; kernel_rfl
theorem kind_fy : builtinKind "_heapq.heapify" = none := by decide +kernel
theorem plain_fy : plainId "_heapq.heapify" = true := by decide +kernel
theorem entry_fy : entryFor table "_heapq.heapify" = some Builtin.«_heapq.heapify» := entryFor_of_fast (by kernel_rfl)
theorem args_fy (a : Value) : argsOk "_heapq.heapify" ⟨[a], []⟩ := by unfold argsOk; kernel_rfl

theorem sub_list : isSubtype (.type "list") (.type "list") = pure true := by rw [isSubtype_type]; kernel_rfl

theorem kz_push_lt {es : Array Ent} {e : Ent} {i : Nat} (h : i < es.size) : kz (es.push e) i = kz es i := by
  unfold kz
  rw [Array.getElem?_push_lt h, Array.getElem?_eq_getElem h]
section
variable {prog : Program} {w : World} {A : Around} {E : Value → Shared → Prop} {s : Shared}

theorem push_meets (l : Addr) (es : Array Ent) (e : Ent) (ep : Nat) : Meets (Builtin.«_heapq.heappush» ⟨[.ref l, .ref e.a], []⟩)
    (fun A R s => A.units + 1 < cLine ∧ s.heap.get? l = some (W.listOf (es.map Ent.val) ep) ∧ Good s.heap (es.push e) ∧ HeapFrom (kz es) es.size 0 ∧ SiftPost l (es.push e) .none R s) := by
  intro prog w A R s ⟨hu, hl, g, hh, hp⟩
  have hsub := sub_list
  have hT : s.TypeIs (.ref l) "list" := ⟨_, hl, rfl⟩
  have e1 := get?_update_seq (a := l) (c := "list") hl fun xs => xs.push (.ref e.a)
  have e2 : ((es.map Ent.val).push (.ref e.a)) = (es.push e).map Ent.val := by rw [Array.map_push]; rfl
  have sm := Heap.SameBut.update s.heap l (Obj.mapSeq fun xs => xs.push (Value.ref e.a))
  rw [e2] at e1
  have hz := g.sz
  have hsz : (es.map Ent.val).size ≤ sizeLine := by simp at hz ⊢; rw [sizeLine_eq]; omega
  wp_walk using (wpAny_updateSeq hl rfl (hz := hsz))
  refine ⟨plainId_quiet plain_sift _, ?_⟩
  have e3 : (Array.map Ent.val (es.push e)).size - 1 = es.size := by simp
  rw [e3]
  refine sift_ok l .none R hu _ (es.push e) _ es.size 0 false { s with heap := s.heap.update l (Obj.mapSeq fun xs => xs.push (Value.ref e.a)) } rfl (g.same hl sm) e1 (fun q => nomatch q) (fun _ => ?_) (hp.step (.refl _) sm)
  rw [Array.size_push]
  exact Up.push (hh.congr fun i _ hi => kz_push_lt hi)

theorem fy_meets (l : Addr) (es : Array Ent) (ep : Nat) : Meets (Builtin.«_heapq.heapify» ⟨[.ref l], []⟩)
    (fun A R s => A.units + 1 < cLine ∧ s.heap.get? l = some (W.listOf (es.map Ent.val) ep) ∧ Good s.heap es ∧ SiftPost l es .none R s) := by
  intro prog w A R s ⟨hu, hl, g, hp⟩
  have hsub := sub_list
  have hT : s.TypeIs (.ref l) "list" := ⟨_, hl, rfl⟩
  have hz := g.sz
  have hsz : (es.map Ent.val).size = es.size := by simp
  wp_walk
  rw [hsz]
  rw [if_neg (by omega)]
  wp_walk
  by_cases h2 : es.size < 2
  · rw [if_pos h2]
    exact wpAny_pure (hp es s.heap ep (.refl _) (HeapFrom.vac (by omega)) hl (.refl ..))
  · rw [if_neg h2]
    refine wpAny_pure ⟨plainId_quiet plain_sift _, ?_⟩
    have e3 : ((es.size / 2 : Nat) : Int) - 2 = ((es.size / 2 - 1 : Nat) : Int) - 1 := by omega
    rw [e3]
    exact sift_ok l .none R hu _ es ep (es.size / 2 - 1) (es.size / 2 - 1) true s rfl g hl (fun _ => Down.start (HeapFrom.vac (by omega)) (by omega)) (fun q => nomatch q) hp

theorem pop_perm {α : Type} : ∀ {l : List α} (h : 2 ≤ l.length), (l.dropLast.set 0 (l.getLast (by intro q; rw [q] at h; simp at h))).Perm l.tail
  | [], h => by simp at h
  | [_], h => by simp at h
  | a :: b :: r, _ => by
    have e : (a :: b :: r).dropLast = a :: (b :: r).dropLast := rfl
    have e2 : (a :: b :: r).getLast (by simp) = (b :: r).getLast (by simp) := rfl
    rw [e, e2, List.set_cons_zero]
    have e3 : (a :: b :: r).tail = b :: r := rfl
    rw [e3]
    have e4 := List.dropLast_concat_getLast (l := b :: r) (by simp)
    exact (List.perm_append_singleton _ _).symm.trans (.of_eq e4)

def popE (es : Array Ent) (h : 0 < es.size) : Array Ent := es.pop.setIfInBounds 0 (es[es.size - 1]'(by omega))
theorem popE_size {es : Array Ent} (h : 0 < es.size) : (popE es h).size = es.size - 1 := by simp [popE]
theorem popE_perm {es : Array Ent} (h : 2 ≤ es.size) : (popE es (by omega)).toList.Perm es.toList.tail := by
  have hl : 2 ≤ es.toList.length := by simpa using h
  have := pop_perm hl
  have e : (popE es (by omega)).toList = es.toList.dropLast.set 0 (es.toList.getLast (by intro q; rw [q] at hl; simp at hl)) := by
    unfold popE
    rw [Array.toList_setIfInBounds, Array.toList_pop, List.getLast_eq_getElem]
    simp
  rw [e]; exact this
theorem popE_kz {es : Array Ent} (h : 2 ≤ es.size) {i : Nat} (h1 : 1 ≤ i) (h2 : i < es.size - 1) : kz (popE es (by omega)) i = kz es i := by
  unfold kz popE
  rw [Array.getElem?_setIfInBounds, if_neg (by omega), Array.getElem?_pop, if_pos h2]
theorem popE_items {es : Array Ent} (h : 0 < es.size) : ((es.map Ent.val).pop).setIfInBounds 0 (.ref (es[es.size - 1]'(by omega)).a) = (popE es h).map Ent.val := by
  unfold popE
  rw [Array.map_setIfInBounds, Array.map_pop]
  rfl
theorem Good.tail {h : Heap} {es es' : Array Ent} (g : Good h es) (p : es'.toList.Perm es.toList.tail) : Good h es' where
  tup := fun e he => g.tup e (by simpa using List.mem_of_mem_tail (p.mem_iff.mp (by simpa using he)))
  rng := fun e he => g.rng e (by simpa using List.mem_of_mem_tail (p.mem_iff.mp (by simpa using he)))
  nod := (p.map (·.n)).symm.nodup (by rw [List.map_tail]; exact g.nod.sublist (List.tail_sublist _))
  sz := by
    have e := p.length_eq
    have := g.sz
    simp at e
    omega

theorem pop_meets (l : Addr) (es : Array Ent) (ep : Nat) (hne : 0 < es.size) : Meets (Builtin.«_heapq.heappop» ⟨[.ref l], []⟩)
    (fun A R s => A.units + 1 < cLine ∧ s.heap.get? l = some (W.listOf (es.map Ent.val) ep) ∧ Good s.heap es ∧ HeapFrom (kz es) es.size 0 ∧
      (∀ es' h' ep', (es'.toList).Perm (es.toList.tail) → HeapFrom (kz es') es'.size 0 → h'.get? l = some (W.listOf (es'.map Ent.val) ep') → Heap.SameBut l s.heap h' → R (.ok (.ret (.ref es[0].a))) { s with heap := h' })) := by
  intro prog w A R s ⟨hu, hl, g, hh, hp⟩
  have hsub := sub_list
  have hT : s.TypeIs (.ref l) "list" := ⟨_, hl, rfl⟩
  have hz := g.sz
  have hsz : (es.map Ent.val).size = es.size := by simp
  have hback : (es.map Ent.val).back? = some (.ref es[es.size - 1].a) := by
    rw [Array.back?_eq_getElem?, hsz, item_of (by omega)]
  have hszl : (es.map Ent.val).size ≤ sizeLine := by simp at hz ⊢; rw [sizeLine_eq]; omega
  have hszp : (es.map Ent.val).pop.size ≤ sizeLine := by rw [Array.size_pop]; omega
  have e1 := get?_update_seq (a := l) (c := "list") hl fun xs => xs.pop
  have sm1 := Heap.SameBut.update s.heap l (Obj.mapSeq fun xs => xs.pop)
  wp_walk
  rw [hback]
  wp_walk using (wpAny_updateSeq hl rfl (hz := hszl))
  by_cases h1 : es.size = 1
  · rw [if_pos (by simp [h1])]
    have e0 : es[es.size - 1].a = es[0].a := by simp [h1]
    rw [e0]
    have eq0 : (es.map Ent.val).pop = (#[] : Array Ent).map Ent.val := by
      rw [Array.map_empty]
      apply Array.eq_empty_of_size_eq_zero
      rw [Array.size_pop, hsz]; omega
    rw [eq0] at e1
    exact wpAny_pure (hp #[] _ _ (by rw [List.eq_nil_of_length_eq_zero (l := es.toList.tail) (by simp; omega)]) (HeapFrom.vac (by simp)) e1 sm1)
  · rw [if_neg (by simp [h1])]
    have h2 : 2 ≤ es.size := by omega
    refine wpAny_bind ?_
    wp_delta
    rw [item_of hne]
    refine wpAny_pure ?_
    have e2 := get?_update_seq (a := l) (c := "list") e1 fun xs => xs.setIfInBounds 0 (.ref es[es.size - 1].a)
    rw [popE_items hne] at e2
    have sm2 := Heap.SameBut.update (s.heap.update l (Obj.mapSeq fun xs => xs.pop)) l (Obj.mapSeq fun xs => xs.setIfInBounds 0 (Value.ref es[es.size - 1].a))
    have sm := sm1.trans sm2
    refine wpAny_bind (wpAny_updateSeq (s := { s with heap := s.heap.update l (Obj.mapSeq fun xs => xs.pop) }) e1 rfl ?_ hszp (by rw [Array.size_setIfInBounds]; omega))
    refine wpAny_pure ⟨plainId_quiet plain_sift _, ?_⟩
    have pp := popE_perm h2
    refine sift_ok l (.ref es[0].a) R hu _ (popE es hne) _ 0 0 true { s with heap := _ } rfl ((g.same hl sm).tail pp) e2 (fun _ => Down.start ?_ (by rw [popE_size]; omega)) (fun q => nomatch q) ?_
    · rw [popE_size]
      exact (hh.mono (by omega) (by omega)).congr fun i i1 i2 => popE_kz h2 (by omega) i2
    · intro es' h' ep' p hf hl' k
      exact hp es' h' ep' ((Array.perm_iff_toList_perm.mp p).trans pp) hf hl' (sm.trans k)

theorem hpush {l : Addr} {es : Array Ent} {e : Ent} {ep : Nat} {Q : Value → Shared → Prop} (hl : s.heap.get? l = some (W.listOf (es.map Ent.val) ep)) (g : Good s.heap (es.push e)) (hh : HeapFrom (kz es) es.size 0) (hu : A.units + 1 < cLine)
    (h : ∀ es' h' ep', es'.Perm (es.push e) → HeapFrom (kz es') es'.size 0 → h'.get? l = some (W.listOf (es'.map Ent.val) ep') → Heap.SameBut l s.heap h' → Q .none { s with heap := h' }) :
    wpAny (model prog w) A (call (.builtin "_heapq.heappush") [.ref l, .ref e.a]) Q E s :=
  call_function_meets kind_push plain_push entry_push (args_push _ _) (push_meets l es e ep) ⟨hu, hl, g, hh, h⟩
theorem hfy {l : Addr} {es : Array Ent} {ep : Nat} {Q : Value → Shared → Prop} (hl : s.heap.get? l = some (W.listOf (es.map Ent.val) ep)) (g : Good s.heap es) (hu : A.units + 1 < cLine)
    (h : ∀ es' h' ep', es'.Perm es → HeapFrom (kz es') es'.size 0 → h'.get? l = some (W.listOf (es'.map Ent.val) ep') → Heap.SameBut l s.heap h' → Q .none { s with heap := h' }) :
    wpAny (model prog w) A (call (.builtin "_heapq.heapify") [.ref l]) Q E s :=
  call_function_meets kind_fy plain_fy entry_fy (args_fy _) (fy_meets l es ep) ⟨hu, hl, g, h⟩
theorem hpop {l : Addr} {es : Array Ent} {ep : Nat} {Q : Value → Shared → Prop} (hne : 0 < es.size) (hl : s.heap.get? l = some (W.listOf (es.map Ent.val) ep)) (g : Good s.heap es) (hh : HeapFrom (kz es) es.size 0) (hu : A.units + 1 < cLine)
    (h : ∀ es' h' ep', es'.toList.Perm es.toList.tail → HeapFrom (kz es') es'.size 0 → h'.get? l = some (W.listOf (es'.map Ent.val) ep') → Heap.SameBut l s.heap h' → Q (.ref es[0].a) { s with heap := h' }) :
    wpAny (model prog w) A (call (.builtin "_heapq.heappop") [.ref l]) Q E s :=
  call_function_meets kind_pop plain_pop entry_pop (args_pop _) (pop_meets l es ep hne) ⟨hu, hl, g, hh, h⟩

/-! over the ledger -/
variable {h₀ : Heap} {L : Addr} {m : Str → Option Value} {news : List (Addr × Obj)} {g : Obj → List (Addr × Obj)}
theorem led_same {l : Addr} {o o' : Obj} {h' : Heap} (F : Fr h₀ L s.heap m) (N : News h₀ L s.heap news) (U : UpdF l o news g) (k : Heap.SameBut l s.heap h') (ho' : h'.get? l = some o') : Fr h₀ L h' m ∧ News h₀ L h' (g o') := by
  obtain ⟨own, rest, rfl, hg, h1, h2⟩ := U.split
  have hmem := N (l, o) (List.mem_append_right _ (.head _))
  refine ⟨⟨F.ns.sameBut k (Ne.symm hmem.2.1), fun b ob e => (k.2 b (fun q => ?_)).trans (F.keep b ob e), F.above⟩, hg o' ▸ N.setAt h1 h2 k ho'⟩
  rw [q, hmem.2.2] at e; cases e
theorem led_get {l : Addr} {o : Obj} (N : News h₀ L s.heap news) (U : UpdF l o news g) : s.heap.get? l = some o := by
  obtain ⟨own, rest, rfl, hg, h1, h2⟩ := U.split
  exact (N (l, o) (List.mem_append_right _ (.head _))).1

theorem hpush_K {l : Addr} {es : Array Ent} {e : Ent} {ep : Nat} {Q : Value → Shared → Prop} (F : Fr h₀ L s.heap m) (N : News h₀ L s.heap news) (U : UpdF l (W.listOf (es.map Ent.val) ep) news g) (G : Good s.heap (es.push e)) (hh : HeapFrom (kz es) es.size 0) (hu : A.units + 1 < cLine)
    (h : ∀ es' h' ep', es'.Perm (es.push e) → HeapFrom (kz es') es'.size 0 → Good h' es' → Fr h₀ L h' m → News h₀ L h' (g (W.listOf (es'.map Ent.val) ep')) → Q .none { s with heap := h' }) :
    wpAny (model prog w) A (call (.builtin "_heapq.heappush") [.ref l, .ref e.a]) Q E s :=
  hpush (led_get N U) G hh hu fun es' h' ep' p hf hl' k => h es' h' ep' p hf ((G.same (led_get N U) k).perm p) (led_same F N U k hl').1 (led_same F N U k hl').2
theorem hfy_K {l : Addr} {es : Array Ent} {ep : Nat} {Q : Value → Shared → Prop} (F : Fr h₀ L s.heap m) (N : News h₀ L s.heap news) (U : UpdF l (W.listOf (es.map Ent.val) ep) news g) (G : Good s.heap es) (hu : A.units + 1 < cLine)
    (h : ∀ es' h' ep', es'.Perm es → HeapFrom (kz es') es'.size 0 → Good h' es' → Fr h₀ L h' m → News h₀ L h' (g (W.listOf (es'.map Ent.val) ep')) → Q .none { s with heap := h' }) :
    wpAny (model prog w) A (call (.builtin "_heapq.heapify") [.ref l]) Q E s :=
  hfy (led_get N U) G hu fun es' h' ep' p hf hl' k => h es' h' ep' p hf ((G.same (led_get N U) k).perm p) (led_same F N U k hl').1 (led_same F N U k hl').2
theorem hpop_K {l : Addr} {es : Array Ent} {ep : Nat} {Q : Value → Shared → Prop} (hne : 0 < es.size) (F : Fr h₀ L s.heap m) (N : News h₀ L s.heap news) (U : UpdF l (W.listOf (es.map Ent.val) ep) news g) (G : Good s.heap es) (hh : HeapFrom (kz es) es.size 0) (hu : A.units + 1 < cLine)
    (h : ∀ es' h' ep', es'.toList.Perm es.toList.tail → HeapFrom (kz es') es'.size 0 → Good h' es' → Fr h₀ L h' m → News h₀ L h' (g (W.listOf (es'.map Ent.val) ep')) → Q (.ref es[0].a) { s with heap := h' }) :
    wpAny (model prog w) A (call (.builtin "_heapq.heappop") [.ref l]) Q E s :=
  hpop hne (led_get N U) G hh hu fun es' h' ep' p hf hl' k => h es' h' ep' p hf ((G.same (led_get N U) k).tail p) (led_same F N U k hl').1 (led_same F N U k hl').2
end
end Mine
end

section
open PySem PySem.W PySem.Calls PyProof.Rows
namespace Mine
set_option maxRecDepth 100000

/-- the frame behind the taking of one item: i, (when, n, curtask) -/
def frame4 (xi xw xn xc : Str) (i : Nat) (e : Ent) (ti tw tn : Tok) (m : Str → Option Value) : Str → Option Value :=
  fun y => if y = xc then some e.x else if y = xn then some (.int e.n tn) else if y = xw then some (.int e.wn tw) else if y = xi then some (.int (i : Int) ti) else m y

section
variable {prog : Program} {w : World} {A : Around} {s : Shared} {env : Env} {g : Heap}

theorem frame4_off {xi xw xn xc : Str} {i : Nat} {e : Ent} {ti tw tn : Tok} {m m' : Str → Option Value} (h : ∀ y, y ≠ xc → y ≠ xn → y ≠ xw → y ≠ xi → m' y = m y) :
    (fun y => if y = xc then some e.x else if y = xn then some (Value.int e.n tn) else if y = xw then some (.int e.wn tw) else if y = xi then some (.int (i : Int) ti) else m' y) = frame4 xi xw xn xc i e ti tw tn m := by
  funext y
  unfold frame4
  by_cases h1 : y = xc
  · simp [h1]
  by_cases h2 : y = xn
  · simp [h2]
  by_cases h3 : y = xw
  · simp [h3]
  by_cases h4 : y = xi
  · simp [h4]
  simp only [if_neg h1, if_neg h2, if_neg h3, if_neg h4]
  exact h y h1 h2 h3 h4

theorem loop_enum3 {R : Result → Shared → Prop} {xi xw xn xc : Str} {p1 p2 p3 p4 p5 p6 : Pos} {k1 k2 : Nat} {body : List Stmt} {e it l : Addr} {es : Array Ent} {ep : Nat} {m : Str → Option Value} {news : List (Addr × Obj)} (X : Value)
    (hh : A.handled = none) (hxi : env.kindOf xi = some .local) (hxw : env.kindOf xw = some .local) (hxn : env.kindOf xn = some .local) (hxc : env.kindOf xc = some .local)
    (hp : (env.scope.kind == .class || (env.scope.kind == .module && env.locals != env.globals)) = false)
    (hei : e ≠ it) (heg : g.get? e = none) (hig : g.get? it = none) (heN : ∀ p ∈ news, p.1 ≠ e) (hiN : ∀ p ∈ news, p.1 ≠ it)
    (F : Fr g env.locals s.heap m) (N : News g env.locals s.heap news) (hln : (l, W.listOf (es.map Ent.val) ep) ∈ news) (hea : ∀ x ∈ es, ∃ o, (x.a, o) ∈ news) (G : Good s.heap es)
    (heL : e ≠ env.locals) (hiL : it ≠ env.locals)
    (he : IsEnum s.heap e it 0 .none) (hit : s.heap.IsListIter it l 0)
    (miss : ∀ i (hi : i < es.size) ti tw tn h tk, es[i].x ≠ X → Fr g env.locals h (frame4 xi xw xn xc i es[i] ti tw tn m) → News g env.locals h news →
      wpAny (model prog w) A (execs body env) (fun f s₂ => f = .next ∧ ∃ tk', s₂ = { s with heap := h, toks := tk' }) (fun _ _ => False) { s with heap := h, toks := tk })
    (hits : ∀ i (hi : i < es.size) ti tw tn h tk, es[i].x = X → (∀ j (hj : j < es.size), j < i → es[j].x ≠ X) → Fr g env.locals h (frame4 xi xw xn xc i es[i] ti tw tn m) → News g env.locals h news → Good h es →
      wpAny (model prog w) A (execs body env) (fun f s₂ => f = .brk ∧ R (.ok .next) s₂) (fun _ _ => False) { s with heap := h, toks := tk })
    (none : ∀ h tk m', (∀ x ∈ es, x.x ≠ X) → Fr g env.locals h m' → News g env.locals h news → Good h es → R (.ok .next) { s with heap := h, toks := tk }) :
    codeAny (model prog w) A (.forLoop (.Tuple [.Name xi p1, .Tuple [.Name xw p2, .Name xn p3, .Name xc p4] k1 p5] k2 p6) (.ref e) body [] env) R s := by
  have hlL : l ≠ env.locals := (N _ hln).2.1
  have hle : l ≠ e := heN _ hln
  have hli : l ≠ it := hiN _ hln
  refine codeAny_forLoop_any
    (fun k s' => ∃ h' tk m' i old, s' = { s with heap := h', toks := tk } ∧ IsEnum h' e it ((i : Nat) : Int) old ∧ h'.IsListIter it l i ∧ Fr g env.locals h' m' ∧ News g env.locals h' news ∧ Good h' es ∧ i ≤ es.size ∧
      (∀ y, y ≠ xc → y ≠ xn → y ≠ xw → y ≠ xi → m' y = m y) ∧ (∀ j (hj : j < es.size), j < i → es[j].x ≠ X) ∧ k = es.size + 1 - i) ?_ (es.size + 1)
    ⟨s.heap, s.toks, m, 0, .none, rfl, he, hit, F, N, G, Nat.zero_le _, fun _ _ _ _ _ => rfl, fun _ _ h => absurd h (Nat.not_lt_zero _), rfl⟩
  rintro k s' ⟨H, tk, m', i, old, rfl, he', hit', F', N', G', hi, hm, hno, rfl⟩
  have hlist : H.IsList l (es.map Ent.val) := ⟨_, (N' _ hln).1, rfl, ep, rfl⟩
  -- the frame, the ledger and the tuples over a change elsewhere
  have mv : ∀ {H₁ : Heap}, (∀ b o, b ≠ e → b ≠ it → H.get? b = some o → H₁.get? b = some o) → Fr g env.locals H₁ m' ∧ News g env.locals H₁ news ∧ Good H₁ es := by
    intro H₁ kp
    refine ⟨⟨F'.ns.at fun o q => kp _ o (Ne.symm heL) (Ne.symm hiL) q, fun b o q => kp b o (fun z => ?_) (fun z => ?_) (F'.keep b o q), F'.above⟩, fun p hp => ⟨kp _ _ (heN p hp) (hiN p hp) (N' p hp).1, (N' p hp).2⟩, G'.keeps fun x hx o q => ?_⟩
    · rw [z, heg] at q; cases q
    · rw [z, hig] at q; cases q
    · obtain ⟨o', ho'⟩ := hea x hx
      exact kp _ o (heN _ ho') (hiN _ ho') q
  by_cases hlt : i < es.size
  · have hv : (es.map Ent.val)[i]? = some (.ref es[i].a) := item_of hlt
    have heH : e < H.objs.size := Heap.lt_size he'
    obtain ⟨oi, hoi, _⟩ := id hit'
    have hiH : it < H.objs.size := Heap.lt_size hoi
    refine wpAny_pyNext_enum_item he' hit' hlist hv hei fun h₁ heo hit₁ ht₁ hz₁ hk₁ => ?_
    obtain ⟨F₁, N₁, G₁⟩ := mv hk₁
    refine wpAny_letOwnedTupleGo_enum heo fun h₂ he₂ hs₂ => ?_
    replace hs₂ : Heap.SameBut e h₁ h₂ := hs₂
    have hk₂ : ∀ b o, b ≠ e → b ≠ it → H.get? b = some o → h₂.get? b = some o := fun b o q1 q2 q3 => (hs₂.2 b q1).trans (hk₁ b o q1 q2 q3)
    obtain ⟨F₂, N₂, G₂⟩ := mv hk₂
    have ht₂ : h₂.IsTuple H.objs.size #[.int i tk, .ref es[i].a] := ⟨_, (hs₂.2 _ (Nat.ne_of_gt heH)).trans ht₁, rfl, _, rfl⟩
    have hz₂ : h₂.objs.size = H.objs.size + 1 := hs₂.1.trans hz₁
    refine wpAny_assign_Tuple hh ht₂ rfl rfl fun h₃ hx₃ => ?_
    replace hx₃ : Heap.ExtBut h₂.objs.size h₂ h₃ := hx₃
    have old₃ : ∀ b o, h₂.get? b = some o → h₃.get? b = some o := fun b o q => hx₃ b o (Nat.ne_of_lt (Heap.lt_size q)) q
    have F₃ : Fr g env.locals h₃ m' := ⟨F₂.ns.at fun o q => old₃ _ o q, fun b o q => old₃ b o (F₂.keep b o q), F₂.above⟩
    have N₃ : News g env.locals h₃ news := fun p hp => ⟨old₃ _ _ (N₂ p hp).1, (N₂ p hp).2⟩
    have G₃ : Good h₃ es := G₂.keeps fun x hx o q => old₃ _ o q
    show wpAny _ A (do holding [.ref es[i].a] (assign (.Name xi p1) env (.int i tk)); do holding [] (assign (.Tuple [.Name xw p2, .Name xn p3, .Name xc p4] k1 p5) env (.ref es[i].a)); pure ()) _ _ _
    refine wpAny_bind (wpAny_holding (wpAny_assign_Name (wpAny_storeName_local hxi F₃.ns (fun h₄ hn₄ hs₄ => ?_) hp)))
    replace hs₄ : Heap.SameBut env.locals h₃ h₄ := hs₄
    have F₄ := F₃.set hn₄ hs₄
    have N₄ := N₃.set hs₄
    have G₄ : Good h₄ es := G₃.keeps fun x hx o q => (hs₄.2 _ (by obtain ⟨o', ho'⟩ := hea x hx; exact (N₃ _ ho').2.1)).trans q
    obtain ⟨tw, tn, ep', ht⟩ := G₄.tup _ (Array.getElem_mem hlt)
    have ht₄ : h₄.IsTuple es[i].a #[.int es[i].wn tw, .int es[i].n tn, es[i].x] := ⟨_, ht, rfl, _, rfl⟩
    refine wpAny_bind (wpAny_holding (wpAny_assign_Tuple hh ht₄ rfl rfl fun h₅ hx₅ => ?_))
    replace hx₅ : Heap.ExtBut h₄.objs.size h₄ h₅ := hx₅
    have old₅ : ∀ b o, h₄.get? b = some o → h₅.get? b = some o := fun b o q => hx₅ b o (Nat.ne_of_lt (Heap.lt_size q)) q
    have F₅ : Fr g env.locals h₅ _ := ⟨F₄.ns.at fun o q => old₅ _ o q, fun b o q => old₅ b o (F₄.keep b o q), F₄.above⟩
    have N₅ : News g env.locals h₅ news := fun p hp => ⟨old₅ _ _ (N₄ p hp).1, (N₄ p hp).2⟩
    have G₅ : Good h₅ es := G₄.keeps fun x hx o q => old₅ _ o q
    show wpAny _ A (assignInOrder [assign (.Name xw p2) env, assign (.Name xn p3) env, assign (.Name xc p4) env] [.int es[i].wn tw, .int es[i].n tn, es[i].x]) _ _ _
    simp only [assignInOrder]
    refine wpAny_bind (wpAny_holding (wpAny_assign_Name (wpAny_storeName_local hxw F₅.ns (fun h₆ hn₆ hs₆ => ?_) hp)))
    replace hs₆ : Heap.SameBut env.locals h₅ h₆ := hs₆
    refine wpAny_bind (wpAny_holding (wpAny_assign_Name (wpAny_storeName_local hxn hn₆ (fun h₇ hn₇ hs₇ => ?_) hp)))
    replace hs₇ : Heap.SameBut env.locals h₆ h₇ := hs₇
    refine wpAny_bind (wpAny_holding (wpAny_assign_Name (wpAny_storeName_local hxc hn₇ (fun h₈ hn₈ hs₈ => wpAny_pure (wpAny_pure ?_)) hp)))
    replace hs₈ : Heap.SameBut env.locals h₇ h₈ := hs₈
    have hs₅₈ : Heap.SameBut env.locals h₅ h₈ := (hs₆.trans hs₇).trans hs₈
    have F₈ := F₅.set hn₈ hs₅₈
    have N₈ := N₅.set hs₅₈
    have G₈ : Good h₈ es := G₅.keeps fun x hx o q => (hs₅₈.2 _ (by obtain ⟨o', ho'⟩ := hea x hx; exact (N₅ _ ho').2.1)).trans q
    have F₉ : Fr g env.locals h₈ (frame4 xi xw xn xc i es[i] tk tw tn m) := (frame4_off hm) ▸ F₈
    by_cases hX : es[i].x = X
    · refine wpAny_mono (hits i hlt _ _ _ h₈ _ hX hno F₉ N₈ G₈) (fun f s₃ h₃ => ?_) fun _ _ x => x.elim
      obtain ⟨rfl, hR⟩ := h₃
      exact hR
    · refine wpAny_mono (miss i hlt _ _ _ h₈ _ hX F₉ N₈) (fun f s₃ h₃ => ?_) fun _ _ x => x.elim
      obtain ⟨rfl, tk', rfl⟩ := h₃
      have up : ∀ b o, b ≠ env.locals → h₂.get? b = some o → h₈.get? b = some o := fun b o q1 q2 => (hs₅₈.2 b q1).trans (old₅ b o ((hs₄.2 b q1).trans (old₃ b o q2)))
      refine ⟨es.size + 1 - (i + 1), by omega, h₈, tk', _, i + 1, .ref es[i].a, rfl, ?_, ?_, F₉, N₈, G₈, hlt, fun y q1 q2 q3 q4 => ?_, fun j hj hji => ?_, rfl⟩
      · have : ((i + 1 : Nat) : Int) = (i : Int) + 1 := by push_cast; rfl
        rw [this]; exact up e _ heL he₂
      · exact (hit₁.extBut hs₂.extBut (Ne.symm hei)).at fun o q => up it o hiL q
      · unfold frame4; rw [if_neg q1, if_neg q2, if_neg q3, if_neg q4]
      · by_cases q : j = i
        · subst q; exact hX
        · exact hno j hj (by omega)
  · have hin : i = es.size := by omega
    refine wpAny_pyNext_enum_end hh he' hit' hlist (by simp; omega) fun h₁ he₁ => wpAny_execs_nil ?_
    obtain ⟨F₁, N₁, G₁⟩ := mv fun b o _ q2 q3 => he₁ b o q2 q3
    refine none h₁ tk m' (fun x hx => ?_) F₁ N₁ G₁
    obtain ⟨j, hj, rfl⟩ := Array.mem_iff_getElem.mp hx
    exact hno j hj (by omega)

def EnumFor (prog : Program) (w : World) (A : Around) (env : Env) (L : Addr) (g : Heap) (xi xw xn xc : Str) (body : List Stmt) (Q : Flow → Shared → Prop) (v : Value) (s : Shared) : Prop :=
  ∃ (e it l : Addr) (es : Array Ent) (ep : Nat) (m : Str → Option Value) (news : List (Addr × Obj)) (X : Value), v = .ref e ∧ e ≠ it ∧ g.get? e = none ∧ g.get? it = none ∧ (∀ p ∈ news, p.1 ≠ e) ∧ (∀ p ∈ news, p.1 ≠ it) ∧
    Fr g L s.heap m ∧ News g L s.heap news ∧ (l, W.listOf (es.map Ent.val) ep) ∈ news ∧ (∀ x ∈ es, ∃ o, (x.a, o) ∈ news) ∧ Good s.heap es ∧ e ≠ L ∧ it ≠ L ∧ IsEnum s.heap e it 0 .none ∧ s.heap.IsListIter it l 0 ∧
    (∀ i (hi : i < es.size) ti tw tn h tk, es[i].x ≠ X → Fr g L h (frame4 xi xw xn xc i es[i] ti tw tn m) → News g L h news →
      wpAny (model prog w) A (execs body env) (fun f s₂ => f = .next ∧ ∃ tk', s₂ = { s with heap := h, toks := tk' }) (fun _ _ => False) { s with heap := h, toks := tk }) ∧
    (∀ i (hi : i < es.size) ti tw tn h tk, es[i].x = X → (∀ j (hj : j < es.size), j < i → es[j].x ≠ X) → Fr g L h (frame4 xi xw xn xc i es[i] ti tw tn m) → News g L h news → Good h es →
      wpAny (model prog w) A (execs body env) (fun f s₂ => f = .brk ∧ Q .next s₂) (fun _ _ => False) { s with heap := h, toks := tk }) ∧
    (∀ h tk m', (∀ x ∈ es, x.x ≠ X) → Fr g L h m' → News g L h news → Good h es → Q .next { s with heap := h, toks := tk })

theorem EnumFor.intro {A : Around} {env : Env} {L : Addr} {g : Heap} {xi xw xn xc : Str} {body : List Stmt} {Q : Flow → Shared → Prop} {s : Shared} {e it l : Addr} {es : Array Ent} {ep : Nat} {m : Str → Option Value} {news : List (Addr × Obj)} (X : Value)
    (F : Fr g L s.heap m) (N : News g L s.heap news) (he : IsEnum s.heap e it 0 .none) (hit : s.heap.IsListIter it l 0) (hei : e ≠ it) (heg : g.get? e = none) (hig : g.get? it = none) (heN : ∀ p ∈ news, p.1 ≠ e) (hiN : ∀ p ∈ news, p.1 ≠ it)
    (heL : e ≠ L) (hiL : it ≠ L) (hln : (l, W.listOf (es.map Ent.val) ep) ∈ news) (hea : ∀ x ∈ es, ∃ o, (x.a, o) ∈ news) (G : Good s.heap es)
    (miss : ∀ i (hi : i < es.size) ti tw tn h tk, es[i].x ≠ X → Fr g L h (frame4 xi xw xn xc i es[i] ti tw tn m) → News g L h news →
      wpAny (model prog w) A (execs body env) (fun f s₂ => f = .next ∧ ∃ tk', s₂ = { s with heap := h, toks := tk' }) (fun _ _ => False) { s with heap := h, toks := tk })
    (hits : ∀ i (hi : i < es.size) ti tw tn h tk, es[i].x = X → (∀ j (hj : j < es.size), j < i → es[j].x ≠ X) → Fr g L h (frame4 xi xw xn xc i es[i] ti tw tn m) → News g L h news → Good h es →
      wpAny (model prog w) A (execs body env) (fun f s₂ => f = .brk ∧ Q .next s₂) (fun _ _ => False) { s with heap := h, toks := tk })
    (non : ∀ h tk m', (∀ x ∈ es, x.x ≠ X) → Fr g L h m' → News g L h news → Good h es → Q .next { s with heap := h, toks := tk }) :
    EnumFor prog w A env L g xi xw xn xc body Q (.ref e) s :=
  ⟨e, it, l, es, ep, m, news, X, rfl, hei, heg, hig, heN, hiN, F, N, hln, hea, G, heL, hiL, he, hit, miss, hits, non⟩

theorem For_enum3 {E : Value → Shared → Prop} {Q : Flow → Shared → Prop} {xi xw xn xc : Str} {p1 p2 p3 p4 p5 p6 pos : Pos} {k1 k2 : Nat} {iter : Expr} {body : List Stmt} {m : Str → Option Value} {L : Addr} (_F : Fr g L s.heap m) (hL : env.locals = L)
    (hh : A.handled = none) (hxi : env.kindOf xi = some .local) (hxw : env.kindOf xw = some .local) (hxn : env.kindOf xn = some .local) (hxc : env.kindOf xc = some .local)
    (hp : (env.scope.kind == .class || (env.scope.kind == .module && env.locals != env.globals)) = false)
    (h : wpAny (model prog w) A (eval iter env) (fun v s₁ => EnumFor prog w A env L g xi xw xn xc body Q v s₁) E s)
    (hs : ∀ x, foldedSetIterable iter env x = pure x := by intro _; rfl) :
    wpAny (model prog w) A (exec (.For (.Tuple [.Name xi p1, .Tuple [.Name xw p2, .Name xn p3, .Name xc p4] k1 p5] k2 p6) iter body [] pos) env) Q E s := by
  subst hL
  refine wpAny_For (wpAny_mono h (fun xval s₁ h₁ => ?_) fun _ _ x => x) hs
  obtain ⟨e, it, l, es, ep, m, news, X, rfl, hei, heg, hig, heN, hiN, F, N, hln, hea, G, heL, hiL, he, hit, miss, hits, non⟩ := h₁
  exact wpAny_pyIter_enum he (loop_enum3 (R := fun r s' => match r with | .ok f => Q f s' | .error e => cameBackBy (model prog w) A env E e s') X hh hxi hxw hxn hxc hp hei heg hig heN hiN F N hln hea G heL hiL he hit miss hits non)

theorem call_enum_K {E Q : Value → Shared → Prop} {L : Addr} {l : Addr} {its : Array Value} {ep : Nat} {m : Str → Option Value} {news : List (Addr × Obj)} (F : Fr g L s.heap m) (N : News g L s.heap news) (hl : (l, W.listOf its ep) ∈ news)
    (h : ∀ e it h', e ≠ it → g.get? e = none → g.get? it = none → (∀ p ∈ news, p.1 ≠ e) → (∀ p ∈ news, p.1 ≠ it) → e ≠ L → it ≠ L → (∀ b o, s.heap.get? b = some o → h'.get? b = some o) → Fr g L h' m → News g L h' news → IsEnum h' e it 0 .none → h'.IsListIter it l 0 → Q (.ref e) { s with heap := h' }) :
    wpAny (model prog w) A (call (.type "enumerate") [.ref l]) Q E s := by
  refine call_enumerate_1 (N _ hl).1 fun h' he hit hz k => ?_
  have big : ∀ b, s.heap.objs.size ≤ b → g.get? b = none := fun b hb => by
    cases q : g.get? b with
    | none => rfl
    | some o => exact absurd (Heap.lt_size (F.keep b o q)) (Nat.not_lt.mpr hb)
  have hL := F.ns.lt
  refine h _ _ h' (Nat.ne_of_gt (Nat.lt_succ_self _)) (big _ (Nat.le_succ _)) (big _ (Nat.le_refl _)) (fun p hp => ?_) (fun p hp => ?_) (Nat.ne_of_gt (Nat.lt_succ_of_lt hL)) (Nat.ne_of_gt hL) k (F.keeps k) (fun p hp => ⟨k _ _ (N p hp).1, (N p hp).2⟩) he hit
  · exact Nat.ne_of_lt (Nat.lt_succ_of_lt (Heap.lt_size (N p hp).1))
  · exact Nat.ne_of_lt (Heap.lt_size (N p hp).1)
end
end Mine
end

section
open PySem PySem.W PySem.Spec PySem.Calls PyProof.Rows
namespace Mine
set_option maxRecDepth 100000

noncomputable abbrev Lo0 : List Str := looseW hd.view_39 [Str.ofString "_Task", Str.ofString "OneShotTask", Str.ofString "count"]

/-- an entry of a thing's dict -/
abbrev ent (w : World) (x : String) (t : Tok) (v : Value) : DictEntry := ⟨PyData.keyHash w.params (Str.ofString x), .str (Str.ofString x) t, v⟩
/-- the manager's dict -/
abbrev mgrDict (w : World) (t1 t2 t3 : Tok) (hl cnt : Addr) (now : Int) (tn : Tok) : Obj := dictOf [ent w "tasks" t1 (.ref hl), ent w "now" t2 (.int now tn), ent w "counter" t3 (.ref cnt)] 3
/-- a task's dict -/
abbrev taskDict (w : World) (u1 u2 u3 : Tok) (tv : Value) (b : Bool) (mgr : Addr) : Obj := dictOf [ent w "taskTime" u1 tv, ent w "isScheduled" u2 (.bool b), ent w "taskManager" u3 (.ref mgr)] 3

theorem led_ne {h₀ h : Heap} {L a b : Addr} {o o' : Obj} {news : List (Addr × Obj)} (N : News h₀ L h news) (ha : (a, o) ∈ news) (hb : (b, o') ∈ news) (ho : o ≠ o') : a ≠ b := by
  rintro rfl
  have h1 := (N _ ha).1
  have h2 := (N _ hb).1
  rw [h1] at h2
  exact ho (Option.some.inj h2)
theorem ne_mgr_task {w : World} {t1 t2 t3 tn u1 u2 u3 : Tok} {hl cnt mgr : Addr} {now : Int} {tv : Value} {b : Bool} : mgrDict w t1 t2 t3 hl cnt now tn ≠ taskDict w u1 u2 u3 tv b mgr := by
  intro q
  injection q with _ _ q
  injection q with q
  injection q with q
  injection q with q
  injection q with _ q
  injection q with q
  exact absurd q (by decide)
theorem ne_dict_list {es : List DictEntry} {n k : Nat} {its : Array Value} : dictOf es n ≠ W.listOf its k := by intro q; injection q with q; injection q with q; exact absurd q (by decide)
theorem ne_inst_dict {C d : Addr} {es : List DictEntry} {n : Nat} : instObj C d ≠ dictOf es n := by intro q; injection q with q; cases q
theorem ne_inst_list {C d : Addr} {its : Array Value} {k : Nat} : instObj C d ≠ W.listOf its k := by intro q; injection q with q; cases q
theorem ne_inst {C C' d d' : Addr} (h : C ≠ C') : instObj C d ≠ instObj C' d' := by intro q; injection q with q; injection q with q; exact h q

structure GoodL (es : Array Ent) (rest : List (Addr × Obj)) : Prop where
  tup : ∀ e ∈ es, ∃ tw tn ep, (e.a, ({ cls := .type "tuple", data := .seq #[.int e.wn tw, .int e.n tn, e.x] ep } : Obj)) ∈ rest
  rng : ∀ e ∈ es, 0 ≤ e.n ∧ e.n < 1000
  nod : (es.toList.map (·.n)).Nodup
  sz : es.size ≤ 2000
theorem GoodL.good {es : Array Ent} {rest news : List (Addr × Obj)} {g h : Heap} {L : Addr} (G : GoodL es rest) (N : News g L h news) (hs : ∀ p ∈ rest, p ∈ news) : Good h es :=
  ⟨fun e he => let ⟨tw, tn, ep, hm⟩ := G.tup e he; ⟨tw, tn, ep, (N _ (hs _ hm)).1⟩, G.rng, G.nod, G.sz⟩
theorem GoodL.mem {es : Array Ent} {rest : List (Addr × Obj)} (G : GoodL es rest) : ∀ e ∈ es, ∃ o, (e.a, o) ∈ rest := fun e he => let ⟨_, _, _, hm⟩ := G.tup e he; ⟨_, hm⟩

section
variable {w : World} {mean : ExcName → Option Value} {mg mb : Str → Option Value} {dp un : Nat} {gd : Option (List Code)} {cn : Str} {cs : Scope} {a : Addr} {ccd : Value} {cl : List (Str × Addr)} {outer : List Env} {A₀ : Around} {base h₀ : Heap} {L : Addr} {m : Str → Option Value} {s : Shared}
  {Q E : Value → Shared → Prop}

local macro_rules | `(tactic| walk_at "call type:enumerate") => `(tactic| (k_here; refine' call_enum_K ?F ?N ?m ?_; (case F => k_asm); (case N => k_asm); (case m => k_mem); intro e' it' h' q1 q2 q3 q4 q5 q6 q7 kp' F' N' he' hi'))

/-- the others' entries -/
def others (es : Array Ent) (x : Addr) : List Ent := es.toList.filter fun e => decide (e.x ≠ .ref x)
theorem others_erase {es : Array Ent} {x : Addr} {i : Nat} (hi : i < es.size) (hX : es[i].x = .ref x) (nd : (es.toList.map (·.x)).Nodup) : (es.eraseIdx i hi).toList = others es x := by
  unfold others
  have hi' : i < es.toList.length := by simpa using hi
  have ha : es.toList = es.toList.take i ++ es.toList[i] :: es.toList.drop (i + 1) := by
    rw [List.getElem_cons_drop, List.take_append_drop]
  have hx' : es.toList[i].x = .ref x := by simpa using hX
  rw [Array.toList_eraseIdx, List.eraseIdx_eq_take_drop_succ]
  generalize es.toList.take i = p at *
  generalize es.toList.drop (i + 1) = q at *
  generalize es.toList[i] = c at *
  rw [ha] at nd ⊢
  simp only [List.map_append, List.map_cons, List.nodup_append, List.nodup_cons] at nd
  obtain ⟨_, ⟨hq, _⟩, hp⟩ := nd
  rw [List.filter_append, List.filter_cons, if_neg (by simp [hx'])]
  rw [List.filter_eq_self.mpr, List.filter_eq_self.mpr]
  · intro e he
    simp only [ne_eq, decide_eq_true_eq]
    intro z
    exact hq (by rw [hx', ← z]; exact List.mem_map_of_mem he)
  · intro e he
    simp only [ne_eq, decide_eq_true_eq]
    intro z
    exact hp _ (List.mem_map_of_mem he) _ (List.mem_cons_self) (by rw [hx', z])
theorem others_none {es : Array Ent} {x : Addr} (h : ∀ e ∈ es, e.x ≠ .ref x) : others es x = es.toList := by
  unfold others
  rw [List.filter_eq_self.mpr]
  intro e he
  simpa using h e (by simpa using he)

theorem GoodL.erase {es : Array Ent} {rest : List (Addr × Obj)} (G : GoodL es rest) {i : Nat} (hi : i < es.size) : GoodL (es.eraseIdx i hi) rest where
  tup := fun e he => G.tup e (Array.mem_of_mem_eraseIdx he)
  rng := fun e he => G.rng e (Array.mem_of_mem_eraseIdx he)
  nod := by rw [Array.toList_eraseIdx]; exact G.nod.sublist ((List.eraseIdx_sublist _ _).map _)
  sz := by rw [Array.size_eraseIdx]; have := G.sz; omega

theorem del_K {prog : Program} {A : Around} {E : Value → Shared → Prop} {Q : Unit → Shared → Prop} {l : Addr} {es : Array Ent} {ep i : Nat} {u : Tok} {news : List (Addr × Obj)} {g : Obj → List (Addr × Obj)} (F : Fr h₀ L s.heap m) (N : News h₀ L s.heap news) (U : UpdF l (W.listOf (es.map Ent.val) ep) news g)
    (hi : i < es.size) (hz : es.size ≤ 2000) (h : ∀ h', Fr h₀ L h' m → News h₀ L h' (g (W.listOf ((es.eraseIdx i hi).map Ent.val) (ep + 1))) → Q () { s with heap := h' }) :
    wpAny (model prog w) A (delItem (.ref l) (.int (i : Int) u)) Q E s := by
  have hsz : (es.map Ent.val).size = es.size := by simp
  refine delItem_at (led_get N U) (by unfold Builtin.List.listFitsIndex; simp; omega) (k := i) ?_ (fun h' hs ho' => ?_) (by rw [hsz, sizeLine_eq]; omega)
  · unfold seqIndex?
    have h1 : ¬ ((i : Int) < 0) := by omega
    simp [h1, hi]
  · have e : (List.eraseIdx (es.map Ent.val).toList i).toArray = (es.eraseIdx i hi).map Ent.val := by
      apply Array.toList_inj.mp
      simp [List.eraseIdx_eq_take_drop_succ, List.map_take, List.map_drop]
    rw [e] at ho'
    exact h h' (led_same F N U hs ho').1 (led_same F N U hs ho').2

local macro_rules | `(tactic| k_mem) => `(tactic| assumption)
local macro_rules | `(tactic| walk_at "delItem ref int") => `(tactic| (k_here; refine' del_K ?F ?N ?U ?i ?z ?_; (case F => k_asm); (case N => k_asm); (case U => k_updF); (case i => assumption); (case z => exact GoodL.sz (by assumption)); intro h' F' N'; (try dsimp only at N')))
local macro_rules | `(tactic| walk_at "call builtin:_heapq.heapify") => `(tactic| (k_here; refine' hfy_K ?F ?N ?U ?G ?z ?_; (case F => k_asm); (case N => k_asm); (case U => k_updF); (case G => refine GoodL.good (by assumption) (by assumption) (fun p hp => ?_); repeat (first | exact hp | refine List.Mem.tail _ ?_)); (case z => ktr_units); intro es' h' ep' pm' hf' G' F' N'; (try dsimp only at N')))

set_option maxHeartbeats 4000000 in
theorem c_suspend {mgr mgrD hl cnt x dx : Addr} {t1 t2 t3 tn u1 u2 u3 : Tok} {now : Int} {tv : Value} {b : Bool} {es : Array Ent} {ep : Nat} {rest : List (Addr × Obj)}
    (B : Below A₀ base outer h₀) (F : Fr h₀ L s.heap m) (X : (hd.heap_39 w.params).In h₀)
    (N : News h₀ L s.heap ((mgr, instObj 244 mgrD) :: (mgrD, mgrDict w t1 t2 t3 hl cnt now tn) :: (x, instObj 123 dx) :: (dx, taskDict w u1 u2 u3 tv b mgr) :: (hl, W.listOf (es.map Ent.val) ep) :: rest)) (T : Top hd.view_39 Lo0 mean mg mb h₀) (hk : cs.kind = .function)
    (hoff : OwnOff rest [mgr, mgrD, x, dx, hl]) (hd : dp + 4 < recursionLimit) (hu : un + 40 < cLine) (G : GoodL es rest) (hh : HeapFrom (kz es) es.size 0)
    (hrf : ∀ e ∈ es, ∃ y, e.x = .ref y ∧ (y ≠ x → ∃ o, (y, o) ∈ rest)) (nd : (es.toList.map (·.x)).Nodup)
    (ret : ∀ es' ep' b' h' tk', es'.toList.Perm (others es x) → HeapFrom (kz es') es'.size 0 → (b' = false ∨ (b' = b ∧ ∀ e ∈ es, e.x ≠ .ref x)) → Fr h₀ L h' m →
      News h₀ L h' ((mgr, instObj 244 mgrD) :: (mgrD, mgrDict w t1 t2 t3 hl cnt now tn) :: (x, instObj 123 dx) :: (dx, taskDict w u1 u2 u3 tv b' mgr) :: (hl, W.listOf (es'.map Ent.val) ep') :: rest) → Q .none { s with heap := h', toks := tk' })
    :
    wpAny (model PySem.Challenge.rw_vs0001_01.row.prog w) (ktrTop dp un gd cn cs L a ccd cl outer) (call (.ref 227) [.ref mgr, .ref x]) Q E s := by
  have n1 := neN (a := mgr) (b := mgrD) (led_ne N (List.Mem.head _) (List.Mem.tail _ (List.Mem.head _)) ne_inst_dict)
  have n2 := neN (a := mgr) (b := x) (led_ne N (List.Mem.head _) (List.Mem.tail _ (List.Mem.tail _ (List.Mem.head _))) (ne_inst (by decide)))
  have n3 := neN (a := mgr) (b := dx) (led_ne N (List.Mem.head _) (List.Mem.tail _ (List.Mem.tail _ (List.Mem.tail _ (List.Mem.head _)))) ne_inst_dict)
  have n4 := neN (a := mgr) (b := hl) (led_ne N (List.Mem.head _) (List.Mem.tail _ (List.Mem.tail _ (List.Mem.tail _ (List.Mem.tail _ (List.Mem.head _))))) ne_inst_list)
  have n5 := neN (a := x) (b := mgrD) (led_ne N (List.Mem.tail _ (List.Mem.tail _ (List.Mem.head _))) (List.Mem.tail _ (List.Mem.head _)) ne_inst_dict)
  have n6 := neN (a := mgrD) (b := dx) (led_ne N (List.Mem.tail _ (List.Mem.head _)) (List.Mem.tail _ (List.Mem.tail _ (List.Mem.tail _ (List.Mem.head _)))) ne_mgr_task)
  have n7 := neN (a := mgrD) (b := hl) (led_ne N (List.Mem.tail _ (List.Mem.head _)) (List.Mem.tail _ (List.Mem.tail _ (List.Mem.tail _ (List.Mem.tail _ (List.Mem.head _))))) ne_dict_list)
  have n8 := neN (a := x) (b := dx) (led_ne N (List.Mem.tail _ (List.Mem.tail _ (List.Mem.head _))) (List.Mem.tail _ (List.Mem.tail _ (List.Mem.tail _ (List.Mem.head _)))) ne_inst_dict)
  have n9 := neN (a := x) (b := hl) (led_ne N (List.Mem.tail _ (List.Mem.tail _ (List.Mem.head _))) (List.Mem.tail _ (List.Mem.tail _ (List.Mem.tail _ (List.Mem.tail _ (List.Mem.head _))))) ne_inst_list)
  have n10 := neN (a := dx) (b := hl) (led_ne N (List.Mem.tail _ (List.Mem.tail _ (List.Mem.tail _ (List.Mem.head _)))) (List.Mem.tail _ (List.Mem.tail _ (List.Mem.tail _ (List.Mem.tail _ (List.Mem.head _))))) ne_dict_list)
  revert X
  k_fill
  intro X
  refine wpAny_call ?_
  k_dflt cell_enter
  k_steps
  (rename Fr _ _ _ _ => fr)
  refine For_enum3 fr rfl rfl rfl rfl rfl rfl rfl ?_

  k_steps
  refine EnumFor.intro (es := es) (ep := ep) (.ref x) (by assumption) (by assumption) (by assumption) (by assumption) (by assumption) (by assumption) (by assumption) (by assumption) (by assumption) (by assumption) (by assumption) (by k_mem) ?hea ?G ?miss ?hits ?non
  case hea => intro e he; obtain ⟨o, ho⟩ := G.mem e he; exact ⟨o, by repeat (first | exact ho | refine List.Mem.tail _ ?_)⟩
  case G => exact G.good (by assumption) fun p hp => by repeat (first | exact hp | refine List.Mem.tail _ ?_)
  case miss =>
    intro i hi ti tw tn h tk hX F' N'
    obtain ⟨y, hy, ho⟩ := hrf _ (Array.getElem_mem hi)
    unfold frame4 at F'
    rw [hy] at F' hX
    have hxy : x ≠ y := fun q => hX (by rw [q])
    obtain ⟨oy, hoy⟩ := ho (Ne.symm hxy)
    k_steps
  case hits =>
    intro i hi ti tw tn h tk hX hno F' N' G'
    unfold frame4 at F'
    rw [hX] at F'
    have Ge := G.erase hi
    k_steps
    (rename Array.Perm _ _ => pm)
    (rename HeapFrom _ _ _ => hf)
    exact ret _ _ false _ _ ((Array.perm_iff_toList_perm.mp pm).trans (.of_eq (others_erase hi hX nd))) hf (.inl rfl) (by assumption) (by assumption)
  case non =>
    intro h tk m' hX F' N' G'
    k_steps
    exact ret es ep b _ _ (.of_eq (others_none hX).symm) hh (.inr ⟨rfl, hX⟩) (by assumption) (by assumption)
end
end Mine
end

section
open PySem PySem.W PySem.Spec PySem.Calls PyProof.Rows
namespace Mine
set_option maxRecDepth 100000

/-- the counter -/
abbrev cntObj (cd : Addr) (c : Int) (t0 t2 : Tok) : Obj := { cls := .ref 180, dict := some cd, slots := #[some (.int c t0), some (.bool true), some (.int 1 t2)] }

theorem ne_cls {o o' : Obj} (h : o.cls ≠ o'.cls) : o ≠ o' := fun q => h (by rw [q])
theorem ne_dict3 {es es' : List DictEntry} : dictOf es 3 ≠ dictOf es' 0 := by intro q; injection q with _ _ q; injection q with _ q; exact absurd q (by decide)
structure Apart7 (mgr mgrD x dx hl cnt cd : Nat) : Prop where
  n1 : mgr ≠ mgrD
  n2 : mgr ≠ x
  n3 : mgr ≠ dx
  n4 : mgr ≠ hl
  n5 : mgr ≠ cnt
  n6 : mgr ≠ cd
  n7 : mgrD ≠ x
  n8 : mgrD ≠ dx
  n9 : mgrD ≠ hl
  n10 : mgrD ≠ cnt
  n11 : mgrD ≠ cd
  n12 : x ≠ dx
  n13 : x ≠ hl
  n14 : x ≠ cnt
  n15 : x ≠ cd
  n16 : dx ≠ hl
  n17 : dx ≠ cnt
  n18 : dx ≠ cd
  n19 : hl ≠ cnt
  n20 : hl ≠ cd
  n21 : cnt ≠ cd
theorem apart7 {w : World} {h₀ h : Heap} {L : Addr} {mgr mgrD x dx hl cnt cd : Addr} {t1 t2 t3 tn u1 u2 u3 k0 k2 : Tok} {now c : Int} {tv : Value} {b : Bool} {its : Array Value} {ep : Nat} {rest : List (Addr × Obj)}
    (N : News h₀ L h ((mgr, instObj 244 mgrD) :: (mgrD, mgrDict w t1 t2 t3 hl cnt now tn) :: (x, instObj 123 dx) :: (dx, taskDict w u1 u2 u3 tv b mgr) :: (hl, W.listOf its ep) :: (cnt, cntObj cd c k0 k2) :: (cd, dictOf [] 0) :: rest)) : Apart7 mgr mgrD x dx hl cnt cd := by
  have n1 := neN (a := mgr) (b := mgrD) (led_ne N (List.Mem.head _) (List.Mem.tail _ (List.Mem.head _)) (ne_cls (by simp)))
  have n2 := neN (a := mgr) (b := x) (led_ne N (List.Mem.head _) (List.Mem.tail _ (List.Mem.tail _ (List.Mem.head _))) (ne_cls (by simp)))
  have n3 := neN (a := mgr) (b := dx) (led_ne N (List.Mem.head _) (List.Mem.tail _ (List.Mem.tail _ (List.Mem.tail _ (List.Mem.head _)))) (ne_cls (by simp)))
  have n4 := neN (a := mgr) (b := hl) (led_ne N (List.Mem.head _) (List.Mem.tail _ (List.Mem.tail _ (List.Mem.tail _ (List.Mem.tail _ (List.Mem.head _))))) (ne_cls (by simp)))
  have n5 := neN (a := mgr) (b := cnt) (led_ne N (List.Mem.head _) (List.Mem.tail _ (List.Mem.tail _ (List.Mem.tail _ (List.Mem.tail _ (List.Mem.tail _ (List.Mem.head _)))))) (ne_cls (by simp)))
  have n6 := neN (a := mgr) (b := cd) (led_ne N (List.Mem.head _) (List.Mem.tail _ (List.Mem.tail _ (List.Mem.tail _ (List.Mem.tail _ (List.Mem.tail _ (List.Mem.tail _ (List.Mem.head _))))))) (ne_cls (by simp)))
  have n7 := neN (a := mgrD) (b := x) (led_ne N (List.Mem.tail _ (List.Mem.head _)) (List.Mem.tail _ (List.Mem.tail _ (List.Mem.head _))) (ne_cls (by simp)))
  have n8 := neN (a := mgrD) (b := dx) (led_ne N (List.Mem.tail _ (List.Mem.head _)) (List.Mem.tail _ (List.Mem.tail _ (List.Mem.tail _ (List.Mem.head _)))) ne_mgr_task)
  have n9 := neN (a := mgrD) (b := hl) (led_ne N (List.Mem.tail _ (List.Mem.head _)) (List.Mem.tail _ (List.Mem.tail _ (List.Mem.tail _ (List.Mem.tail _ (List.Mem.head _))))) (ne_cls (by simp)))
  have n10 := neN (a := mgrD) (b := cnt) (led_ne N (List.Mem.tail _ (List.Mem.head _)) (List.Mem.tail _ (List.Mem.tail _ (List.Mem.tail _ (List.Mem.tail _ (List.Mem.tail _ (List.Mem.head _)))))) (ne_cls (by simp)))
  have n11 := neN (a := mgrD) (b := cd) (led_ne N (List.Mem.tail _ (List.Mem.head _)) (List.Mem.tail _ (List.Mem.tail _ (List.Mem.tail _ (List.Mem.tail _ (List.Mem.tail _ (List.Mem.tail _ (List.Mem.head _))))))) ne_dict3)
  have n12 := neN (a := x) (b := dx) (led_ne N (List.Mem.tail _ (List.Mem.tail _ (List.Mem.head _))) (List.Mem.tail _ (List.Mem.tail _ (List.Mem.tail _ (List.Mem.head _)))) (ne_cls (by simp)))
  have n13 := neN (a := x) (b := hl) (led_ne N (List.Mem.tail _ (List.Mem.tail _ (List.Mem.head _))) (List.Mem.tail _ (List.Mem.tail _ (List.Mem.tail _ (List.Mem.tail _ (List.Mem.head _))))) (ne_cls (by simp)))
  have n14 := neN (a := x) (b := cnt) (led_ne N (List.Mem.tail _ (List.Mem.tail _ (List.Mem.head _))) (List.Mem.tail _ (List.Mem.tail _ (List.Mem.tail _ (List.Mem.tail _ (List.Mem.tail _ (List.Mem.head _)))))) (ne_cls (by simp)))
  have n15 := neN (a := x) (b := cd) (led_ne N (List.Mem.tail _ (List.Mem.tail _ (List.Mem.head _))) (List.Mem.tail _ (List.Mem.tail _ (List.Mem.tail _ (List.Mem.tail _ (List.Mem.tail _ (List.Mem.tail _ (List.Mem.head _))))))) (ne_cls (by simp)))
  have n16 := neN (a := dx) (b := hl) (led_ne N (List.Mem.tail _ (List.Mem.tail _ (List.Mem.tail _ (List.Mem.head _)))) (List.Mem.tail _ (List.Mem.tail _ (List.Mem.tail _ (List.Mem.tail _ (List.Mem.head _))))) (ne_cls (by simp)))
  have n17 := neN (a := dx) (b := cnt) (led_ne N (List.Mem.tail _ (List.Mem.tail _ (List.Mem.tail _ (List.Mem.head _)))) (List.Mem.tail _ (List.Mem.tail _ (List.Mem.tail _ (List.Mem.tail _ (List.Mem.tail _ (List.Mem.head _)))))) (ne_cls (by simp)))
  have n18 := neN (a := dx) (b := cd) (led_ne N (List.Mem.tail _ (List.Mem.tail _ (List.Mem.tail _ (List.Mem.head _)))) (List.Mem.tail _ (List.Mem.tail _ (List.Mem.tail _ (List.Mem.tail _ (List.Mem.tail _ (List.Mem.tail _ (List.Mem.head _))))))) ne_dict3)
  have n19 := neN (a := hl) (b := cnt) (led_ne N (List.Mem.tail _ (List.Mem.tail _ (List.Mem.tail _ (List.Mem.tail _ (List.Mem.head _))))) (List.Mem.tail _ (List.Mem.tail _ (List.Mem.tail _ (List.Mem.tail _ (List.Mem.tail _ (List.Mem.head _)))))) (ne_cls (by simp)))
  have n20 := neN (a := hl) (b := cd) (led_ne N (List.Mem.tail _ (List.Mem.tail _ (List.Mem.tail _ (List.Mem.tail _ (List.Mem.head _))))) (List.Mem.tail _ (List.Mem.tail _ (List.Mem.tail _ (List.Mem.tail _ (List.Mem.tail _ (List.Mem.tail _ (List.Mem.head _))))))) (ne_cls (by simp)))
  have n21 := neN (a := cnt) (b := cd) (led_ne N (List.Mem.tail _ (List.Mem.tail _ (List.Mem.tail _ (List.Mem.tail _ (List.Mem.tail _ (List.Mem.head _)))))) (List.Mem.tail _ (List.Mem.tail _ (List.Mem.tail _ (List.Mem.tail _ (List.Mem.tail _ (List.Mem.tail _ (List.Mem.head _))))))) (ne_cls (by simp)))
  exact ⟨n1, n2, n3, n4, n5, n6, n7, n8, n9, n10, n11, n12, n13, n14, n15, n16, n17, n18, n19, n20, n21⟩

def Hold (P : Prop) : Prop := P
theorem Hold.mk {P : Prop} (h : Hold P) : P := h
theorem Hold.out {P : Prop} (h : P) : Hold P := h

section
variable {w : World} {mean : ExcName → Option Value} {mg mb : Str → Option Value} {dp un : Nat} {gd : Option (List Code)} {cn : Str} {cs : Scope} {a : Addr} {ccd : Value} {cl : List (Str × Addr)} {outer : List Env} {A₀ : Around} {base h₀ : Heap} {L : Addr} {m : Str → Option Value} {s : Shared}
  {Q E : Value → Shared → Prop}

theorem entry_next : entryFor table "next" = some Builtin.«next» := entryFor_of_fast (by kernel_rfl)
theorem args_next (a : Value) : argsOk "next" ⟨[a], []⟩ := by unfold argsOk; kernel_rfl
theorem next_own {prog : Program} {A : Around} {K : Frag} {x C f : Addr} {ox : Obj} {od : Option Obj} (F : Fr h₀ L s.heap m) (X₀ : K.In h₀) (I : InstAt s.heap x ox C od) (hs : findIn K (.ref C) "__next__" = some (some (.ref f))) (hf : isFn K (.ref f) = true)
    (h : wpAny (model prog w) A.in1 (call (.ref f) [.ref x]) Q E s) : wpAny (model prog w) A (call (.builtin "next") [.ref x]) Q E s := by
  refine call_function_entry (by decide +kernel) (by decide +kernel) entry_next (args_next _) ?_
  unfold Builtin.«next»
  refine wpAny_bind (m := someArgs "next" 1 2 _) (wpAny_of_eq (a := [Value.ref x]) (by first | rfl | kernel_rfl!) ?_)
  dsimp only
  refine wpAny_bind (wpAny_bind (I.type.here ((looks_findIn (X₀.keeps F.keep) hs).here ?_)))
  refine wpAny_ite ?_
  rw [if_neg (by simp)]
  refine wpAny_bind (special_fn (name := "__next__") (args := []) (X₀.keeps F.keep) I hs (beq_iff_eq.mp hf) (wpAny_mono h (fun v s' hq => ?_) fun _ _ e => e))
  exact wpAny_pure ⟨_, rfl, hq⟩

theorem Good.push_of {h : Heap} {es : Array Ent} {q : Addr} {v c : Int} {x : Value} {tw tn : Tok} {ep : Nat} (G : Good h es) (ht : h.get? q = some { cls := .type "tuple", data := .seq #[.int v tw, .int c tn, x] ep }) (h0 : 0 ≤ c) (h1 : c < 1000) (hc : ∀ e ∈ es, e.n < c) (hz : es.size < 1000) :
    Good h (es.push ⟨q, v, c, x⟩) where
  tup := fun e he => by
    rcases Array.mem_push.mp he with he | rfl
    · exact G.tup e he
    · exact ⟨_, _, _, ht⟩
  rng := fun e he => by
    rcases Array.mem_push.mp he with he | rfl
    · exact G.rng e he
    · exact ⟨h0, h1⟩
  nod := by
    rw [Array.toList_push, List.map_append, List.nodup_append]
    refine ⟨G.nod, by simp, fun a ha b hb => ?_⟩
    obtain ⟨e, he, rfl⟩ := List.mem_map.mp ha
    have := hc e (by simpa using he)
    simp at hb
    subst hb
    omega
  sz := by rw [Array.size_push]; omega
theorem GoodL.others {es es' : Array Ent} {x : Addr} {rest : List (Addr × Obj)} (G : GoodL es rest) (p : es'.toList.Perm (others es x)) : GoodL es' rest := by
  have sub : ∀ e ∈ es', e ∈ es := fun e he => by
    have := p.mem_iff.mp (by simpa using he)
    simpa using (List.mem_filter.mp this).1
  exact ⟨fun e he => G.tup e (sub e he), fun e he => G.rng e (sub e he), ((p.map (·.n)).symm.nodup (G.nod.sublist (List.filter_sublist.map _))), by have := p.length_eq; have h2 : (Mine.others es x).length ≤ es.toList.length := List.length_filter_le _ _; have := G.sz; simp at this h2 ⊢; simp at *; omega⟩

theorem led_rot7 {h₀ h : Heap} {L : Addr} {q a b c d e f g : Addr × Obj} {rest : List (Addr × Obj)} (N : News h₀ L h (q :: a :: b :: c :: d :: e :: f :: g :: rest)) : News h₀ L h (a :: b :: c :: d :: e :: f :: g :: q :: rest) := by
  intro p hp
  refine N p ?_
  simp only [List.mem_cons] at hp ⊢
  rcases hp with h | h | h | h | h | h | h | h | h <;> simp [h]
abbrev tupObj (v c : Int) (tv tc : Tok) (x : Addr) : Obj := { cls := .type "tuple", data := .seq #[.int v tv, .int c tc, .ref x] }
theorem others_push {es es' es'' : Array Ent} {x : Addr} {e : Ent} (p : es'.toList.Perm (others es x)) (p' : es''.Perm (es'.push e)) : es''.toList.Perm (others es x ++ [e]) := by
  have h := Array.perm_iff_toList_perm.mp p'
  rw [Array.toList_push] at h
  exact h.trans (p.append_right _)

theorem off_cons {own : List (Addr × Obj)} {adr : List Addr} {p : Addr × Obj} (h : OwnOff own adr) (hp : ∀ b ∈ adr, p.1 ≠ b) : OwnOff (p :: own) adr := by
  intro q hq b hb
  rcases List.mem_cons.mp hq with rfl | hq
  · exact hp b hb
  · exact h q hq b hb
theorem off_sub {own : List (Addr × Obj)} {adr adr' : List Addr} (h : OwnOff own adr) (hs : ∀ b ∈ adr', b ∈ adr) : OwnOff own adr' := fun p hp b hb => h p hp b (hs b hb)
theorem GoodL.mono {es : Array Ent} {rest rest' : List (Addr × Obj)} (G : GoodL es rest) (hs : ∀ p ∈ rest, p ∈ rest') : GoodL es rest' :=
  ⟨fun e he => let ⟨a, b, c, h⟩ := G.tup e he; ⟨a, b, c, hs _ h⟩, G.rng, G.nod, G.sz⟩

local macro_rules | `(tactic| k_mem) => `(tactic| assumption)
local macro_rules | `(tactic| walk_at "call ref") => `(tactic| (k_here; refine wpAny_call ?_; (k_dflt (refine' code_def ?k1 ?k2 ?k3 ?k4 ?k5 ?kA ?kF ?kK ?k6 ?k7 ?k8 ?k9 ?kB ?_ ?c2 ?c3 ?c4 ?c5; (case kA => exact rfl); (case kF => exact rfl); (case kK => first | assumption | exact rfl); (case k1 => k_asm); (case k2 => k_asm); (case k3 => k_asm); (case k4 => k_asm); (case k5 => k_asm); (case k6 => k_is); (case k7 => k_is); (case k8 => ktr_room); (case k9 => exact BindsTo.of_eq rfl); (case c5 => decide); (case kB => exact locs rfl); (case c2 => exact rfl); (case c3 => exact rfl); (case c4 => exact rfl); k_whole)); intro g' L' h' FG' F' N' B' X' T'; (try dsimp only); (try k_lift B'); (try k_fold)))
local macro_rules | `(tactic| walk_at "call ref") => `(tactic| ((with_reducible show wpAny _ _ (call (Value.ref 227) _) _ _ _); refine Hold.mk ?_))

local macro_rules | `(tactic| walk_at "call builtin:next") => `(tactic| (k_here; k_dflt (refine' next_own ?F ?X ?I ?hs ?hf ?_; (case F => k_asm); (case X => k_asm); (case I => k_inst); (case hs => k_is); (case hf => k_is))))

local macro_rules | `(tactic| walk_at "pad") => `(tactic| fail "none")
set_option maxHeartbeats 4000000 in
theorem c_install {mgr mgrD hl cnt cd x dx : Addr} {t1 t2 t3 tn u1 u2 u3 tt k0 k2 : Tok} {now v c : Int} {b : Bool} {es : Array Ent} {ep : Nat} {rest : List (Addr × Obj)}
    (B : Below A₀ base outer h₀) (F : Fr h₀ L s.heap m) (X : (hd.heap_39 w.params).In h₀)
    (N : News h₀ L s.heap ((mgr, instObj 244 mgrD) :: (mgrD, mgrDict w t1 t2 t3 hl cnt now tn) :: (x, instObj 123 dx) :: (dx, taskDict w u1 u2 u3 (.int v tt) b mgr) :: (hl, W.listOf (es.map Ent.val) ep)  :: (cnt, cntObj cd c k0 k2) :: (cd, dictOf [] 0) :: rest)) (T : Top hd.view_39 Lo0 mean mg mb h₀) (hk : cs.kind = .function)
    (hoff : OwnOff rest [mgr, mgrD, x, dx, hl, cnt, cd]) (hd : dp + 6 < recursionLimit) (hu : un + 60 < cLine) (G : GoodL es rest) (hh : HeapFrom (kz es) es.size 0)
    (hrf : ∀ e ∈ es, ∃ y, e.x = .ref y ∧ (y ≠ x → ∃ o, (y, o) ∈ rest)) (nd : (es.toList.map (·.x)).Nodup) (hb : b = false → ∀ e ∈ es, e.x ≠ .ref x) (hc : ∀ e ∈ es, e.n < c) (h0 : 0 ≤ c) (h1 : c < 1000) (hz : es.size < 1000)
    (ret : ∀ es' ep' q tc k0' h' tk', es'.toList.Perm (others es x ++ [⟨q, v, c, .ref x⟩]) → HeapFrom (kz es') es'.size 0 → AllLt q rest → hl < q → Fr h₀ L h' m →
      News h₀ L h' ((mgr, instObj 244 mgrD) :: (mgrD, mgrDict w t1 t2 t3 hl cnt now tn) :: (x, instObj 123 dx) :: (dx, taskDict w u1 u2 u3 (.int v tt) true mgr) :: (hl, W.listOf (es'.map Ent.val) ep') :: (cnt, cntObj cd (c + 1) k0' k2) :: (cd, dictOf [] 0) :: (q, tupObj v c tt tc x) :: rest) → Q .none { s with heap := h', toks := tk' }) :
    wpAny (model PySem.Challenge.rw_vs0001_01.row.prog w) (ktrTop dp un gd cn cs L a ccd cl outer) (call (.ref 220) [.ref mgr, .ref x]) Q E s := by
  obtain ⟨n1, n2, n3, n4, n5, n6, n7, n8, n9, n10, n11, n12, n13, n14, n15, n16, n17, n18, n19, n20, n21⟩ := apart7 N
  revert X
  k_fill
  intro X
  refine wpAny_call ?_
  cases b with
  | false =>
    k_dflt cell_enter
    k_steps
    (rename News _ _ _ _ => NN)
    (rename _ ∧ _ => l1)
    refine' hpush_K (es := es) (ep := ep) (e := ⟨_, v, c, .ref x⟩) ?F ?N ?U ?G ?hh ?hu ?_
    case F => k_asm
    case N => exact NN
    case U => k_updF
    case G => exact (G.good NN (fun p hp => by repeat (first | exact hp | refine List.Mem.tail _ ?_))).push_of (NN _ (List.Mem.head _)).1 h0 h1 hc hz
    case hh => exact hh
    case hu => ktr_units
    intro es' h' ep' pm hf G' F' N'
    (try dsimp only at N')
    k_steps
    (rename News _ _ _ _ => NN')
    exact ret _ _ _ _ _ _ _ (others_push (.of_eq (others_none (hb rfl)).symm) pm) hf l1.2.2.2.2.2.2.2 l1.2.2.2.2.1 (by assumption) (led_rot7 NN')
  | true =>
    k_dflt cell_enter
    k_steps
    show wpAny _ _ (call (Value.ref 227) _) _ _ _
    (rename News _ _ _ _ => NN)
    refine' c_suspend (es := es) (ep := ep) (rest := (cnt, cntObj cd c k0 k2) :: (cd, dictOf [] 0) :: rest) ?B ?F ?X NN ?T ?hk ?off ?hd ?hu ?G hh ?hrf nd ?ret
    case B => k_asm
    case F => k_asm
    case X => k_asm
    case T => k_asm
    case hk => exact rfl
    case off =>
      refine off_cons (off_cons (off_sub hoff fun b hb => ?_) fun b hb => ?_) fun b hb => ?_
      · simp only [List.mem_cons, List.not_mem_nil, or_false] at hb ⊢; rcases hb with q | q | q | q | q <;> simp [q]
      · simp only [List.mem_cons, List.not_mem_nil, or_false] at hb; rcases hb with rfl | rfl | rfl | rfl | rfl <;> (refine neN ?_; dsimp only; omega)
      · simp only [List.mem_cons, List.not_mem_nil, or_false] at hb; rcases hb with rfl | rfl | rfl | rfl | rfl <;> (refine neN ?_; dsimp only; omega)
    case hd => ktr_room
    case hu => ktr_units
    case G => exact G.mono fun p hp => List.Mem.tail _ (List.Mem.tail _ hp)
    case hrf => intro e he; obtain ⟨y, hy, ho⟩ := hrf e he; exact ⟨y, hy, fun q => let ⟨o, hm⟩ := ho q; ⟨o, List.Mem.tail _ (List.Mem.tail _ hm)⟩⟩
    intro es₁ ep₁ b₁ h' tk' pm₁ hh₁ hb₁ F' N'
    have G₁ : GoodL es₁ rest := G.others pm₁
    have hc₁ : ∀ e ∈ es₁, e.n < c := fun e he => hc e (by have := pm₁.mem_iff.mp (by simpa using he); simpa using (List.mem_filter.mp this).1)
    have hz₁ : es₁.size < 1000 := by have h := pm₁.length_eq; have h2 : (others es x).length ≤ es.toList.length := List.length_filter_le _ _; simp at h h2; omega
    k_steps
    (rename News _ _ _ _ => NN)
    (rename _ ∧ _ => l1)
    refine' hpush_K (es := es₁) (ep := ep₁) (e := ⟨_, v, c, .ref x⟩) ?F ?N ?U ?G ?hh ?hu ?_
    case F => k_asm
    case N => exact NN
    case U => k_updF
    case G => exact (G₁.good NN (fun p hp => by repeat (first | exact hp | refine List.Mem.tail _ ?_))).push_of (NN _ (List.Mem.head _)).1 h0 h1 hc₁ hz₁
    case hh => exact hh₁
    case hu => ktr_units
    intro es' h' ep' pm hf G' F' N'
    (try dsimp only at N')
    k_steps
    (rename News _ _ _ _ => NN')
    exact ret _ _ _ _ _ _ _ (others_push pm₁ pm) hf l1.2.2.2.2.2.2.2 l1.2.2.2.2.1 (by assumption) (led_rot7 NN')
end
end Mine
end

section
open PySem PySem.W PySem.Spec PySem.Calls PyProof.Rows
namespace Mine
set_option maxRecDepth 100000

theorem cmp0 (i : Int) : (Float64.cmpInt 0 i == some Ordering.gt) = decide (i < 0) := by
  have hd : Float64.decode 0 = .fin false 0 (-1074) := by kernel_rfl
  have hc : Float64.cmpInt 0 i = some (compare (0 : Int) (i * 2 ^ 1074)) := by
    unfold Float64.cmpInt
    rw [hd]
    dsimp only
    rw [if_neg (by decide)]
    rfl
  rw [hc]
  have hp : (0 : Int) < 2 ^ 1074 := by decide +kernel
  generalize (2 : Int) ^ 1074 = P at hp
  by_cases h : i < 0
  · have h1 : i * P < 0 := Int.mul_neg_of_neg_of_pos h hp
    rw [Int.compare_eq_gt.mpr h1]
    simp [h]
  · have h1 : 0 ≤ i * P := Int.mul_nonneg (by omega) (by omega)
    have h2 : compare (0 : Int) (i * P) ≠ .gt := by
      intro q
      have := Int.compare_eq_gt.mp q
      omega
    simp [h, h2]

/-- what is told of the time till the next one -/
def DeltaV (es : List Ent) (now : Int) (dv : Value) : Prop := match es with
  | [] => dv = .none
  | e :: _ => (now ≤ e.wn ∧ ∃ t, dv = .int (e.wn - now) t) ∨ (e.wn < now ∧ ∃ t, dv = .float 0 t)

section
variable {w : World} {mean : ExcName → Option Value} {mg mb : Str → Option Value} {dp un : Nat} {gd : Option (List Code)} {cn : Str} {cs : Scope} {a : Addr} {ccd : Value} {cl : List (Str × Addr)} {outer : List Env} {A₀ : Around} {base h₀ : Heap} {L : Addr} {m : Str → Option Value} {s : Shared}
  {Q E : Value → Shared → Prop}

theorem truthy_cons {prog : Program} {A : Around} {E : Value → Shared → Prop} {Q : Bool → Shared → Prop} {l : Addr} {x : Value} {xs : List Value} {ep : Nat} {news : List (Addr × Obj)} (N : News h₀ L s.heap news) (hl : (l, W.listOf (x :: xs).toArray ep) ∈ news) (hz : xs.length ≤ 2000)
    (h : Q true { s with toks := s.toks + 1 + 1 }) : wpAny (model prog w) A (truthy (.ref l)) Q E s :=
  wpAny_truthy_list (items := (x :: xs).toArray) ⟨_, (N _ hl).1, rfl, ep, rfl⟩ (by simp; omega) (by simpa using h)
local macro_rules | `(tactic| k_mem) => `(tactic| assumption)
local macro_rules | `(tactic| walk_at "truthy ref") => `(tactic| (k_here; (with_reducible show wpAny _ _ (truthy (Value.ref _)) _ _ _); refine' truthy_cons ?N ?m ?z ?_; (case N => k_asm); (case m => k_mem); (case z => (simp only [List.length_map]; omega))))
local macro_rules | `(tactic| walk_at "call ref") => `(tactic| (k_here; refine wpAny_call ?_; (k_dflt (refine' code_def ?k1 ?k2 ?k3 ?k4 ?k5 ?kA ?kF ?kK ?k6 ?k7 ?k8 ?k9 ?kB ?_ ?c2 ?c3 ?c4 ?c5; (case kA => exact rfl); (case kF => exact rfl); (case kK => first | assumption | exact rfl); (case k1 => k_asm); (case k2 => k_asm); (case k3 => k_asm); (case k4 => k_asm); (case k5 => k_asm); (case k6 => k_is); (case k7 => k_is); (case k8 => ktr_room); (case k9 => exact BindsTo.of_eq rfl); (case c5 => decide); (case kB => exact locs rfl); (case c2 => exact rfl); (case c3 => exact rfl); (case c4 => exact rfl); k_whole)); intro g' L' h' FG' F' N' B' X' T'; (try dsimp only); (try k_lift B'); (try k_fold)))

set_option maxHeartbeats 4000000 in
theorem c_next0 {mgr mgrD hl cnt : Addr} {t1 t2 t3 tn : Tok} {now : Int} {ep : Nat} {rest : List (Addr × Obj)}
    (B : Below A₀ base outer h₀) (F : Fr h₀ L s.heap m) (X : (hd.heap_39 w.params).In h₀)
    (N : News h₀ L s.heap ((mgr, instObj 244 mgrD) :: (mgrD, mgrDict w t1 t2 t3 hl cnt now tn) :: (hl, W.listOf #[] ep) :: rest)) (T : Top hd.view_39 Lo0 mean mg mb h₀) (hk : cs.kind = .function)
    (hoff : OwnOff rest [mgr, mgrD, hl]) (hd : dp + 6 < recursionLimit) (hu : un + 60 < cLine)
    (ret : ∀ p h' tk', AllLt p rest → hl < p → Fr h₀ L h' m → News h₀ L h' ((p, { cls := .type "tuple", data := .seq #[.none, .none] }) :: (mgr, instObj 244 mgrD) :: (mgrD, mgrDict w t1 t2 t3 hl cnt now tn) :: (hl, W.listOf #[] ep) :: rest) → Q (.ref p) { s with heap := h', toks := tk' }) :
    wpAny (model PySem.Challenge.rw_vs0001_01.row.prog w) (ktrTop dp un gd cn cs L a ccd cl outer) (call (.ref 234) [.ref mgr]) Q E s := by
  revert X
  k_fill
  intro X
  refine wpAny_call ?_
  k_dflt cell_enter
  k_steps
  (rename _ ∧ _ => l1)
  exact ret _ _ _ l1.2.2.2 l1.2.2.1 (by assumption) (by assumption)

set_option maxHeartbeats 4000000 in
theorem c_next1 {mgr mgrD hl cnt x dx : Addr} {t1 t2 t3 tn u1 u2 u3 tw tc : Tok} {now v c : Int} {tv : Value} {b : Bool} {q : Addr} {es : Array Ent} {ep et : Nat} {rest : List (Addr × Obj)} {r : List Ent}
    (B : Below A₀ base outer h₀) (F : Fr h₀ L s.heap m) (X : (hd.heap_39 w.params).In h₀)
    (N : News h₀ L s.heap ((mgr, instObj 244 mgrD) :: (mgrD, mgrDict w t1 t2 t3 hl cnt now tn) :: (x, instObj 123 dx) :: (dx, taskDict w u1 u2 u3 tv b mgr) :: (hl, W.listOf (es.map Ent.val) ep) :: rest)) (T : Top hd.view_39 Lo0 mean mg mb h₀) (hk : cs.kind = .function)
    (hoff : OwnOff rest [mgr, mgrD, x, dx, hl]) (hd : dp + 6 < recursionLimit) (hu : un + 60 < cLine) (he : es.toList = ⟨q, v, c, .ref x⟩ :: r) (hq : (q, ({ cls := .type "tuple", data := .seq #[.int v tw, .int c tc, .ref x] et } : Obj)) ∈ rest) (hlt : v ≤ now) (G : GoodL es rest) (hh : HeapFrom (kz es) es.size 0)
    (ret : ∀ es' ep' p dv h' tk', es'.toList.Perm r → HeapFrom (kz es') es'.size 0 → DeltaV es'.toList now dv → AllLt p rest → hl < p → Fr h₀ L h' m →
      News h₀ L h' ((p, { cls := .type "tuple", data := .seq #[.ref x, dv] }) :: (mgr, instObj 244 mgrD) :: (mgrD, mgrDict w t1 t2 t3 hl cnt now tn) :: (x, instObj 123 dx) :: (dx, taskDict w u1 u2 u3 tv false mgr) :: (hl, W.listOf (es'.map Ent.val) ep') :: rest) → Q (.ref p) { s with heap := h', toks := tk' }) :
    wpAny (model PySem.Challenge.rw_vs0001_01.row.prog w) (ktrTop dp un gd cn cs L a ccd cl outer) (call (.ref 234) [.ref mgr]) Q E s := by
  have e1 : es.map Ent.val = (Value.ref q :: r.map Ent.val).toArray := by
    apply Array.toList_inj.mp
    rw [Array.toList_map, he]; rfl
  have hne : 0 < es.size := by have := congrArg List.length he; simp at this; omega
  have e0 : es[0] = ⟨q, v, c, .ref x⟩ := by
    have h : es.toList[0]'(by rw [he]; simp) = ⟨q, v, c, .ref x⟩ := by simp [he]
    simpa using h
  have hr : r.length ≤ 2000 := by have := congrArg List.length he; simp at this; have := G.sz; omega
  have n1 := neN (a := mgr) (b := mgrD) (led_ne N (List.Mem.head _) (List.Mem.tail _ (List.Mem.head _)) ne_inst_dict)
  have n2 := neN (a := mgr) (b := x) (led_ne N (List.Mem.head _) (List.Mem.tail _ (List.Mem.tail _ (List.Mem.head _))) (ne_inst (by decide)))
  have n3 := neN (a := mgr) (b := dx) (led_ne N (List.Mem.head _) (List.Mem.tail _ (List.Mem.tail _ (List.Mem.tail _ (List.Mem.head _)))) ne_inst_dict)
  have n4 := neN (a := mgr) (b := hl) (led_ne N (List.Mem.head _) (List.Mem.tail _ (List.Mem.tail _ (List.Mem.tail _ (List.Mem.tail _ (List.Mem.head _))))) ne_inst_list)
  have n5 := neN (a := x) (b := mgrD) (led_ne N (List.Mem.tail _ (List.Mem.tail _ (List.Mem.head _))) (List.Mem.tail _ (List.Mem.head _)) ne_inst_dict)
  have n6 := neN (a := mgrD) (b := dx) (led_ne N (List.Mem.tail _ (List.Mem.head _)) (List.Mem.tail _ (List.Mem.tail _ (List.Mem.tail _ (List.Mem.head _)))) ne_mgr_task)
  have n7 := neN (a := mgrD) (b := hl) (led_ne N (List.Mem.tail _ (List.Mem.head _)) (List.Mem.tail _ (List.Mem.tail _ (List.Mem.tail _ (List.Mem.tail _ (List.Mem.head _))))) ne_dict_list)
  have n8 := neN (a := x) (b := dx) (led_ne N (List.Mem.tail _ (List.Mem.tail _ (List.Mem.head _))) (List.Mem.tail _ (List.Mem.tail _ (List.Mem.tail _ (List.Mem.head _)))) ne_inst_dict)
  have n9 := neN (a := x) (b := hl) (led_ne N (List.Mem.tail _ (List.Mem.tail _ (List.Mem.head _))) (List.Mem.tail _ (List.Mem.tail _ (List.Mem.tail _ (List.Mem.tail _ (List.Mem.head _))))) ne_inst_list)
  have n10 := neN (a := dx) (b := hl) (led_ne N (List.Mem.tail _ (List.Mem.tail _ (List.Mem.tail _ (List.Mem.head _)))) (List.Mem.tail _ (List.Mem.tail _ (List.Mem.tail _ (List.Mem.tail _ (List.Mem.head _))))) ne_dict_list)
  rw [e1] at N
  revert X
  k_fill
  intro X
  refine wpAny_call ?_
  k_dflt cell_enter
  k_steps
  (rename News _ _ _ _ => NN)
  rw [← e1] at NN
  refine' hpop_K (es := es) (ep := ep) hne ?F NN ?U ?G hh ?hu ?_
  case F => k_asm
  case U => k_updF
  case G => exact (G.good NN (fun p hp => by repeat (first | exact hp | refine List.Mem.tail _ ?_)))
  case hu => ktr_units
  intro es' h' ep' pm hf G' F' N'
  (try dsimp only at N')
  have pm' : es'.toList.Perm r := by rw [he] at pm; exact pm
  have hz' : es'.toList.length ≤ 2000 := by rw [pm.length_eq]; simp; have := G.sz; omega
  rcases he' : es'.toList with _ | ⟨e', r'⟩
  · have e2 : es'.map Ent.val = #[] := by
      apply Array.toList_inj.mp
      rw [Array.toList_map, he']; rfl
    rw [e2] at N'
    k_steps
    (rename _ ∧ _ => l1)
    (rename News h₀ L _ _ => NN')
    rw [← e2] at NN'
    exact ret es' _ _ .none _ _ pm' hf (by rw [he']; exact rfl) l1.2.2.2.2.2 l1.2.2.2.2.1 (by assumption) NN'
  · have e2 : es'.map Ent.val = (Value.ref e'.a :: r'.map Ent.val).toArray := by
      apply Array.toList_inj.mp
      rw [Array.toList_map, he']; rfl
    have hr' : r'.length ≤ 2000 := by rw [he'] at hz'; simp at hz'; omega
    rw [e2] at N'
    obtain ⟨tw', tc', ep2, hq'⟩ := G.tup e' (by have := pm.mem_iff.mp (he' ▸ List.mem_cons_self); simpa using List.mem_of_mem_tail this)
    k_steps
    · (rename _ ∧ _ => l1)
      (rename News h₀ L _ _ => NN')
      (rename (_ == _) = true => hc)
      rw [cmp0] at hc
      rw [← e2] at NN'
      exact ret es' _ _ _ _ _ pm' hf (by rw [he']; exact .inr ⟨by have := of_decide_eq_true hc; omega, _, rfl⟩) l1.2.2.2.2.2 l1.2.2.2.2.1 (by assumption) NN'
    · (rename _ ∧ _ => l1)
      (rename News h₀ L _ _ => NN')
      (rename (_ == _) = false => hc)
      rw [cmp0] at hc
      rw [← e2] at NN'
      exact ret es' _ _ _ _ _ pm' hf (by rw [he']; exact .inl ⟨by have := of_decide_eq_false hc; omega, _, rfl⟩) l1.2.2.2.2.2 l1.2.2.2.2.1 (by assumption) NN'

set_option maxHeartbeats 4000000 in
theorem c_nextW {mgr mgrD hl cnt : Addr} {t1 t2 t3 tn tw tc : Tok} {now v c : Int} {x q : Addr} {es : Array Ent} {ep et : Nat} {rest : List (Addr × Obj)} {r : List Ent}
    (B : Below A₀ base outer h₀) (F : Fr h₀ L s.heap m) (X : (hd.heap_39 w.params).In h₀)
    (N : News h₀ L s.heap ((mgr, instObj 244 mgrD) :: (mgrD, mgrDict w t1 t2 t3 hl cnt now tn) :: (hl, W.listOf (es.map Ent.val) ep) :: rest)) (T : Top hd.view_39 Lo0 mean mg mb h₀) (hk : cs.kind = .function)
    (hd : dp + 6 < recursionLimit) (hu : un + 60 < cLine) (he : es.toList = ⟨q, v, c, .ref x⟩ :: r) (hq : (q, ({ cls := .type "tuple", data := .seq #[.int v tw, .int c tc, .ref x] et } : Obj)) ∈ rest) (hlt : ¬ v ≤ now) (hz : es.size ≤ 2000)
    (ret : ∀ p t h' tk', AllLt p rest → hl < p → Fr h₀ L h' m → News h₀ L h' ((p, { cls := .type "tuple", data := .seq #[.none, .int (v - now) t] }) :: (mgr, instObj 244 mgrD) :: (mgrD, mgrDict w t1 t2 t3 hl cnt now tn) :: (hl, W.listOf (es.map Ent.val) ep) :: rest) → Q (.ref p) { s with heap := h', toks := tk' }) :
    wpAny (model PySem.Challenge.rw_vs0001_01.row.prog w) (ktrTop dp un gd cn cs L a ccd cl outer) (call (.ref 234) [.ref mgr]) Q E s := by
  have e1 : es.map Ent.val = (Value.ref q :: r.map Ent.val).toArray := by
    apply Array.toList_inj.mp
    rw [Array.toList_map, he]; rfl
  have hr : r.length ≤ 2000 := by have := congrArg List.length he; simp at this; omega
  rw [e1] at N ret
  revert X
  k_fill
  intro X
  refine wpAny_call ?_
  k_dflt cell_enter
  k_steps
  (rename _ ∧ _ => l1)
  exact ret _ _ _ _ l1.2.2.2 l1.2.2.1 (by assumption) (by assumption)
end
end Mine
end

section
open PySem PySem.W PySem.Spec PySem.Calls PyProof.Rows
namespace Mine
set_option maxRecDepth 100000

section
variable {w : World} {mean : ExcName → Option Value} {mg mb : Str → Option Value} {dp un : Nat} {gd : Option (List Code)} {cn : Str} {cs : Scope} {a : Addr} {ccd : Value} {cl : List (Str × Addr)} {outer : List Env} {A₀ : Around} {base h₀ : Heap} {L : Addr} {m : Str → Option Value} {s : Shared}
  {Q E : Value → Shared → Prop}

local macro_rules | `(tactic| k_mem) => `(tactic| assumption)
local macro_rules | `(tactic| k_room) => `(tactic| ktr_room)
local macro_rules | `(tactic| walk_at "call ref") => `(tactic| ((with_reducible show wpAny _ _ (call (Value.ref 220) _) _ _ _); refine Hold.mk ?_))

set_option maxHeartbeats 4000000 in
theorem c_law0 {mgr mgrD hl cnt cd x dx : Addr} {t1 t2 t3 tn u1 u2 u3 th tx k0 k2 : Tok} {now v c : Int} {tv : Value} {b : Bool} {es : Array Ent} {ep : Nat} {rest : List (Addr × Obj)}
    (B : Below A₀ base outer h₀) (F : Fr h₀ L s.heap m) (X : (hd.heap_39 w.params).In h₀)
    (N : News h₀ L s.heap ((mgr, instObj 244 mgrD) :: (mgrD, mgrDict w t1 t2 t3 hl cnt now tn) :: (x, instObj 123 dx) :: (dx, taskDict w u1 u2 u3 tv b mgr) :: (hl, W.listOf (es.map Ent.val) ep) :: (cnt, cntObj cd c k0 k2) :: (cd, dictOf [] 0) :: rest)) (T : Top hd.view_39 Lo0 mean mg mb h₀) (hk : cs.kind = .function)
    (hoff : OwnOff rest [mgr, mgrD, x, dx, hl, cnt, cd]) (hd : dp + 9 < recursionLimit) (hu : un + 90 < cLine) (G : GoodL es rest) (hh : HeapFrom (kz es) es.size 0)
    (hrf : ∀ e ∈ es, ∃ y, e.x = .ref y ∧ (y ≠ x → ∃ o, (y, o) ∈ rest)) (nd : (es.toList.map (·.x)).Nodup) (hb : b = false → ∀ e ∈ es, e.x ≠ .ref x) (hc : ∀ e ∈ es, e.n < c) (h0 : 0 ≤ c) (h1 : c < 1000) (hz : es.size < 1000)
    (ret : ∀ es' ep' q tc tv' k0' h' tk', es'.toList.Perm (others es x ++ [⟨q, v, c, .ref x⟩]) → HeapFrom (kz es') es'.size 0 → AllLt q rest → hl < q → Fr h₀ L h' m →
      News h₀ L h' ((mgr, instObj 244 mgrD) :: (mgrD, mgrDict w t1 t2 t3 hl cnt now tn) :: (x, instObj 123 dx) :: (dx, taskDict w u1 u2 u3 (.int v tv') true mgr) :: (hl, W.listOf (es'.map Ent.val) ep') :: (cnt, cntObj cd (c + 1) k0' k2) :: (cd, dictOf [] 0) :: (q, tupObj v c tv' tc x) :: rest) → Q (.bool true) { s with heap := h', toks := tk' }) :
    wpAny (model PySem.Challenge.rw_vs0001_01.row.prog w) (ktrTop dp un gd cn cs L a ccd cl outer) (call (.ref 255) [.ref x, .int 0 th, .int v tx]) Q E s := by
  obtain ⟨n1, n2, n3, n4, n5, n6, n7, n8, n9, n10, n11, n12, n13, n14, n15, n16, n17, n18, n19, n20, n21⟩ := apart7 N
  revert X
  k_fill
  intro X
  refine wpAny_call ?_
  k_dflt cell_enter
  k_steps
  show wpAny _ _ (call (Value.ref 220) _) _ _ _
  (rename News _ _ _ _ => NN)
  refine' c_install (es := es) (ep := ep) (b := b) (v := v) (c := c) (rest := rest) ?B ?F ?X NN ?T ?hk hoff ?hd ?hu G hh hrf nd hb hc h0 h1 hz ?ret
  case B => k_asm
  case F => k_asm
  case X => k_asm
  case T => k_asm
  case hk => exact rfl
  case hd => ktr_room
  case hu => ktr_units
  intro es' ep' q tc k0' h' tk' pm hf hq hl' F' N'
  k_steps
  exact ret _ _ _ _ _ _ _ _ pm hf hq hl' (by assumption) (by assumption)

set_option maxHeartbeats 4000000 in
theorem c_law1 {mgr mgrD hl cnt cd x dx : Addr} {t1 t2 t3 tn u1 u2 u3 th tx k0 k2 : Tok} {now v c : Int} {tv : Value} {b : Bool} {es : Array Ent} {ep : Nat} {rest : List (Addr × Obj)}
    (B : Below A₀ base outer h₀) (F : Fr h₀ L s.heap m) (X : (hd.heap_39 w.params).In h₀)
    (N : News h₀ L s.heap ((mgr, instObj 244 mgrD) :: (mgrD, mgrDict w t1 t2 t3 hl cnt now tn) :: (x, instObj 123 dx) :: (dx, taskDict w u1 u2 u3 tv b mgr) :: (hl, W.listOf (es.map Ent.val) ep) :: (cnt, cntObj cd c k0 k2) :: (cd, dictOf [] 0) :: rest)) (T : Top hd.view_39 Lo0 mean mg mb h₀) (hk : cs.kind = .function)
    (hoff : OwnOff rest [mgr, mgrD, x, dx, hl, cnt, cd]) (hd : dp + 9 < recursionLimit) (hu : un + 90 < cLine) (G : GoodL es rest) (hh : HeapFrom (kz es) es.size 0)
    (hrf : ∀ e ∈ es, ∃ y, e.x = .ref y ∧ (y ≠ x → ∃ o, (y, o) ∈ rest)) (nd : (es.toList.map (·.x)).Nodup) (hb : b = false → ∀ e ∈ es, e.x ≠ .ref x) (hc : ∀ e ∈ es, e.n < c) (h0 : 0 ≤ c) (h1 : c < 1000) (hz : es.size < 1000)
    (ret : ∀ es' ep' q tc tv' k0' h' tk', es'.toList.Perm (others es x ++ [⟨q, now + v, c, .ref x⟩]) → HeapFrom (kz es') es'.size 0 → AllLt q rest → hl < q → Fr h₀ L h' m →
      News h₀ L h' ((mgr, instObj 244 mgrD) :: (mgrD, mgrDict w t1 t2 t3 hl cnt now tn) :: (x, instObj 123 dx) :: (dx, taskDict w u1 u2 u3 (.int (now + v) tv') true mgr) :: (hl, W.listOf (es'.map Ent.val) ep') :: (cnt, cntObj cd (c + 1) k0' k2) :: (cd, dictOf [] 0) :: (q, tupObj (now + v) c tv' tc x) :: rest) → Q (.bool true) { s with heap := h', toks := tk' }) :
    wpAny (model PySem.Challenge.rw_vs0001_01.row.prog w) (ktrTop dp un gd cn cs L a ccd cl outer) (call (.ref 255) [.ref x, .int 1 th, .int v tx]) Q E s := by
  obtain ⟨n1, n2, n3, n4, n5, n6, n7, n8, n9, n10, n11, n12, n13, n14, n15, n16, n17, n18, n19, n20, n21⟩ := apart7 N
  revert X
  k_fill
  intro X
  refine wpAny_call ?_
  k_dflt cell_enter
  k_steps
  show wpAny _ _ (call (Value.ref 220) _) _ _ _
  (rename News _ _ _ _ => NN)
  refine' c_install (es := es) (ep := ep) (b := b) (v := now + v) (c := c) (rest := rest) ?B ?F ?X NN ?T ?hk hoff ?hd ?hu G hh hrf nd hb hc h0 h1 hz ?ret
  case B => k_asm
  case F => k_asm
  case X => k_asm
  case T => k_asm
  case hk => exact rfl
  case hd => ktr_room
  case hu => ktr_units
  intro es' ep' q tc k0' h' tk' pm hf hq hl' F' N'
  k_steps
  exact ret _ _ _ _ _ _ _ _ pm hf hq hl' (by assumption) (by assumption)

set_option maxHeartbeats 4000000 in
theorem c_law2 {mgr mgrD hl cnt cd x dx : Addr} {t1 t2 t3 tn u1 u2 u3 th tx k0 k2 : Tok} {now v y c : Int} {tv0 : Tok} {b : Bool} {es : Array Ent} {ep : Nat} {rest : List (Addr × Obj)}
    (B : Below A₀ base outer h₀) (F : Fr h₀ L s.heap m) (X : (hd.heap_39 w.params).In h₀)
    (N : News h₀ L s.heap ((mgr, instObj 244 mgrD) :: (mgrD, mgrDict w t1 t2 t3 hl cnt now tn) :: (x, instObj 123 dx) :: (dx, taskDict w u1 u2 u3 (.int v tv0) b mgr) :: (hl, W.listOf (es.map Ent.val) ep) :: (cnt, cntObj cd c k0 k2) :: (cd, dictOf [] 0) :: rest)) (T : Top hd.view_39 Lo0 mean mg mb h₀) (hk : cs.kind = .function)
    (hoff : OwnOff rest [mgr, mgrD, x, dx, hl, cnt, cd]) (hd : dp + 9 < recursionLimit) (hu : un + 90 < cLine) (G : GoodL es rest) (hh : HeapFrom (kz es) es.size 0)
    (hrf : ∀ e ∈ es, ∃ y, e.x = .ref y ∧ (y ≠ x → ∃ o, (y, o) ∈ rest)) (nd : (es.toList.map (·.x)).Nodup) (hb : b = false → ∀ e ∈ es, e.x ≠ .ref x) (hc : ∀ e ∈ es, e.n < c) (h0 : 0 ≤ c) (h1 : c < 1000) (hz : es.size < 1000)
    (ret : ∀ es' ep' q tc tv' k0' h' tk', es'.toList.Perm (others es x ++ [⟨q, v, c, .ref x⟩]) → HeapFrom (kz es') es'.size 0 → AllLt q rest → hl < q → Fr h₀ L h' m →
      News h₀ L h' ((mgr, instObj 244 mgrD) :: (mgrD, mgrDict w t1 t2 t3 hl cnt now tn) :: (x, instObj 123 dx) :: (dx, taskDict w u1 u2 u3 (.int v tv') true mgr) :: (hl, W.listOf (es'.map Ent.val) ep') :: (cnt, cntObj cd (c + 1) k0' k2) :: (cd, dictOf [] 0) :: (q, tupObj v c tv' tc x) :: rest) → Q (.bool true) { s with heap := h', toks := tk' }) :
    wpAny (model PySem.Challenge.rw_vs0001_01.row.prog w) (ktrTop dp un gd cn cs L a ccd cl outer) (call (.ref 255) [.ref x, .int 2 th, .int y tx]) Q E s := by
  obtain ⟨n1, n2, n3, n4, n5, n6, n7, n8, n9, n10, n11, n12, n13, n14, n15, n16, n17, n18, n19, n20, n21⟩ := apart7 N
  revert X
  k_fill
  intro X
  refine wpAny_call ?_
  k_dflt cell_enter
  k_steps
  show wpAny _ _ (call (Value.ref 220) _) _ _ _
  (rename News _ _ _ _ => NN)
  refine' c_install (es := es) (ep := ep) (b := b) (v := v) (c := c) (rest := rest) ?B ?F ?X NN ?T ?hk hoff ?hd ?hu G hh hrf nd hb hc h0 h1 hz ?ret
  case B => k_asm
  case F => k_asm
  case X => k_asm
  case T => k_asm
  case hk => exact rfl
  case hd => ktr_room
  case hu => ktr_units
  intro es' ep' q tc k0' h' tk' pm hf hq hl' F' N'
  k_steps
  exact ret _ _ _ _ _ _ _ _ pm hf hq hl' (by assumption) (by assumption)

end
end Mine
end

section
open PySem PySem.W PySem.Spec PySem.Calls PyProof.Rows
namespace Mine
set_option maxRecDepth 100000
section
open PySem.W
variable {prog : Program} {w : World} {A₀ A : Around} {s : Shared} {base h₀ g₀ : Heap} {outer : List Env} {L a : Addr} {m : Str → Option Value} {cn : Str} {cs : Scope} {ccd : Value} {news : List (Addr × Obj)} {K : Frag} {p : Program} {loose : List Str} {mean : ExcName → Option Value} {mg mb : Str → Option Value}
    {R : Result → Shared → Prop} {name qual : Str} {params : Arguments} {body : List Stmt} {scope : Scope} {dV kV doc pm cdv ct oc : Value} {an od : Option Addr} {osl : Array (Option Value)} {f : Addr} {args : Args} {binds : List (Str × Value)} {cl : List (Str × Addr)}

theorem kts_enterX (B : Below A₀ base outer h₀) (F : Fr h₀ L s.heap m) (N : News h₀ L s.heap news) (hA : A.frames = some (envX cn cs L a ccd cl :: outer)) (hck : cs.kind = .function) :
    ∃ oL es ep, (hideAll s.heap (news.map (·.1))).get? L = some oL ∧ oL.data = .dict es ep ∧ (∀ h', h'.get? L = some oL → Heap.Ns h' L m) ∧ (∀ (sl : Array (Option Value)) h', h'.get? L = some { oL with slots := sl } → Heap.Ns h' L m) ∧
      h₀.StaysIn (hideAll s.heap (news.map (·.1))) ∧ Below A base (envX cn cs L a ccd cl :: outer) (hideAll s.heap (news.map (·.1))) := by
  have nm : ∀ b o, h₀.get? b = some o → b ∉ news.map (·.1) := fun b o e q => by
    obtain ⟨p, hp, rfl⟩ := List.mem_map.mp q
    rw [(N p hp).2.2] at e; cases e
  have st : h₀.StaysIn (hideAll s.heap (news.map (·.1))) := fun b o e => hideAll_get _ (F.keep b o e) (nm b o e)
  obtain ⟨oL, es, ep, hL, hLd, hLk, hLf⟩ := F.ns
  have nL : L ∉ news.map (·.1) := fun q => by
    obtain ⟨p, hp, e⟩ := List.mem_map.mp q
    exact (N p hp).2.1 e
  have hLg := hideAll_get (news.map (·.1)) hL nL
  have B₁ := pushX (env := envX cn cs L a ccd cl) B F rfl hck
  exact ⟨oL, es, ep, hLg, hLd, fun h' e => ⟨oL, es, ep, e, hLd, hLk, hLf⟩, fun sl h' e => ⟨_, es, ep, e, hLd, hLk, hLf⟩, st, ⟨hA, fun b o e => st b o (B.stays b o e), funFrames_hideAll B₁.frames fun env he b hb hf => by
    cases he with
    | head => exact nL ((Option.some.inj hf : L = b) ▸ hb)
    | tail _ he =>
      obtain ⟨L₁, o₁, hf₁, ho₁⟩ := funFrames_in B.frames env he
      rw [hf₁] at hf
      exact nm L₁ o₁ ho₁ ((Option.some.inj hf : L₁ = b) ▸ hb)⟩⟩

theorem code_defS0X (B : Below A₀ base [] h₀) (F : Fr h₀ L s.heap m) (X₀ : K.In h₀) (N : News h₀ L s.heap news) (T : Top p loose mean mg mb h₀) (hA : A.frames = some [envX cn cs L a ccd cl])
    (ho : K.lookup f = some ⟨oc, od, .func (fnOf name qual params body scope dV kV doc pm an cdv ct), osl⟩) (hcd : codeIn K cdv qual = true) (hroom : A.depth < recursionLimit)
    (hbind : BindsTo s (fnOf name qual params body scope dV kV doc pm an cdv ct) args binds) (hloc : ∀ y ∈ binds, scope.names.lookup y.1 = some .local)
    (h : ∀ g L' h₁, Fr h₀ L g m → Fr g L' h₁ (fun y => binds.reverse.lookup y) → News g L' h₁ news → Below A base [envX cn cs L a ccd cl] g → K.In g → Top p loose mean mg mb g → KtsDicts ([envX cn cs L a ccd cl].filterMap (·.frame)) g →
      wpAny (model prog w) (A.deeper (envOf qual scope L' f cdv)) (execs body (envOf qual scope L' f cdv))
        (fun fl s' => LeaveS0 ([envX cn cs L a ccd cl].filterMap (·.frame)) h₀ L m g R (match fl with | .ret v => v | _ => .none) s')
        (fun e s' => wpAny (model prog w) (A.deeper (envOf qual scope L' f cdv)) (leaving (envOf qual scope L' f cdv) e) (fun _ s'' => R (.error e) s'') (fun e' s'' => R (.error e') s'') s')
        { s with heap := h₁, toks := s.toks + binds.length })
    (hck : cs.kind = .function) (hco : scope.isCoroutine = false) (hgen : scope.isGenerator = false) (hk : scope.kind = .function)
    (hcell : ∀ x ∈ scope.names, x.2 ≠ .cell) : codeAny (model prog w) A (.call (.ref f) args) R s := by
  have X := X₀.keeps F.keep
  refine codeAny_call_def (fd := fnOf name qual params body scope dV kV doc pm an cdv ct) (body := body) (binds := binds) hroom (X _ _ ho) rfl (T.nolimit.keeps F.keep) (codeRec_of X hcd) rfl hbind hcell hloc (fun h₁ hns hk₁ => ?_) hco hgen hk
  obtain ⟨oL, es, ep, hLg, hLd, hN, hNs, st, B₂⟩ := kts_enterX B F N hA hck
  refine wpAny_mono (h _ s.heap.objs.size h₁ ⟨hN _ hLg, st, F.above⟩ ⟨hns, fun b o e => hk₁ b o (of_hideAll _ e), Nat.le_of_eq (hideAll_size _ _)⟩
    (fun p hp => ⟨hk₁ _ _ (N p hp).1, Nat.ne_of_lt (Heap.lt_size (N p hp).1), hideAll_none _ (List.mem_map_of_mem hp)⟩) B₂ (X₀.keeps st) (T.keeps st) (fun b hb => by
      rcases kts_mem (name := cn) (scope := cs) (a := a) (cd := ccd) (outer := []) (b := b) hb with rfl | z
      · exact ⟨oL, es, ep, hLg, hLd⟩
      · simp at z)) (fun fl s' hl => ?_) fun _ _ y => y
  obtain ⟨g', L', m', news', T', F', N', k⟩ := hl
  have nL₀ : h₀.get? L = none := kts_self F
  obtain ⟨sl, hs⟩ := T'.up hLg
  refine k ⟨hNs sl _ (F'.keep _ _ hs), fun b o e => F'.keep b o (T'.other b o (st b o e) (fun q => by
    rcases kts_mem (name := cn) (scope := cs) (a := a) (cd := ccd) (outer := []) (b := b) q with z | z
    · rw [z, nL₀] at e
      cases e
    · simp at z)), F.above⟩ fun p hp => ⟨(N' p hp).1, fun q => ?_, ?_⟩
  · have := (N' p hp).2.2; rw [q, hs] at this; cases this
  · cases q : h₀.get? p.1 with
    | none => rfl
    | some o =>
      obtain ⟨sl', hs'⟩ := T'.up (st _ _ q)
      have := (N' p hp).2.2
      rw [hs'] at this
      cases this

end

section
variable {w : World} {mean : ExcName → Option Value} {mg mb : Str → Option Value} {dp un : Nat} {gd : Option (List Code)} {cn : Str} {cs : Scope} {a : Addr} {ccd : Value} {cl : List (Str × Addr)} {outer : List Env} {A₀ : Around} {base h₀ : Heap} {L : Addr} {m : Str → Option Value} {s : Shared}
  {Q E : Value → Shared → Prop}

local macro_rules | `(tactic| k_mem) => `(tactic| assumption)
local macro_rules | `(tactic| k_room) => `(tactic| ktr_room)
local macro_rules | `(tactic| walk_at "call ref") => `(tactic| ((with_reducible show wpAny _ _ (call (Value.ref 220) _) _ _ _); refine Hold.mk ?_))

local macro_rules | `(tactic| walk_at "pad") => `(tactic| fail "none")
set_option maxHeartbeats 4000000 in
theorem c_law3 {mgr mgrD hl cnt cd x dx : Addr} {t1 t2 t3 tn u1 u2 u3 th tx k0 k2 : Tok} {now y c : Int} {b : Bool} {es : Array Ent} {ep : Nat} {rest : List (Addr × Obj)}
    (XB : (hd.heap_39 w.params).In base) (TB : Top hd.view_39 Lo0 mean mg mb base) (B : Below A₀ base [] h₀) (F : Fr h₀ L s.heap m) (X : (hd.heap_39 w.params).In h₀)
    (N : News h₀ L s.heap ((mgr, instObj 244 mgrD) :: (mgrD, mgrDict w t1 t2 t3 hl cnt now tn) :: (x, instObj 123 dx) :: (dx, taskDict w u1 u2 u3 .none b mgr) :: (hl, W.listOf (es.map Ent.val) ep) :: (cnt, cntObj cd c k0 k2) :: (cd, dictOf [] 0) :: rest)) (T : Top hd.view_39 Lo0 mean mg mb h₀) (hk : cs.kind = .function)
    (hoff : OwnOff rest [mgr, mgrD, x, dx, hl, cnt, cd]) (hd : dp + 9 < recursionLimit) (hu : un + 90 < cLine) (G : GoodL es rest) (hh : HeapFrom (kz es) es.size 0)
    (hrf : ∀ e ∈ es, ∃ y, e.x = .ref y ∧ (y ≠ x → ∃ o, (y, o) ∈ rest)) (nd : (es.toList.map (·.x)).Nodup) (hb : b = false → ∀ e ∈ es, e.x ≠ .ref x) (hc : ∀ e ∈ es, e.n < c) (h0 : 0 ≤ c) (h1 : c < 1000) (hz : es.size < 1000)
    (ret : ∀ h' tk', Fr h₀ L h' m →
      News h₀ L h' ((mgr, instObj 244 mgrD) :: (mgrD, mgrDict w t1 t2 t3 hl cnt now tn) :: (x, instObj 123 dx) :: (dx, taskDict w u1 u2 u3 .none b mgr) :: (hl, W.listOf (es.map Ent.val) ep) :: (cnt, cntObj cd c k0 k2) :: (cd, dictOf [] 0) :: rest) → Q (.bool false) { s with heap := h', toks := tk' }) :
    wpAny (model PySem.Challenge.rw_vs0001_01.row.prog w) (ktrTop dp un gd cn cs L a ccd cl []) (call (.ref 255) [.ref x, .int 2 th, .int y tx]) Q E s := by
  obtain ⟨n1, n2, n3, n4, n5, n6, n7, n8, n9, n10, n11, n12, n13, n14, n15, n16, n17, n18, n19, n20, n21⟩ := apart7 N
  revert X XB
  k_fill
  intro X XB
  refine wpAny_call ?_
  k_dflt (refine' code_defS0X ?k1 ?k2 ?k3 ?k4 ?k5 ?kA ?k6 ?k7 ?k8 ?k9 ?kB ?_ ?cK ?c2 ?c3 ?c4 ?c5; (case kA => exact rfl); (case k2 => k_asm); (case k1 => k_asm); (case k3 => k_asm); (case k4 => k_asm); (case k5 => k_asm); (case k6 => k_is); (case k7 => k_is); (case k8 => k_room); (case k9 => first | exact binds_K (by k_in) rfl (by k_is) rfl rfl rfl | exact BindsTo.of_eq rfl | fail "kts_go: no rule for these arguments"); (case kB => exact locs rfl); (case cK => exact hk); (case c2 => exact rfl); (case c3 => exact rfl); (case c4 => exact rfl); (case c5 => decide); k_whole; intro g' L' h' FG' F' N' B' X' T' D'; (try dsimp only); (try k_lift B'); (try k_fold))
  k_steps
  exact ret _ _ (by assumption) (by assumption)
end
end Mine
end

section
open PySem PySem.W PySem.Calls PyProof.Rows
namespace Mine
set_option maxRecDepth 100000

/-- a run of a comparison tree whose asks lie below `n` -/
noncomputable def Sat (key : Nat → Int) (n : Nat) {α : Type} : KasT α → (α → Prop) → Prop
  | .ret a, P => P a
  | .ask i j k, P => i < n ∧ j < n ∧ i ≠ j ∧ Sat key n (k (decide (key i < key j))) P
theorem Sat.bind {key : Nat → Int} {n : Nat} {α β : Type} {f : α → KasT β} {P : β → Prop} : ∀ {t : KasT α}, Sat key n t (fun a => Sat key n (f a) P) → Sat key n (t.bind f) P
  | .ret _, h => h
  | .ask _ _ _, h => ⟨h.1, h.2.1, h.2.2.1, Sat.bind h.2.2.2⟩
theorem Sat.mono {key : Nat → Int} {n : Nat} {α : Type} {P P' : α → Prop} (hp : ∀ a, P a → P' a) : ∀ {t : KasT α}, Sat key n t P → Sat key n t P'
  | .ret _, h => hp _ h
  | .ask _ _ _, h => ⟨h.1, h.2.1, h.2.2.1, Sat.mono hp h.2.2.2⟩

section
variable {key : Nat → Int} {n : Nat}

/-- the values of `p` are below `n`, and distinct -/
structure Pm (n : Nat) (p : Array Nat) : Prop where
  sz : p.size = n
  lt : ∀ i, i < n → p.getD i 0 < n
  inj : ∀ i j, i < n → j < n → p.getD i 0 = p.getD j 0 → i = j
  perm : p.toList.Perm (List.range n)

theorem getD_eq {p q : Array Nat} {i j : Nat} (h : p[i]? = q[j]?) : p.getD i 0 = q.getD j 0 := by
  rw [Array.getD_eq_getD_getElem?, Array.getD_eq_getD_getElem?, h]

theorem Pm.of_perm {p : Array Nat} (h : p.toList.Perm (List.range n)) : Pm n p := by
  have sz : p.size = n := by simpa using h.length_eq
  have gd : ∀ i (hi : i < n), p.getD i 0 = p.toList[i]'(by simpa [sz] using hi) := fun i hi => by
    have : i < p.size := by omega
    simp [Array.getD, this]
  refine ⟨sz, fun i hi => ?_, fun i j hi hj e => ?_, h⟩
  · have : p.getD i 0 ∈ List.range n := h.mem_iff.mp (by rw [gd i hi]; exact List.getElem_mem _)
    simpa using this
  · rw [gd i hi, gd j hj] at e
    exact (List.getElem_inj (h.nodup_iff.mpr List.nodup_range)).mp e

abbrev ky (key : Nat → Int) (p : Array Nat) (i : Nat) : Int := key (p.getD i 0)
def Asc (key : Nat → Int) (p : Array Nat) (k : Nat) : Prop := ∀ i j, i < j → j < k → ky key p i < ky key p j

theorem up_of_step {p : Array Nat} {k : Nat} (h : ∀ i, i + 1 < k → ky key p i < ky key p (i + 1)) : Asc key p k := by
  intro i j hij hj
  induction j with
  | zero => omega
  | succ j ih =>
    by_cases e : i = j
    · subst e; exact h _ hj
    · exact Int.lt_trans (ih (by omega) (by omega)) (h _ hj)

theorem Pm.nd {p : Array Nat} (P : Pm n p) {i j : Nat} (hi : i < n) (hj : j < n) (h : i ≠ j) : p.getD i 0 ≠ p.getD j 0 := fun e => h (P.inj _ _ hi hj e)
theorem Pm.ne {p : Array Nat} (P : Pm n p) (hk : ∀ i j, i < n → j < n → key i = key j → i = j) {i j : Nat} (hi : i < n) (hj : j < n) (h : i ≠ j) : ky key p i ≠ ky key p j :=
  fun e => h (P.inj _ _ hi hj (hk _ _ (P.lt _ hi) (P.lt _ hj) e))

theorem asc_ok {p : Array Nat} (P : Pm n p) (hk : ∀ i j, i < n → j < n → key i = key j → i = j) : ∀ (f k : Nat) {Q : Nat → Prop}, 1 ≤ k → k + f = n → Asc key p k →
    (∀ r, k ≤ r → r ≤ n → Asc key p r → (r < n → ky key p r < ky key p (r - 1)) → Q r) → Sat key n (kas_asc p f k) Q
  | 0, k, Q, h1, hf, hu, h => by
    exact h k (Nat.le_refl _) (by omega) hu (by omega)
  | f + 1, k, Q, h1, hf, hu, h => by
    refine ⟨P.lt _ (by omega), P.lt _ (by omega), P.nd (by omega) (by omega) (by omega), ?_⟩
    by_cases c : ky key p k < ky key p (k - 1)
    · rw [decide_eq_true c]; dsimp only; rw [if_pos rfl]
      exact h k (Nat.le_refl _) (by omega) hu (fun _ => c)
    · rw [decide_eq_false c]; dsimp only; rw [if_neg (by simp)]
      have hne := P.ne hk (i := k) (j := k - 1) (by omega) (by omega) (by omega)
      refine asc_ok P hk f (k + 1) (by omega) (by omega) (up_of_step fun i hi => ?_) fun r h1' h2 h3 h4 => h r (by omega) h2 h3 h4
      by_cases e : i + 1 = k
      · subst e
        simp only [Nat.add_sub_cancel] at c hne
        omega
      · exact hu _ _ (Nat.lt_succ_self _) (by omega)

def Dn (key : Nat → Int) (p : Array Nat) (k : Nat) : Prop := ∀ i j, i < j → j < k → ky key p j < ky key p i
theorem dn_of_step {p : Array Nat} {k : Nat} (h : ∀ i, i + 1 < k → ky key p (i + 1) < ky key p i) : Dn key p k := by
  intro i j hij hj
  induction j with
  | zero => omega
  | succ j ih =>
    by_cases e : i = j
    · subst e; exact h _ hj
    · exact Int.lt_trans (h _ hj) (ih (by omega) (by omega))

theorem desc_ok {p : Array Nat} (P : Pm n p) (hk : ∀ i j, i < n → j < n → key i = key j → i = j) : ∀ (f k : Nat) {Q : Array Nat × Nat × Nat → Prop}, 1 ≤ k → k + f = n → Dn key p k →
    (∀ r, k ≤ r → r ≤ n → Dn key p r → Q (p, r, 0)) → Sat key n (kas_desc f p k 0) Q
  | 0, k, Q, h1, hf, hu, h => h k (Nat.le_refl _) (by omega) hu
  | f + 1, k, Q, h1, hf, hu, h => by
    refine ⟨P.lt _ (by omega), P.lt _ (by omega), P.nd (by omega) (by omega) (by omega), ?_⟩
    by_cases c : ky key p k < ky key p (k - 1)
    · rw [decide_eq_true c]; dsimp only; rw [if_pos rfl, if_neg (by omega)]
      refine desc_ok P hk f (k + 1) (by omega) (by omega) (dn_of_step fun i hi => ?_) fun r h1' h2 h3 => h r (by omega) h2 h3
      by_cases e : i + 1 = k
      · subst e
        simpa using c
      · exact hu _ _ (Nat.lt_succ_self _) (by omega)
    · rw [decide_eq_false c]; dsimp only; rw [if_neg (by simp)]
      have hne := P.ne hk (i := k) (j := k - 1) (by omega) (by omega) (by omega)
      have c' : ky key p (k - 1) < ky key p k := by omega
      refine ⟨P.lt _ (by omega), P.lt _ (by omega), P.nd (by omega) (by omega) (by omega), ?_⟩
      rw [decide_eq_true c']; dsimp only; rw [if_pos rfl]
      exact h k (Nat.le_refl _) (by omega) hu

theorem rev_pm {p : Array Nat} (P : Pm n p) {r : Nat} : Pm n (kas_rev p 0 r) :=
  Pm.of_perm ((Array.perm_iff_toList_perm.mp (mirror_perm p 0 r ((r - 0) / 2))).trans P.perm)
theorem rev_up {p : Array Nat} (P : Pm n p) {r : Nat} (hr : r ≤ n) (h : Dn key p r) : Asc key (kas_rev p 0 r) r := by
  have g : ∀ i, i < r → (kas_rev p 0 r).getD i 0 = p.getD (r - 1 - i) 0 := fun i hi => by
    refine getD_eq ?_
    unfold kas_rev
    rw [getElem?_mirror_all (by rw [P.sz]; exact hr), if_pos ⟨Nat.zero_le _, hi⟩]
    congr 1
    omega
  intro i j hij hj
  unfold ky
  rw [g i (by omega), g j hj]
  exact h _ _ (by omega) (by omega)

theorem tail3_ok {p : Array Nat} (P : Pm n p) (hk : ∀ i j, i < n → j < n → key i = key j → i = j) {r : Nat} (h1 : 1 ≤ r) (hr : r ≤ n) (hd : Dn key p r) {Q : Nat × Array Nat → Prop}
    (h : ∀ q m, 1 ≤ m → m ≤ n → Pm n q → Asc key q m → Q (m, q)) : Sat key n (kas_tail3 r n p) Q := by
  unfold kas_tail3
  refine Sat.bind ?_
  exact asc_ok (rev_pm P) hk (n - r) r h1 (by omega) (rev_up P hr hd) fun m h2 h3 h4 _ => h _ m (by omega) h3 (rev_pm P) h4

theorem count_ok {p : Array Nat} (P : Pm n p) (hk : ∀ i j, i < n → j < n → key i = key j → i = j) (hn : 1 ≤ n) {Q : Nat × Array Nat → Prop}
    (h : ∀ q m, 1 ≤ m → m ≤ n → Pm n q → Asc key q m → Q (m, q)) : Sat key n (kas_count n p) Q := by
  unfold kas_count
  refine Sat.bind ?_
  refine asc_ok P hk (n - 1) 1 (Nat.le_refl _) (by omega) (fun i j _ _ => by omega) fun r h1 h2 h3 h4 => ?_
  by_cases e : r = n
  · subst e
    rw [if_pos (by simp)]
    exact h _ _ hn (Nat.le_refl _) P h3
  · rw [if_neg (by simpa using e)]
    by_cases g : 1 < r
    · rw [if_pos g]
      refine ⟨P.lt _ (by omega), P.lt _ (by omega), P.nd (by omega) (by omega) (by omega), ?_⟩
      rw [decide_eq_true (h3 0 (r - 1) (by omega) (by omega))]; dsimp only; rw [if_pos rfl]
      exact h _ _ h1 h2 P h3
    · rw [if_neg g]
      obtain rfl : r = 1 := by omega
      unfold kas_descPart
      refine Sat.bind ?_
      have h5 := h4 (by omega)
      refine desc_ok P hk (n - (1 + 1)) (1 + 1) (by omega) (by omega) (dn_of_step fun i hi => ?_) fun r' h6 h7 h8 => ?_
      · obtain rfl : i = 0 := by omega
        exact h5
      · rw [if_neg (by simp)]
        exact tail3_ok P hk (by omega) h7 h8 h

theorem place_ok {p : Array Nat} (P : Pm n p) (hk : ∀ i j, i < n → j < n → key i = key j → i = j) {k : Nat} (hkn : k < n) (hu : Asc key p k) {Q : Nat → Prop} (h : ∀ l, l ≤ k → (∀ i, i < l → ky key p i < ky key p k) → (∀ i, l ≤ i → i < k → ky key p k < ky key p i) → Q l) :
    ∀ (f l r : Nat), l ≤ r → r ≤ k → r - l ≤ f → (∀ i, i < l → ky key p i < ky key p k) → (∀ i, r ≤ i → i < k → ky key p k < ky key p i) → Sat key n (kas_place p k f l r) Q
  | 0, l, r, h1, h2, h3, h4, h5 => by
    obtain rfl : l = r := by omega
    exact h l h2 h4 h5
  | f + 1, l, r, h1, h2, h3, h4, h5 => by
    unfold kas_place
    by_cases e : l ≥ r
    · rw [if_pos e]
      obtain rfl : l = r := by omega
      exact h l h2 h4 h5
    · rw [if_neg e]
      refine ⟨P.lt _ hkn, P.lt _ (by omega), P.nd (by omega) (by omega) (by omega), ?_⟩
      by_cases c : ky key p k < ky key p ((l + r) / 2)
      · rw [decide_eq_true c]; dsimp only; rw [if_pos rfl]
        refine place_ok P hk hkn hu h f l ((l + r) / 2) (by omega) (by omega) (by omega) h4 fun i hi hi' => ?_
        by_cases e2 : i = (l + r) / 2
        · subst e2; exact c
        · exact Int.lt_trans c (hu _ _ (by omega) hi')
      · rw [decide_eq_false c]; dsimp only; rw [if_neg (by simp)]
        have hne := P.ne hk (i := k) (j := (l + r) / 2) hkn (by omega) (by omega)
        have c' : ky key p ((l + r) / 2) < ky key p k := by omega
        refine place_ok P hk hkn hu h f ((l + r) / 2 + 1) r (by omega) h2 (by omega) (fun i hi => ?_) h5
        by_cases e2 : i = (l + r) / 2
        · subst e2; exact c'
        · exact Int.lt_trans (hu _ _ (by omega) (by omega)) c'

theorem bubble_pm {p : Array Nat} (P : Pm n p) (k d : Nat) : Pm n (bubble p k d) := Pm.of_perm ((Array.perm_iff_toList_perm.mp (bubble_perm p k d)).trans P.perm)

theorem bin_ok (hk : ∀ i j, i < n → j < n → key i = key j → i = j) {Q : Array Nat → Prop} (h : ∀ q, Pm n q → Asc key q n → Q q) :
    ∀ (f k : Nat) (p : Array Nat), Pm n p → 1 ≤ k → k + f = n → Asc key p k → Sat key n (kas_bin f p k) Q
  | 0, k, p, P, h1, hf, hu => by
    obtain rfl : k = n := by omega
    exact h p P hu
  | f + 1, k, p, P, h1, hf, hu => by
    unfold kas_bin
    refine Sat.bind ?_
    refine place_ok P hk (by omega) hu (fun l hl h4 h5 => ?_) k 0 k (by omega) (Nat.le_refl _) (by omega) (fun i hi => by omega) (fun i _ _ => by omega)
    refine bin_ok hk h f (k + 1) _ (bubble_pm P _ _) (by omega) (by omega) ?_
    have g : ∀ i, (bubble p k (k - l)).getD i 0 = if i = l then p.getD k 0 else if l < i ∧ i ≤ k then p.getD (i - 1) 0 else p.getD i 0 := fun i => by
      have e := getElem?_bubble (xs := p) (src := k) (by rw [P.sz]; omega) (k - l) (by omega) i
      rw [show k - (k - l) = l by omega] at e
      repeat' split
      all_goals (refine getD_eq ?_; rw [e]; first | rw [if_pos (by assumption)] | rw [if_neg (by assumption), if_pos (by assumption)] | rw [if_neg (by assumption), if_neg (by assumption)])
    intro i j hij hj
    unfold ky
    rw [g i, g j]
    by_cases e1 : i = l
    · rw [if_pos e1, if_neg (by omega), if_pos (by omega)]
      exact h5 _ (by omega) (by omega)
    · rw [if_neg e1]
      by_cases e2 : l < i ∧ i ≤ k
      · rw [if_pos e2, if_neg (by omega), if_pos (by omega)]
        exact hu _ _ (by omega) (by omega)
      · rw [if_neg e2]
        by_cases e3 : j = l
        · rw [if_pos e3]
          exact h4 _ (by omega)
        · rw [if_neg e3]
          by_cases e4 : l < j ∧ j ≤ k
          · rw [if_pos e4]
            by_cases e5 : i = j - 1
            · exfalso; omega
            · exact hu _ _ (by omega) (by omega)
          · rw [if_neg e4]
            exact hu _ _ hij (by omega)

theorem sort_ok (hk : ∀ i j, i < n → j < n → key i = key j → i = j) (hn : 1 ≤ n) {Q : Array Nat → Prop} (h : ∀ q, Pm n q → Asc key q n → Q q) : Sat key n (kas_sort n) Q := by
  unfold kas_sort
  refine Sat.bind ?_
  refine count_ok (Pm.of_perm (by simp)) hk hn fun q m h1 h2 P hu => ?_
  have e : max m 1 = m := by omega
  by_cases c : m < n
  · rw [if_pos c]
    show Sat key n (kas_bin (n - max m 1) q (max m 1)) Q
    rw [e]
    exact bin_ok hk h (n - m) m q P h1 (by omega) hu
  · rw [if_neg c]
    obtain rfl : m = n := by omega
    exact h q P hu
end

theorem Sat.wp {key : Nat → Int} {n : Nat} {cmp : Nat → Nat → (Bool → Shared → Prop) → Shared → Prop} {s : Shared} (hc : ∀ i j C, i < n → j < n → i ≠ j → C (decide (key i < key j)) s → cmp i j C s) {α : Type} {G : α → Shared → Prop} :
    ∀ {t : KasT α}, Sat key n t (fun a => G a s) → t.kasWp cmp G s
  | .ret _, h => h
  | .ask _ _ _, h => hc _ _ _ h.1 h.2.1 h.2.2.1 (Sat.wp hc h.2.2.2)
end Mine
end

section
open PySem PySem.W PySem.Calls PyProof.Rows
namespace Mine
set_option maxRecDepth 100000

section
variable {prog : Program} {w : World} {A : Around} {E : Value → Shared → Prop} {s : Shared} {h₀ : Heap} {L a : Addr} {m : Str → Option Value} {news : List (Addr × Obj)} {vs : List Value}

theorem few_list_sort {n : Nat} {P : PySem.Fin → Shared → Prop} (F : Fr h₀ L s.heap m) (N : News h₀ L s.heap news) (ho : s.heap.get? a = some (seqObj "list" vs.toArray n)) (haL : a ≠ L) (ha0 : h₀.get? a = none) (hna : ∀ p ∈ news, p.1 ≠ a)
    (h2 : vs.length < 2) (h : ∀ c h', Fr h₀ L h' m → News h₀ L h' ((a, W.listOf vs.toArray c) :: news) → P (.done (.ret .none)) { s with heap := h' }) :
    wpAny (model prog w) A (Builtin.«list.sort» ⟨[.ref a], []⟩) P E s := by
  have ha : a < s.heap.objs.size := Heap.lt_size ho
  have s1 := Heap.SameBut.update s.heap a (Obj.mapSeq fun _ => (#[] : Array Value))
  obtain ⟨e1, ho1⟩ : ∃ e1, (s.heap.update a (Obj.mapSeq fun _ => (#[] : Array Value))).get? a = some (seqObj "list" #[] e1) := ⟨_, get?_update_seq ho fun _ => #[]⟩
  have F3 : Fr h₀ L (((s.heap.update a (Obj.mapSeq fun _ => (#[] : Array Value))).push (seqObj "tuple" vs.toArray 0)).push (seqObj "list" #[] 0)) m := ((kas_fr F s1 haL ha0).push _).push _
  have N2 : News h₀ L (((s.heap.update a (Obj.mapSeq fun _ => (#[] : Array Value))).push (seqObj "tuple" vs.toArray 0)).push (seqObj "list" #[] 0)) news :=
    (kas_news N s1 hna).grown fun b x e => Heap.get?_push_of_some _ (Heap.get?_push_of_some _ e)
  have ho6 : (((s.heap.update a (Obj.mapSeq fun _ => (#[] : Array Value))).push (seqObj "tuple" vs.toArray 0)).push (seqObj "list" #[] 0)).get? a = some (seqObj "list" #[] e1) := Heap.get?_push_of_some _ (Heap.get?_push_of_some _ ho1)
  rw [list_sort_plain]
  refine wpAny_bind (listItems_at ho rfl ?_)
  refine wpAny_bind (listUpdate_at ho rfl ?_ (by rw [List.size_toArray, sizeLine_eq]; omega) (Nat.zero_le _))
  refine wpAny_bind (seqEpoch_at ho1 rfl ?_)
  refine wpAny_bind (wpAny_newTuple ?_ (by show vs.length ≤ _; rw [sizeLine_eq]; omega))
  refine wpAny_bind (wpAny_newList ?_ (Nat.zero_le _))
  refine wpAny_holding ?_
  show wpAny (model prog w) A _ P E { s with heap := ((s.heap.update a (Obj.mapSeq fun _ => (#[] : Array Value))).push (seqObj "tuple" vs.toArray 0)).push (seqObj "list" #[] 0) }
  dsimp only
  generalize hH : ((s.heap.update a (Obj.mapSeq fun _ => (#[] : Array Value))).push (seqObj "tuple" vs.toArray 0)).push (seqObj "list" #[] 0) = H at F3 N2 ho6 ⊢
  have hn2 : vs.toArray.size < 2 := by rw [List.size_toArray]; omega
  rw [if_pos hn2, if_pos hn2]
  refine wpAny_bind (wpAny_pure ?_)
  rw [StateT.run_pure]
  refine wpAny_bind (wpAny_pure ?_)
  dsimp only
  have e0 : (arrOf (SortSt.mk' general' (vs.toArray.zip vs.toArray) #[] 7 none)).map (·.2) = vs.toArray := by
    show (vs.toArray.zip vs.toArray).map (·.2) = vs.toArray
    apply Array.toList_inj.mp
    simp only [Array.toList_map, Array.toList_zip]
    exact List.map_snd_zip (by simp)
  refine wpAny_bind (seqEpoch_at ho6 rfl ?_)
  refine wpAny_bind (listUpdate_at ho6 rfl ?_ (Nat.zero_le _) (by rw [e0, List.size_toArray, sizeLine_eq]; omega))
  simp only [bne_self_eq_false, Bool.false_eq_true, if_false]
  rw [e0]
  have s2 := Heap.SameBut.update H a (Obj.mapSeq fun _ => vs.toArray)
  obtain ⟨c2, hc2⟩ : ∃ c2, (H.update a (Obj.mapSeq fun _ => vs.toArray)).get? a = some (seqObj "list" vs.toArray c2) := ⟨_, get?_update_seq ho6 fun _ => vs.toArray⟩
  refine wpAny_pure (h c2 _ (kas_fr F3 s2 haL ha0) fun p hp => ?_)
  rcases List.mem_cons.mp hp with rfl | hp
  · exact ⟨hc2, haL, ha0⟩
  · exact kas_news N2 s2 hna p hp

theorem sorted_few {l : Addr} {Q : Value → Shared → Prop} (F : Fr h₀ L s.heap m) (N : News h₀ L s.heap news) (hl : s.heap.IsList l vs.toArray) (h2 : vs.length < 2)
    (h : ∀ D c h', Fr h₀ L h' m → News h₀ L h' ((D, W.listOf vs.toArray c) :: news) → (∀ q ∈ news, q.1 < D) → Q (.ref D) { s with heap := h' }) :
    wpAny (model prog w) A (call (.builtin "sorted") [.ref l]) Q E s := by
  refine Calls.call_function_entry kind_sorted plain_sorted entry_sorted (args_sorted1 _) ?_
  unfold Builtin.«sorted»
  refine wpAny_bind (m := checkCount "sorted" 1 1 _) (wpAny_pure ?_)
  refine wpAny_bind (collect_list hl ?_ (by rw [sizeLine_eq]; omega))
  refine wpAny_bind (wpAny_newList ?_ (by rw [sizeLine_eq]; omega))
  have hsz : ((s.heap.push (seqObj "list" #[] 0)).update s.heap.objs.size (Obj.mapSeq (· ++ vs.toArray))).objs.size = s.heap.objs.size + 1 := by
    rw [Heap.size_update, size_push']
  have hoL : (((s.heap.push (seqObj "list" #[] 0)).update s.heap.objs.size (Obj.mapSeq (· ++ vs.toArray))).push (seqObj "list" vs.toArray 0)).get? (s.heap.objs.size + 1) = some (seqObj "list" vs.toArray 0) := by
    rw [← hsz]; exact Heap.get?_push_size _ rfl
  have keep : ∀ b o, s.heap.get? b = some o → (((s.heap.push (seqObj "list" #[] 0)).update s.heap.objs.size (Obj.mapSeq (· ++ vs.toArray))).push (seqObj "list" vs.toArray 0)).get? b = some o := fun b o q => by
    have hlt : b < s.heap.objs.size := Heap.lt_size q
    rw [Heap.get?_push_ne _ _ _ (by rw [hsz]; exact Nat.ne_of_lt (Nat.lt_succ_of_lt hlt)), Heap.get?_update_ne _ _ _ _ (Nat.ne_of_lt hlt), Heap.get?_push_ne _ _ _ (Nat.ne_of_lt hlt)]
    exact q
  have hL : L < s.heap.objs.size := F.ns.lt
  show wpAny _ _ _ _ _ { s with heap := ((s.heap.push (seqObj "list" #[] 0)).update s.heap.objs.size (Obj.mapSeq (· ++ vs.toArray))).push (seqObj "list" vs.toArray 0) }
  rw [hsz]
  refine wpAny_bind (wpAny_holding (wpAny_call_entry slot_list_sort ⟨_, hoL, rfl⟩ entry_list_sort ?body (args_list_sort _)))
  case body =>
    refine few_list_sort (s := { s with heap := ((s.heap.push (seqObj "list" #[] 0)).update s.heap.objs.size (Obj.mapSeq (· ++ vs.toArray))).push (seqObj "list" vs.toArray 0) })
      (F.kept keep) (N.grown keep) hoL (Nat.ne_of_gt (Nat.lt_succ_of_lt hL)) (Heap.get?_none_of_le (Nat.le_trans F.above (Nat.le_succ_of_le (Nat.le_of_lt hL))))
      (fun p hp => Nat.ne_of_lt (Nat.lt_succ_of_lt (Heap.lt_size (N p hp).1))) h2 fun c h' F' N' => ?_
    exact ⟨_, rfl, wpAny_pure ⟨_, rfl, h _ c h' F' N' fun q hq => Nat.lt_succ_of_lt (Heap.lt_size (N q hq).1)⟩⟩

/-- the tuples of `R` stand in the ledger -/
def TupL (R : List Ent) (news : List (Addr × Obj)) : Prop := ∀ e ∈ R, ∃ tw tn ep, (e.a, ({ cls := .type "tuple", data := .seq #[.int e.wn tw, .int e.n tn, e.x] ep } : Obj)) ∈ news

theorem tupl_kat {h : Heap} : ∀ {R : List Ent}, TupL R news → News h₀ L h news → ∃ fs, KatTups h (R.map Ent.val) fs ∧ fs.length = R.length ∧ ∀ v ∈ fs, ∃ i t, v = .int i t
  | [], _, _ => ⟨[], KatTups.nil, rfl, by simp⟩
  | e :: R, t, N => by
    obtain ⟨fs, h1, h2, h3⟩ := tupl_kat (R := R) (fun e he => t e (List.mem_cons_of_mem _ he)) N
    obtain ⟨tw, tn, ep, hm⟩ := t e List.mem_cons_self
    refine ⟨.int e.wn tw :: fs, KatTups.cons (N _ hm).1 rfl rfl rfl h1, by simp [h2], fun v hv => ?_⟩
    rcases List.mem_cons.mp hv with rfl | hv
    · exact ⟨_, _, rfl⟩
    · exact h3 v hv

theorem ask_rows {R : List Ent} {C : Bool → Shared → Prop} (T : TupL R news) (N : News h₀ L s.heap news) (rng : ∀ e ∈ R, 0 ≤ e.n ∧ e.n < 1000) (nod : (R.map (·.n)).Nodup) {i j : Nat} (hi : i < R.length) (hj : j < R.length) (hij : i ≠ j)
    (h : C (decide (R[i].key < R[j].key)) s) : kas_ask prog w A (tuples' true) (R.map Ent.val) i j C s := by
  unfold kas_ask
  have e1 : (R.map Ent.val).getD i .none = .ref R[i].a := by simp [List.getD, hi, Ent.val]
  have e2 : (R.map Ent.val).getD j .none = .ref R[j].a := by simp [List.getD, hj, Ent.val]
  rw [e1, e2]
  obtain ⟨tw, tn, ep, hm⟩ := T R[i] (List.getElem_mem _)
  obtain ⟨tw', tn', ep', hm'⟩ := T R[j] (List.getElem_mem _)
  refine kat_lt (N _ hm).1 rfl (N _ hm').1 rfl ?_
  refine kat_cons (wpAny_eqBool_int ?_)
  have rn : R[i].n ≠ R[j].n := fun q => hij ((List.getElem_inj (xs := R.map (·.n)) (i := i) (j := j) (h₀ := by simpa using hi) (h₁ := by simpa using hj) nod).mp (by simpa using q))
  have ri := rng R[i] (List.getElem_mem _)
  have rj := rng R[j] (List.getElem_mem _)
  by_cases hw : R[i].wn = R[j].wn
  · rw [show (R[i].wn == R[j].wn) = true by simpa using hw]
    refine kat_yes (kat_cons (wpAny_eqBool_int ?_))
    rw [show (R[i].n == R[j].n) = false by simpa using rn]
    refine kat_no ?_
    refine kat_one _ _ (lt_int ?_)
    show C _ s
    rw [show decide (R[i].n < R[j].n) = decide (R[i].key < R[j].key) by unfold Ent.key; rw [Bool.eq_iff_iff]; simp only [decide_eq_true_eq]; omega]
    exact h
  · rw [show (R[i].wn == R[j].wn) = false by simpa using hw]
    refine kat_no ?_
    refine oneLt_int ?_
    rw [show decide (R[i].wn < R[j].wn) = decide (R[i].key < R[j].key) by unfold Ent.key; rw [Bool.eq_iff_iff]; simp only [decide_eq_true_eq]; omega]
    exact h

theorem sorted_rows {l : Addr} {R : List Ent} {ep : Nat} {Q : Value → Shared → Prop} (F : Fr h₀ L s.heap m) (N : News h₀ L s.heap news) (hm : (l, W.listOf (R.map Ent.val).toArray ep) ∈ news) (T : TupL R news)
    (rng : ∀ e ∈ R, 0 ≤ e.n ∧ e.n < 1000) (nod : (R.map (·.n)).Nodup) (h64 : R.length < 64)
    (h : ∀ D (R' : List Ent) c h', R'.Perm R → R'.Pairwise (fun a b => a.key < b.key) → Fr h₀ L h' m → News h₀ L h' ((D, W.listOf (R'.map Ent.val).toArray c) :: news) → AllLt D news → Q (.ref D) { s with heap := h' }) :
    wpAny (model prog w) A (call (.builtin "sorted") [.ref l]) Q E s := by
  have hl : s.heap.IsList l (R.map Ent.val).toArray := ⟨_, (N _ hm).1, rfl, _, rfl⟩
  by_cases h2 : R.length < 2
  · refine sorted_few (vs := R.map Ent.val) F N hl (by simpa using h2) fun D c h' F' N' q => ?_
    refine h D R c h' (List.Perm.refl _) ?_ F' N' (allLt_of q)
    match R, h2 with
    | [], _ => exact List.Pairwise.nil
    | [_], _ => exact List.pairwise_singleton _ _
    | _ :: _ :: _, h2 => exact absurd h2 (by simp)
  · refine kat_sorted (vs := R.map Ent.val) F N hl (by simp; omega) (by simpa using h64) fun D e1 h' F' N' q' => ?_
    obtain ⟨fs, h3, h4, h5⟩ := tupl_kat T fun p hp => N' p (List.mem_cons_of_mem _ hp)
    refine kat_kind (s := { s with heap := h' }) h3 (by omega) (T := .type "int") (fun v hv => by obtain ⟨i, t, rfl⟩ := h5 v hv; exact Looks.of_pure rfl) (by decide) ?_
    rw [show (Value.type "int" != Value.type "tuple") = true by decide, List.length_map]
    let key : Nat → Int := fun i => ((R[i]?).map Ent.key).getD 0
    have hkey : ∀ i (hi : i < R.length), key i = R[i].key := fun i hi => by simp [key, hi]
    have kinj : ∀ i j, i < R.length → j < R.length → key i = key j → i = j := fun i j hi hj e => by
      rw [hkey i hi, hkey j hj] at e
      have ri := rng R[i] (List.getElem_mem _)
      have rj := rng R[j] (List.getElem_mem _)
      refine (List.getElem_inj (xs := R.map (·.n)) (i := i) (j := j) (h₀ := by simpa using hi) (h₁ := by simpa using hj) nod).mp ?_
      simp only [List.getElem_map]
      unfold Ent.key at e
      omega
    refine Sat.wp (key := key) (n := R.length) (s := { s with heap := h' }) (fun i j C hi hj hij hC => ?_) (sort_ok kinj (by omega) fun q P hu => ?_)
    · refine ask_rows T (fun p hp => N' p (List.mem_cons_of_mem _ hp)) rng nod hi hj hij ?_
      rw [hkey i hi, hkey j hj] at hC
      exact hC
    · let R' : List Ent := q.toList.map fun i => R[i]?.getD ⟨0, 0, 0, .none⟩
      have hvs : (q.toList.map fun i => (R.map Ent.val).getD i .none) = R'.map Ent.val := by
        rw [List.map_map]
        refine List.map_congr_left fun i hi => ?_
        have : i < R.length := by simpa using P.perm.mem_iff.mp hi
        simp [this, List.getD]
      rw [hvs]
      refine KasFin.intro F' N' (.head fun p hp => Nat.ne_of_lt (q' p hp)) fun h2 c F2 N2 => h D R' c h2 ?_ ?_ F2 N2 (allLt_of q')
      · have e1 : R'.Perm ((List.range R.length).map fun i => R[i]?.getD ⟨0, 0, 0, .none⟩) := P.perm.map _
        refine e1.trans (List.Perm.of_eq ?_)
        refine List.ext_getElem (by simp) fun i h1 h2 => ?_
        simp [h2]
      · refine List.pairwise_iff_getElem.mpr fun i j hi hj hij => ?_
        have hi' : i < R.length := by simpa [R', P.sz] using hi
        have hj' : j < R.length := by simpa [R', P.sz] using hj
        have g := hu i j hij hj'
        have gi := P.lt i hi'
        have gj := P.lt j hj'
        unfold ky at g
        rw [hkey _ gi, hkey _ gj] at g
        have ei : q.getD i 0 = q[i]'(by rw [P.sz]; exact hi') := by simp [Array.getD, P.sz, hi']
        have ej : q.getD j 0 = q[j]'(by rw [P.sz]; exact hj') := by simp [Array.getD, P.sz, hj']
        simp only [ei, ej] at g gi gj
        simp [R', gi, gj]
        exact g
end
end Mine
end

section
open PySem PySem.W PySem.Spec PySem.Calls PyProof.Rows
namespace Mine
set_option maxRecDepth 100000

/-- where the things of the manager lie -/
structure Lay where
  mgr : Addr
  mgrD : Addr
  hl : Addr
  cnt : Addr
  cd : Addr
  tk : Nat → Addr
  tkD : Nat → Addr
def Lay.five (y : Lay) : List Addr := [y.mgr, y.mgrD, y.hl, y.cnt, y.cd]
structure LayOk (y : Lay) : Prop where
  off : ∀ i, i < 7 → y.tk i ∉ y.five ∧ y.tkD i ∉ y.five
  inj : ∀ i j, i < 7 → j < 7 → i ≠ j → y.tk i ≠ y.tk j ∧ y.tkD i ≠ y.tkD j
  apart : ∀ i j, i < 7 → j < 7 → y.tk i ≠ y.tkD j

/-- an address that is none of the manager's -/
structure Off (y : Lay) (a : Addr) : Prop where
  five : a ∉ y.five
  tk : ∀ i, i < 7 → a ≠ y.tk i ∧ a ≠ y.tkD i

/-- a row of the law: when, turn, k -/
abbrev Row := Int × Int × Nat
def Ent.core (e : Ent) : Int × Int × Value := (e.wn, e.n, e.x)
def entR (y : Lay) (r : Row) : Int × Int × Value := (r.1, r.2.1, .ref (y.tk r.2.2))
def sched (rows : List Row) (i : Nat) : Bool := rows.any fun r => r.2.2 == i
def TV (v : Value) : Option Int → Prop
  | none => v = .none
  | some i => ∃ t, v = .int i t
structure RowsOk (c : Int) (rows : List Row) : Prop where
  k : ∀ r ∈ rows, r.2.2 < 7
  ks : (rows.map (·.2.2)).Nodup
  t : ∀ r ∈ rows, 0 ≤ r.2.1 ∧ r.2.1 < c
  ts : (rows.map (·.2.1)).Nodup
  c0 : 0 ≤ c
  c1 : c < 1000

/-- the manager's heap -/
def Heaped (y : Lay) (rows : List Row) (es : Array Ent) (wl : List (Addr × Obj)) : Prop :=
  (es.toList.map Ent.core).Perm (rows.map (entR y)) ∧ GoodL es wl ∧ HeapFrom (kz es) es.size 0
structure WL (w : World) (y : Lay) (now c : Int) (rows : List Row) (tv : Nat → Option Int) (wl : List (Addr × Obj)) : Prop where
  mgr : (y.mgr, instObj 244 y.mgrD) ∈ wl
  mgrD : ∃ t1 t2 t3 tn, (y.mgrD, mgrDict w t1 t2 t3 y.hl y.cnt now tn) ∈ wl
  hl : ∃ es ep, (y.hl, W.listOf (es.map Ent.val) ep) ∈ wl ∧ Heaped y rows es wl
  cnt : ∃ k0 k2, (y.cnt, cntObj y.cd c k0 k2) ∈ wl
  cd : (y.cd, dictOf [] 0) ∈ wl
  tk : ∀ i, i < 7 → (y.tk i, instObj 123 (y.tkD i)) ∈ wl
  tkD : ∀ i, i < 7 → ∃ u1 u2 u3 v, TV v (tv i) ∧ (y.tkD i, taskDict w u1 u2 u3 v (sched rows i) y.mgr) ∈ wl

theorem sched_perm {rows rows' : List Row} (p : rows.Perm rows') (i : Nat) : sched rows i = sched rows' i := by
  unfold sched
  rw [Bool.eq_iff_iff, List.any_eq_true, List.any_eq_true]
  exact ⟨fun ⟨r, h, e⟩ => ⟨r, p.mem_iff.mp h, e⟩, fun ⟨r, h, e⟩ => ⟨r, p.mem_iff.mpr h, e⟩⟩
theorem WL.perm {w : World} {y : Lay} {now c : Int} {rows rows' : List Row} {tv : Nat → Option Int} {wl : List (Addr × Obj)} (W : WL w y now c rows tv wl) (p : rows.Perm rows') : WL w y now c rows' tv wl where
  mgr := W.mgr
  mgrD := W.mgrD
  hl := let ⟨es, ep, h, a, b, c⟩ := W.hl; ⟨es, ep, h, a.trans (p.map _), b, c⟩
  cnt := W.cnt
  cd := W.cd
  tk := W.tk
  tkD := fun i hi => by rw [← sched_perm p]; exact W.tkD i hi
theorem RowsOk.perm {c : Int} {rows rows' : List Row} (R : RowsOk c rows) (p : rows.Perm rows') : RowsOk c rows' :=
  ⟨fun r h => R.k r (p.mem_iff.mpr h), (p.map _).nodup R.ks, fun r h => R.t r (p.mem_iff.mpr h), (p.map _).nodup R.ts, R.c0, R.c1⟩
theorem RowsOk.sub {c : Int} {rows rows' : List Row} (R : RowsOk c rows) (p : rows'.Sublist rows) : RowsOk c rows' :=
  ⟨fun r h => R.k r (p.mem h), R.ks.sublist (p.map _), fun r h => R.t r (p.mem h), R.ts.sublist (p.map _), R.c0, R.c1⟩

/-- the seven touched addresses -/
def Lay.seven (y : Lay) (k : Nat) : List Addr := [y.mgr, y.mgrD, y.tk k, y.tkD k, y.hl, y.cnt, y.cd]
def without (adr : List Addr) (wl : List (Addr × Obj)) : List (Addr × Obj) := wl.filter fun p => decide (p.1 ∉ adr)
theorem mem_without {adr : List Addr} {wl : List (Addr × Obj)} {p : Addr × Obj} : p ∈ without adr wl ↔ p ∈ wl ∧ p.1 ∉ adr := by unfold without; simp
/-- a ledger away from the manager's things -/
def Away (y : Lay) (pre : List (Addr × Obj)) : Prop := ∀ p ∈ pre, Off y p.1

theorem away_seven {y : Lay} {k : Nat} (hk : k < 7) {a : Addr} (h : Off y a) : a ∉ y.seven k := by
  have h5 := h.five
  have ht := h.tk k hk
  simp only [Lay.five, Lay.seven, List.mem_cons, List.not_mem_nil, or_false, not_or] at h5 ⊢
  exact ⟨h5.1, h5.2.1, ht.1, ht.2, h5.2.2.1, h5.2.2.2.1, h5.2.2.2.2⟩
/-- an address that the ledger does not hold is none of the manager's -/
theorem off_of {w : World} {y : Lay} {now c : Int} {rows : List Row} {tv : Nat → Option Int} {wl : List (Addr × Obj)} (W : WL w y now c rows tv wl) {a : Addr} (h : ∀ p ∈ wl, p.1 ≠ a) : Off y a := by
  obtain ⟨t1, t2, t3, tn', hD⟩ := W.mgrD
  obtain ⟨es₁, ep₁, hh, _⟩ := W.hl
  obtain ⟨k0, k2, hc⟩ := W.cnt
  refine ⟨?_, fun i hi => ⟨fun e => h _ (W.tk i hi) e.symm, fun e => ?_⟩⟩
  · simp only [Lay.five, List.mem_cons, List.not_mem_nil, or_false, not_or]
    exact ⟨fun e => h _ W.mgr e.symm, fun e => h _ hD e.symm, fun e => h _ hh e.symm, fun e => h _ hc e.symm, fun e => h _ W.cd e.symm⟩
  · obtain ⟨u1, u2, u3, v, _, hd⟩ := W.tkD i hi
    exact h _ hd e.symm
theorem own_rest {y : Lay} {k : Nat} (hk : k < 7) {pre wl : List (Addr × Obj)} (P : Away y pre) : OwnOff (pre ++ without (y.seven k) wl) (y.seven k) := by
  intro p hp b hb
  rintro rfl
  rcases List.mem_append.mp hp with hp | hp
  · exact away_seven hk (P p hp) hb
  · exact (mem_without.mp hp).2 hb
end Mine
end

section
open PySem PySem.W PySem.Spec PySem.Calls PyProof.Rows
namespace Mine
set_option maxRecDepth 100000

theorem small_len : ∀ (n : Nat) (l : List Nat), l.Nodup → (∀ x ∈ l, x < n) → l.length ≤ n
  | 0, [], _, _ => Nat.le_refl _
  | 0, a :: _, _, h => absurd (h a List.mem_cons_self) (Nat.not_lt_zero _)
  | n + 1, l, nd, h => by
    by_cases hn : n ∈ l
    · have h1 := small_len n (l.erase n) (nd.sublist (List.erase_sublist)) fun x hx => by
        have := (nd.mem_erase_iff).mp hx
        have h2 := h x this.2
        omega
      rw [List.length_erase_of_mem hn] at h1
      omega
    · have h1 := small_len n l nd fun x hx => by
        have h2 := h x hx
        have : x ≠ n := fun e => hn (e ▸ hx)
        omega
      omega
theorem RowsOk.len {c : Int} {rows : List Row} (R : RowsOk c rows) : rows.length ≤ 7 := by
  have := small_len 7 (rows.map (·.2.2)) R.ks (fun x hx => by obtain ⟨r, hr, rfl⟩ := List.mem_map.mp hx; exact R.k r hr)
  simpa using this

section
variable {y : Lay} {rows : List Row} {es : Array Ent} {wl : List (Addr × Obj)} {c : Int}

theorem core_mem (p : (es.toList.map Ent.core).Perm (rows.map (entR y))) {e : Ent} (he : e ∈ es) : ∃ r ∈ rows, e.wn = r.1 ∧ e.n = r.2.1 ∧ e.x = .ref (y.tk r.2.2) := by
  have h : e.core ∈ rows.map (entR y) := p.mem_iff.mp (List.mem_map_of_mem (by simpa using he))
  obtain ⟨r, hr, q⟩ := List.mem_map.mp h
  unfold entR Ent.core at q
  simp only [Prod.mk.injEq] at q
  exact ⟨r, hr, q.1.symm, q.2.1.symm, q.2.2.symm⟩
theorem core_size (p : (es.toList.map Ent.core).Perm (rows.map (entR y))) : es.size = rows.length := by
  have := p.length_eq; simpa using this
theorem core_nod (Y : LayOk y) (R : RowsOk c rows) (p : (es.toList.map Ent.core).Perm (rows.map (entR y))) : (es.toList.map (·.x)).Nodup := by
  have e1 : es.toList.map (·.x) = (es.toList.map Ent.core).map (·.2.2) := by rw [List.map_map]; rfl
  rw [e1]
  refine (p.map _).symm.nodup ?_
  rw [List.map_map]
  have nd := R.ks
  have hk := R.k
  clear p e1 R
  induction rows with
  | nil => exact List.nodup_nil
  | cons r rs ih =>
    rw [List.map_cons, List.nodup_cons] at nd ⊢
    refine ⟨fun hm => ?_, ih nd.2 fun r hr => hk r (List.mem_cons_of_mem _ hr)⟩
    obtain ⟨r', hr', q⟩ := List.mem_map.mp hm
    have q' : y.tk r'.2.2 = y.tk r.2.2 := Value.ref.inj q
    have ne : r'.2.2 ≠ r.2.2 := fun e => nd.1 (e ▸ List.mem_map_of_mem (f := fun r : Row => r.2.2) hr')
    exact (Y.inj _ _ (hk r' (List.mem_cons_of_mem _ hr')) (hk r List.mem_cons_self) ne).1 q'
theorem core_ts (p : (es.toList.map Ent.core).Perm (rows.map (entR y))) (R : RowsOk c rows) : (es.toList.map (·.n)).Nodup := by
  have e1 : es.toList.map (·.n) = (es.toList.map Ent.core).map (·.2.1) := by rw [List.map_map]; rfl
  rw [e1]
  refine (p.map _).symm.nodup ?_
  rw [List.map_map]
  exact R.ts
theorem heaped_of (R : RowsOk c rows) (p : (es.toList.map Ent.core).Perm (rows.map (entR y))) (t : TupL es.toList wl) (h : HeapFrom (kz es) es.size 0) : Heaped y rows es wl :=
  ⟨p, ⟨fun e he => t e (by simpa using he), fun e he => by
    obtain ⟨r, hr, _, q, _⟩ := core_mem p he
    have := R.t r hr
    have := R.c1
    omega, core_ts p R, by rw [core_size p]; have := R.len; omega⟩, h⟩
theorem core_none (p : (es.toList.map Ent.core).Perm (rows.map (entR y))) (Y : LayOk y) (R : RowsOk c rows) {k : Nat} (hk : k < 7) (hs : sched rows k = false) : ∀ e ∈ es, e.x ≠ .ref (y.tk k) := by
  intro e he q
  obtain ⟨r, hr, _, _, hx⟩ := core_mem p he
  rw [hx] at q
  have q := Value.ref.inj q
  have : r.2.2 = k := Classical.byContradiction fun ne => (Y.inj _ _ (R.k r hr) hk ne).1 q
  unfold sched at hs
  have := List.any_eq_false.mp hs r hr
  simp_all
theorem core_others (p : (es.toList.map Ent.core).Perm (rows.map (entR y))) (Y : LayOk y) (R : RowsOk c rows) {k : Nat} (hk : k < 7) : ((others es (y.tk k)).map Ent.core).Perm ((rows.filter fun r => r.2.2 != k).map (entR y)) := by
  have h := p.filter (fun t => decide (t.2.2 ≠ .ref (y.tk k)))
  have e1 : (es.toList.map Ent.core).filter (fun t => decide (t.2.2 ≠ .ref (y.tk k))) = (others es (y.tk k)).map Ent.core := by
    unfold others
    rw [List.filter_map]
    rfl
  have e2 : (rows.map (entR y)).filter (fun t => decide (t.2.2 ≠ .ref (y.tk k))) = (rows.filter fun r => r.2.2 != k).map (entR y) := by
    rw [List.filter_map]
    congr 1
    refine List.filter_congr fun r hr => ?_
    show decide ((entR y r).2.2 ≠ .ref (y.tk k)) = _
    rw [Bool.eq_iff_iff]
    simp only [decide_eq_true_eq, bne_iff_ne]
    unfold entR
    constructor
    · intro h e; exact h (by rw [e])
    · intro h e; exact (Y.inj _ _ (R.k r hr) hk h).1 (Value.ref.inj e)
  rw [e1, e2] at h
  exact h
theorem RowsOk.drop {k : Nat} (R : RowsOk c rows) : RowsOk c (rows.filter fun r => r.2.2 != k) := R.sub List.filter_sublist
theorem RowsOk.add {k : Nat} {v : Int} (R : RowsOk c rows) (hk : k < 7) (h1 : c + 1 < 1000) : RowsOk (c + 1) ((rows.filter fun r => r.2.2 != k) ++ [(v, c, k)]) where
  k := fun r hr => by
    rcases List.mem_append.mp hr with hr | hr
    · exact R.drop.k r hr
    · rw [List.mem_singleton.mp hr]; exact hk
  ks := by
    rw [List.map_append, List.nodup_append]
    refine ⟨R.drop.ks, by simp, fun a ha b hb => ?_⟩
    obtain ⟨r, hr, rfl⟩ := List.mem_map.mp ha
    have := (List.mem_filter.mp hr).2
    simp at hb this
    subst hb
    exact this
  t := fun r hr => by
    rcases List.mem_append.mp hr with hr | hr
    · have := R.drop.t r hr; omega
    · rw [List.mem_singleton.mp hr]; have := R.c0; dsimp only; omega
  ts := by
    rw [List.map_append, List.nodup_append]
    refine ⟨R.drop.ts, by simp, fun a ha b hb => ?_⟩
    obtain ⟨r, hr, rfl⟩ := List.mem_map.mp ha
    have := R.drop.t r hr
    simp at hb
    subst hb
    omega
  c0 := by have := R.c0; omega
  c1 := h1
theorem sched_drop {k i : Nat} (h : i ≠ k) : sched (rows.filter fun r => r.2.2 != k) i = sched rows i := by
  unfold sched
  rw [Bool.eq_iff_iff, List.any_eq_true, List.any_eq_true]
  constructor
  · rintro ⟨r, hr, e⟩; exact ⟨r, (List.mem_filter.mp hr).1, e⟩
  · rintro ⟨r, hr, e⟩
    refine ⟨r, List.mem_filter.mpr ⟨hr, ?_⟩, e⟩
    simp at e ⊢
    omega
theorem sched_gone {k : Nat} : sched (rows.filter fun r => r.2.2 != k) k = false := by
  unfold sched
  rw [List.any_eq_false]
  intro r hr
  have := (List.mem_filter.mp hr).2
  simpa using this
theorem sched_app {r : Row} {i : Nat} : sched (rows ++ [r]) i = (sched rows i || r.2.2 == i) := by unfold sched; simp

/-- what the ledger holds lies away from other things -/
theorem tup_off {h₀ h : Heap} {L : Addr} {news : List (Addr × Obj)} {w : World} {now : Int} {tv : Nat → Option Int} (N : News h₀ L h news) (sub : ∀ p ∈ wl, p ∈ news) (W : WL w y now c rows tv wl) (t : TupL es.toList wl) {k : Nat} (hk : k < 7) {e : Ent} (he : e ∈ es.toList) : e.a ∉ y.seven k := by
  obtain ⟨tw, tn, ep, hm⟩ := t e he
  have nm : ∀ {a : Addr} {o : Obj}, (a, o) ∈ wl → o.cls ≠ .type "tuple" → e.a ≠ a := fun ha ho => led_ne N (sub _ hm) (sub _ ha) (fun q => ho (by rw [← q]))
  obtain ⟨t1, t2, t3, tn', hD⟩ := W.mgrD
  obtain ⟨es₁, ep₁, hh, _⟩ := W.hl
  obtain ⟨k0, k2, hc⟩ := W.cnt
  obtain ⟨u1, u2, u3, v, _, hd⟩ := W.tkD k hk
  simp only [Lay.seven, List.mem_cons, List.not_mem_nil, or_false, not_or]
  exact ⟨nm W.mgr (by simp), nm hD (by simp), nm (W.tk k hk) (by simp), nm hd (by simp), nm hh (by simp), nm hc (by simp), nm W.cd (by simp)⟩
theorem tk_off (Y : LayOk y) {i k : Nat} (hi : i < 7) (hk : k < 7) (h : i ≠ k) : y.tk i ∉ y.seven k ∧ y.tkD i ∉ y.seven k := by
  have a := Y.off i hi
  have b := Y.inj i k hi hk h
  have c := Y.apart i k hi hk
  have d := Y.apart k i hk hi
  simp only [Lay.five, Lay.seven, List.mem_cons, List.not_mem_nil, or_false, not_or] at a ⊢
  obtain ⟨⟨a1, a2, a3, a4, a5⟩, a6, a7, a8, a9, a10⟩ := a
  exact ⟨⟨a1, a2, b.1, c, a3, a4, a5⟩, a6, a7, fun q => d q.symm, b.2, a8, a9, a10⟩
end
end Mine
end

section
open PySem PySem.W PySem.Spec PySem.Calls PyProof.Rows
namespace Mine
set_option maxRecDepth 100000

/-- the addresses the law itself writes to -/
structure Kept (y : Lay) (adr : List Addr) (pre : List (Addr × Obj)) : Prop where
  away : ∀ a ∈ adr, Off y a
  here : ∀ a ∈ adr, ∃ o, (a, o) ∈ pre

abbrev sevenL (w : World) (y : Lay) (k : Nat) (t1 t2 t3 tn u1 u2 u3 k0 k2 : Tok) (now c : Int) (v : Value) (b : Bool) (es : Array Ent) (ep : Nat) (rest : List (Addr × Obj)) : List (Addr × Obj) :=
  (y.mgr, instObj 244 y.mgrD) :: (y.mgrD, mgrDict w t1 t2 t3 y.hl y.cnt now tn) :: (y.tk k, instObj 123 (y.tkD k)) :: (y.tkD k, taskDict w u1 u2 u3 v b y.mgr) :: (y.hl, W.listOf (es.map Ent.val) ep) :: (y.cnt, cntObj y.cd c k0 k2) :: (y.cd, dictOf [] 0) :: rest

section
variable {w : World} {y : Lay} {now c : Int} {rows : List Row} {tv : Nat → Option Int} {wl pre : List (Addr × Obj)} {k : Nat} {h₀ h : Heap} {L : Addr} {adr : List Addr}

theorem allLt_mem {d : Nat} : ∀ {l : List (Addr × Obj)}, AllLt d l → ∀ p ∈ l, @LT.lt Nat _ p.1 d
  | [], _, p, h => nomatch h
  | _ :: _, x, p, h => by
    rcases List.mem_cons.mp h with rfl | h
    · exact x.1
    · exact allLt_mem x.2 p h

/-- the contract's ledger out of the law's -/
theorem WL.open (Y : LayOk y) (R : RowsOk c rows) (W : WL w y now c rows tv wl) (N : News h₀ L h (pre ++ wl)) (P : Away y pre) (hk : k < 7) :
    ∃ t1 t2 t3 tn u1 u2 u3 k0 k2 v es ep, TV v (tv k) ∧ News h₀ L h (sevenL w y k t1 t2 t3 tn u1 u2 u3 k0 k2 now c v (sched rows k) es ep (pre ++ without (y.seven k) wl)) ∧ OwnOff (pre ++ without (y.seven k) wl) (y.seven k) ∧
      GoodL es (pre ++ without (y.seven k) wl) ∧ HeapFrom (kz es) es.size 0 ∧ (∀ e ∈ es, ∃ z, e.x = .ref z ∧ (z ≠ y.tk k → ∃ o, (z, o) ∈ pre ++ without (y.seven k) wl)) ∧ (es.toList.map (·.x)).Nodup ∧ (sched rows k = false → ∀ e ∈ es, e.x ≠ .ref (y.tk k)) ∧
      (∀ e ∈ es, e.n < c) ∧ es.size < 1000 ∧ (es.toList.map Ent.core).Perm (rows.map (entR y)) ∧ TupL es.toList (without (y.seven k) wl) := by
  obtain ⟨t1, t2, t3, tn, hD⟩ := W.mgrD
  obtain ⟨es, ep, hh, p, G, hf⟩ := W.hl
  obtain ⟨k0, k2, hc⟩ := W.cnt
  obtain ⟨u1, u2, u3, v, hv, hd⟩ := W.tkD k hk
  have sub : ∀ q ∈ wl, q ∈ pre ++ wl := fun q hq => List.mem_append_right _ hq
  have T0 : TupL es.toList wl := fun e he => G.tup e (by simpa using he)
  have T1 : TupL es.toList (without (y.seven k) wl) := fun e he => by
    obtain ⟨tw, tn, ep, hm⟩ := T0 e he
    exact ⟨tw, tn, ep, mem_without.mpr ⟨hm, tup_off N sub W T0 hk he⟩⟩
  refine ⟨t1, t2, t3, tn, u1, u2, u3, k0, k2, v, es, ep, hv, fun q hq => N q ?_, own_rest hk P, ⟨fun e he => ?_, G.rng, G.nod, G.sz⟩, hf, fun e he => ?_, core_nod Y R p, core_none p Y R hk, fun e he => ?_, by rw [core_size p]; have := R.len; omega, p, T1⟩
  · simp only [sevenL, List.mem_cons] at hq
    rcases hq with rfl | rfl | rfl | rfl | rfl | rfl | rfl | hq
    · exact sub _ W.mgr
    · exact sub _ hD
    · exact sub _ (W.tk k hk)
    · exact sub _ hd
    · exact sub _ hh
    · exact sub _ hc
    · exact sub _ W.cd
    · rcases List.mem_append.mp hq with hq | hq
      · exact List.mem_append_left _ hq
      · exact sub _ (mem_without.mp hq).1
  · obtain ⟨a, b, d, hm⟩ := T1 e (by simpa using he)
    exact ⟨a, b, d, List.mem_append_right _ hm⟩
  · obtain ⟨r, hr, _, _, hx⟩ := core_mem p he
    refine ⟨_, hx, fun ne => ⟨_, List.mem_append_right _ (mem_without.mpr ⟨W.tk _ (R.k r hr), (tk_off Y (R.k r hr) hk fun e => ne (by rw [e])).1⟩)⟩⟩
  · obtain ⟨r, hr, _, hn, _⟩ := core_mem p he
    rw [hn]; exact (R.t r hr).2

/-- the law's ledger out of the contract's -/
theorem WL.close {t1 t2 t3 tn u1 u2 u3 k0 k2 : Tok} {now' c' : Int} {v : Value} {b : Bool} {es' : Array Ent} {ep' : Nat} {rows' : List Row} {tv' : Nat → Option Int} {extra : List (Addr × Obj)} {h' : Heap}
    (Y : LayOk y) (W : WL w y now c rows tv wl) (hk : k < 7) (R' : RowsOk c' rows') (K : Kept y adr pre) (O : OwnOff wl adr)
    (N' : News h₀ L h' (sevenL w y k t1 t2 t3 tn u1 u2 u3 k0 k2 now' c' v b es' ep' (extra ++ (pre ++ without (y.seven k) wl)))) (hx : ∀ q ∈ extra, ∀ p ∈ pre, p.1 ≠ q.1)
    (p' : (es'.toList.map Ent.core).Perm (rows'.map (entR y))) (T' : TupL es'.toList (extra ++ without (y.seven k) wl)) (hf : HeapFrom (kz es') es'.size 0) (hv : TV v (tv' k)) (hb : b = sched rows' k)
    (ht : ∀ i, i ≠ k → tv' i = tv i) (hs : ∀ i, i ≠ k → sched rows' i = sched rows i) :
    ∃ wl', News h₀ L h' (pre ++ wl') ∧ WL w y now' c' rows' tv' wl' ∧ OwnOff wl' adr ∧ (∀ p ∈ wl, Off y p.1 → p ∈ wl') := by
  refine ⟨sevenL w y k t1 t2 t3 tn u1 u2 u3 k0 k2 now' c' v b es' ep' (extra ++ without (y.seven k) wl), fun q hq => N' q ?_, ?_, ?_, ?_⟩
  · simp only [sevenL, List.mem_append, List.mem_cons] at hq ⊢
    rcases hq with hq | hq | hq | hq | hq | hq | hq | hq | hq | hq <;> simp [hq]
  · have sub : ∀ q ∈ without (y.seven k) wl, q ∈ sevenL w y k t1 t2 t3 tn u1 u2 u3 k0 k2 now' c' v b es' ep' (extra ++ without (y.seven k) wl) := fun q hq => by simp [sevenL, hq]
    refine ⟨by simp [sevenL], ⟨t1, t2, t3, tn, by simp [sevenL]⟩, ⟨es', ep', by simp [sevenL], heaped_of R' p' (fun e he => ?_) hf⟩, ⟨k0, k2, by simp [sevenL]⟩, by simp [sevenL], fun i hi => ?_, fun i hi => ?_⟩
    · obtain ⟨a, b, d, hm⟩ := T' e he
      refine ⟨a, b, d, ?_⟩
      simp only [sevenL, List.mem_cons]
      exact .inr (.inr (.inr (.inr (.inr (.inr (.inr hm))))))
    · by_cases e : i = k
      · subst e; simp [sevenL]
      · exact sub _ (mem_without.mpr ⟨W.tk i hi, (tk_off Y hi hk e).1⟩)
    · by_cases e : i = k
      · subst e; exact ⟨u1, u2, u3, v, hv, by rw [← hb]; simp [sevenL]⟩
      · obtain ⟨a1, a2, a3, v', hv', hm⟩ := W.tkD i hi
        exact ⟨a1, a2, a3, v', by rw [ht i e]; exact hv', by rw [hs i e]; exact sub _ (mem_without.mpr ⟨hm, (tk_off Y hi hk e).2⟩)⟩
  · intro q hq b hb
    have s7 : q.1 ∈ y.seven k → q.1 ≠ b := fun hm e => away_seven hk (K.away b hb) (e ▸ hm)
    simp only [sevenL, List.mem_append, List.mem_cons] at hq
    rcases hq with rfl | rfl | rfl | rfl | rfl | rfl | rfl | hq | hq
    · exact s7 (by simp [Lay.seven])
    · exact s7 (by simp [Lay.seven])
    · exact s7 (by simp [Lay.seven])
    · exact s7 (by simp [Lay.seven])
    · exact s7 (by simp [Lay.seven])
    · exact s7 (by simp [Lay.seven])
    · exact s7 (by simp [Lay.seven])
    · obtain ⟨o, ho⟩ := K.here b hb
      exact fun e => hx q hq (b, o) ho e.symm
    · exact O q (mem_without.mp hq).1 b hb
  · intro q hq hw
    have : q ∈ without (y.seven k) wl := mem_without.mpr ⟨hq, away_seven hk hw⟩
    simp [sevenL, this]
end
end Mine
end

section
open PySem PySem.W PySem.Spec PySem.Calls PyProof.Rows
namespace Mine
set_option maxRecDepth 100000

section
variable {w : World} {mean : ExcName → Option Value} {mg mb : Str → Option Value} {dp un : Nat} {gd : Option (List Code)} {cn : Str} {cs : Scope} {a : Addr} {ccd : Value} {cl : List (Str × Addr)} {outer : List Env} {A₀ : Around} {base h₀ : Heap} {L : Addr} {m : Str → Option Value} {s : Shared}
  {Q E : Value → Shared → Prop} {y : Lay} {now c : Int} {rows : List Row} {tv : Nat → Option Int} {wl pre : List (Addr × Obj)} {k : Nat} {adr : List Addr}

theorem new_tup {es es' : Array Ent} {x q : Addr} {v c : Int} {tv' tc : Tok} {wl : List (Addr × Obj)} (pm : es'.toList.Perm (others es x ++ [⟨q, v, c, .ref x⟩])) (T : TupL es.toList wl) : TupL es'.toList ([(q, tupObj v c tv' tc x)] ++ wl) := by
  intro e he
  rcases List.mem_append.mp (pm.mem_iff.mp he) with h | h
  · obtain ⟨a, b, d, hm⟩ := T e (List.mem_filter.mp h).1
    exact ⟨a, b, d, List.mem_append_right _ hm⟩
  · rw [List.mem_singleton.mp h]
    exact ⟨tv', tc, 0, by simp⟩
theorem old_tup {es es' : Array Ent} {x : Addr} {wl : List (Addr × Obj)} (pm : es'.toList.Perm (others es x)) (T : TupL es.toList wl) : TupL es'.toList ([] ++ wl) := by
  intro e he
  have h := pm.mem_iff.mp he
  obtain ⟨a, b, d, hm⟩ := T e (List.mem_filter.mp h).1
  exact ⟨a, b, d, hm⟩

def upd (tv : Nat → Option Int) (k : Nat) (v : Int) (i : Nat) : Option Int := if i = k then some v else tv i

/-- what an install leaves -/
def InstRet (w : World) (y : Lay) (now c : Int) (rows : List Row) (tv : Nat → Option Int) (wl pre : List (Addr × Obj)) (adr : List Addr) (h₀ : Heap) (L : Addr) (m : Str → Option Value) (s : Shared) (Q : Value → Shared → Prop) (v : Int) (k : Nat) : Prop :=
  ∀ wl' h' tk', Fr h₀ L h' m → News h₀ L h' (pre ++ wl') → WL w y now (c + 1) ((rows.filter fun r => r.2.2 != k) ++ [(v, c, k)]) (upd tv k v) wl' → OwnOff wl' adr →
    (∀ p ∈ wl, Off y p.1 → p ∈ wl') → Q (.bool true) { s with heap := h', toks := tk' }

theorem inst_close {t1 t2 t3 tn u1 u2 u3 k0 k2 : Tok} {v : Int} {tv' tc : Tok} {es es' : Array Ent} {ep' : Nat} {q : Addr} {h' : Heap} {tk' : Nat} (Y : LayOk y) (R : RowsOk c rows) (W : WL w y now c rows tv wl) (hk : k < 7) (K : Kept y adr pre) (O : OwnOff wl adr) (c1 : c + 1 < 1000)
    (p : (es.toList.map Ent.core).Perm (rows.map (entR y))) (T1 : TupL es.toList (without (y.seven k) wl)) (pm : es'.toList.Perm (others es (y.tk k) ++ [⟨q, v, c, .ref (y.tk k)⟩])) (hf : HeapFrom (kz es') es'.size 0) (l : AllLt q (pre ++ without (y.seven k) wl))
    (F' : Fr h₀ L h' m) (N' : News h₀ L h' (sevenL w y k t1 t2 t3 tn u1 u2 u3 k0 k2 now (c + 1) (.int v tv') true es' ep' ((q, tupObj v c tv' tc (y.tk k)) :: (pre ++ without (y.seven k) wl))))
    (ret : InstRet w y now c rows tv wl pre adr h₀ L m s Q v k) : Q (.bool true) { s with heap := h', toks := tk' } := by
  obtain ⟨wl', h1, h2, h3, h4⟩ := WL.close (extra := [(q, tupObj v c tv' tc (y.tk k))]) (rows' := (rows.filter fun r => r.2.2 != k) ++ [(v, c, k)]) (tv' := upd tv k v) Y W hk (R.add hk c1) K O N' (fun q' hq' p hp => by
      rw [List.mem_singleton.mp hq']; exact Nat.ne_of_lt (allLt_mem l p (List.mem_append_left _ hp)))
    (by
      refine (pm.map Ent.core).trans ?_
      rw [List.map_append, List.map_append]
      exact (core_others p Y R hk).append_right _)
    (new_tup pm T1) hf (by unfold upd; rw [if_pos rfl]; exact ⟨_, rfl⟩) (by rw [sched_app]; simp) (fun i hi => by unfold upd; rw [if_neg hi]) (fun i hi => by rw [sched_app, sched_drop hi]; simp; exact fun e => absurd e.symm hi)
  exact ret wl' h' tk' F' h1 h2 h3 h4

theorem t_install {how x v : Int} {th tx : Tok}
    (B : Below A₀ base outer h₀) (F : Fr h₀ L s.heap m) (X : (hd.heap_39 w.params).In h₀) (N : News h₀ L s.heap (pre ++ wl)) (T : Top hd.view_39 Lo0 mean mg mb h₀) (hck : cs.kind = .function) (hd : dp + 9 < recursionLimit) (hu : un + 90 < cLine)
    (Y : LayOk y) (R : RowsOk c rows) (W : WL w y now c rows tv wl) (P : Away y pre) (K : Kept y adr pre) (O : OwnOff wl adr) (hk : k < 7) (c1 : c + 1 < 1000)
    (hw : (how = 0 ∧ v = x) ∨ (how = 1 ∧ v = now + x) ∨ (how = 2 ∧ tv k = some v))
    (ret : InstRet w y now c rows tv wl pre adr h₀ L m s Q v k) :
    wpAny (model PySem.Challenge.rw_vs0001_01.row.prog w) (ktrTop dp un gd cn cs L a ccd cl outer) (call (.ref 255) [.ref (y.tk k), .int how th, .int x tx]) Q E s := by
  obtain ⟨t1, t2, t3, tn, u1, u2, u3, k0, k2, v0, es, ep, hv, N₁, off, G, hh, hrf, nd, hb, hc, hz, p, T1⟩ := W.open Y R N P hk
  rcases hw with ⟨rfl, rfl⟩ | ⟨rfl, rfl⟩ | ⟨rfl, hv2⟩
  · exact c_law0 (es := es) (ep := ep) B F X N₁ T hck off hd hu G hh hrf nd hb hc R.c0 R.c1 hz fun es' ep' q tc tv' k0' h' tk' pm hf l _ F' N' => inst_close Y R W hk K O c1 p T1 pm hf l F' N' ret
  · exact c_law1 (es := es) (ep := ep) B F X N₁ T hck off hd hu G hh hrf nd hb hc R.c0 R.c1 hz fun es' ep' q tc tv' k0' h' tk' pm hf l _ F' N' => inst_close Y R W hk K O c1 p T1 pm hf l F' N' ret
  · rw [hv2] at hv
    obtain ⟨t0, rfl⟩ := hv
    exact c_law2 (es := es) (ep := ep) B F X N₁ T hck off hd hu G hh hrf nd hb hc R.c0 R.c1 hz fun es' ep' q tc tv' k0' h' tk' pm hf l _ F' N' => inst_close Y R W hk K O c1 p T1 pm hf l F' N' ret

/-- what a call without rows changed leaves -/
def SameRet (w : World) (y : Lay) (now c : Int) (rows : List Row) (tv : Nat → Option Int) (wl pre : List (Addr × Obj)) (adr : List Addr) (h₀ : Heap) (L : Addr) (m : Str → Option Value) (s : Shared) (Q : Value → Shared → Prop) (v : Value) : Prop :=
  ∀ wl' h' tk', Fr h₀ L h' m → News h₀ L h' (pre ++ wl') → WL w y now c rows tv wl' → OwnOff wl' adr →
    (∀ p ∈ wl, Off y p.1 → p ∈ wl') → Q v { s with heap := h', toks := tk' }

theorem t_refuse {x : Int} {th tx : Tok}
    (XB : (hd.heap_39 w.params).In base) (TB : Top hd.view_39 Lo0 mean mg mb base) (B : Below A₀ base [] h₀) (F : Fr h₀ L s.heap m) (X : (hd.heap_39 w.params).In h₀) (N : News h₀ L s.heap (pre ++ wl)) (T : Top hd.view_39 Lo0 mean mg mb h₀) (hck : cs.kind = .function) (hd : dp + 9 < recursionLimit) (hu : un + 90 < cLine)
    (Y : LayOk y) (R : RowsOk c rows) (W : WL w y now c rows tv wl) (P : Away y pre) (K : Kept y adr pre) (O : OwnOff wl adr) (hk : k < 7) (hv0 : tv k = none)
    (ret : SameRet w y now c rows tv wl pre adr h₀ L m s Q (.bool false)) :
    wpAny (model PySem.Challenge.rw_vs0001_01.row.prog w) (ktrTop dp un gd cn cs L a ccd cl []) (call (.ref 255) [.ref (y.tk k), .int 2 th, .int x tx]) Q E s := by
  obtain ⟨t1, t2, t3, tn, u1, u2, u3, k0, k2, v0, es, ep, hv, N₁, off, G, hh, hrf, nd, hb, hc, hz, p, T1⟩ := W.open Y R N P hk
  rw [hv0] at hv
  obtain rfl : v0 = .none := hv
  refine c_law3 (es := es) (ep := ep) XB TB B F X N₁ T hck off hd hu G hh hrf nd hb hc R.c0 R.c1 hz fun h' tk' F' N' => ?_
  obtain ⟨wl', h1, h2, h3, h4⟩ := WL.close (extra := []) (rows' := rows) (tv' := tv) Y W hk R K O N' (fun q' hq' => nomatch hq') p (by simpa using T1) hh (by rw [hv0]; rfl) rfl (fun _ _ => rfl) (fun _ _ => rfl)
  exact ret wl' h' tk' F' h1 h2 h3 h4
end
end Mine
end

section
open PySem PySem.W PySem.Spec PySem.Calls PyProof.Rows
namespace Mine
set_option maxRecDepth 100000

section
variable {w : World} {mean : ExcName → Option Value} {mg mb : Str → Option Value} {dp un : Nat} {gd : Option (List Code)} {cn : Str} {cs : Scope} {a : Addr} {ccd : Value} {cl : List (Str × Addr)} {outer : List Env} {A₀ : Around} {base h₀ : Heap} {L : Addr} {m : Str → Option Value} {s : Shared}
  {Q E : Value → Shared → Prop}
local macro_rules | `(tactic| k_mem) => `(tactic| assumption)
local macro_rules | `(tactic| k_room) => `(tactic| ktr_room)
local macro_rules | `(tactic| walk_at "call ref") => `(tactic| ((with_reducible show wpAny _ _ (call (Value.ref 227) _) _ _ _); refine Hold.mk ?_))

set_option maxHeartbeats 4000000 in
theorem c_susp {mgr mgrD hl cnt x dx : Addr} {t1 t2 t3 tn u1 u2 u3 : Tok} {now : Int} {tv : Value} {b : Bool} {es : Array Ent} {ep : Nat} {rest : List (Addr × Obj)}
    (B : Below A₀ base outer h₀) (F : Fr h₀ L s.heap m) (X : (hd.heap_39 w.params).In h₀)
    (N : News h₀ L s.heap ((mgr, instObj 244 mgrD) :: (mgrD, mgrDict w t1 t2 t3 hl cnt now tn) :: (x, instObj 123 dx) :: (dx, taskDict w u1 u2 u3 tv b mgr) :: (hl, W.listOf (es.map Ent.val) ep) :: rest)) (T : Top hd.view_39 Lo0 mean mg mb h₀) (hk : cs.kind = .function)
    (hoff : OwnOff rest [mgr, mgrD, x, dx, hl]) (hd : dp + 6 < recursionLimit) (hu : un + 60 < cLine) (G : GoodL es rest) (hh : HeapFrom (kz es) es.size 0)
    (hrf : ∀ e ∈ es, ∃ y, e.x = .ref y ∧ (y ≠ x → ∃ o, (y, o) ∈ rest)) (nd : (es.toList.map (·.x)).Nodup)
    (ret : ∀ es' ep' b' h' tk', es'.toList.Perm (others es x) → HeapFrom (kz es') es'.size 0 → (b' = false ∨ (b' = b ∧ ∀ e ∈ es, e.x ≠ .ref x)) → Fr h₀ L h' m →
      News h₀ L h' ((mgr, instObj 244 mgrD) :: (mgrD, mgrDict w t1 t2 t3 hl cnt now tn) :: (x, instObj 123 dx) :: (dx, taskDict w u1 u2 u3 tv b' mgr) :: (hl, W.listOf (es'.map Ent.val) ep') :: rest) → Q .none { s with heap := h', toks := tk' })
    :
    wpAny (model PySem.Challenge.rw_vs0001_01.row.prog w) (ktrTop dp un gd cn cs L a ccd cl outer) (call (.ref 100) [.ref x]) Q E s := by
  have n1 := neN (a := mgr) (b := mgrD) (led_ne N (List.Mem.head _) (List.Mem.tail _ (List.Mem.head _)) ne_inst_dict)
  have n2 := neN (a := mgr) (b := x) (led_ne N (List.Mem.head _) (List.Mem.tail _ (List.Mem.tail _ (List.Mem.head _))) (ne_inst (by decide)))
  have n3 := neN (a := mgr) (b := dx) (led_ne N (List.Mem.head _) (List.Mem.tail _ (List.Mem.tail _ (List.Mem.tail _ (List.Mem.head _)))) ne_inst_dict)
  have n4 := neN (a := mgr) (b := hl) (led_ne N (List.Mem.head _) (List.Mem.tail _ (List.Mem.tail _ (List.Mem.tail _ (List.Mem.tail _ (List.Mem.head _))))) ne_inst_list)
  have n5 := neN (a := x) (b := mgrD) (led_ne N (List.Mem.tail _ (List.Mem.tail _ (List.Mem.head _))) (List.Mem.tail _ (List.Mem.head _)) ne_inst_dict)
  have n6 := neN (a := mgrD) (b := dx) (led_ne N (List.Mem.tail _ (List.Mem.head _)) (List.Mem.tail _ (List.Mem.tail _ (List.Mem.tail _ (List.Mem.head _)))) ne_mgr_task)
  have n7 := neN (a := mgrD) (b := hl) (led_ne N (List.Mem.tail _ (List.Mem.head _)) (List.Mem.tail _ (List.Mem.tail _ (List.Mem.tail _ (List.Mem.tail _ (List.Mem.head _))))) ne_dict_list)
  have n8 := neN (a := x) (b := dx) (led_ne N (List.Mem.tail _ (List.Mem.tail _ (List.Mem.head _))) (List.Mem.tail _ (List.Mem.tail _ (List.Mem.tail _ (List.Mem.head _)))) ne_inst_dict)
  have n9 := neN (a := x) (b := hl) (led_ne N (List.Mem.tail _ (List.Mem.tail _ (List.Mem.head _))) (List.Mem.tail _ (List.Mem.tail _ (List.Mem.tail _ (List.Mem.tail _ (List.Mem.head _))))) ne_inst_list)
  have n10 := neN (a := dx) (b := hl) (led_ne N (List.Mem.tail _ (List.Mem.tail _ (List.Mem.tail _ (List.Mem.head _)))) (List.Mem.tail _ (List.Mem.tail _ (List.Mem.tail _ (List.Mem.tail _ (List.Mem.head _))))) ne_dict_list)
  revert X
  k_fill
  intro X
  refine wpAny_call ?_
  k_dflt cell_enter
  k_steps
  show wpAny _ _ (call (Value.ref 227) _) _ _ _
  (rename News _ _ _ _ => NN)
  refine' c_suspend (es := es) (ep := ep) (rest := rest) ?B ?F ?X NN ?T ?hk hoff ?hd ?hu G hh hrf nd ?ret
  case B => k_asm
  case F => k_asm
  case X => k_asm
  case T => k_asm
  case hk => exact rfl
  case hd => ktr_room
  case hu => ktr_units
  intro es₁ ep₁ b₁ h' tk' pm₁ hh₁ hb₁ F' N'
  k_steps
  exact ret _ _ _ _ _ pm₁ hh₁ hb₁ (by assumption) (by assumption)

set_option maxHeartbeats 4000000 in
theorem c_pass {mgr mgrD hl cnt : Addr} {t1 t2 t3 tn td : Tok} {now d : Int} {rest : List (Addr × Obj)}
    (B : Below A₀ base outer h₀) (F : Fr h₀ L s.heap m) (X : (hd.heap_39 w.params).In h₀)
    (N : News h₀ L s.heap ((mgr, instObj 244 mgrD) :: (mgrD, mgrDict w t1 t2 t3 hl cnt now tn) :: rest)) (T : Top hd.view_39 Lo0 mean mg mb h₀) (hk : cs.kind = .function)
    (hoff : OwnOff rest [mgr, mgrD]) (hd : dp + 4 < recursionLimit) (hu : un + 40 < cLine)
    (ret : ∀ h' tk' t', Fr h₀ L h' m → News h₀ L h' ((mgr, instObj 244 mgrD) :: (mgrD, mgrDict w t1 t2 t3 hl cnt (now + d) t') :: rest) → Q .none { s with heap := h', toks := tk' }) :
    wpAny (model PySem.Challenge.rw_vs0001_01.row.prog w) (ktrTop dp un gd cn cs L a ccd cl outer) (call (.ref 213) [.ref mgr, .int d td]) Q E s := by
  have n1 := neN (a := mgr) (b := mgrD) (led_ne N (List.Mem.head _) (List.Mem.tail _ (List.Mem.head _)) ne_inst_dict)
  revert X
  k_fill
  intro X
  refine wpAny_call ?_
  k_dflt cell_enter
  k_steps
  exact ret _ _ _ (by assumption) (by assumption)
end

section
variable {w : World} {mean : ExcName → Option Value} {mg mb : Str → Option Value} {dp un : Nat} {gd : Option (List Code)} {cn : Str} {cs : Scope} {a : Addr} {ccd : Value} {cl : List (Str × Addr)} {outer : List Env} {A₀ : Around} {base h₀ : Heap} {L : Addr} {m : Str → Option Value} {s : Shared}
  {Q E : Value → Shared → Prop} {y : Lay} {now c : Int} {rows : List Row} {tv : Nat → Option Int} {wl pre : List (Addr × Obj)} {k : Nat} {adr : List Addr}

theorem off_app {own own' : List (Addr × Obj)} {adr : List Addr} (h : OwnOff own adr) (h' : OwnOff own' adr) : OwnOff (own ++ own') adr := fun p hp b hb => (List.mem_append.mp hp).elim (fun q => h p q b hb) fun q => h' p q b hb

theorem t_suspend
    (B : Below A₀ base outer h₀) (F : Fr h₀ L s.heap m) (X : (hd.heap_39 w.params).In h₀) (N : News h₀ L s.heap (pre ++ wl)) (T : Top hd.view_39 Lo0 mean mg mb h₀) (hck : cs.kind = .function) (hd : dp + 9 < recursionLimit) (hu : un + 90 < cLine)
    (Y : LayOk y) (R : RowsOk c rows) (W : WL w y now c rows tv wl) (P : Away y pre) (K : Kept y adr pre) (O : OwnOff wl adr) (hk : k < 7)
    (ret : SameRet w y now c (rows.filter fun r => r.2.2 != k) tv wl pre adr h₀ L m s Q .none) :
    wpAny (model PySem.Challenge.rw_vs0001_01.row.prog w) (ktrTop dp un gd cn cs L a ccd cl outer) (call (.ref 100) [.ref (y.tk k)]) Q E s := by
  obtain ⟨t1, t2, t3, tn, u1, u2, u3, k0, k2, v0, es, ep, hv, N₁, off, G, hh, hrf, nd, hb, hc, hz, p, T1⟩ := W.open Y R N P hk
  have o7 := Y.off k hk
  simp only [Lay.five, List.mem_cons, List.not_mem_nil, or_false, not_or] at o7
  have oc : y.cnt ∉ [y.mgr, y.mgrD, y.tk k, y.tkD k, y.hl] ∧ y.cd ∉ [y.mgr, y.mgrD, y.tk k, y.tkD k, y.hl] := by
    obtain ⟨z1, z2, z3, z4, z5, z6, z7, z8, z9, z10, z11, z12, z13, z14, z15, z16, z17, z18, z19, z20, z21⟩ := apart7 N₁
    simp only [List.mem_cons, List.not_mem_nil, or_false, not_or]
    exact ⟨⟨fun q => z5 q.symm, fun q => z10 q.symm, fun q => z14 q.symm, fun q => z17 q.symm, fun q => z19 q.symm⟩, ⟨fun q => z6 q.symm, fun q => z11 q.symm, fun q => z15 q.symm, fun q => z18 q.symm, fun q => z20 q.symm⟩⟩
  refine c_susp (es := es) (ep := ep) (cnt := y.cnt) (rest := (y.cnt, cntObj y.cd c k0 k2) :: (y.cd, dictOf [] 0) :: (pre ++ without (y.seven k) wl)) B F X N₁ T hck (off_cons (off_cons (off_sub off fun b hb => ?_) fun b hb q => oc.2 ((show y.cd = b from q) ▸ hb)) fun b hb q => oc.1 ((show y.cnt = b from q) ▸ hb)) (by omega) (by omega)
    (G.mono fun q hq => List.mem_cons_of_mem _ (List.mem_cons_of_mem _ hq)) hh (fun e he => let ⟨z, h1, h2⟩ := hrf e he; ⟨z, h1, fun ne => let ⟨o, ho⟩ := h2 ne; ⟨o, List.mem_cons_of_mem _ (List.mem_cons_of_mem _ ho)⟩⟩) nd fun es' ep' b' h' tk' pm hf hb' F' N' => ?_
  · simp only [Lay.seven, List.mem_cons, List.not_mem_nil, or_false] at hb ⊢; rcases hb with q | q | q | q | q <;> simp [q]
  · have eb : b' = sched (rows.filter fun r => r.2.2 != k) k := by
      rw [sched_gone]
      rcases hb' with h | ⟨h, hno⟩
      · exact h
      · rw [h]
        cases hs : sched rows k with
        | false => rfl
        | true =>
          exfalso
          unfold sched at hs
          obtain ⟨r, hr, e⟩ := List.any_eq_true.mp hs
          have e : r.2.2 = k := by simpa using e
          have hm : entR y r ∈ es.toList.map Ent.core := p.mem_iff.mpr (List.mem_map_of_mem hr)
          obtain ⟨e', he', q⟩ := List.mem_map.mp hm
          refine hno e' (by simpa using he') ?_
          unfold Ent.core entR at q
          simp only [Prod.mk.injEq] at q
          rw [q.2.2, e]
    obtain ⟨wl', h1, h2, h3, h4⟩ := WL.close (extra := []) (rows' := rows.filter fun r => r.2.2 != k) (tv' := tv) Y W hk R.drop K O N' (fun q' hq' => nomatch hq') ((pm.map Ent.core).trans (core_others p Y R hk)) (old_tup pm T1) hf hv eb (fun _ _ => rfl) (fun i hi => sched_drop hi)
    exact ret wl' h' tk' F' h1 h2 h3 h4

theorem t_pass {d : Int} {td : Tok}
    (B : Below A₀ base outer h₀) (F : Fr h₀ L s.heap m) (X : (hd.heap_39 w.params).In h₀) (N : News h₀ L s.heap (pre ++ wl)) (T : Top hd.view_39 Lo0 mean mg mb h₀) (hck : cs.kind = .function) (hd : dp + 9 < recursionLimit) (hu : un + 90 < cLine)
    (Y : LayOk y) (R : RowsOk c rows) (W : WL w y now c rows tv wl) (P : Away y pre) (K : Kept y adr pre) (O : OwnOff wl adr)
    (ret : SameRet w y (now + d) c rows tv wl pre adr h₀ L m s Q .none) :
    wpAny (model PySem.Challenge.rw_vs0001_01.row.prog w) (ktrTop dp un gd cn cs L a ccd cl outer) (call (.ref 213) [.ref y.mgr, .int d td]) Q E s := by
  have hk : 0 < 7 := by decide
  obtain ⟨t1, t2, t3, tn, u1, u2, u3, k0, k2, v0, es, ep, hv, N₁, off, G, hh, hrf, nd, hb, hc, hz, p, T1⟩ := W.open Y R N P hk
  obtain ⟨z1, z2, z3, z4, z5, z6, z7, z8, z9, z10, z11, z12, z13, z14, z15, z16, z17, z18, z19, z20, z21⟩ := apart7 N₁
  refine c_pass B F X N₁ T hck ?_ (by omega) (by omega) fun h' tk' t' F' N' => ?_
  · have o2 : OwnOff (pre ++ without (y.seven 0) wl) [y.mgr, y.mgrD] := off_sub off fun b hb => by
      simp only [Lay.seven, List.mem_cons, List.not_mem_nil, or_false] at hb ⊢; rcases hb with q | q <;> simp [q]
    have o3 : ∀ {x : Addr}, y.mgr ≠ x → y.mgrD ≠ x → ∀ b ∈ [y.mgr, y.mgrD], x ≠ b := fun h1 h2 b hb => by
      simp only [List.mem_cons, List.not_mem_nil, or_false] at hb
      rcases hb with rfl | rfl
      · exact h1.symm
      · exact h2.symm
    exact off_cons (off_cons (off_cons (off_cons (off_cons o2 (o3 z6 z11)) (o3 z5 z10)) (o3 z4 z9)) (o3 z3 z8)) (o3 z2 z7)
  · obtain ⟨wl', h1, h2, h3, h4⟩ := WL.close (extra := []) (rows' := rows) (tv' := tv) Y W hk R K O N' (fun q' hq' => nomatch hq') p (by simpa using T1) hh hv rfl (fun _ _ => rfl) (fun _ _ => rfl)
    exact ret wl' h' tk' F' h1 h2 h3 h4
end
end Mine
end

section
open PySem PySem.W PySem.Spec PySem.Calls PyProof.Rows
namespace Mine
set_option maxRecDepth 100000

def rkey (r : Row) : Int := r.1 * 1000 + r.2.1
def WaitV (now : Int) (wait : Value) : List Row → Prop
  | [] => wait = .none
  | r :: _ => (now ≤ r.1 ∧ ∃ t, wait = .int (r.1 - now) t) ∨ (r.1 < now ∧ ∃ t, wait = .float 0 t)
def NextV (y : Lay) (now : Int) (told wait : Value) (rows' : List Row) : List Row → Prop
  | [] => told = .none ∧ wait = .none ∧ rows' = []
  | r :: rs => (r.1 ≤ now ∧ told = .ref (y.tk r.2.2) ∧ rows' = rs ∧ WaitV now wait rs) ∨ (now < r.1 ∧ told = .none ∧ (∃ t, wait = .int (r.1 - now) t) ∧ rows' = r :: rs)

section
variable {y : Lay} {rows rs : List Row} {es : Array Ent} {c : Int} {r0 : Row} {e : Ent} {t : List Ent}

theorem root_head (R : RowsOk c (r0 :: rs)) (p : (es.toList.map Ent.core).Perm ((r0 :: rs).map (entR y))) (hf : HeapFrom (kz es) es.size 0) (so : (r0 :: rs).Pairwise fun a b => rkey a < rkey b) (he : es.toList = e :: t) : e.core = entR y r0 ∧ (t.map Ent.core).Perm (rs.map (entR y)) := by
  have key : e.core = entR y r0 := by
    have h0 : 0 < es.size := by have := congrArg List.length he; simp at this; omega
    have e0 : es[0] = e := by
      have h : es.toList[0]'(by rw [he]; simp) = e := by simp [he]
      simpa using h
    have hm : e ∈ es := by have : e ∈ es.toList := by rw [he]; exact List.mem_cons_self
                           simpa using this
    have hc : e.core ∈ (r0 :: rs).map (entR y) := p.mem_iff.mp (List.mem_map_of_mem (by simpa using hm))
    obtain ⟨r', hr', q⟩ := List.mem_map.mp hc
    rcases List.mem_cons.mp hr' with rfl | hr''
    · exact q.symm
    · exfalso
      have h1 := List.rel_of_pairwise_cons so hr''
      obtain ⟨e', he', q'⟩ := List.mem_map.mp (p.mem_iff.mpr (List.mem_map_of_mem (f := entR y) (List.mem_cons_self (a := r0) (l := rs))))
      obtain ⟨i, hi, hi'⟩ := List.getElem_of_mem he'
      have hi2 : i < es.size := by simpa using hi
      have h2 := hf.root i hi2
      rw [kz_of h0, kz_of hi2, e0] at h2
      have e3 : es[i] = e' := by simpa using hi'
      rw [e3] at h2
      unfold Ent.key at h2
      unfold Ent.core entR at q q'
      unfold rkey at h1
      simp only [Prod.mk.injEq] at q q'
      rw [← q.1, ← q.2.1, q'.1, q'.2.1] at h2
      omega
  refine ⟨key, ?_⟩
  rw [he, List.map_cons, List.map_cons, key] at p
  exact (List.perm_cons _).mp p

theorem wait_of {now : Int} {dv : Value} (R : RowsOk c rs) (p : (es.toList.map Ent.core).Perm (rs.map (entR y))) (hf : HeapFrom (kz es) es.size 0) (so : rs.Pairwise fun a b => rkey a < rkey b) (d : DeltaV es.toList now dv) : WaitV now dv rs := by
  rcases he : es.toList with _ | ⟨e, t⟩
  · rw [he] at p d
    have : rs = [] := by have := p.length_eq; simpa using this.symm
    subst this
    exact d
  · match rs, R, p, so with
    | [], _, p, _ => rw [he] at p; exact absurd p.length_eq (by simp)
    | r :: rs', R, p, so =>
      have := (root_head R p hf so he).1
      unfold Ent.core entR at this
      simp only [Prod.mk.injEq] at this
      rw [he] at d
      have d' : (now ≤ e.wn ∧ ∃ t, dv = .int (e.wn - now) t) ∨ (e.wn < now ∧ ∃ t, dv = .float 0 t) := d
      show (now ≤ r.1 ∧ ∃ t, dv = .int (r.1 - now) t) ∨ (r.1 < now ∧ ∃ t, dv = .float 0 t)
      rw [this.1] at d'
      exact d'
end

section
variable {w : World} {mean : ExcName → Option Value} {mg mb : Str → Option Value} {dp un : Nat} {gd : Option (List Code)} {cn : Str} {cs : Scope} {a : Addr} {ccd : Value} {cl : List (Str × Addr)} {outer : List Env} {A₀ : Around} {base h₀ : Heap} {L : Addr} {m : Str → Option Value} {s : Shared}
  {Q E : Value → Shared → Prop} {y : Lay} {now c : Int} {rows : List Row} {tv : Nat → Option Int} {wl pre : List (Addr × Obj)} {k : Nat} {adr : List Addr}

/-- what a next leaves -/
def NextRet (w : World) (y : Lay) (now c : Int) (rows : List Row) (tv : Nat → Option Int) (wl pre : List (Addr × Obj)) (adr : List Addr) (h₀ : Heap) (L : Addr) (m : Str → Option Value) (s : Shared) (Q : Value → Shared → Prop) : Prop :=
  ∀ p told wait rows' wl' h' tk', NextV y now told wait rows' rows → Fr h₀ L h' m → News h₀ L h' ((p, { cls := .type "tuple", data := .seq #[told, wait] }) :: (pre ++ wl')) → WL w y now c rows' tv wl' → OwnOff wl' adr →
    (∀ p ∈ wl, Off y p.1 → p ∈ wl') → AllLt p pre → Q (.ref p) { s with heap := h', toks := tk' }

theorem allLt_app {d : Nat} : ∀ {l l' : List (Addr × Obj)}, AllLt d (l ++ l') → AllLt d l
  | [], _, _ => trivial
  | _ :: _, _, h => ⟨h.1, allLt_app h.2⟩
theorem news_tail {h₀ h : Heap} {L : Addr} {p : Addr × Obj} {l l' : List (Addr × Obj)} (N : News h₀ L h (p :: l)) (N' : News h₀ L h l') : News h₀ L h (p :: l') := fun q hq => by
  rcases List.mem_cons.mp hq with rfl | hq
  · exact N _ List.mem_cons_self
  · exact N' q hq

theorem t_next
    (B : Below A₀ base outer h₀) (F : Fr h₀ L s.heap m) (X : (hd.heap_39 w.params).In h₀) (N : News h₀ L s.heap (pre ++ wl)) (T : Top hd.view_39 Lo0 mean mg mb h₀) (hck : cs.kind = .function) (hd : dp + 9 < recursionLimit) (hu : un + 90 < cLine)
    (Y : LayOk y) (R : RowsOk c rows) (W : WL w y now c rows tv wl) (P : Away y pre) (K : Kept y adr pre) (O : OwnOff wl adr) (so : rows.Pairwise fun a b => rkey a < rkey b)
    (ret : NextRet w y now c rows tv wl pre adr h₀ L m s Q) :
    wpAny (model PySem.Challenge.rw_vs0001_01.row.prog w) (ktrTop dp un gd cn cs L a ccd cl outer) (call (.ref 234) [.ref y.mgr]) Q E s := by
  rcases rows with _ | ⟨r0, rs⟩
  · have hk : 0 < 7 := by decide
    obtain ⟨t1, t2, t3, tn, u1, u2, u3, k0, k2, v0, es, ep, hv, N₁, off, G, hh, hrf, nd, hb, hc, hz, p, T1⟩ := W.open Y R N P hk
    obtain ⟨z1, z2, z3, z4, z5, z6, z7, z8, z9, z10, z11, z12, z13, z14, z15, z16, z17, z18, z19, z20, z21⟩ := apart7 N₁
    obtain rfl : es = #[] := by
      have := core_size p
      exact Array.eq_empty_of_size_eq_zero (by simpa using this)
    have N₂ : News h₀ L s.heap ((y.mgr, instObj 244 y.mgrD) :: (y.mgrD, mgrDict w t1 t2 t3 y.hl y.cnt now tn) :: (y.hl, PySem.W.listOf #[] ep) :: (y.tk 0, instObj 123 (y.tkD 0)) :: (y.tkD 0, taskDict w u1 u2 u3 v0 (sched [] 0) y.mgr) :: (y.cnt, cntObj y.cd c k0 k2) :: (y.cd, dictOf [] 0) :: (pre ++ without (y.seven 0) wl)) := fun q hq => N₁ q (by
      simp only [sevenL, List.mem_cons] at hq ⊢
      rcases hq with h | h | h | h | h | h | h | h <;> simp [h])
    refine c_next0 B F X N₂ T hck ?_ (by omega) (by omega) fun p' h' tk' l lp F' N' => ?_
    · have o3 : OwnOff (pre ++ without (y.seven 0) wl) [y.mgr, y.mgrD, y.hl] := off_sub off fun b hb => by
        simp only [Lay.seven, List.mem_cons, List.not_mem_nil, or_false] at hb ⊢; rcases hb with q | q | q <;> simp [q]
      have o4 : ∀ {x : Addr}, y.mgr ≠ x → y.mgrD ≠ x → y.hl ≠ x → ∀ b ∈ [y.mgr, y.mgrD, y.hl], x ≠ b := fun h1 h2 h3 b hb => by
        simp only [List.mem_cons, List.not_mem_nil, or_false] at hb
        rcases hb with rfl | rfl | rfl
        · exact h1.symm
        · exact h2.symm
        · exact h3.symm
      exact off_cons (off_cons (off_cons (off_cons o3 (o4 z6 z11 z20)) (o4 z5 z10 z19)) (o4 z3 z8 (fun q => z16 q.symm))) (o4 z2 z7 (fun q => z13 q.symm))
    · obtain ⟨wl', h1, h2, h3, h4⟩ := WL.close (extra := []) (rows' := []) (tv' := tv) (es' := #[]) (ep' := ep) (b := sched [] 0) (v := v0) (h' := h') (t1 := t1) (t2 := t2) (t3 := t3) (tn := tn) (u1 := u1) (u2 := u2) (u3 := u3) (k0 := k0) (k2 := k2) (now' := now) (c' := c) Y W hk R K O (fun q hq => N' q (by
          simp only [sevenL, List.mem_cons, List.nil_append, Array.map_empty] at hq ⊢
          rcases hq with h | h | h | h | h | h | h | h <;> simp [h])) (fun q' hq' => nomatch hq') p (by simpa using T1) hh hv rfl (fun _ _ => rfl) (fun _ _ => rfl)
      exact ret p' .none .none [] wl' h' tk' ⟨rfl, rfl, rfl⟩ F' (news_tail N' h1) h2 h3 h4 (allLt_app l.2.2.2.2)
  · have hk : r0.2.2 < 7 := R.k _ List.mem_cons_self
    obtain ⟨t1, t2, t3, tn, u1, u2, u3, k0, k2, v0, es, ep, hv, N₁, off, G, hh, hrf, nd, hb, hc, hz, p, T1⟩ := W.open Y R N P hk
    obtain ⟨z1, z2, z3, z4, z5, z6, z7, z8, z9, z10, z11, z12, z13, z14, z15, z16, z17, z18, z19, z20, z21⟩ := apart7 N₁
    have hsz := core_size p
    obtain ⟨e, t, he⟩ : ∃ e t, es.toList = e :: t := by
      rcases h : es.toList with _ | ⟨e, t⟩
      · have := congrArg List.length h; simp at this; simp [this] at hsz
      · exact ⟨e, t, rfl⟩
    obtain ⟨ec, pt⟩ := root_head R p hh so he
    obtain ⟨tw, tc, et, hq⟩ := T1 e (by rw [he]; exact List.mem_cons_self)
    obtain ⟨q, v, c', x⟩ := e
    unfold Ent.core entR at ec
    simp only [Prod.mk.injEq] at ec
    obtain ⟨e1, e2, e3⟩ := ec
    subst e1 e2 e3
    dsimp only at hq
    have o5 : OwnOff (pre ++ without (y.seven r0.2.2) wl) [y.mgr, y.mgrD, y.tk r0.2.2, y.tkD r0.2.2, y.hl] := off_sub off fun b hb => by
      simp only [Lay.seven, List.mem_cons, List.not_mem_nil, or_false] at hb ⊢; rcases hb with q | q | q | q | q <;> simp [q]
    have oc : y.cnt ∉ [y.mgr, y.mgrD, y.tk r0.2.2, y.tkD r0.2.2, y.hl] ∧ y.cd ∉ [y.mgr, y.mgrD, y.tk r0.2.2, y.tkD r0.2.2, y.hl] := by
      simp only [List.mem_cons, List.not_mem_nil, or_false, not_or]
      exact ⟨⟨fun q => z5 q.symm, fun q => z10 q.symm, fun q => z14 q.symm, fun q => z17 q.symm, fun q => z19 q.symm⟩, ⟨fun q => z6 q.symm, fun q => z11 q.symm, fun q => z15 q.symm, fun q => z18 q.symm, fun q => z20 q.symm⟩⟩
    have hs0 : sched (r0 :: rs) r0.2.2 = true := by unfold sched; simp
    have nk := R.ks
    rw [List.map_cons, List.nodup_cons] at nk
    have hs1 : sched rs r0.2.2 = false := by
      unfold sched
      rw [List.any_eq_false]
      intro r hr q
      have q : r.2.2 = r0.2.2 := by simpa using q
      exact nk.1 (q ▸ List.mem_map_of_mem (f := fun r : Row => r.2.2) hr)
    have hs2 : ∀ i, i ≠ r0.2.2 → sched rs i = sched (r0 :: rs) i := fun i hi => by
      unfold sched
      rw [List.any_cons]
      have : (r0.2.2 == i) = false := by simpa using fun q => hi q.symm
      rw [this, Bool.false_or]
    by_cases hdue : r0.1 ≤ now
    · refine c_next1 (es := es) (ep := ep) (cnt := y.cnt) (rest := (y.cnt, cntObj y.cd c k0 k2) :: (y.cd, dictOf [] 0) :: (pre ++ without (y.seven r0.2.2) wl)) B F X N₁ T hck (off_cons (off_cons o5 fun b hb q => oc.2 ((show y.cd = b from q) ▸ hb)) fun b hb q => oc.1 ((show y.cnt = b from q) ▸ hb)) (by omega) (by omega)
        he (List.mem_cons_of_mem _ (List.mem_cons_of_mem _ (List.mem_append_right _ hq))) hdue (G.mono fun q hq => List.mem_cons_of_mem _ (List.mem_cons_of_mem _ hq)) hh fun es' ep' p' dv h' tk' pm hf' dd l lp F' N' => ?_
      have pc : (es'.toList.map Ent.core).Perm (rs.map (entR y)) := (pm.map _).trans pt
      have Rs : RowsOk c rs := R.sub (List.sublist_cons_self _ _)
      have so' : rs.Pairwise fun a b => rkey a < rkey b := so.of_cons
      obtain ⟨wl', h1, h2, h3, h4⟩ := WL.close (extra := []) (rows' := rs) (tv' := tv) Y W hk Rs K O (fun q hq => N' q (List.mem_cons_of_mem _ hq)) (fun q' hq' => nomatch hq') pc (fun e' he' => by
        obtain ⟨a, b, d, hm⟩ := T1 e' (by rw [he]; exact List.mem_cons_of_mem _ (pm.mem_iff.mp he'))
        exact ⟨a, b, d, hm⟩) hf' hv hs1.symm (fun _ _ => rfl) hs2
      exact ret p' _ _ rs wl' h' tk' (.inl ⟨hdue, rfl, rfl, wait_of Rs pc hf' so' dd⟩) F' (news_tail N' h1) h2 h3 h4 (allLt_app l.2.2)
    · have N₂ : News h₀ L s.heap ((y.mgr, instObj 244 y.mgrD) :: (y.mgrD, mgrDict w t1 t2 t3 y.hl y.cnt now tn) :: (y.hl, PySem.W.listOf (es.map Ent.val) ep) :: (y.tk r0.2.2, instObj 123 (y.tkD r0.2.2)) :: (y.tkD r0.2.2, taskDict w u1 u2 u3 v0 (sched (r0 :: rs) r0.2.2) y.mgr) :: (y.cnt, cntObj y.cd c k0 k2) :: (y.cd, dictOf [] 0) :: (pre ++ without (y.seven r0.2.2) wl)) := fun q hq => N₁ q (by
        simp only [sevenL, List.mem_cons] at hq ⊢
        rcases hq with h | h | h | h | h | h | h | h <;> simp [h])
      refine c_nextW (es := es) B F X N₂ T hck (by omega) (by omega) he (by simp only [List.mem_cons]; exact .inr (.inr (.inr (.inr (List.mem_append_right _ hq))))) hdue (by omega) fun p' t' h' tk' l lp F' N' => ?_
      obtain ⟨wl', h1, h2, h3, h4⟩ := WL.close (extra := []) (rows' := r0 :: rs) (tv' := tv) (es' := es) (ep' := ep) (b := sched (r0 :: rs) r0.2.2) (v := v0) (h' := h') (t1 := t1) (t2 := t2) (t3 := t3) (tn := tn) (u1 := u1) (u2 := u2) (u3 := u3) (k0 := k0) (k2 := k2) (now' := now) (c' := c) Y W hk R K O (fun q hq => N' q (by
          simp only [sevenL, List.mem_cons, List.nil_append] at hq ⊢
          rcases hq with h | h | h | h | h | h | h | h <;> simp [h])) (fun q' hq' => nomatch hq') p (by simpa using T1) hh hv rfl (fun _ _ => rfl) (fun _ _ => rfl)
      exact ret p' _ _ (r0 :: rs) wl' h' tk' (.inr ⟨by omega, rfl, ⟨_, rfl⟩, rfl⟩) F' (news_tail N' h1) h2 h3 h4 (allLt_app l.2.2.2.2)
end
end Mine
end

section
open PySem PySem.W PySem.Spec PySem.Calls PyProof.Rows
namespace Mine
set_option maxRecDepth 100000

/-- the end of a turn -/
def TurnEnd (h₀ : Heap) (L : Addr) (J : (Str → Option Value) → List (Addr × Obj) → Prop) (I : Addr) (oI : Obj) (s₁ : Shared) (Q : Flow → Shared → Prop) (f : Flow) (s₂ : Shared) : Prop :=
  match f with
  | .ret v => Q (.ret v) s₂
  | .brk => Q .next s₂
  | _ => ∃ h' tk m' news', s₂ = { s₁ with heap := h', toks := tk } ∧ Fr h₀ L h' m' ∧ News h₀ L h' ((I, oI) :: news') ∧ (∀ p ∈ news', p.1 ≠ I) ∧ J m' news'

section
variable {prog : Program} {w : World} {A : Around} {E : Value → Shared → Prop} {s : Shared} {env : Env} {h₀ : Heap} {x : Str} {body : List Stmt} {Q : Flow → Shared → Prop}

theorem iter_law {nl : Addr} {its : Array Value} {ep : Nat} {m₀ : Str → Option Value} {news : List (Addr × Obj)} (J : Nat → (Str → Option Value) → List (Addr × Obj) → Prop)
    (hh : A.handled = none) (F : Fr h₀ env.locals s.heap m₀) (N : News h₀ env.locals s.heap news) (hm : (nl, PySem.W.listOf its ep) ∈ news) (hJm : ∀ i m₁ nw, J i m₁ nw → (nl, PySem.W.listOf its ep) ∈ nw) (hj : J 0 m₀ news)
    (turn : ∀ i v m₁ news₁ h tk I oI, oI.cls = .type "list_iterator" → its[i]? = some v → J i m₁ news₁ → (∀ p ∈ news, @LT.lt Nat _ p.1 I) → (∀ p ∈ news₁, p.1 ≠ I) → Fr h₀ env.locals h (fun y => if y = x then some v else m₁ y) → News h₀ env.locals h ((I, oI) :: news₁) →
      wpAny (model prog w) A (execs body env) (TurnEnd h₀ env.locals (J (i + 1)) I oI { s with heap := h, toks := tk } Q) E { s with heap := h, toks := tk })
    (done : ∀ m₁ news₁ h tk, J its.size m₁ news₁ → Fr h₀ env.locals h m₁ → News h₀ env.locals h news₁ → Q .next { s with heap := h, toks := tk }) :
    wpAny (model prog w) A (pyIter (.ref nl)) (fun it s₂ => LoopAtV prog w A h₀ env x body Q E it s₂) E s := by
  have hls : s.heap.IsList nl its := ⟨_, (N _ hm).1, rfl, _, rfl⟩
  have hlt : nl < s.heap.objs.size := Heap.lt_size (N _ hm).1
  refine wpAny_pyIter_list hls ?_
  have W := Walks.list (prog := prog) (w := w) hh s.heap.objs.size nl (Nat.ne_of_lt hlt) its
  refine ⟨_, _, _, its.size, _, _, m₀, news, J, rfl, W, ?_, ?_, ?_, ⟨⟨_, Heap.get?_push_size _ rfl, rfl, rfl⟩, hls.at fun o e => Heap.get?_push_of_some _ e⟩, F.push _, (fun p hp => ⟨Heap.get?_push_of_some _ (N p hp).1, (N p hp).2⟩), hj, ?_, ?_⟩
  · intro hc
    rcases List.mem_cons.mp hc with e | hc
    · exact absurd F.ns.lt (e ▸ Nat.lt_irrefl _)
    · exact (N _ hm).2.1 (List.mem_singleton.mp hc).symm
  · intro b hb
    rw [List.mem_singleton.mp hb]
    exact next_is_new F
  · intro p hp hI
    exact absurd (Heap.lt_size (N p hp).1) ((List.mem_singleton.mp hI) ▸ Nat.lt_irrefl _)
  · rintro i v m₁ news₁ s₁ own ⟨hh', tk', rfl⟩ hin hP hJ hoff hown hget hall st F₁ N₁
    obtain ⟨oI, hoI, hcI, _⟩ := st.1
    have hI : (s.heap.objs.size, oI) ∈ own := hall _ (by simp) (next_is_new F) _ hoI
    have N₂ : News h₀ env.locals hh' ((s.heap.objs.size, oI) :: news₁) := fun p hp => N₁ p (by
      rcases List.mem_cons.mp hp with rfl | hp
      · exact List.mem_append_left _ hI
      · exact List.mem_append_right _ hp)
    refine wpAny_mono (turn i v m₁ news₁ hh' tk' _ oI hcI hP hJ (fun p hp => Heap.lt_size (N p hp).1) (fun p hp e => hoff p hp (by simpa using e)) F₁ N₂) (fun f s₂ p => ?_) fun _ _ e => e
    have fin : TurnEnd h₀ env.locals (J (i + 1)) s.heap.objs.size oI { s with heap := hh', toks := tk' } Q .next s₂ → LoopStepU h₀ env.locals [s.heap.objs.size] own (J (i + 1)) { s with heap := hh', toks := tk' } .next s₂ := by
      rintro ⟨h', tk, m', news', e, F', N', hn, hJ'⟩
      refine ⟨rfl, h', tk, m', news', e, F', fun p hp => ?_, fun p hp hq => hn p hp (List.mem_singleton.mp hq), hJ'⟩
      rcases List.mem_append.mp hp with hp | hp
      · rcases List.mem_cons.mp (hown p hp) with h1 | h1
        · have h2 := hget p hp
          rw [h1] at h2
          have h3 : p.2 = oI := by rw [hoI] at h2; exact (Option.some.inj h2).symm
          have : p = (s.heap.objs.size, oI) := Prod.ext h1 h3
          rw [this]
          exact N' _ List.mem_cons_self
        · have h1 := List.mem_singleton.mp h1
          have h2 := hget p hp
          have h4 := (N₁ _ (List.mem_append_right _ (hJm i m₁ news₁ hJ))).1
          rw [h1] at h2
          have h4 : hh'.get? nl = some (PySem.W.listOf its ep) := h4
          have h2 : hh'.get? nl = some p.2 := h2
          have h3 : p.2 = PySem.W.listOf its ep := by rw [h4] at h2; exact (Option.some.inj h2).symm
          have : p = (nl, PySem.W.listOf its ep) := Prod.ext h1 h3
          rw [this]
          exact N' _ (List.mem_cons_of_mem _ (hJm _ _ _ hJ'))
      · exact N' p (List.mem_cons_of_mem _ hp)
    cases f with
    | ret v => exact .ret p
    | brk => exact .brk p
    | next => exact .next (fin p)
    | cont => exact .cont (fin p)
  · rintro h' tk m' news' F' N' _ hJ
    exact done m' news' h' tk hJ F' N'
end
end Mine
end

section
open PySem PySem.W PySem.Spec PySem.Calls PyProof.Rows PyProof.Rows.LCg PyProof.Rows.LCt
namespace Mine
set_option maxRecDepth 100000

section
variable {prog : Program} {w : World} {A : Around} {E : Value → Shared → Prop} {s : Shared} {h₀ : Heap} {L : Addr} {m : Str → Option Value} {env : Env} {elt ct : Expr} {x : Str} {scope : Scope} {cl : List (Str × Addr)} {news : List (Addr × Obj)} {S : List (Addr × Obj) → Prop} {P : Nat → Value → Prop}
  {Fin : List Value → List (Addr × Obj) → Prop}

/-- a comprehension whose item changes nothing -/
theorem rest_U (G : Nat → Value → Prop) (hS : S news)
    (hel : ∀ (i : Nat) (v : Value) (I : Addr) (oI : Obj) (C : Addr) (oC : Obj) (D : Addr) (ys : List Value) (m₂ : Str → Option Value) (h : Heap) (tk : Nat) (Q' : Value → Shared → Prop) (E' : Value → Shared → Prop), P i v → NsObj oC m₂ → m₂ x = some v → Fr h₀ L h m → News h₀ L h ((I, oI) :: (C, oC) :: (D, lst ys) :: news) → (∀ y tk', G i y → Q' y { s with heap := h, toks := tk' }) →
      wpAny (model prog w) A (eval elt (compEnvC scope cl C env)) Q' E' { s with heap := h, toks := tk }) :
    ∀ (n i : Nat) (ys : List Value), ys.length = i → (∀ j v, ys[j]? = some v → G j v) → (∀ zs, zs.length = i + n → (∀ j v, zs[j]? = some v → G j v) → Fin zs news) → CompRest prog w A h₀ L m env elt x scope cl s S P Fin n i ys news
  | 0, i, ys, hl, hy, hf => hf ys (by simpa using hl) hy
  | n + 1, i, ys, hl, hy, hf => by
    refine CompRest.succ fun v I oI C oC D m₂ h tk E' hP hC hx F N o3 hne => ?_
    refine hel i v I oI C oC D ys m₂ h tk _ _ hP hC hx F N fun y tk' hg => ?_
    refine CompEnd.intro (s₁ := { s with heap := h, toks := tk }) F N news (fun p hp => hp) o3 hS ?_
    refine rest_U G hS hel n (i + 1) (ys ++ [y]) (by simp [hl]) (fun j u hj => ?_) fun zs hz hg' => hf zs (by omega) hg'
    by_cases e : j < ys.length
    · rw [List.getElem?_append_left e] at hj; exact hy j u hj
    · rw [List.getElem?_append_right (by omega)] at hj
      have : j = ys.length := by
        by_cases e2 : j - ys.length = 0
        · omega
        · rw [List.getElem?_eq_none (by simp; omega)] at hj; cases hj
      subst this
      simp at hj
      subst hj
      rw [hl]
      exact hg

/-- a comprehension with a test, whose item and test change nothing -/
theorem rest_T {its : List Value} (t : Nat → Bool) (hS : S news) (hP : ∀ i v, P i v → its[i]? = some v)
    (hct : ∀ (i : Nat) (v : Value) (I : Addr) (oI : Obj) (C : Addr) (oC : Obj) (D : Addr) (ys : List Value) (m₂ : Str → Option Value) (h : Heap) (tk : Nat) (Q' : Bool → Shared → Prop) (E' : Value → Shared → Prop), its[i]? = some v → NsObj oC m₂ → m₂ x = some v → Fr h₀ L h m → News h₀ L h ((I, oI) :: (C, oC) :: (D, lst ys) :: news) → (∀ tk', Q' (t i) { s with heap := h, toks := tk' }) →
      wpAny (model prog w) A (isTrue ct (compEnvC scope cl C env) (eval ct (compEnvC scope cl C env))) Q' E' { s with heap := h, toks := tk })
    (hel : ∀ (i : Nat) (v : Value) (I : Addr) (oI : Obj) (C : Addr) (oC : Obj) (D : Addr) (ys : List Value) (m₂ : Str → Option Value) (h : Heap) (tk : Nat) (Q' : Value → Shared → Prop) (E' : Value → Shared → Prop), its[i]? = some v → NsObj oC m₂ → m₂ x = some v → Fr h₀ L h m → News h₀ L h ((I, oI) :: (C, oC) :: (D, lst ys) :: news) → (∀ tk', Q' v { s with heap := h, toks := tk' }) →
      wpAny (model prog w) A (eval elt (compEnvC scope cl C env)) Q' E' { s with heap := h, toks := tk }) :
    ∀ (n i : Nat) (ys : List Value), i + n = its.length → (∀ zs, zs = ys ++ (((its.drop i).zipIdx i).filter fun p => t p.2).map (·.1) → Fin zs news) → CompRestT prog w A h₀ L m env ct elt x scope cl s S P Fin n i ys news
  | 0, i, ys, hl, hf => hf ys (by
      rw [List.drop_eq_nil_of_le (by omega)]
      simp)
  | n + 1, i, ys, hl, hf => by
    refine CompRestT.succ fun v I oI C oC D m₂ h tk E' hPv hC hx F N o3 hne => ?_
    have hv := hP i v hPv
    have hd : its.drop i = v :: its.drop (i + 1) := by
      have hlt : i < its.length := by omega
      rw [List.drop_eq_getElem_cons hlt]
      have : its[i]? = some its[i] := List.getElem?_eq_getElem hlt
      rw [this] at hv
      rw [Option.some.inj hv]
    refine hct i v I oI C oC D ys m₂ h tk _ _ hv hC hx F N fun tk₁ => ?_
    have hf' : ∀ (zs : List Value), zs = (if t i = true then ys ++ [v] else ys) ++ (((its.drop (i + 1)).zipIdx (i + 1)).filter fun p => t p.2).map (·.1) → Fin zs news := fun zs hz => by
      refine hf zs ?_
      rw [hd, List.zipIdx_cons, List.filter_cons, hz]
      by_cases c : t i = true
      · simp [c]
      · simp [c]
    by_cases c : t i = true
    · rw [if_pos c]
      refine hel i v I oI C oC D ys m₂ h tk₁ _ _ hv hC hx F N fun tk' => ?_
      refine CompEnd.intro (s₁ := { s with heap := h, toks := tk }) F N news (fun p hp => hp) o3 hS ?_
      rw [if_pos c] at hf'
      exact rest_T t hS hP hct hel n (i + 1) _ (by omega) hf'
    · rw [if_neg c]
      refine CompEnd.intro (s₁ := { s with heap := h, toks := tk }) F N news (fun p hp => hp) o3 hS ?_
      rw [if_neg c] at hf'
      exact rest_T t hS hP hct hel n (i + 1) _ (by omega) hf'
end

section
variable {prog : Program} {w : World} {A : Around} {E : Value → Shared → Prop} {s : Shared} {h₀ : Heap} {L : Addr} {m : Str → Option Value} {env : Env} {elt ct : Expr} {x : Str} {scope : Scope} {cl : List (Str × Addr)} {news : List (Addr × Obj)}
  {Fin : Shared → List Value → List (Addr × Obj) → Prop}

theorem src_U {ax : Addr} {its : List Value} {ep : Nat} (G : Nat → Value → Prop) (hh : A.handled = none) (F : Fr h₀ L s.heap m) (N : News h₀ L s.heap news) (hm : (ax, PySem.W.listOf its.toArray ep) ∈ news) (hsz : its.length ≤ 1000)
    (hel : ∀ (i : Nat) (v : Value) (I : Addr) (oI : Obj) (C : Addr) (oC : Obj) (D : Addr) (ys : List Value) (m₂ : Str → Option Value) (h : Heap) (tk : Nat) (Q' : Value → Shared → Prop) (E' : Value → Shared → Prop), its[i]? = some v → NsObj oC m₂ → m₂ x = some v → Fr h₀ L h m → News h₀ L h ((I, oI) :: (C, oC) :: (D, lst ys) :: news) → (∀ y tk', G i y → Q' y { s with heap := h, toks := tk' }) →
      wpAny (model prog w) A (eval elt (compEnvC scope cl C env)) Q' E' { s with heap := h, toks := tk })
    (hf : ∀ g zs, zs.length = its.length → (∀ j v, zs[j]? = some v → G j v) → Fin { s with heap := g } zs news) : CompSrc prog w A h₀ L m env elt x scope cl Fin (.ref ax) s := by
  refine CompSrc.ledger hh F N hm (by rw [sizeLine_eq]; simp; omega) fun g => ?_
  refine rest_U (s := { s with heap := g }) (S := SrcAt h₀ ax its.toArray) (P := fun i v => its.toArray[i]? = some v) G (.inr ⟨_, hm, rfl, _, rfl⟩) (fun i v I oI C oC D ys m₂ h tk Q' E' hP => hel i v I oI C oC D ys m₂ h tk Q' E' (by simpa using hP)) _ 0 [] rfl (by simp) fun zs hz hg => hf g zs (by simpa using hz) hg

theorem src_R {r : Addr} {t u v : Tok} {n : Nat} (G : Nat → Value → Prop) (hh : A.handled = none) (F : Fr h₀ L s.heap m) (N : News h₀ L s.heap news) (hr : IsRange s.heap r 0 (n : Int) 1 t u v) (hn : n ≤ 1000)
    (hel : ∀ (i : Nat) (v : Value) (I : Addr) (oI : Obj) (C : Addr) (oC : Obj) (D : Addr) (ys : List Value) (m₂ : Str → Option Value) (h : Heap) (tk : Nat) (Q' : Value → Shared → Prop) (E' : Value → Shared → Prop), (∃ t, v = .int (i : Int) t) → NsObj oC m₂ → m₂ x = some v → Fr h₀ L h m → News h₀ L h ((I, oI) :: (C, oC) :: (D, lst ys) :: news) → (∀ y tk', G i y → Q' y { s with heap := h, toks := tk' }) →
      wpAny (model prog w) A (eval elt (compEnvC scope cl C env)) Q' E' { s with heap := h, toks := tk })
    (hf : ∀ g zs, zs.length = n → (∀ j v, zs[j]? = some v → G j v) → Fin { s with heap := g } zs news) (hsm : Builtin.Range.small 0 (n : Int) 1 = true) (hrs : Builtin.Range.rangeSize 0 (n : Int) 1 = ((n : Nat) : Int)) : CompSrc prog w A h₀ L m env elt x scope cl Fin (.ref r) s := by
  refine CompSrc.range hh F N hr hsm hrs (by rw [sizeLine_eq]; omega) fun g => ?_
  refine rest_U (s := { s with heap := g }) (S := fun _ => True) (P := fun i v => ∃ t, v = .int ((0 : Int) + (i : Int)) t) G trivial (fun i v I oI C oC D ys m₂ h tk Q' E' hP => hel i v I oI C oC D ys m₂ h tk Q' E' (by simpa using hP)) _ 0 [] rfl (by simp) fun zs hz hg => hf g zs (by simpa using hz) hg

theorem src_T {ax : Addr} {its : List Value} {ep : Nat} (t : Nat → Bool) (hh : A.handled = none) (F : Fr h₀ L s.heap m) (N : News h₀ L s.heap news) (hm : (ax, PySem.W.listOf its.toArray ep) ∈ news) (hsz : its.length ≤ 1000)
    (hct : ∀ (i : Nat) (v : Value) (I : Addr) (oI : Obj) (C : Addr) (oC : Obj) (D : Addr) (ys : List Value) (m₂ : Str → Option Value) (h : Heap) (tk : Nat) (Q' : Bool → Shared → Prop) (E' : Value → Shared → Prop), its[i]? = some v → NsObj oC m₂ → m₂ x = some v → Fr h₀ L h m → News h₀ L h ((I, oI) :: (C, oC) :: (D, lst ys) :: news) → (∀ tk', Q' (t i) { s with heap := h, toks := tk' }) →
      wpAny (model prog w) A (isTrue ct (compEnvC scope cl C env) (eval ct (compEnvC scope cl C env))) Q' E' { s with heap := h, toks := tk })
    (hel : ∀ (i : Nat) (v : Value) (I : Addr) (oI : Obj) (C : Addr) (oC : Obj) (D : Addr) (ys : List Value) (m₂ : Str → Option Value) (h : Heap) (tk : Nat) (Q' : Value → Shared → Prop) (E' : Value → Shared → Prop), its[i]? = some v → NsObj oC m₂ → m₂ x = some v → Fr h₀ L h m → News h₀ L h ((I, oI) :: (C, oC) :: (D, lst ys) :: news) → (∀ tk', Q' v { s with heap := h, toks := tk' }) →
      wpAny (model prog w) A (eval elt (compEnvC scope cl C env)) Q' E' { s with heap := h, toks := tk })
    (hf : ∀ g, Fin { s with heap := g } (((its.zipIdx).filter fun p => t p.2).map (·.1)) news) : CompSrcT prog w A h₀ L m env ct elt x scope cl Fin (.ref ax) s := by
  refine CompSrcT.ledger hh F N hm (by rw [sizeLine_eq]; simp; omega) fun g => ?_
  refine rest_T (s := { s with heap := g }) (S := SrcAt h₀ ax its.toArray) (P := fun i v => its.toArray[i]? = some v) (its := its) t (.inr ⟨_, hm, rfl, _, rfl⟩) (fun i v hP => by simpa using hP) hct hel _ 0 [] (by simp) fun zs hz => ?_
  rw [hz]
  simpa using hf g
end
end Mine
end

section
open PySem PySem.W PySem.Spec PySem.Calls PyProof.Rows
namespace Mine
set_option maxRecDepth 100000

noncomputable def lawFd (p : Params) : Option FuncData := match (hd.heap_39 p).lookup 260 with
  | some o => match o.data with
    | .func fd => some fd
    | _ => none
  | none => none
noncomputable def lawBody (p : Params) : List Stmt := match lawFd p with
  | some fd => match fd.body with
    | .stmts b => b
    | _ => []
  | none => []
noncomputable def lawScope (p : Params) : Scope := match lawFd p with
  | some fd => fd.scope
  | none => { kind := .function, names := [], isGenerator := false, isCoroutine := false }
theorem law_at {P : List Stmt → Scope → Prop} {p : Params} {name qual : Str} {params : Arguments} {body : List Stmt} {scope : Scope} {dV kV doc pm cdv ct oc : Value} {an od : Option Addr} {osl : Array (Option Value)}
    (h : (hd.heap_39 p).lookup 260 = some ⟨oc, od, .func (fnOf name qual params body scope dV kV doc pm an cdv ct), osl⟩) (hp : P body scope) : P (lawBody p) (lawScope p) := by
  have e : lawFd p = some (fnOf name qual params body scope dV kV doc pm an cdv ct) := by unfold lawFd; rw [h]
  unfold lawBody lawScope
  rw [e]
  exact hp
def LawIs (p : Params) (b : List Stmt) (sc : Scope) : Prop := b = lawBody p ∧ sc = lawScope p

/-- parts of the text of the law -/
def loopOf : List Stmt → List Stmt
  | _ :: _ :: _ :: _ :: _ :: _ :: _ :: _ :: .For _ _ b _ _ :: _ => b
  | _ => []
def instOf : List Stmt → List Stmt
  | _ :: _ :: _ :: .If _ b _ _ :: _ => b
  | _ => []
def suspOf : List Stmt → List Stmt
  | _ :: _ :: _ :: .If _ _ (.If _ b _ _ :: []) _ :: _ => b
  | _ => []
def passOf : List Stmt → List Stmt
  | _ :: _ :: _ :: .If _ _ (.If _ _ (.If _ b _ _ :: []) _ :: []) _ :: _ => b
  | _ => []
def nextOf : List Stmt → List Stmt
  | _ :: _ :: _ :: .If _ _ (.If _ _ (.If _ _ b _ :: []) _ :: []) _ :: _ => b
  | _ => []
def tailOf : List Stmt → List Stmt
  | _ :: _ :: _ :: _ :: t => t
  | _ => []

/-- the names of the law -/
structure LawM (m : Str → Option Value) (mgr tl ml rl : Addr) (now c : Int) : Prop where
  mgr : m (Str.ofString "manager") = some (.ref mgr)
  tl : m (Str.ofString "tasks") = some (.ref tl)
  ml : m (Str.ofString "times") = some (.ref ml)
  rl : m (Str.ofString "rows") = some (.ref rl)
  now : ∃ t, m (Str.ofString "now") = some (.int now t)
  c : ∃ t, m (Str.ofString "turn") = some (.int c t)
def frm (m : Str → Option Value) (kd x : Int) (t2 t3 t0 t1 : Tok) (mgr tl ml rl : Addr) (now c : Int) : Str → Option Value := fun z =>
  if z = Str.ofString "kind" then some (.int kd t2) else if z = Str.ofString "x" then some (.int x t3) else if z = Str.ofString "manager" then some (.ref mgr) else if z = Str.ofString "tasks" then some (.ref tl) else if z = Str.ofString "times" then some (.ref ml) else if z = Str.ofString "rows" then some (.ref rl) else
    if z = Str.ofString "now" then some (.int now t0) else if z = Str.ofString "turn" then some (.int c t1) else m z
theorem LawM.pin {m : Str → Option Value} {mgr tl ml rl : Addr} {now c kd x : Int} {t2 t3 : Tok} (M : LawM m mgr tl ml rl now c) (hk : m (Str.ofString "kind") = some (.int kd t2)) (hx : m (Str.ofString "x") = some (.int x t3)) :
    ∃ t0 t1, m = frm m kd x t2 t3 t0 t1 mgr tl ml rl now c := by
  obtain ⟨h1, h2, h3, h4, ⟨t0, h5⟩, ⟨t1, h6⟩⟩ := M
  refine ⟨t0, t1, ?_⟩
  funext z
  unfold frm
  repeat' split
  all_goals (first | rfl | (subst_vars; assumption))

def kOf : Value → Nat
  | .int i _ => i.toNat
  | _ => 0
def rowOf (e : Ent) : Row := (e.wn, e.n, kOf e.x)
structure RowsL (y : Lay) (rl : Addr) (R : List Ent) (wl : List (Addr × Obj)) : Prop where
  lst : ∃ ep, (rl, PySem.W.listOf (R.map Ent.val).toArray ep) ∈ wl
  hi : Off y rl
  tup : TupL R wl
  thi : ∀ e ∈ R, Off y e.a
  x : ∀ e ∈ R, ∃ t, e.x = .int (kOf e.x : Int) t
/-- the world of the law between two statements -/
structure St (w : World) (y : Lay) (tl ml rl ck : Addr) (now c : Int) (R : List Ent) (tv : Nat → Option Int) (tms : List Value) (wl : List (Addr × Obj)) : Prop where
  Y : LayOk y
  RO : RowsOk c (R.map rowOf)
  W : WL w y now c (R.map rowOf) tv wl
  O : OwnOff wl [ck + 1, ck, ml]
  away : ∀ a ∈ [ck + 1, ck, ml], Off y a
  cm : @LT.lt Nat _ (ck + 1) ml
  tl : (∃ ep, (tl, PySem.W.listOf ((List.range 7).map fun i => Value.ref (y.tk i)).toArray ep) ∈ wl) ∧ Off y tl
  rows : RowsL y rl R wl
  tn : tms.length = 7
  tm : ∀ i v, tms[i]? = some v → TV v (tv i)

section
variable {prog : Program} {w : World} {A : Around} {E : Value → Shared → Prop} {s : Shared} {h₀ : Heap} {L : Addr} {m : Str → Option Value} {news : List (Addr × Obj)}
theorem item_led {Q : Value → Shared → Prop} {l : Addr} {its : List Value} {ep k : Nat} {u : Tok} {v : Value} (N : News h₀ L s.heap news) (hm : (l, PySem.W.listOf its.toArray ep) ∈ news) (hv : its[k]? = some v) (hz : its.length ≤ 1000) (h : Q v s) :
    wpAny (model prog w) A (getItem (.ref l) (.int (k : Int) u)) Q E s := by
  have hk : k < its.length := by
    by_cases e : k < its.length
    · exact e
    · rw [List.getElem?_eq_none (by omega)] at hv; cases hv
  exact getItem_listL ⟨_, (N _ hm).1, rfl, _, rfl⟩ (by omega) (by omega) (by simpa using hv) h
end
end Mine
end

section
open PySem PySem.W PySem.Spec PySem.Calls PyProof.Rows
namespace Mine
set_option maxRecDepth 100000

def Plain (d : PyData) : Prop := d = .none ∨ (∃ b, d = .bool b) ∨ ∃ i, d = .int i
theorem plain_eqv {d : PyData} (h : Plain d) : PyData.eqv d d = true := by
  rcases h with rfl | ⟨b, rfl⟩ | ⟨i, rfl⟩ <;> simp [PyData.eqv]
theorem plain_eqvAll : ∀ {D : List PyData}, (∀ d ∈ D, Plain d) → PyData.eqvAll D D = true
  | [], _ => by simp [PyData.eqvAll]
  | d :: D, h => by
    rw [PyData.eqvAll, plain_eqv (h d List.mem_cons_self), plain_eqvAll fun e he => h e (List.mem_cons_of_mem _ he)]
    rfl
theorem plain_lay : ∀ {D : List PyData}, (∀ d ∈ D, Plain d) → PyData.canLayAll0 D = true
  | [], _ => rfl
  | d :: D, h => by
    have h1 := plain_lay fun e he => h e (List.mem_cons_of_mem _ he)
    rcases h d List.mem_cons_self with rfl | ⟨b, rfl⟩ | ⟨i, rfl⟩ <;> simp [PyData.canLayAll0, PyData.canLay0, h1]
theorem plain_depth : ∀ {D : List PyData}, (∀ d ∈ D, Plain d) → PyData.depthAll D = 0
  | [], _ => rfl
  | d :: D, h => by
    have h1 := plain_depth fun e he => h e (List.mem_cons_of_mem _ he)
    rcases h d List.mem_cons_self with rfl | ⟨b, rfl⟩ | ⟨i, rfl⟩ <;> simp [PyData.depthAll, PyData.depth, h1]
theorem plain_shaped {D : List PyData} (h : ∀ d ∈ D, Plain d) : SeqAt.shaped (.list D) = true := by
  simp [SeqAt.shaped, PyData.canLay0, PyData.depth, plain_lay h, plain_depth h]
theorem carried_of : ∀ {vs : List Value} {D : List PyData}, vs.length = D.length → (∀ (i : Nat) (v : Value) (d : PyData), vs[i]? = some v → D[i]? = some d → Carried v d) → CarriedAll vs D
  | [], [], _, _ => .nil
  | [], _ :: _, h, _ => by simp at h
  | _ :: _, [], h, _ => by simp at h
  | v :: vs, d :: D, h, hc => .cons (hc 0 v d rfl rfl) (carried_of (by simpa using h) fun i v' d' h1 h2 => hc (i + 1) v' d' (by simpa using h1) (by simpa using h2))
theorem ints_of : ∀ {vs : List Value} {ns : List Int}, vs.length = ns.length → (∀ (i : Nat) (v : Value) (n : Int), vs[i]? = some v → ns[i]? = some n → ∃ t, v = Value.int n t) → IntsAre vs ns
  | [], [], _, _ => .nil
  | [], _ :: _, h, _ => by simp at h
  | _ :: _, [], h, _ => by simp at h
  | v :: vs, n :: ns, h, hc => by
    obtain ⟨t, rfl⟩ := hc 0 v n rfl rfl
    exact .cons n t (ints_of (by simpa using h) fun i v' d' h1 h2 => hc (i + 1) v' d' (by simpa using h1) (by simpa using h2))

section
variable {prog : Program} {w : World} {A : Around} {E : Value → Shared → Prop} {s : Shared} {a b : Addr} {xs ys : List Value} {D : List PyData} {Q : Value → Shared → Prop} {h₀ : Heap} {L : Addr} {news : List (Addr × Obj)} {na nb : Nat}
theorem ne_same (N : News h₀ L s.heap news) (ha : (a, PySem.W.listOf xs.toArray na) ∈ news) (hb : (b, PySem.W.listOf ys.toArray nb) ∈ news) (hi : CarriedAll xs D) (hj : CarriedAll ys D) (hp : ∀ d ∈ D, Plain d) (hu : A.units + 64 < cLine) (h : Q (.bool false) s) :
    wpAny (model prog w) A (compareOp .NotEq (.ref a) (.ref b)) Q E s := by
  refine ne_dataH (reads_newData ⟨_, (N _ ha).1, rfl, _, rfl⟩ hi) (reads_newData ⟨_, (N _ hb).1, rfl, _, rfl⟩ hj) (plain_shaped hp) (plain_shaped hp) hu ?_
  rw [PyData.eqv, plain_eqvAll hp]
  exact h
theorem in_led {ns : List Int} {k : Int} {t : Tok} (N : News h₀ L s.heap news) (ha : (a, PySem.W.listOf xs.toArray na) ∈ news) (hi : IntsAre xs ns) (h : Q (.bool (ns.any (· == k))) s) : wpAny (model prog w) A (compareOp .In (.int k t) (.ref a)) Q E s :=
  in_list_ints ⟨_, (N _ ha).1, rfl, _, rfl⟩ hi h
end
end Mine
end

section
open PySem PySem.W PySem.Spec PySem.Calls PyProof.Rows PyProof.Rows.LCg PyProof.Rows.LCt
namespace Mine
set_option maxRecDepth 100000

section
variable {w : World} {mean : ExcName → Option Value} {mg mb : Str → Option Value} {dp un : Nat} {gd : Option (List Code)} {cn : Str} {a : Addr} {ccd : Value} {A₀ : Around} {base h₀ : Heap} {L : Addr} {m : Str → Option Value} {s : Shared}
  {Q : Flow → Shared → Prop} {E : Value → Shared → Prop} {y : Lay} {now c : Int} {tv : Nat → Option Int} {wl : List (Addr × Obj)} {k : Nat}
local macro_rules | `(tactic| k_mem) => `(tactic| first | assumption | exact List.Mem.head _ | (refine List.Mem.tail _ ?_; k_mem))
local macro_rules | `(tactic| k_room) => `(tactic| ktr_room)
local macro_rules | `(tactic| walk_at "compareOp In int ref") => `(tactic| refine Hold.mk ?_)
local macro_rules | `(tactic| walk_at "compareOp NotEq ref ref") => `(tactic| refine Hold.mk ?_)
local macro_rules | `(tactic| walk_at "CompSrc") => `(tactic| refine Hold.mk ?_)

theorem in_sched {R : List Ent} {i : Nat} : ((R.map fun e => (kOf e.x : Int)).any fun x => x == (i : Int)) = sched (R.map rowOf) i := by
  unfold sched
  rw [List.any_map, List.any_map]
  congr 1
  funext e
  show ((kOf e.x : Int) == (i : Int)) = (kOf e.x == i)
  rw [Bool.eq_iff_iff]
  simp only [beq_iff_eq]
  omega
def tvD : Option Int → PyData
  | none => .none
  | some i => .int i
theorem tv_carried {v : Value} {o : Option Int} (h : TV v o) : Carried v (tvD o) := by
  cases o with
  | none => have h : v = .none := h
            subst h; exact .none
  | some i => obtain ⟨t, rfl⟩ : ∃ t, v = .int i t := h
              exact .int i t
theorem tv_plain (o : Option Int) : Plain (tvD o) := by
  cases o with
  | none => exact .inl rfl
  | some i => exact .inr (.inr ⟨i, rfl⟩)
theorem carry7 {vs : List Value} {f : Nat → PyData} (hl : vs.length = 7) (h : ∀ (i : Nat) (v : Value), vs[i]? = some v → Carried v (f i)) : CarriedAll vs ((List.range 7).map f) :=
  carried_of (by simpa using hl) fun i v d h1 h2 => by
    have : i < 7 := by
      by_cases e : i < 7
      · exact e
      · rw [List.getElem?_eq_none (by omega)] at h1; cases h1
    have e : f i = d := by simpa [this] using h2
    rw [← e]
    exact h i v h1

set_option maxHeartbeats 8000000 in
theorem l_tail {b : List Stmt} {sc : Scope} {kd x : Int} {t2 t3 : Tok} {tl ml rl ck : Addr} {ok ost : Obj} {kv sv : Option Value} {tms : List Value} {ep1 : Nat} {R : List Ent} (hl : LawIs w.params b sc)
    (B : Below A₀ base [] h₀) (F : Fr h₀ L s.heap m) (X : (hd.heap_39 w.params).In h₀) (T : Top hd.view_39 Lo0 mean mg mb h₀) (hd : dp + 19 < recursionLimit) (hu : un + 190 < cLine)
    (N : News h₀ L s.heap ((ck + 1, ost) :: (ck, ok) :: (ml, PySem.W.listOf tms.toArray ep1) :: wl)) (hok : ok.data = .cell kv) (host : ost.data = .cell sv)
    (hkd : m (Str.ofString "kind") = some (.int kd t2)) (hx : m (Str.ofString "x") = some (.int x t3)) (M : LawM m y.mgr tl ml rl now c) (S : St w y tl ml rl ck now c R tv tms wl)
    (ret : ∀ h' tk' m' ost' sv', Fr h₀ L h' m' → LawM m' y.mgr tl ml rl now c → News h₀ L h' ((ck + 1, ost') :: (ck, ok) :: (ml, PySem.W.listOf tms.toArray ep1) :: wl) → ost'.data = .cell sv' → Q .next { s with heap := h', toks := tk' }) :
    wpAny (model PySem.Challenge.rw_vs0001_01.row.prog w) (ktrTop dp un gd cn sc L a ccd (cellsFrom ck sc.names []) []) (execs (tailOf (loopOf b)) (envX cn sc L a ccd (cellsFrom ck sc.names []))) Q E s := by
  obtain ⟨rfl, rfl⟩ := hl
  obtain ⟨t0, t1, hm⟩ := M.pin hkd hx
  rw [hm] at F M
  clear hkd hx hm
  have O := S.O
  have cml := S.cm
  obtain ⟨⟨ept, htl⟩, _⟩ := S.tl
  obtain ⟨epr, hrl⟩ := S.rows.lst
  revert X
  k_fill
  intro X
  refine' law_at (P := fun b sc => wpAny (model PySem.Challenge.rw_vs0001_01.row.prog w) (ktrTop dp un gd cn sc L a ccd (cellsFrom ck sc.names []) []) (execs (tailOf (loopOf b)) (envX cn sc L a ccd (cellsFrom ck sc.names []))) Q E s) ?h ?_
  case h => k_is
  dsimp only [loopOf, tailOf]
  unfold frm at F
  k_steps
  unfold Hold
  refine' src_U (its := R.map Ent.val) (ep := epr) (fun i v => ∃ e t, R[i]? = some e ∧ v = .int (kOf e.x : Int) t) ?hh ?F ?N ?hm ?hz ?hel ?hf
  case hh => exact rfl
  case F => k_asm
  case N => k_asm
  case hm => k_mem
  case hz => have := S.RO.len; simp at this ⊢; omega
  case hel =>
    intro i v I oI C oC D ys m₂ h tk Q' E' hv hC hx F' N' hq
    obtain ⟨e, he, rfl⟩ : ∃ e, R[i]? = some e ∧ Ent.val e = v := by simpa using hv
    obtain ⟨tw, tn, et, htup⟩ := S.rows.tup e (List.mem_of_getElem? he)
    obtain ⟨tx, hxx⟩ := S.rows.x e (List.mem_of_getElem? he)
    rw [hxx] at htup
    unfold Ent.val at hx
    k_steps
    exact hq _ _ ⟨e, tx, he, rfl⟩
  case hf =>
    intro g zs hz hg
    k_steps
    unfold Hold
    refine' src_U (its := (List.range 7).map fun i => Value.ref (y.tk i)) (ep := ept) (fun i v => v = .bool (sched (R.map rowOf) i)) ?hh ?F ?N ?hm ?hz ?hel ?hf
    case hh => exact rfl
    case F => k_asm
    case N => k_asm
    case hm => k_mem
    case hz => simp
    case hel =>
      intro i v I oI C oC D ys m₂ h tk Q' E' hv hC hx F' N' hq
      obtain ⟨hi7, rfl⟩ : i < 7 ∧ Value.ref (y.tk i) = v := by
        by_cases hi7 : i < 7
        · exact ⟨hi7, by simpa [hi7] using hv⟩
        · rw [List.getElem?_eq_none (by simp; omega)] at hv; cases hv
      have w1 := S.W.tk i hi7
      obtain ⟨u1, u2, u3, v0, _, w2⟩ := S.W.tkD i hi7
      k_steps
      exact hq _ _ rfl
    case hf =>
      intro g zs' hz' hg'
      k_steps
      unfold Hold
      refine' src_R (n := 7) (fun i v => v = .bool (sched (R.map rowOf) i)) ?hh ?F ?N ?hr ?hz ?hel ?hf ?hs ?hr2
      case hh => exact rfl
      case F => k_asm
      case N => k_asm
      case hr => assumption
      case hz => decide
      case hs => rfl
      case hr2 => rfl
      case hel =>
        intro i v I oI C oC D ys m₂ h tk Q' E' hv hC hx F' N' hq
        obtain ⟨t, rfl⟩ := hv
        have hints : IntsAre zs (R.map fun e => (kOf e.x : Int)) := ints_of (by simpa using hz) fun j v n h1 h2 => by
          obtain ⟨e, t', he, rfl⟩ := hg j v h1
          have : (kOf e.x : Int) = n := by simpa [he] using h2
          exact ⟨t', by rw [this]⟩
        k_steps
        unfold Hold
        refine in_led (xs := zs) (na := zs.length) N' (by k_mem) hints ?_
        exact hq _ _ (by rw [in_sched])
      case hf =>
        intro g zs2 hz2 hg2
        k_steps
        unfold Hold
        refine ne_same (D := (List.range 7).map fun i => .bool (sched (R.map rowOf) i)) (by k_asm) (List.Mem.tail _ (List.Mem.head _)) (List.Mem.head _) (carry7 (by simpa using hz') fun i v hv => by rw [hg' i v hv]; exact .bool _) (carry7 hz2 fun i v hv => by rw [hg2 i v hv]; exact .bool _) (fun d hd => by obtain ⟨i, _, rfl⟩ := List.mem_map.mp hd; exact .inr (.inl ⟨_, rfl⟩)) (by ktr_units) ?_
        k_steps
        unfold Hold
        refine' src_U (its := (List.range 7).map fun i => Value.ref (y.tk i)) (ep := ept) (fun i v => TV v (tv i)) ?hh ?F ?N ?hm ?hz ?hel ?hf
        case hh => exact rfl
        case F => k_asm
        case N => k_asm
        case hm => k_mem
        case hz => simp
        case hel =>
          intro i v I oI C oC D ys m₂ h tk Q' E' hv hC hx F' N' hq
          obtain ⟨hi7, rfl⟩ : i < 7 ∧ Value.ref (y.tk i) = v := by
            by_cases hi7 : i < 7
            · exact ⟨hi7, by simpa [hi7] using hv⟩
            · rw [List.getElem?_eq_none (by simp; omega)] at hv; cases hv
          have w1 := S.W.tk i hi7
          obtain ⟨u1, u2, u3, v0, htv, w2⟩ := S.W.tkD i hi7
          have htv' := htv
          cases htvi : tv i with
          | none =>
            rw [htvi] at htv
            obtain rfl : v0 = .none := htv
            k_steps
            exact hq _ _ htv'
          | some i0 =>
            rw [htvi] at htv
            obtain ⟨t0', rfl⟩ : ∃ t, v0 = .int i0 t := htv
            k_steps
            exact hq _ _ htv'
        case hf =>
          intro g zs3 hz3 hg3
          k_steps
          unfold Hold
          refine ne_same (D := (List.range 7).map fun i => tvD (tv i)) (by k_asm) (List.Mem.head _) (by k_mem) (carry7 (by simpa using hz3) fun i v hv => tv_carried (hg3 i v hv)) (carry7 S.tn fun i v hv => tv_carried (S.tm i v hv)) (fun d hd => by obtain ⟨i, _, rfl⟩ := List.mem_map.mp hd; exact tv_plain _) (by ktr_units) ?_
          k_steps
          (rename News _ _ _ _ => NN)
          (rename Fr _ _ _ _ => FF)
          refine ret _ _ _ _ _ FF ⟨rfl, rfl, rfl, rfl, ⟨_, rfl⟩, ⟨_, rfl⟩⟩ (fun p hp => NN p (List.mem_cons_of_mem _ (List.mem_cons_of_mem _ (List.mem_cons_of_mem _ (List.mem_cons_of_mem _ hp))))) (by assumption)
end
end Mine
end

section
open PySem PySem.W PySem.Spec PySem.Calls PyProof.Rows PyProof.Rows.LCg PyProof.Rows.LCt
namespace Mine
set_option maxRecDepth 100000

theorem tasks_at {y : Lay} {k : Nat} (hk : k < 7) : ((List.range 7).map fun i => Value.ref (y.tk i))[k]? = some (.ref (y.tk k)) := by simp [hk]
def dropT (R : List Ent) (k i : Nat) : Bool := match R[i]? with
  | some e => (kOf e.x : Int) != (k : Int)
  | none => false
def without_k (R : List Ent) (k : Nat) : List Ent := R.filter fun e => kOf e.x != k
theorem dropT_at {R : List Ent} {k i : Nat} {e : Ent} (h : R[i]? = some e) : dropT R k i = ((kOf e.x : Int) != (k : Int)) := by unfold dropT; rw [h]
theorem drop_list {R : List Ent} {k : Nat} : ((((R.map Ent.val).zipIdx).filter fun p => dropT R k p.2).map (·.1)) = (without_k R k).map Ent.val := by
  have gen : ∀ (l pre : List Ent), R = pre ++ l → ((((l.map Ent.val).zipIdx pre.length).filter fun p => dropT R k p.2).map (·.1)) = (without_k l k).map Ent.val := by
    intro l
    induction l with
    | nil => intro pre _; rfl
    | cons e l ih =>
      intro pre hp
      have h1 : R[pre.length]? = some e := by rw [hp]; simp
      have h2 := ih (pre ++ [e]) (by simp [hp])
      rw [List.length_append, List.length_singleton] at h2
      unfold without_k at h2 ⊢
      rw [List.map_cons, List.zipIdx_cons, List.filter_cons, List.filter_cons]
      have h3 : dropT R k pre.length = (kOf e.x != k) := by
        rw [dropT_at h1, Bool.eq_iff_iff]
        simp only [bne_iff_ne]
        omega
      dsimp only
      rw [h3]
      by_cases c : (kOf e.x != k) = true
      · rw [if_pos c, if_pos c, List.map_cons, List.map_cons, h2]
      · rw [if_neg c, if_neg c, h2]
  exact gen R [] rfl
theorem without_rows {R : List Ent} {k : Nat} : (without_k R k).map rowOf = (R.map rowOf).filter fun r => r.2.2 != k := by
  unfold without_k
  rw [List.filter_map]
  rfl
theorem off1_mem {D : Addr} : ∀ {l : List (Addr × Obj)}, Off1 D l → ∀ p ∈ l, p.1 ≠ D
  | [], _, p, h => nomatch h
  | _ :: _, x, p, h => by
    rcases List.mem_cons.mp h with rfl | h
    · exact x.1
    · exact off1_mem x.2 p h
theorem RowsL.mono {y : Lay} {rl : Addr} {R : List Ent} {wl wl' : List (Addr × Obj)} (h : RowsL y rl R wl) (k : ∀ p ∈ wl, Off y p.1 → p ∈ wl') : RowsL y rl R wl' :=
  ⟨let ⟨ep, hm⟩ := h.lst; ⟨ep, k _ hm h.hi⟩, h.hi, fun e he => let ⟨a, b, c, hm⟩ := h.tup e he; ⟨a, b, c, k _ hm (h.thi e he)⟩, h.thi, h.x⟩
theorem WL.mono {w : World} {y : Lay} {now c : Int} {rows : List Row} {tv : Nat → Option Int} {wl wl' : List (Addr × Obj)} (W : WL w y now c rows tv wl) (k : ∀ p ∈ wl, p ∈ wl') : WL w y now c rows tv wl' where
  mgr := k _ W.mgr
  mgrD := let ⟨a, b, c, d, h⟩ := W.mgrD; ⟨a, b, c, d, k _ h⟩
  hl := let ⟨es, ep, h, p, G, f⟩ := W.hl; ⟨es, ep, k _ h, p, G.mono k, f⟩
  cnt := let ⟨a, b, h⟩ := W.cnt; ⟨a, b, k _ h⟩
  cd := k _ W.cd
  tk := fun i hi => k _ (W.tk i hi)
  tkD := fun i hi => let ⟨a, b, c, v, h1, h2⟩ := W.tkD i hi; ⟨a, b, c, v, h1, k _ h2⟩

section
variable {prog : Program} {w : World} {A : Around} {E : Value → Shared → Prop} {s : Shared} {h₀ : Heap} {L : Addr} {m : Str → Option Value} {news : List (Addr × Obj)}
theorem sub_led {value slice : PySem.Expr} {Q : Value → Shared → Prop} {l : Addr} {its : List Value} {ep k : Nat} {u : Tok} {v : Value} (N : News h₀ L s.heap news) (hm : (l, PySem.W.listOf its.toArray ep) ∈ news) (hv : its[k]? = some v) (hz : its.length ≤ 1000) (h : Q v s)
    (hs : subscripted slice false (.ref l) (.int (k : Int) u) = operate [.ref l, .int (k : Int) u] (getItem (.ref l) (.int (k : Int) u))) :
    wpAny (model prog w) A (subscriptTail value slice (.ref l) (.int (k : Int) u)) Q E s :=
  have hl : s.heap.IsList l its.toArray := ⟨_, (N _ hm).1, rfl, _, rfl⟩
  tail_any hl.typeIs slot_list_getitem.lookup (item_led N hm hv hz h) hs
end

theorem St.pre {w : World} {y : Lay} {tl ml rl ck : Addr} {now c : Int} {R : List Ent} {tv : Nat → Option Int} {tms : List Value} {wl : List (Addr × Obj)} (S : St w y tl ml rl ck now c R tv tms wl) (o1 o2 o3 : Obj) : Away y [(ck + 1, o1), (ck, o2), (ml, o3)] := by
  intro p hp
  simp only [List.mem_cons, List.not_mem_nil, or_false] at hp
  rcases hp with rfl | rfl | rfl
  · exact S.away _ (by simp)
  · exact S.away _ (by simp)
  · exact S.away _ (by simp)
theorem St.kept {w : World} {y : Lay} {tl ml rl ck : Addr} {now c : Int} {R : List Ent} {tv : Nat → Option Int} {tms : List Value} {wl : List (Addr × Obj)} (S : St w y tl ml rl ck now c R tv tms wl) (o1 o2 o3 : Obj) : Kept y [ck + 1, ck, ml] [(ck + 1, o1), (ck, o2), (ml, o3)] :=
  ⟨S.away, fun a ha => by
    simp only [List.mem_cons, List.not_mem_nil, or_false] at ha
    rcases ha with rfl | rfl | rfl
    · exact ⟨o1, by simp⟩
    · exact ⟨o2, by simp⟩
    · exact ⟨o3, by simp⟩⟩
theorem St.next {w : World} {y : Lay} {tl ml rl rl' ck : Addr} {now c now' c' : Int} {R R' : List Ent} {tv tv' : Nat → Option Int} {tms tms' : List Value} {wl wl' : List (Addr × Obj)} (S : St w y tl ml rl ck now c R tv tms wl) (RO : RowsOk c' (R'.map rowOf)) (W : WL w y now' c' (R'.map rowOf) tv' wl')
    (O : OwnOff wl' [ck + 1, ck, ml]) (kp : ∀ p ∈ wl, Off y p.1 → p ∈ wl') (RL : RowsL y rl' R' wl') (tn : tms'.length = 7) (tm : ∀ (i : Nat) (v : Value), tms'[i]? = some v → TV v (tv' i)) : St w y tl ml rl' ck now' c' R' tv' tms' wl' :=
  ⟨S.Y, RO, W, O, S.away, S.cm, ⟨let ⟨ep, h⟩ := S.tl.1; ⟨ep, kp _ h S.tl.2⟩, S.tl.2⟩, RL, tn, tm⟩
theorem RowsL.drop {y : Lay} {rl D : Addr} {R : List Ent} {wl : List (Addr × Obj)} {k : Nat} (h : RowsL y rl R wl) (hD : Off y D) : RowsL y D (without_k R k) ((D, PyProof.Rows.LCg.lst ((without_k R k).map Ent.val)) :: wl) :=
  have sub : ∀ e ∈ without_k R k, e ∈ R := fun e he => (List.mem_filter.mp he).1
  ⟨⟨_, List.mem_cons_self⟩, hD, fun e he => let ⟨a, b, c, hm⟩ := h.tup e (sub e he); ⟨a, b, c, List.mem_cons_of_mem _ hm⟩, fun e he => h.thi e (sub e he), fun e he => h.x e (sub e he)⟩
theorem news_up {h₀ h : Heap} {L : Addr} {p a b c : Addr × Obj} {l : List (Addr × Obj)} (N : News h₀ L h (p :: a :: b :: c :: l)) : News h₀ L h (a :: b :: c :: p :: l) := fun q hq => N q (by
  simp only [List.mem_cons] at hq ⊢
  rcases hq with h | h | h | h | h <;> simp [h])
theorem off_new {ck ml D : Addr} {o : Obj} {wl : List (Addr × Obj)} (O : OwnOff wl [ck + 1, ck, ml]) (h1 : ck + 1 ≠ D) (h2 : ck ≠ D) (h3 : ml ≠ D) : OwnOff ((D, o) :: wl) [ck + 1, ck, ml] := off_cons O fun b hb => by
  simp only [List.mem_cons, List.not_mem_nil, or_false] at hb
  rcases hb with rfl | rfl | rfl
  · exact fun e => h1 e.symm
  · exact fun e => h2 e.symm
  · exact fun e => h3 e.symm

section
variable {w : World} {mean : ExcName → Option Value} {mg mb : Str → Option Value} {dp un : Nat} {gd : Option (List Code)} {cn : Str} {a : Addr} {ccd : Value} {A₀ : Around} {base h₀ : Heap} {L : Addr} {m : Str → Option Value} {s : Shared}
  {Q : Flow → Shared → Prop} {E : Value → Shared → Prop} {y : Lay} {now c : Int} {tv : Nat → Option Int} {wl : List (Addr × Obj)} {k : Nat}
local macro_rules | `(tactic| k_mem) => `(tactic| first | assumption | exact List.Mem.head _ | (refine List.Mem.tail _ ?_; k_mem))
local macro_rules | `(tactic| k_room) => `(tactic| ktr_room)
local macro_rules | `(tactic| walk_at "CompSrcT") => `(tactic| refine Hold.mk ?_)
local macro_rules | `(tactic| walk_at "call ref") => `(tactic| refine Hold.mk ?_)
local macro_rules | `(tactic| walk_at "subscriptTail") => `(tactic| ((with_reducible show wpAny _ _ (subscriptTail _ _ (Value.ref _) (Value.int (Nat.cast _) _)) _ _ _); refine' sub_led ?N ?m ?v ?z ?_ ?hs; (case N => k_asm); (case m => k_mem); (case v => first | exact tasks_at (by assumption) | assumption); (case z => first | (simp; done) | omega); (case hs => with_unfolding_all rfl)))

/-- what a branch leaves -/
def BrRet (w : World) (y : Lay) (tl ml rl ck : Addr) (kd x : Int) (t2 t3 : Tok) (now c : Int) (R : List Ent) (tv : Nat → Option Int) (tms : List Value) (ep1 : Nat) (ok ost : Obj) (wl : List (Addr × Obj)) (h₀ : Heap) (L : Addr) (s : Shared) (Q : Flow → Shared → Prop) : Prop :=
  ∀ h' tk' m' wl', Fr h₀ L h' m' → LawM m' y.mgr tl ml rl now c → m' (Str.ofString "kind") = some (.int kd t2) → m' (Str.ofString "x") = some (.int x t3) → News h₀ L h' ((ck + 1, ost) :: (ck, ok) :: (ml, PySem.W.listOf tms.toArray ep1) :: wl') →
    St w y tl ml rl ck now c R tv tms wl' → (∀ p ∈ wl, Off y p.1 → p ∈ wl') → Q .next { s with heap := h', toks := tk' }

local macro_rules | `(tactic| walk_at "pad") => `(tactic| fail "none")
set_option maxHeartbeats 8000000 in
theorem l_susp {b : List Stmt} {sc : Scope} {kd x : Int} {t2 t3 tkk : Tok} {tl ml rl ck : Addr} {ok ost : Obj} {sv : Option Value} {tms : List Value} {ep1 : Nat} {R : List Ent} (hl : LawIs w.params b sc)
    (B : Below A₀ base [] h₀) (F : Fr h₀ L s.heap m) (X : (hd.heap_39 w.params).In h₀) (T : Top hd.view_39 Lo0 mean mg mb h₀) (hd : dp + 19 < recursionLimit) (hu : un + 190 < cLine)
    (N : News h₀ L s.heap ((ck + 1, ost) :: (ck, ok) :: (ml, PySem.W.listOf tms.toArray ep1) :: wl)) (hok : ok.data = .cell (some (.int (k : Int) tkk))) (host : ost.data = .cell sv) (hk : k < 7)
    (hkd : m (Str.ofString "kind") = some (.int kd t2)) (hx : m (Str.ofString "x") = some (.int x t3)) (M : LawM m y.mgr tl ml rl now c) (S : St w y tl ml rl ck now c R tv tms wl)
    (ret : ∀ rl', BrRet w y tl ml rl' ck kd x t2 t3 now c (without_k R k) tv tms ep1 ok ost wl h₀ L s Q) :
    wpAny (model PySem.Challenge.rw_vs0001_01.row.prog w) (ktrTop dp un gd cn sc L a ccd (cellsFrom ck sc.names []) []) (execs (suspOf (loopOf b)) (envX cn sc L a ccd (cellsFrom ck sc.names []))) Q E s := by
  obtain ⟨rfl, rfl⟩ := hl
  obtain ⟨t0, t1, hm⟩ := M.pin hkd hx
  rw [hm] at F M
  clear hkd hx hm
  have O := S.O
  have cml := S.cm
  obtain ⟨⟨ept, htl⟩, _⟩ := S.tl
  have w1 := S.W.tk k hk
  obtain ⟨u1, u2, u3, v0, _, w2⟩ := S.W.tkD k hk
  revert X
  k_fill
  intro X
  refine' law_at (P := fun b sc => wpAny (model PySem.Challenge.rw_vs0001_01.row.prog w) (ktrTop dp un gd cn sc L a ccd (cellsFrom ck sc.names []) []) (execs (suspOf (loopOf b)) (envX cn sc L a ccd (cellsFrom ck sc.names []))) Q E s) ?h ?_
  case h => k_is
  dsimp only [loopOf, suspOf]
  unfold frm at F
  k_steps
  unfold Hold
  show wpAny _ _ (call (Value.ref 100) _) _ _ _
  (rename News _ _ _ _ => NN)
  (rename Fr _ _ _ _ => FF)
  refine' t_suspend (pre := [(ck + 1, ost), (ck, ok), (ml, PySem.W.listOf tms.toArray ep1)]) (adr := [ck + 1, ck, ml]) B FF X NN T rfl (by omega) (by ktr_units) S.Y S.RO S.W (S.pre _ _ _) (S.kept _ _ _) O hk ?ret
  case ret =>
    intro wl' h' tk' F' N' W' O' kp
    replace N' : News h₀ L h' ((ck + 1, ost) :: (ck, ok) :: (ml, PySem.W.listOf tms.toArray ep1) :: wl') := N'
    have RL := S.rows.mono kp
    obtain ⟨epr, hrl⟩ := RL.lst
    clear NN FF htl w1 w2 O
    k_steps
    unfold Hold
    refine' src_T (its := R.map Ent.val) (ep := epr) (dropT R k) ?hh ?F ?N ?hm ?hz ?hct ?hel ?hf
    case hh => exact rfl
    case F => k_asm
    case N => k_asm
    case hm => k_mem
    case hz => have := S.RO.len; simp at this ⊢; omega
    case hct =>
      intro i v I oI C oC D ys m₂ h tk Q' E' hv hC hx F' N' hq
      obtain ⟨e, he, rfl⟩ : ∃ e, R[i]? = some e ∧ Ent.val e = v := by simpa using hv
      obtain ⟨tw, tn, et, htup⟩ := RL.tup e (List.mem_of_getElem? he)
      obtain ⟨tx, hxx⟩ := RL.x e (List.mem_of_getElem? he)
      rw [hxx] at htup
      unfold Ent.val at hx
      rw [dropT_at he] at hq
      k_steps
      exact hq _
    case hel =>
      intro i v I oI C oC D ys m₂ h tk Q' E' hv hC hx F' N' hq
      k_steps
      exact hq _
    case hf =>
      intro g
      rw [drop_list]
      k_steps
      (rename News _ _ _ _ => NN)
      (rename Fr _ _ _ _ => FF)
      (rename _ ∧ _ => o1)
      refine ret _ _ _ _ _ FF ⟨rfl, rfl, rfl, rfl, ⟨_, rfl⟩, ⟨_, rfl⟩⟩ rfl rfl (news_up NN) (S.next (by rw [without_rows]; exact S.RO.drop) ((by rw [without_rows]; exact W' : WL w y now c ((without_k R k).map rowOf) tv wl').mono fun p hp => List.mem_cons_of_mem _ hp) (off_new O' o1.1 o1.2.1 o1.2.2.1)
        (fun p hp ho => List.mem_cons_of_mem _ (kp p hp ho)) (RL.drop (off_of W' (off1_mem o1.2.2.2))) S.tn S.tm) (fun p hp ho => List.mem_cons_of_mem _ (kp p hp ho))
end
end Mine
end

section
open PySem PySem.W PySem.Spec PySem.Calls PyProof.Rows PyProof.Rows.LCg PyProof.Rows.LCt
namespace Mine
set_option maxRecDepth 100000

section
variable {w : World} {mean : ExcName → Option Value} {mg mb : Str → Option Value} {dp un : Nat} {gd : Option (List Code)} {cn : Str} {a : Addr} {ccd : Value} {A₀ : Around} {base h₀ : Heap} {L : Addr} {m : Str → Option Value} {s : Shared}
  {Q : Flow → Shared → Prop} {E : Value → Shared → Prop} {y : Lay} {now c : Int} {tv : Nat → Option Int} {wl : List (Addr × Obj)} {k : Nat}
local macro_rules | `(tactic| k_mem) => `(tactic| first | assumption | exact List.Mem.head _ | (refine List.Mem.tail _ ?_; k_mem))
local macro_rules | `(tactic| k_room) => `(tactic| ktr_room)
local macro_rules | `(tactic| walk_at "call ref") => `(tactic| refine Hold.mk ?_)

set_option maxHeartbeats 8000000 in
theorem l_pass {b : List Stmt} {sc : Scope} {kd x : Int} {t2 t3 : Tok} {tl ml rl ck : Addr} {ok ost : Obj} {kv sv : Option Value} {tms : List Value} {ep1 : Nat} {R : List Ent} (hl : LawIs w.params b sc)
    (B : Below A₀ base [] h₀) (F : Fr h₀ L s.heap m) (X : (hd.heap_39 w.params).In h₀) (T : Top hd.view_39 Lo0 mean mg mb h₀) (hd : dp + 19 < recursionLimit) (hu : un + 190 < cLine)
    (N : News h₀ L s.heap ((ck + 1, ost) :: (ck, ok) :: (ml, PySem.W.listOf tms.toArray ep1) :: wl)) (hok : ok.data = .cell kv) (host : ost.data = .cell sv)
    (hkd : m (Str.ofString "kind") = some (.int kd t2)) (hx : m (Str.ofString "x") = some (.int x t3)) (M : LawM m y.mgr tl ml rl now c) (S : St w y tl ml rl ck now c R tv tms wl)
    (ret : BrRet w y tl ml rl ck kd x t2 t3 (now + x) c R tv tms ep1 ok ost wl h₀ L s Q) :
    wpAny (model PySem.Challenge.rw_vs0001_01.row.prog w) (ktrTop dp un gd cn sc L a ccd (cellsFrom ck sc.names []) []) (execs (passOf (loopOf b)) (envX cn sc L a ccd (cellsFrom ck sc.names []))) Q E s := by
  obtain ⟨rfl, rfl⟩ := hl
  obtain ⟨t0, t1, hm⟩ := M.pin hkd hx
  rw [hm] at F M
  clear hkd hx hm
  have O := S.O
  have cml := S.cm
  have w1 := S.W.mgr
  obtain ⟨u1, u2, u3, u4, w2⟩ := S.W.mgrD
  revert X
  k_fill
  intro X
  refine' law_at (P := fun b sc => wpAny (model PySem.Challenge.rw_vs0001_01.row.prog w) (ktrTop dp un gd cn sc L a ccd (cellsFrom ck sc.names []) []) (execs (passOf (loopOf b)) (envX cn sc L a ccd (cellsFrom ck sc.names []))) Q E s) ?h ?_
  case h => k_is
  dsimp only [loopOf, passOf]
  unfold frm at F
  k_steps
  unfold Hold
  show wpAny _ _ (call (Value.ref 213) _) _ _ _
  (rename News _ _ _ _ => NN)
  (rename Fr _ _ _ _ => FF)
  refine' t_pass (pre := [(ck + 1, ost), (ck, ok), (ml, PySem.W.listOf tms.toArray ep1)]) (adr := [ck + 1, ck, ml]) B FF X NN T rfl (by omega) (by ktr_units) S.Y S.RO S.W (S.pre _ _ _) (S.kept _ _ _) O ?ret
  case ret =>
    intro wl' h' tk' F' N' W' O' kp
    replace N' : News h₀ L h' ((ck + 1, ost) :: (ck, ok) :: (ml, PySem.W.listOf tms.toArray ep1) :: wl') := N'
    clear NN FF w1 w2 O
    k_steps
    (rename News _ _ _ _ => NN)
    (rename Fr _ _ _ _ => FF)
    exact ret _ _ _ _ FF ⟨rfl, rfl, rfl, rfl, ⟨_, rfl⟩, ⟨_, rfl⟩⟩ rfl rfl NN (S.next S.RO W' O' kp (S.rows.mono kp) S.tn S.tm) kp
end
end Mine
end

section
open PySem PySem.W PySem.Spec PySem.Calls PyProof.Rows PyProof.Rows.LCg PyProof.Rows.LCt
namespace Mine
set_option maxRecDepth 100000

theorem sorted_uniq : ∀ {l l' : List Ent}, l.Perm l' → l.Pairwise (fun a b => a.key < b.key) → l'.Pairwise (fun a b => a.key < b.key) → l = l'
  | [], l', p, _, _ => (List.nil_perm.mp p).symm ▸ rfl
  | a :: t, [], p, _, _ => absurd p.length_eq (by simp)
  | a :: t, b :: t', p, s, s' => by
    have hab : a = b := by
      have h1 : a ∈ b :: t' := p.mem_iff.mp List.mem_cons_self
      have h2 : b ∈ a :: t := p.mem_iff.mpr List.mem_cons_self
      rcases List.mem_cons.mp h1 with e | h1
      · exact e
      · rcases List.mem_cons.mp h2 with e | h2
        · exact e.symm
        · have g1 := List.rel_of_pairwise_cons s h2
          have g2 := List.rel_of_pairwise_cons s' h1
          omega
    subst hab
    rw [sorted_uniq ((List.perm_cons _).mp p) s.of_cons s'.of_cons]
theorem sorted_ex (R : List Ent) (rng : ∀ e ∈ R, 0 ≤ e.n ∧ e.n < 1000) (nod : (R.map (·.n)).Nodup) : ∃ Rs : List Ent, Rs.Perm R ∧ Rs.Pairwise fun a b => a.key < b.key := by
  let le : Ent → Ent → Bool := fun a b => decide (a.key ≤ b.key)
  have p : (R.mergeSort le).Perm R := List.mergeSort_perm R le
  have h1 : (R.mergeSort le).Pairwise fun a b => le a b := List.pairwise_mergeSort (fun a b c h1 h2 => by simp only [le, decide_eq_true_eq] at *; omega) (fun a b => by simp only [le, Bool.or_eq_true, decide_eq_true_eq]; omega) R
  have h2 : (R.mergeSort le).Pairwise fun a b => a.n ≠ b.n := by
    have : ((R.mergeSort le).map (·.n)).Nodup := (p.map _).symm.nodup nod
    exact List.pairwise_map.mp this
  refine ⟨_, p, ?_⟩
  have h3 := h1.and h2
  refine List.Pairwise.imp_of_mem (fun {a b} ha hb hab => ?_) h3
  have ra := rng a (p.mem_iff.mp ha)
  have rb := rng b (p.mem_iff.mp hb)
  obtain ⟨g1, g2⟩ := hab
  simp only [le, decide_eq_true_eq] at g1
  unfold Ent.key at *
  omega
theorem rkey_row (e : Ent) : rkey (rowOf e) = e.key := rfl
theorem rows_sorted {R : List Ent} (h : R.Pairwise fun a b => a.key < b.key) : (R.map rowOf).Pairwise fun a b => rkey a < rkey b := List.pairwise_map.mpr h
theorem RowsL.rng {c : Int} {R : List Ent} (RO : RowsOk c (R.map rowOf)) : ∀ e ∈ R, 0 ≤ e.n ∧ e.n < 1000 := fun e he => by
  have h := RO.t (rowOf e) (List.mem_map_of_mem he)
  have := RO.c1
  unfold rowOf at h
  dsimp only at h
  omega
theorem RowsL.nod {c : Int} {R : List Ent} (RO : RowsOk c (R.map rowOf)) : (R.map (·.n)).Nodup := by
  have h := RO.ts
  rw [List.map_map] at h
  exact h

section
variable {prog : Program} {w : World} {A : Around} {E : Value → Shared → Prop} {s : Shared} {h₀ : Heap} {L : Addr} {m : Str → Option Value} {news : List (Addr × Obj)}
def rowD (e : Ent) : PyData := .tuple [.int e.wn, .int e.n, .int (kOf e.x : Int)]
theorem reads_rows {h : Heap} : ∀ {R : List Ent}, TupL R news → (∀ e ∈ R, ∃ t, e.x = .int (kOf e.x : Int) t) → News h₀ L h news → ∃ as, ReadsAll h (R.map Ent.val) (R.map rowD) as
  | [], _, _, _ => ⟨_, .nil⟩
  | e :: R, T, X, N => by
    obtain ⟨as, r⟩ := reads_rows (R := R) (fun e he => T e (List.mem_cons_of_mem _ he)) (fun e he => X e (List.mem_cons_of_mem _ he)) N
    obtain ⟨tw, tn, ep, hm⟩ := T e List.mem_cons_self
    obtain ⟨tx, hx⟩ := X e List.mem_cons_self
    rw [hx] at hm
    exact ⟨_, .cons (.tuple (N _ hm).1 rfl rfl (.cons (.int _ _) (.cons (.int _ _) (.cons (.int _ _) .nil)))) r⟩
theorem rows_lay : ∀ R : List Ent, PyData.canLayAll0 (R.map rowD) = true
  | [] => rfl
  | e :: R => by simp [PyData.canLayAll0, PyData.canLay0, rowD, rows_lay R]
theorem rows_depth : ∀ R : List Ent, PyData.depthAll (R.map rowD) ≤ 1
  | [] => by simp [PyData.depthAll]
  | e :: R => by
    have := rows_depth R
    simp only [List.map_cons, PyData.depthAll, rowD, PyData.depth]
    omega
theorem rows_shaped (R : List Ent) : SeqAt.shaped (.list (R.map rowD)) = true := by
  have := rows_depth R
  simp [SeqAt.shaped, PyData.canLay0, PyData.depth, rows_lay R]
  omega
theorem ne_nil {D D2 : Addr} {Rs : List Ent} {na nb : Nat} {Q : Value → Shared → Prop} (N : News h₀ L s.heap news) (ha : (D, PySem.W.listOf (Rs.map Ent.val).toArray na) ∈ news) (T : TupL Rs news) (X : ∀ e ∈ Rs, ∃ t, e.x = .int (kOf e.x : Int) t)
    (hb : (D2, PySem.W.listOf #[] nb) ∈ news) (hu : A.units + 64 < cLine) (h : Q (.bool (!Rs.isEmpty)) s) : wpAny (model prog w) A (compareOp .NotEq (.ref D) (.ref D2)) Q E s := by
  obtain ⟨as, r⟩ := reads_rows T X N
  refine ne_dataH (.list (N _ ha).1 rfl rfl r) (.list (N _ hb).1 rfl rfl .nil) (rows_shaped Rs) rfl hu ?_
  have e : PyData.eqv (.list (Rs.map rowD)) (.list []) = Rs.isEmpty := by
    cases Rs <;> simp [PyData.eqv, PyData.eqvAll]
  rw [e]
  exact h
theorem pick_tail {x : Value} {xs : List Value} : kms_pick (x :: xs) (some 1) none = xs := by
  unfold kms_pick kms_lo kms_hi
  simp only [List.length_cons, show ¬ ((1 : Int) < 0) by decide, if_false]
  rw [show min (1 : Int).toNat (xs.length + 1) = 1 by omega, List.drop_succ_cons, List.drop_zero, List.take_of_length_le (by omega)]
theorem slice_tail {value slice : PySem.Expr} {l : Addr} {x : Value} {xs : List Value} {ep : Nat} {t : Tok} {Q : Value → Shared → Prop} (F : Fr h₀ L s.heap m) (N : News h₀ L s.heap news) (hm : (l, PySem.W.listOf (x :: xs).toArray ep) ∈ news) (hz : xs.length ≤ 2000)
    (h : ∀ D h', Fr h₀ L h' m → News h₀ L h' ((D, PySem.W.listOf xs.toArray 0) :: news) → (∀ p ∈ news, p.1 < D) → Q (.ref D) { s with heap := h' })
    (hs : subscripted slice false (.ref l) (.ref s.heap.objs.size) = operate [.ref s.heap.objs.size, .ref l] (getItem (.ref l) (.ref s.heap.objs.size))) (ht : ∀ r, letTemporaryGo value (.ref l) r = pure ()) :
    wpAny (model prog w) A (subscriptTail value slice (.ref l) (.ref s.heap.objs.size)) Q E { s with heap := s.heap.push { cls := .type "slice", data := .fields #[.int 1 t, .none, .none] } } :=
  kms_slice_lit F N (News.isList N hm) (IsPart.int _ _) IsPart.none pick_tail h hs ht (by rw [sizeLine_eq]; simp; omega)
theorem sorted_to {y : Lay} {rl : Addr} {R Rs : List Ent} {wl : List (Addr × Obj)} {c : Int} {Q : Value → Shared → Prop} (RL : RowsL y rl R wl) (RO : RowsOk c (R.map rowOf)) (pRs : Rs.Perm R) (sRs : Rs.Pairwise fun a b => a.key < b.key) (F : Fr h₀ L s.heap m) (N : News h₀ L s.heap news) (sub : ∀ p ∈ wl, p ∈ news)
    (h : ∀ D cc h', Fr h₀ L h' m → News h₀ L h' ((D, PySem.W.listOf (Rs.map Ent.val).toArray cc) :: news) → AllLt D news → Q (.ref D) { s with heap := h' }) : wpAny (model prog w) A (call (.builtin "sorted") [.ref rl]) Q E s := by
  obtain ⟨epr, hrl⟩ := RL.lst
  refine sorted_rows (R := R) (ep := epr) F N (sub _ hrl) (fun e he => let ⟨a, b, c, hm⟩ := RL.tup e he; ⟨a, b, c, sub _ hm⟩) (RowsL.rng RO) (RowsL.nod RO) (by have := RO.len; simp at this; omega) fun D R'' cc h' pp ss F' N' l => ?_
  obtain rfl : R'' = Rs := sorted_uniq (pp.trans pRs.symm) ss sRs
  exact h D cc h' F' N' l

end

theorem cmp00 : Float64.cmpInt 0 0 = some Ordering.eq := by kernel_rfl
theorem ite_self0 {a b : Int} (h : a < b) : (if 0 > a - b then (0 : Int) else a - b) = 0 := by
  split
  · rfl
  · omega
theorem news_D {h₀ h : Heap} {L : Addr} {l : List (Addr × Obj)} (N : News h₀ L h l) : News h₀ L h l := N
theorem St.newrows {w : World} {y : Lay} {tl ml rl ck D : Addr} {now c : Int} {R R' : List Ent} {tv : Nat → Option Int} {tms : List Value} {wl wl' : List (Addr × Obj)} (S : St w y tl ml rl ck now c R tv tms wl) (W : WL w y now c (R'.map rowOf) tv wl') (O : OwnOff wl' [ck + 1, ck, ml])
    (kp : ∀ p ∈ wl, Off y p.1 → p ∈ wl') (RL : RowsL y rl R wl') (sub : ∀ e ∈ R', e ∈ R) (RO : RowsOk c (R'.map rowOf)) (o : Obj) (ho : ∃ ep, o = PySem.W.listOf (R'.map Ent.val).toArray ep) (h1 : @LT.lt Nat _ (ck + 1) D) (h2 : @LT.lt Nat _ ck D) (h3 : @LT.lt Nat _ ml D) (h4 : AllLt D wl') :
    St w y tl ml D ck now c R' tv tms ((D, o) :: wl') := by
  obtain ⟨ep, rfl⟩ := ho
  have hD : Off y D := off_of W fun p hp => Nat.ne_of_lt (allLt_mem h4 p hp)
  exact S.next RO (W.mono fun p hp => List.mem_cons_of_mem _ hp) (off_new O (Nat.ne_of_lt h1) (Nat.ne_of_lt h2) (Nat.ne_of_lt h3)) (fun p hp ho => List.mem_cons_of_mem _ (kp p hp ho))
    ⟨⟨ep, List.mem_cons_self⟩, hD, fun e he => let ⟨a, b, c, hm⟩ := RL.tup e (sub e he); ⟨a, b, c, List.mem_cons_of_mem _ hm⟩, fun e he => RL.thi e (sub e he), fun e he => RL.x e (sub e he)⟩ S.tn S.tm

section
variable {w : World} {mean : ExcName → Option Value} {mg mb : Str → Option Value} {dp un : Nat} {gd : Option (List Code)} {cn : Str} {a : Addr} {ccd : Value} {A₀ : Around} {base h₀ : Heap} {L : Addr} {m : Str → Option Value} {s : Shared}
  {Q : Flow → Shared → Prop} {E : Value → Shared → Prop} {y : Lay} {now c : Int} {tv : Nat → Option Int} {wl : List (Addr × Obj)} {k : Nat}
local macro_rules | `(tactic| k_mem) => `(tactic| first | assumption | exact List.Mem.head _ | (refine List.Mem.tail _ ?_; k_mem))
local macro_rules | `(tactic| k_room) => `(tactic| ktr_room)
local macro_rules | `(tactic| walk_at "call ref") => `(tactic| refine Hold.mk ?_)
local macro_rules | `(tactic| walk_at "subscriptTail Name Slice ref ref") => `(tactic| (k_dflt (refine' slice_tail ?F ?N ?m ?z ?_ ?s ?t; (case F => k_asm); (case N => k_asm); (case m => k_mem); (case z => (simp only [List.length_nil, List.length_cons, List.length_map]; omega)); (case s => with_unfolding_all rfl); (case t => (intro _; with_unfolding_all rfl))); intro D' h' F' N' l1; (try k_lt l1); (try k_sweep)))
local macro_rules | `(tactic| walk_at "compareOp NotEq ref ref") => `(tactic| refine Hold.mk ?_)
local macro_rules | `(tactic| walk_at "call builtin:sorted") => `(tactic| refine Hold.mk ?_)
local macro_rules | `(tactic| walk_at "subscriptTail") => `(tactic| ((with_reducible show wpAny _ _ (subscriptTail _ _ (Value.ref _) (Value.int (Nat.cast _) _)) _ _ _); refine' sub_led ?N ?m ?v ?z ?_ ?hs; (case N => k_asm); (case m => k_mem); (case v => first | exact tasks_at (by assumption) | assumption); (case z => first | (simp; done) | omega); (case hs => with_unfolding_all rfl)))
local macro_rules | `(tactic| walk_at "subscriptTail Name Constant ref int") => `(tactic| ((with_reducible show wpAny _ _ (subscriptTail _ _ (Value.ref _) (Value.int _ _)) _ _ _); with_unfolding_all (refine' item_litK ?l ?a ?b ?c ?_ ?e; (case l => is_list); (case a => decide); (case b => decide); (case c => rfl); (case e => rfl))))
local macro_rules | `(tactic| walk_at "subscriptTail Subscript") => `(tactic| ((with_reducible show wpAny _ _ (subscriptTail _ _ (Value.ref _) (Value.int _ _)) _ _ _); k_dflt (refine' item_tupleT ?t ?a ?b ?c ?d ?_; (case t => exact News.isTup (by k_asm) (by k_mem)); (case a => decide); (case b => decide); (case c => rfl); (case d => rfl))))
local macro_rules | `(tactic| walk_at "subscriptTail Name Subscript") => `(tactic| ((with_reducible show wpAny _ _ (subscriptTail _ _ (Value.ref _) (Value.int (Nat.cast _) _)) _ _ _); refine' sub_led ?N ?m ?v ?z ?_ ?hs; (case N => k_asm); (case m => k_mem); (case v => first | exact tasks_at (by assumption) | assumption); (case z => first | (simp; done) | omega); (case hs => with_unfolding_all rfl)))

set_option maxHeartbeats 8000000 in
theorem l_next {b : List Stmt} {sc : Scope} {kd x : Int} {t2 t3 : Tok} {tl ml rl ck : Addr} {ok ost : Obj} {kv sv : Option Value} {tms : List Value} {ep1 : Nat} {R : List Ent} (hl : LawIs w.params b sc)
    (B : Below A₀ base [] h₀) (F : Fr h₀ L s.heap m) (X : (hd.heap_39 w.params).In h₀) (T : Top hd.view_39 Lo0 mean mg mb h₀) (hd : dp + 19 < recursionLimit) (hu : un + 190 < cLine)
    (N : News h₀ L s.heap ((ck + 1, ost) :: (ck, ok) :: (ml, PySem.W.listOf tms.toArray ep1) :: wl)) (hok : ok.data = .cell kv) (host : ost.data = .cell sv)
    (hkd : m (Str.ofString "kind") = some (.int kd t2)) (hx : m (Str.ofString "x") = some (.int x t3)) (M : LawM m y.mgr tl ml rl now c) (S : St w y tl ml rl ck now c R tv tms wl)
    (ret : ∀ rl' R', (∃ Rs : List Ent, Rs.Perm R ∧ Rs.Pairwise (fun a b => a.key < b.key) ∧ ((∃ e0, Rs = e0 :: R' ∧ e0.wn ≤ now) ∨ (R' = R ∧ ∀ e ∈ R, now < e.wn))) → BrRet w y tl ml rl' ck kd x t2 t3 now c R' tv tms ep1 ok ost wl h₀ L s Q) :
    wpAny (model PySem.Challenge.rw_vs0001_01.row.prog w) (ktrTop dp un gd cn sc L a ccd (cellsFrom ck sc.names []) []) (execs (nextOf (loopOf b)) (envX cn sc L a ccd (cellsFrom ck sc.names []))) Q E s := by
  obtain ⟨rfl, rfl⟩ := hl
  obtain ⟨t0, t1, hm⟩ := M.pin hkd hx
  rw [hm] at F M
  clear hkd hx hm
  have O := S.O
  have cml := S.cm
  have w1 := S.W.mgr
  obtain ⟨u1, u2, u3, u4, w2⟩ := S.W.mgrD
  obtain ⟨Rs, pRs, sRs⟩ := sorted_ex R (RowsL.rng S.RO) (RowsL.nod S.RO)
  revert X
  k_fill
  intro X
  refine' law_at (P := fun b sc => wpAny (model PySem.Challenge.rw_vs0001_01.row.prog w) (ktrTop dp un gd cn sc L a ccd (cellsFrom ck sc.names []) []) (execs (nextOf (loopOf b)) (envX cn sc L a ccd (cellsFrom ck sc.names []))) Q E s) ?h ?_
  case h => k_is
  dsimp only [loopOf, nextOf]
  unfold frm at F
  k_steps
  unfold Hold
  show wpAny _ _ (call (Value.ref 234) _) _ _ _
  (rename News _ _ _ _ => NN)
  (rename Fr _ _ _ _ => FF)
  refine' t_next (rows := Rs.map rowOf) (pre := [(ck + 1, ost), (ck, ok), (ml, PySem.W.listOf tms.toArray ep1)]) (adr := [ck + 1, ck, ml]) B FF X NN T rfl (by omega) (by ktr_units) S.Y (S.RO.perm (pRs.symm.map _)) (S.W.perm (pRs.symm.map _)) (S.pre _ _ _) (S.kept _ _ _) O (rows_sorted sRs) ?ret
  case ret =>
    intro p told wait rows' wl' h' tk' hnv F' N' W' O' kp hp
    replace N' : News h₀ L h' ((p, { cls := .type "tuple", data := .seq #[told, wait] }) :: (ck + 1, ost) :: (ck, ok) :: (ml, PySem.W.listOf tms.toArray ep1) :: wl') := N'
    have RL := S.rows.mono kp
    obtain ⟨epr, hrl⟩ := RL.lst
    clear NN FF w1 w2 O
    rcases Rs with _ | ⟨e0, Rt⟩
    · obtain ⟨rfl, rfl, rfl⟩ := hnv
      k_steps
      unfold Hold
      refine' sorted_to RL S.RO pRs sRs ?F ?N ?sub ?h
      case F => k_asm
      case N => k_asm
      case sub => intro p hp; repeat (first | exact hp | refine List.Mem.tail _ ?_)
      case h =>
        intro D cc h2 F2 N2 lD
        k_steps
        unfold Hold
        (rename News _ _ _ _ => NN)
        refine ne_nil (Rs := []) (na := cc) NN (List.Mem.tail _ (List.Mem.head _)) (fun e he => nomatch he) (fun e he => nomatch he) (List.Mem.head _) (by ktr_units) ?_
        dsimp only [List.isEmpty_nil, Bool.not_true]
        k_steps
        unfold Hold
        (rename News _ _ _ _ => NN)
        refine ne_nil (Rs := []) (na := cc) NN (by k_mem) (fun e he => nomatch he) (fun e he => nomatch he) (List.Mem.head _) (by ktr_units) ?_
        dsimp only [List.isEmpty_nil, Bool.not_true]
        k_steps
        (rename News _ _ _ _ => NN)
        (rename Fr _ _ _ _ => FF)
        obtain rfl : R = [] := List.nil_perm.mp pRs
        exact ret rl [] ⟨[], .refl _, sRs, .inr ⟨rfl, fun e he => nomatch he⟩⟩ _ _ _ wl' FF ⟨rfl, rfl, rfl, rfl, ⟨_, rfl⟩, ⟨_, rfl⟩⟩ rfl rfl (fun p hp => NN p (by repeat (first | exact hp | refine List.Mem.tail _ ?_))) (S.next S.RO W' O' kp RL S.tn S.tm) kp
    · have htup := RL.tup e0 (pRs.mem_iff.mp List.mem_cons_self)
      obtain ⟨q1, q2, q3, hm0⟩ := htup
      obtain ⟨q4, hx0⟩ := RL.x e0 (pRs.mem_iff.mp List.mem_cons_self)
      rw [hx0] at hm0
      have hk0 : kOf e0.x < 7 := S.RO.k (rowOf e0) (List.mem_map_of_mem (pRs.mem_iff.mp List.mem_cons_self))
      have hlen : Rt.length ≤ 2000 := by have h1 := pRs.length_eq; have := S.RO.len; simp at h1 this; omega
      rcases hnv with ⟨hdue, rfl, rfl, hw⟩ | ⟨hnd, rfl, ⟨tw, rfl⟩, rfl⟩
      · dsimp only [rowOf] at hdue
        have ht1 := S.tl.1
        obtain ⟨ept, htl⟩ := S.tl.1
        replace htl := kp _ htl S.tl.2
        dsimp only [rowOf]
        rcases Rt with _ | ⟨e1, Ru⟩
        · obtain rfl : wait = .none := hw
          k_steps
          unfold Hold
          refine' sorted_to RL S.RO pRs sRs ?F ?N ?sub ?h
          case F => k_asm
          case N => k_asm
          case sub => intro p hp; repeat (first | exact hp | refine List.Mem.tail _ ?_)
          case h =>
            intro D cc h2 F2 N2 lD
            rw [List.map_cons, show Ent.val e0 = .ref e0.a from rfl] at N2
            k_steps
            unfold Hold
            (rename News _ _ _ _ => NN)
            refine ne_nil (Rs := e0 :: []) (na := cc) NN (List.Mem.tail _ (List.Mem.head _)) (fun e he => let ⟨a, b, c, hm⟩ := RL.tup e (pRs.mem_iff.mp he); ⟨a, b, c, by repeat (first | exact hm | refine List.Mem.tail _ ?_)⟩) (fun e he => RL.x e (pRs.mem_iff.mp he)) (List.Mem.head _) (by ktr_units) ?_
            dsimp only [List.isEmpty_cons, Bool.not_false]
            k_steps
            unfold Hold
            (rename News _ _ _ _ => NN)
            (rename @LT.lt Nat _ _ _ ∧ @LT.lt Nat _ _ _ ∧ @LT.lt Nat _ _ _ ∧ @LT.lt Nat _ _ _ ∧ @LT.lt Nat _ _ _ ∧ @LT.lt Nat _ _ _ ∧ AllLt _ _ => lN)
            refine ne_nil (Rs := []) (na := 0) NN (List.Mem.tail _ (List.Mem.head _)) (fun e he => nomatch he) (fun e he => nomatch he) (List.Mem.head _) (by ktr_units) ?_
            dsimp only [List.isEmpty_nil, Bool.not_true]
            k_steps
            (rename News _ _ _ _ => NN)
            (rename Fr _ _ _ _ => FF)
            refine ret _ [] ⟨[e0], pRs, sRs, .inl ⟨e0, rfl, hdue⟩⟩ _ _ _ _ FF ⟨rfl, rfl, rfl, rfl, ⟨_, rfl⟩, ⟨_, rfl⟩⟩ rfl rfl (news_D (fun p hp => NN p (by simp only [List.mem_cons] at hp ⊢; rcases hp with h | h | h | h | h <;> simp [h])))
              (St.newrows S W' O' kp RL (fun e he => nomatch he) (S.RO.sub (List.nil_sublist _)) (PySem.W.listOf #[] 0) ⟨0, rfl⟩ lN.2.2.2.1 lN.2.2.2.2.1 lN.2.2.2.2.2.1 lN.2.2.2.2.2.2) (fun p hp ho => List.mem_cons_of_mem _ (kp p hp ho))
        · have htup1 := RL.tup e1 (pRs.mem_iff.mp (List.mem_cons_of_mem _ List.mem_cons_self))
          obtain ⟨p1, p2, p3, hm1⟩ := htup1
          obtain ⟨p4, hx1⟩ := RL.x e1 (pRs.mem_iff.mp (List.mem_cons_of_mem _ List.mem_cons_self))
          rw [hx1] at hm1
          have hlen1 : Ru.length ≤ 2000 := by simp at hlen; omega
          have hw' : (now ≤ e1.wn ∧ ∃ t, wait = .int (e1.wn - now) t) ∨ (e1.wn < now ∧ ∃ t, wait = .float 0 t) := hw
          clear hw
          rcases hw' with ⟨hle, tw, rfl⟩ | ⟨hlt, tw, rfl⟩
          · k_steps
            unfold Hold
            refine' sorted_to RL S.RO pRs sRs ?F ?N ?sub ?h
            case F => k_asm
            case N => k_asm
            case sub => intro p hp; repeat (first | exact hp | refine List.Mem.tail _ ?_)
            case h =>
              intro D cc h2 F2 N2 lD
              rw [List.map_cons, List.map_cons, show Ent.val e0 = .ref e0.a from rfl, show Ent.val e1 = .ref e1.a from rfl] at N2
              k_steps
              unfold Hold
              (rename News _ _ _ _ => NN)
              refine ne_nil (Rs := e0 :: e1 :: Ru) (na := cc) NN (List.Mem.tail _ (List.Mem.head _)) (fun e he => let ⟨a, b, c, hm⟩ := RL.tup e (pRs.mem_iff.mp he); ⟨a, b, c, by repeat (first | exact hm | refine List.Mem.tail _ ?_)⟩) (fun e he => RL.x e (pRs.mem_iff.mp he)) (List.Mem.head _) (by ktr_units) ?_
              dsimp only [List.isEmpty_cons, Bool.not_false]
              k_steps
              unfold Hold
              (rename News _ _ _ _ => NN)
              (rename @LT.lt Nat _ _ _ ∧ @LT.lt Nat _ _ _ ∧ @LT.lt Nat _ _ _ ∧ @LT.lt Nat _ _ _ ∧ @LT.lt Nat _ _ _ ∧ @LT.lt Nat _ _ _ ∧ AllLt _ _ => lN)
              refine ne_nil (Rs := e1 :: Ru) (na := 0) NN (List.Mem.tail _ (List.Mem.head _)) (fun e he => let ⟨a, b, c, hm⟩ := RL.tup e (pRs.mem_iff.mp (List.mem_cons_of_mem _ he)); ⟨a, b, c, by repeat (first | exact hm | refine List.Mem.tail _ ?_)⟩) (fun e he => RL.x e (pRs.mem_iff.mp (List.mem_cons_of_mem _ he))) (List.Mem.head _) (by ktr_units) ?_
              dsimp only [List.isEmpty_cons, Bool.not_false]
              k_steps
              · exfalso
                (rename _ ≠ (_ : Int) => hne)
                exact hne (by rw [if_neg (by omega)])
              · (rename News _ _ _ _ => NN)
                (rename Fr _ _ _ _ => FF)
                refine ret _ (e1 :: Ru) ⟨e0 :: e1 :: Ru, pRs, sRs, .inl ⟨e0, rfl, hdue⟩⟩ _ _ _ _ FF ⟨rfl, rfl, rfl, rfl, ⟨_, rfl⟩, ⟨_, rfl⟩⟩ rfl rfl (news_D (fun p hp => NN p (by simp only [List.mem_cons] at hp ⊢; rcases hp with h | h | h | h | h <;> simp [h])))
                  (St.newrows S W' O' kp RL (fun e he => pRs.mem_iff.mp (List.mem_cons_of_mem _ he)) ((S.RO.perm (pRs.symm.map _)).sub ((List.sublist_cons_self _ _).map _)) (PySem.W.listOf (Value.ref e1.a :: List.map Ent.val Ru).toArray 0) ⟨0, rfl⟩ lN.2.2.2.1 lN.2.2.2.2.1 lN.2.2.2.2.2.1 lN.2.2.2.2.2.2) (fun p hp ho => List.mem_cons_of_mem _ (kp p hp ho))
          · k_steps
            unfold Hold
            refine' sorted_to RL S.RO pRs sRs ?F ?N ?sub ?h
            case F => k_asm
            case N => k_asm
            case sub => intro p hp; repeat (first | exact hp | refine List.Mem.tail _ ?_)
            case h =>
              intro D cc h2 F2 N2 lD
              rw [List.map_cons, List.map_cons, show Ent.val e0 = .ref e0.a from rfl, show Ent.val e1 = .ref e1.a from rfl] at N2
              k_steps
              unfold Hold
              (rename News _ _ _ _ => NN)
              refine ne_nil (Rs := e0 :: e1 :: Ru) (na := cc) NN (List.Mem.tail _ (List.Mem.head _)) (fun e he => let ⟨a, b, c, hm⟩ := RL.tup e (pRs.mem_iff.mp he); ⟨a, b, c, by repeat (first | exact hm | refine List.Mem.tail _ ?_)⟩) (fun e he => RL.x e (pRs.mem_iff.mp he)) (List.Mem.head _) (by ktr_units) ?_
              dsimp only [List.isEmpty_cons, Bool.not_false]
              k_steps
              unfold Hold
              (rename News _ _ _ _ => NN)
              (rename @LT.lt Nat _ _ _ ∧ @LT.lt Nat _ _ _ ∧ @LT.lt Nat _ _ _ ∧ @LT.lt Nat _ _ _ ∧ @LT.lt Nat _ _ _ ∧ @LT.lt Nat _ _ _ ∧ AllLt _ _ => lN)
              refine ne_nil (Rs := e1 :: Ru) (na := 0) NN (List.Mem.tail _ (List.Mem.head _)) (fun e he => let ⟨a, b, c, hm⟩ := RL.tup e (pRs.mem_iff.mp (List.mem_cons_of_mem _ he)); ⟨a, b, c, by repeat (first | exact hm | refine List.Mem.tail _ ?_)⟩) (fun e he => RL.x e (pRs.mem_iff.mp (List.mem_cons_of_mem _ he))) (List.Mem.head _) (by ktr_units) ?_
              dsimp only [List.isEmpty_cons, Bool.not_false]
              k_steps
              · exfalso
                (rename (_ != _) = true => hne)
                rw [ite_self0 hlt, cmp00] at hne
                exact absurd hne (by decide)
              · (rename News _ _ _ _ => NN)
                (rename Fr _ _ _ _ => FF)
                refine ret _ (e1 :: Ru) ⟨e0 :: e1 :: Ru, pRs, sRs, .inl ⟨e0, rfl, hdue⟩⟩ _ _ _ _ FF ⟨rfl, rfl, rfl, rfl, ⟨_, rfl⟩, ⟨_, rfl⟩⟩ rfl rfl (news_D (fun p hp => NN p (by simp only [List.mem_cons] at hp ⊢; rcases hp with h | h | h | h | h <;> simp [h])))
                  (St.newrows S W' O' kp RL (fun e he => pRs.mem_iff.mp (List.mem_cons_of_mem _ he)) ((S.RO.perm (pRs.symm.map _)).sub ((List.sublist_cons_self _ _).map _)) (PySem.W.listOf (Value.ref e1.a :: List.map Ent.val Ru).toArray 0) ⟨0, rfl⟩ lN.2.2.2.1 lN.2.2.2.2.1 lN.2.2.2.2.2.1 lN.2.2.2.2.2.2) (fun p hp ho => List.mem_cons_of_mem _ (kp p hp ho))
      · dsimp only [rowOf] at hnd
        k_steps
        unfold Hold
        refine' sorted_to RL S.RO pRs sRs ?F ?N ?sub ?h
        case F => k_asm
        case N => k_asm
        case sub => intro p hp; repeat (first | exact hp | refine List.Mem.tail _ ?_)
        case h =>
          intro D cc h2 F2 N2 lD
          rw [List.map_cons, show Ent.val e0 = .ref e0.a from rfl] at N2
          k_steps
          unfold Hold
          (rename News _ _ _ _ => NN)
          refine ne_nil (Rs := e0 :: Rt) (na := cc) NN (List.Mem.tail _ (List.Mem.head _)) (fun e he => let ⟨a, b, c, hm⟩ := RL.tup e (pRs.mem_iff.mp he); ⟨a, b, c, by repeat (first | exact hm | refine List.Mem.tail _ ?_)⟩) (fun e he => RL.x e (pRs.mem_iff.mp he)) (List.Mem.head _) (by ktr_units) ?_
          dsimp only [List.isEmpty_cons, Bool.not_false]
          k_steps
          unfold Hold
          (rename News _ _ _ _ => NN)
          refine ne_nil (Rs := e0 :: Rt) (na := cc) NN (by k_mem) (fun e he => let ⟨a, b, c, hm⟩ := RL.tup e (pRs.mem_iff.mp he); ⟨a, b, c, by repeat (first | exact hm | refine List.Mem.tail _ ?_)⟩) (fun e he => RL.x e (pRs.mem_iff.mp he)) (List.Mem.head _) (by ktr_units) ?_
          dsimp only [List.isEmpty_cons, Bool.not_false]
          k_steps
          · exact absurd rfl (by assumption : e0.wn - now ≠ e0.wn - now)
          · (rename News _ _ _ _ => NN)
            (rename Fr _ _ _ _ => FF)
            have late : ∀ e ∈ R, now < e.wn := fun e he => by
              rcases List.mem_cons.mp (pRs.mem_iff.mpr he) with rfl | h
              · exact hnd
              · have g := List.rel_of_pairwise_cons sRs h
                have r0 := RowsL.rng S.RO e0 (pRs.mem_iff.mp List.mem_cons_self)
                have r1 := RowsL.rng S.RO e he
                unfold Ent.key at g
                omega
            exact ret rl R ⟨e0 :: Rt, pRs, sRs, .inr ⟨rfl, late⟩⟩ _ _ _ wl' FF ⟨rfl, rfl, rfl, rfl, ⟨_, rfl⟩, ⟨_, rfl⟩⟩ rfl rfl (fun p hp => NN p (by repeat (first | exact hp | refine List.Mem.tail _ ?_))) (S.next S.RO (W'.perm (pRs.map _)) O' kp RL S.tn S.tm) kp
end
end Mine
end

section
open PySem PySem.W PySem.Spec PySem.Calls PyProof.Rows PyProof.Rows.LCg PyProof.Rows.LCt
namespace Mine
set_option maxRecDepth 100000

def restOf : List Stmt → List Stmt
  | _ :: r => r
  | _ => []

theorem tms_set {tms : List Value} {tv : Nat → Option Int} {k : Nat} {v : Int} {t : Tok} (tm : ∀ (i : Nat) (v : Value), tms[i]? = some v → TV v (tv i)) : ∀ (i : Nat) (u : Value), (tms.set k (.int v t))[i]? = some u → TV u (upd tv k v i) := by
  intro i u h
  unfold upd
  by_cases e : i = k
  · subst e
    rw [if_pos rfl]
    by_cases hl : i < tms.length
    · rw [List.getElem?_set_self hl] at h
      exact ⟨t, (Option.some.inj h).symm⟩
    · rw [List.getElem?_eq_none (by simp; omega)] at h; cases h
  · rw [if_neg e]
    rw [List.getElem?_set_ne (fun q => e q.symm)] at h
    exact tm i u h
theorem rows_add {R : List Ent} {k : Nat} {ra : Addr} {v c : Int} {t : Tok} : (without_k R k ++ [Ent.mk ra v c (.int (k : Int) t)]).map rowOf = ((R.map rowOf).filter fun r => r.2.2 != k) ++ [(v, c, k)] := by
  rw [List.map_append, without_rows]
  rfl
theorem St.inst {w : World} {y : Lay} {tl ml rl ck D ra : Addr} {now c v : Int} {R : List Ent} {tv : Nat → Option Int} {tms : List Value} {wl wl' : List (Addr × Obj)} {k : Nat} {t t' tc : Tok} (S : St w y tl ml rl ck now c R tv tms wl) (hk : k < 7) (c1 : c + 1 < 1000)
    (W : WL w y now (c + 1) (((R.map rowOf).filter fun r => r.2.2 != k) ++ [(v, c, k)]) (upd tv k v) wl') (O : OwnOff wl' [ck + 1, ck, ml]) (kp : ∀ p ∈ wl, Off y p.1 → p ∈ wl') (RL : RowsL y rl R wl')
    (h1 : @LT.lt Nat _ (ck + 1) D) (h2 : @LT.lt Nat _ ck D) (h3 : @LT.lt Nat _ ml D) (h4 : AllLt D wl') (g1 : @LT.lt Nat _ (ck + 1) ra) (g2 : @LT.lt Nat _ ck ra) (g3 : @LT.lt Nat _ ml ra) (g4 : AllLt ra wl') :
    St w y tl ml D ck now (c + 1) (without_k R k ++ [Ent.mk ra v c (.int (k : Int) t)]) (upd tv k v) (tms.set k (.int v t')) ((D, PySem.W.listOf (List.map Ent.val (without_k R k) ++ [Value.ref ra]).toArray 0) :: (ra, { cls := .type "tuple", data := .seq #[.int v t', .int c tc, .int (k : Int) t] }) :: wl') := by
  have hD : Off y D := off_of W fun p hp => Nat.ne_of_lt (allLt_mem h4 p hp)
  have hra : Off y ra := off_of W fun p hp => Nat.ne_of_lt (allLt_mem g4 p hp)
  have sub : ∀ e ∈ without_k R k, e ∈ R := fun e he => (List.mem_filter.mp he).1
  refine S.next (by rw [rows_add]; exact S.RO.add hk c1) ((by rw [rows_add]; exact W : WL w y now (c + 1) ((without_k R k ++ [Ent.mk ra v c (.int (k : Int) t)]).map rowOf) (upd tv k v) wl').mono fun p hp => List.mem_cons_of_mem _ (List.mem_cons_of_mem _ hp)) (off_new (off_new O (Nat.ne_of_lt g1) (Nat.ne_of_lt g2) (Nat.ne_of_lt g3)) (Nat.ne_of_lt h1) (Nat.ne_of_lt h2) (Nat.ne_of_lt h3)) (fun p hp ho => List.mem_cons_of_mem _ (List.mem_cons_of_mem _ (kp p hp ho)))
    ⟨⟨0, ?_⟩, hD, fun e he => ?_, fun e he => ?_, fun e he => ?_⟩ (by rw [List.length_set]; exact S.tn) (tms_set S.tm)
  · rw [List.map_append]
    exact List.mem_cons_self
  · rcases List.mem_append.mp he with he | he
    · obtain ⟨a, b, c, hm⟩ := RL.tup e (sub e he)
      exact ⟨a, b, c, List.mem_cons_of_mem _ (List.mem_cons_of_mem _ hm)⟩
    · rw [List.mem_singleton.mp he]
      exact ⟨t', tc, 0, List.mem_cons_of_mem _ List.mem_cons_self⟩
  · rcases List.mem_append.mp he with he | he
    · exact RL.thi e (sub e he)
    · rw [List.mem_singleton.mp he]; exact hra
  · rcases List.mem_append.mp he with he | he
    · exact RL.x e (sub e he)
    · rw [List.mem_singleton.mp he]; exact ⟨t, rfl⟩
theorem news_I {h₀ h : Heap} {L : Addr} {p q r d a b c : Addr × Obj} {l : List (Addr × Obj)} (N : News h₀ L h (p :: q :: r :: d :: a :: b :: c :: l)) : News h₀ L h (a :: b :: c :: p :: r :: l) := fun z hz => N z (by
  simp only [List.mem_cons] at hz ⊢
  rcases hz with h | h | h | h | h | h <;> simp [h])

section
variable {prog : Program} {w : World} {A : Around} {E : Value → Shared → Prop} {s : Shared} {h₀ : Heap} {L : Addr} {m : Str → Option Value} {news : List (Addr × Obj)}
theorem set_led {Q : Unit → Shared → Prop} {l : Addr} {its : List Value} {ep k : Nat} {u : Tok} {v : Value} {g : Obj → List (Addr × Obj)} (F : Fr h₀ L s.heap m) (N : News h₀ L s.heap news) (U : UpdF l (PySem.W.listOf its.toArray ep) news g) (hk : k < its.length) (hz : its.length ≤ 1000)
    (h : ∀ h', Fr h₀ L h' m → News h₀ L h' (g (PySem.W.listOf (its.set k v).toArray ep)) → Q () { s with heap := h' }) :
    wpAny (model prog w) A (setItem (.ref l) (.int (k : Int) u) v) Q E s := by
  obtain ⟨pre, post, rfl, hg, a, b⟩ := U.split
  have z := N (l, PySem.W.listOf its.toArray ep) (List.mem_append.mpr (.inr (.head _)))
  refine ki_setAt z.1 (by omega) (by omega) (by simp; omega) (h _ (F.change (Heap.SameBut.update ..) z.2.1 z.2.2) ?_)
  rw [hg]
  refine ki_turn _ N a b ?_ ?_
  · apply Array.toList_inj.mp
    simp
  · simp
theorem add_led {a b : Addr} {vs ws : List Value} {na nb : Nat} {Q : Value → Shared → Prop} (F : Fr h₀ L s.heap m) (N : News h₀ L s.heap news) (ha : (a, PySem.W.listOf vs.toArray na) ∈ news) (hb : (b, PySem.W.listOf ws.toArray nb) ∈ news)
    (h : ∀ D h', Fr h₀ L h' m → News h₀ L h' ((D, PySem.W.listOf (vs ++ ws).toArray 0) :: news) → (∀ p ∈ news, p.1 < D) → Q (.ref D) { s with heap := h' }) (hz : vs.length + ws.length ≤ 2000) : wpAny (model prog w) A (binaryOp .Add (.ref a) (.ref b)) Q E s :=
  kmk_add_lit F N (News.isList N ha) (News.isList N hb) rfl h (by rw [sizeLine_eq]; show vs.length + ws.length ≤ 16777216; omega)
end

section
variable {w : World} {mean : ExcName → Option Value} {mg mb : Str → Option Value} {dp un : Nat} {gd : Option (List Code)} {cn : Str} {a : Addr} {ccd : Value} {A₀ : Around} {base h₀ : Heap} {L : Addr} {m : Str → Option Value} {s : Shared}
  {Q : Flow → Shared → Prop} {E : Value → Shared → Prop} {y : Lay} {now c : Int} {tv : Nat → Option Int} {wl : List (Addr × Obj)} {k : Nat}
local macro_rules | `(tactic| k_mem) => `(tactic| first | assumption | exact List.Mem.head _ | (refine List.Mem.tail _ ?_; k_mem))
local macro_rules | `(tactic| k_room) => `(tactic| ktr_room)
local macro_rules | `(tactic| walk_at "binaryOp Add ref ref") => `(tactic| (k_dflt (refine' add_led ?F ?N ?a ?b ?_ ?z; (case F => k_asm); (case N => k_asm); (case a => k_mem); (case b => k_mem); (case z => (simp only [List.length_nil, List.length_cons, List.length_map]; omega))); intro D' h' F' N' l1; (try k_lt l1); (try k_sweep)))
local macro_rules | `(tactic| walk_at "CompSrcT") => `(tactic| refine Hold.mk ?_)
local macro_rules | `(tactic| walk_at "call ref") => `(tactic| refine Hold.mk ?_)
local macro_rules | `(tactic| walk_at "subscriptTail") => `(tactic| ((with_reducible show wpAny _ _ (subscriptTail _ _ (Value.ref _) (Value.int (Nat.cast _) _)) _ _ _); refine' sub_led ?N ?m ?v ?z ?_ ?hs; (case N => k_asm); (case m => k_mem); (case v => first | exact tasks_at (by assumption) | assumption); (case z => first | (simp; done) | omega); (case hs => with_unfolding_all rfl)))
local macro_rules | `(tactic| walk_at "setItem ref int") => `(tactic| (refine' set_led ?F ?N ?U ?i ?z ?_; (case F => k_asm); (case N => k_asm); (case U => k_updF); (case i => omega); (case z => omega); intro h' F' N'; (try dsimp only at N')))

set_option maxHeartbeats 8000000 in
theorem l_rest {b : List Stmt} {sc : Scope} {kd x v : Int} {t2 t3 tkk tw : Tok} {tl ml rl ck : Addr} {ok ost : Obj} {sv : Option Value} {tms : List Value} {ep1 : Nat} {R : List Ent} (hl : LawIs w.params b sc)
    (B : Below A₀ base [] h₀) (F : Fr h₀ L s.heap m) (X : (hd.heap_39 w.params).In h₀) (T : Top hd.view_39 Lo0 mean mg mb h₀) (hd : dp + 19 < recursionLimit) (hu : un + 190 < cLine)
    (N : News h₀ L s.heap ((ck + 1, ost) :: (ck, ok) :: (ml, PySem.W.listOf tms.toArray ep1) :: wl)) (hok : ok.data = .cell (some (.int (k : Int) tkk))) (host : ost.data = .cell sv) (hk : k < 7) (c1 : c + 1 < 1000)
    (hkd : m (Str.ofString "kind") = some (.int kd t2)) (hx : m (Str.ofString "x") = some (.int x t3)) (hwn : m (Str.ofString "when") = some (.int v tw)) (M : LawM m y.mgr tl ml rl now c) (S : St w y tl ml rl ck now c R tv tms wl)
    (hw : (kd = 0 ∧ v = x) ∨ (kd = 1 ∧ v = now + x) ∨ (kd = 2 ∧ tv k = some v))
    (ret : ∀ rl' ra t tms', BrRet w y tl ml rl' ck kd x t2 t3 now (c + 1) (without_k R k ++ [Ent.mk ra v c (.int (k : Int) t)]) (upd tv k v) tms' ep1 ok ost wl h₀ L s Q) :
    wpAny (model PySem.Challenge.rw_vs0001_01.row.prog w) (ktrTop dp un gd cn sc L a ccd (cellsFrom ck sc.names []) []) (execs (restOf (instOf (loopOf b))) (envX cn sc L a ccd (cellsFrom ck sc.names []))) Q E s := by
  obtain ⟨rfl, rfl⟩ := hl
  obtain ⟨t0, t1, hm⟩ := M.pin hkd hx
  have hm2 : m = fun z => if z = Str.ofString "when" then some (.int v tw) else frm m kd x t2 t3 t0 t1 y.mgr tl ml rl now c z := by
    funext z
    by_cases e : z = Str.ofString "when"
    · rw [if_pos e, e]; exact hwn
    · rw [if_neg e, ← hm]
  rw [hm2] at F
  clear hkd hx hm hm2 hwn
  have O := S.O
  have cml := S.cm
  have tn := S.tn
  obtain ⟨⟨ept, htl⟩, _⟩ := S.tl
  have w1 := S.W.tk k hk
  obtain ⟨u1, u2, u3, v0, _, w2⟩ := S.W.tkD k hk
  revert X
  k_fill
  intro X
  refine' law_at (P := fun b sc => wpAny (model PySem.Challenge.rw_vs0001_01.row.prog w) (ktrTop dp un gd cn sc L a ccd (cellsFrom ck sc.names []) []) (execs (restOf (instOf (loopOf b))) (envX cn sc L a ccd (cellsFrom ck sc.names []))) Q E s) ?h ?_
  case h => k_is
  dsimp only [loopOf, instOf, restOf]
  unfold frm at F
  k_steps
  unfold Hold
  show wpAny _ _ (call (Value.ref 255) _) _ _ _
  (rename News _ _ _ _ => NN)
  (rename Fr _ _ _ _ => FF)
  refine' t_install (v := v) (pre := [(ck + 1, ost), (ck, ok), (ml, PySem.W.listOf tms.toArray ep1)]) (adr := [ck + 1, ck, ml]) B FF X NN T rfl (by omega) (by ktr_units) S.Y S.RO S.W (S.pre _ _ _) (S.kept _ _ _) O hk c1 hw ?ret
  case ret =>
    intro wl' h' tk' F' N' W' O' kp
    replace N' : News h₀ L h' ((ck + 1, ost) :: (ck, ok) :: (ml, PySem.W.listOf tms.toArray ep1) :: wl') := N'
    have RL := S.rows.mono kp
    obtain ⟨epr, hrl⟩ := RL.lst
    have hlen : (without_k R k).length ≤ 1000 := by
      have h1 : (without_k R k).length ≤ R.length := List.length_filter_le _ _
      have := S.RO.len
      simp at this
      omega
    clear NN FF htl w1 w2 O
    k_steps
    unfold Hold
    refine' src_T (its := R.map Ent.val) (ep := epr) (dropT R k) ?hh ?F ?N ?hm ?hz ?hct ?hel ?hf
    case hh => exact rfl
    case F => k_asm
    case N => k_asm
    case hm => k_mem
    case hz => have := S.RO.len; simp at this ⊢; omega
    case hct =>
      intro i v I oI C oC D ys m₂ h tk Q' E' hv hC hx F' N' hq
      obtain ⟨e, he, rfl⟩ : ∃ e, R[i]? = some e ∧ Ent.val e = v := by simpa using hv
      obtain ⟨tw, tn, et, htup⟩ := RL.tup e (List.mem_of_getElem? he)
      obtain ⟨tx, hxx⟩ := RL.x e (List.mem_of_getElem? he)
      rw [hxx] at htup
      unfold Ent.val at hx
      rw [dropT_at he] at hq
      k_steps
      exact hq _
    case hel =>
      intro i v I oI C oC D ys m₂ h tk Q' E' hv hC hx F' N' hq
      k_steps
      exact hq _
    case hf =>
      intro g
      rw [drop_list]
      k_steps
      (rename News _ _ _ _ => NN)
      (rename Fr _ _ _ _ => FF)
      (rename @LT.lt Nat _ _ _ ∧ @LT.lt Nat _ _ _ ∧ @LT.lt Nat _ _ _ ∧ @LT.lt Nat _ _ _ ∧ @LT.lt Nat _ _ _ ∧ @LT.lt Nat _ _ _ ∧ AllLt _ _ => lD)
      (rename @LT.lt Nat _ _ _ ∧ @LT.lt Nat _ _ _ ∧ @LT.lt Nat _ _ _ ∧ @LT.lt Nat _ _ _ ∧ AllLt _ _ => lR)
      exact ret _ _ tkk _ _ _ _ _ FF ⟨rfl, rfl, rfl, rfl, ⟨_, rfl⟩, ⟨_, rfl⟩⟩ rfl rfl (news_I NN) (S.inst hk c1 W' O' kp RL lD.2.2.2.1 lD.2.2.2.2.1 lD.2.2.2.2.2.1 lD.2.2.2.2.2.2 lR.2.1 lR.2.2.1 lR.2.2.2.1 lR.2.2.2.2) (fun p hp ho => List.mem_cons_of_mem _ (List.mem_cons_of_mem _ (kp p hp ho)))
end
end Mine
end

section
open PySem PySem.W PySem.Spec PySem.Calls PyProof.Rows PyProof.Rows.LCg PyProof.Rows.LCt
namespace Mine
set_option maxRecDepth 100000

section
variable {w : World} {mean : ExcName → Option Value} {mg mb : Str → Option Value} {dp un : Nat} {gd : Option (List Code)} {cn : Str} {a : Addr} {ccd : Value} {A₀ : Around} {base h₀ : Heap} {L : Addr} {m : Str → Option Value} {s : Shared}
  {Q : Flow → Shared → Prop} {E : Value → Shared → Prop} {y : Lay} {now c : Int} {tv : Nat → Option Int} {wl : List (Addr × Obj)} {k : Nat}
local macro_rules | `(tactic| k_mem) => `(tactic| first | assumption | exact List.Mem.head _ | (refine List.Mem.tail _ ?_; k_mem))
local macro_rules | `(tactic| k_room) => `(tactic| ktr_room)
local macro_rules | `(tactic| walk_at "call ref") => `(tactic| refine Hold.mk ?_)
local macro_rules | `(tactic| walk_at "subscriptTail") => `(tactic| ((with_reducible show wpAny _ _ (subscriptTail _ _ (Value.ref _) (Value.int (Nat.cast _) _)) _ _ _); refine' sub_led ?N ?m ?v ?z ?_ ?hs; (case N => k_asm); (case m => k_mem); (case v => first | exact tasks_at (by assumption) | assumption); (case z => first | (simp; done) | omega); (case hs => with_unfolding_all rfl)))
local macro_rules | `(tactic| walk_at "execs cons") => `(tactic| ((with_reducible show wpAny _ _ (execs (Stmt.If _ _ _ _ :: Stmt.If _ _ _ _ :: []) _) _ _ _); refine Hold.mk ?_))

set_option maxHeartbeats 8000000 in
theorem l_inst {b : List Stmt} {sc : Scope} {kd x : Int} {t2 t3 tkk : Tok} {tl ml rl ck : Addr} {ok ost : Obj} {sv : Option Value} {tms : List Value} {ep1 : Nat} {R : List Ent} (hl : LawIs w.params b sc)
    (XB : (hd.heap_39 w.params).In base) (TB : Top hd.view_39 Lo0 mean mg mb base) (B : Below A₀ base [] h₀) (F : Fr h₀ L s.heap m) (X : (hd.heap_39 w.params).In h₀) (T : Top hd.view_39 Lo0 mean mg mb h₀) (hd : dp + 19 < recursionLimit) (hu : un + 190 < cLine)
    (N : News h₀ L s.heap ((ck + 1, ost) :: (ck, ok) :: (ml, PySem.W.listOf tms.toArray ep1) :: wl)) (hok : ok.data = .cell (some (.int (k : Int) tkk))) (host : ost.data = .cell sv) (hk : k < 7) (c1 : c + 1 < 1000)
    (hkd : m (Str.ofString "kind") = some (.int kd t2)) (hx : m (Str.ofString "x") = some (.int x t3)) (M : LawM m y.mgr tl ml rl now c) (S : St w y tl ml rl ck now c R tv tms wl) (hkd3 : kd = 0 ∨ kd = 1 ∨ kd = 2)
    (ret0 : kd = 2 → tv k = none → BrRet w y tl ml rl ck kd x t2 t3 now c R tv tms ep1 ok ost wl h₀ L s Q)
    (ret : ∀ v, ((kd = 0 ∧ v = x) ∨ (kd = 1 ∧ v = now + x) ∨ (kd = 2 ∧ tv k = some v)) → ∀ rl' ra t tms', BrRet w y tl ml rl' ck kd x t2 t3 now (c + 1) (without_k R k ++ [Ent.mk ra v c (.int (k : Int) t)]) (upd tv k v) tms' ep1 ok ost wl h₀ L s Q) :
    wpAny (model PySem.Challenge.rw_vs0001_01.row.prog w) (ktrTop dp un gd cn sc L a ccd (cellsFrom ck sc.names []) []) (execs (instOf (loopOf b)) (envX cn sc L a ccd (cellsFrom ck sc.names []))) Q E s := by
  obtain ⟨rfl, rfl⟩ := hl
  have hl : LawIs w.params (lawBody w.params) (lawScope w.params) := ⟨rfl, rfl⟩
  obtain ⟨t0, t1, hm⟩ := M.pin hkd hx
  have hkd0 := hkd
  have hx0 := hx
  have M0 := M
  rw [hm] at F
  have O := S.O
  have cml := S.cm
  have tn := S.tn
  obtain ⟨⟨ept, htl⟩, _⟩ := S.tl
  have w1 := S.W.tk k hk
  obtain ⟨u1, u2, u3, v0, _, w2⟩ := S.W.tkD k hk
  obtain ⟨vk, hvk⟩ : ∃ vk, tms[k]? = some vk := ⟨tms[k]'(by omega), List.getElem?_eq_getElem (by omega)⟩
  have htv := S.tm k vk hvk
  revert X XB
  k_fill
  intro XB X
  revert hl
  refine' law_at (P := fun b sc => LawIs w.params b sc → wpAny (model PySem.Challenge.rw_vs0001_01.row.prog w) (ktrTop dp un gd cn sc L a ccd (cellsFrom ck sc.names []) []) (execs (instOf (loopOf b)) (envX cn sc L a ccd (cellsFrom ck sc.names []))) Q E s) ?h ?_
  case h => k_is
  intro hl
  dsimp only [loopOf, instOf]
  unfold frm at F
  rcases hkd3 with rfl | rfl | rfl
  · k_steps
    unfold Hold
    (rename News _ _ _ _ => NN)
    (rename Fr _ _ _ _ => FF)
    exact l_rest (v := x) hl B FF X T hd hu NN hok host hk c1 rfl rfl rfl ⟨rfl, rfl, rfl, rfl, ⟨_, rfl⟩, ⟨_, rfl⟩⟩ S (.inl ⟨rfl, rfl⟩) (ret x (.inl ⟨rfl, rfl⟩))
  · k_steps
    unfold Hold
    (rename News _ _ _ _ => NN)
    (rename Fr _ _ _ _ => FF)
    exact l_rest (v := now + x) hl B FF X T hd hu NN hok host hk c1 rfl rfl rfl ⟨rfl, rfl, rfl, rfl, ⟨_, rfl⟩, ⟨_, rfl⟩⟩ S (.inr (.inl ⟨rfl, rfl⟩)) (ret _ (.inr (.inl ⟨rfl, rfl⟩)))
  · cases htk : tv k with
    | some v1 =>
      rw [htk] at htv
      obtain ⟨tq, rfl⟩ : ∃ t, vk = .int v1 t := htv
      k_steps
      unfold Hold
      (rename News _ _ _ _ => NN)
      (rename Fr _ _ _ _ => FF)
      exact l_rest (v := v1) hl B FF X T hd hu NN hok host hk c1 rfl rfl rfl ⟨rfl, rfl, rfl, rfl, ⟨_, rfl⟩, ⟨_, rfl⟩⟩ S (.inr (.inr ⟨rfl, htk⟩)) (ret _ (.inr (.inr ⟨rfl, htk⟩)))
    | none =>
      rw [htk] at htv
      obtain rfl : vk = .none := htv
      k_steps
      unfold Hold
      refine wpAny_execs_cons ?_
      k_steps
      unfold Hold
      show wpAny _ _ (call (Value.ref 255) _) _ _ _
      (rename News _ _ _ _ => NN)
      (rename Fr _ _ _ _ => FF)
      refine' t_refuse (pre := [(ck + 1, ost), (ck, ok), (ml, PySem.W.listOf tms.toArray ep1)]) (adr := [ck + 1, ck, ml]) XB TB B FF X NN T rfl (by omega) (by ktr_units) S.Y S.RO S.W (S.pre _ _ _) (S.kept _ _ _) O hk htk ?ret
      case ret =>
        intro wl' h' tk' F' N' W' O' kp
        replace N' : News h₀ L h' ((ck + 1, ost) :: (ck, ok) :: (ml, PySem.W.listOf tms.toArray ep1) :: wl') := N'
        clear NN FF htl w1 w2 O
        k_steps
        (rename News _ _ _ _ => NN)
        (rename Fr _ _ _ _ => FF)
        exact ret0 rfl htk _ _ _ wl' FF ⟨rfl, rfl, rfl, rfl, ⟨_, rfl⟩, ⟨_, rfl⟩⟩ rfl rfl NN (S.next S.RO W' O' kp (S.rows.mono kp) S.tn S.tm) kp
end
end Mine
end

section
open PySem PySem.W PySem.Spec PySem.Calls PyProof.Rows PyProof.Rows.LCg PyProof.Rows.LCt
namespace Mine
set_option maxRecDepth 100000

/-- one turn of the law, on rows -/
def Step (n : Int) (rows : List Row) (now c : Int) (tv : Nat → Option Int) (rows' : List Row) (now' c' : Int) (tv' : Nat → Option Int) : Prop :=
  (n.fmod 6 = 2 ∧ rows' = rows ∧ now' = now ∧ c' = c ∧ tv' = tv) ∨
  (∃ k v, k < 7 ∧ ((n.fmod 6 = 0 ∧ v = (n.fdiv 42).fmod 2000) ∨ (n.fmod 6 = 1 ∧ v = now + (n.fdiv 42).fmod 2000) ∨ (n.fmod 6 = 2 ∧ tv k = some v)) ∧ rows' = (rows.filter fun r => r.2.2 != k) ++ [(v, c, k)] ∧ now' = now ∧ c' = c + 1 ∧ tv' = upd tv k v) ∨
  (n.fmod 6 = 3 ∧ (∃ k, rows' = rows.filter fun r => r.2.2 != k) ∧ now' = now ∧ c' = c ∧ tv' = tv) ∨
  (n.fmod 6 = 4 ∧ rows' = rows ∧ now' = now + (n.fdiv 42).fmod 2000 ∧ c' = c ∧ tv' = tv) ∨
  (n.fmod 6 = 5 ∧ ((∃ r0, (r0 :: rows').Perm rows) ∨ (rows' = rows ∧ ∀ r ∈ rows, now < r.1)) ∧ now' = now ∧ c' = c ∧ tv' = tv)

section
variable {w : World} {mean : ExcName → Option Value} {mg mb : Str → Option Value} {dp un : Nat} {gd : Option (List Code)} {cn : Str} {a : Addr} {ccd : Value} {A₀ : Around} {base h₀ : Heap} {L : Addr} {m : Str → Option Value} {s : Shared}
  {Q : Flow → Shared → Prop} {E : Value → Shared → Prop} {y : Lay} {now c : Int} {tv : Nat → Option Int} {wl : List (Addr × Obj)} {k : Nat}

/-- what a turn leaves -/
def TurnRet (w : World) (y : Lay) (tl ml ck : Addr) (n now c : Int) (R : List Ent) (tv : Nat → Option Int) (ep1 : Nat) (wl : List (Addr × Obj)) (h₀ : Heap) (L : Addr) (s : Shared) (Q : Flow → Shared → Prop) : Prop :=
  ∀ h' tk' m' wl' rl' R' now' c' tv' tms' ok' ost' kv' sv', Step n (R.map rowOf) now c tv (R'.map rowOf) now' c' tv' → Fr h₀ L h' m' → LawM m' y.mgr tl ml rl' now' c' →
    News h₀ L h' ((ck + 1, ost') :: (ck, ok') :: (ml, PySem.W.listOf tms'.toArray ep1) :: wl') → ok'.data = .cell kv' → ost'.data = .cell sv' →
    St w y tl ml rl' ck now' c' R' tv' tms' wl' → (∀ p ∈ wl, Off y p.1 → p ∈ wl') → Q .next { s with heap := h', toks := tk' }
local macro_rules | `(tactic| k_mem) => `(tactic| first | assumption | exact List.Mem.head _ | (refine List.Mem.tail _ ?_; k_mem))
local macro_rules | `(tactic| k_room) => `(tactic| ktr_room)
local macro_rules | `(tactic| walk_at "execs cons") => `(tactic| (first
  | (with_reducible show wpAny _ _ (execs (Stmt.Assign _ (Expr.IfExp _ _ _ _) _ :: _) _) _ _ _)
  | (with_reducible show wpAny _ _ (execs (Stmt.Expr _ _ :: Stmt.Assign _ _ _ :: []) _) _ _ _)
  | (with_reducible show wpAny _ _ (execs (Stmt.Assign (Expr.Tuple _ _ _ :: []) _ _ :: _) _) _ _ _)
  | (with_reducible show wpAny _ _ (execs (Stmt.Assign _ (Expr.ListComp _ _ _ _) _ :: Stmt.If _ _ _ _ :: []) _) _ _ _)); refine Hold.mk ?_)

set_option maxHeartbeats 8000000 in
theorem l_turn {b : List Stmt} {sc : Scope} {n : Int} {tn : Tok} {tl ml rl ck : Addr} {ok ost : Obj} {kv sv : Option Value} {tms : List Value} {ep1 : Nat} {R : List Ent} (hl : LawIs w.params b sc)
    (XB : (hd.heap_39 w.params).In base) (TB : Top hd.view_39 Lo0 mean mg mb base) (B : Below A₀ base [] h₀) (F : Fr h₀ L s.heap (fun z => if z = Str.ofString "n" then some (.int n tn) else m z)) (X : (hd.heap_39 w.params).In h₀) (T : Top hd.view_39 Lo0 mean mg mb h₀) (hd : dp + 19 < recursionLimit) (hu : un + 190 < cLine)
    (N : News h₀ L s.heap ((ck + 1, ost) :: (ck, ok) :: (ml, PySem.W.listOf tms.toArray ep1) :: wl)) (hok : ok.data = .cell kv) (host : ost.data = .cell sv) (c1 : c + 1 < 1000)
    (M : LawM m y.mgr tl ml rl now c) (S : St w y tl ml rl ck now c R tv tms wl) (ret : TurnRet w y tl ml ck n now c R tv ep1 wl h₀ L s Q) :
    wpAny (model PySem.Challenge.rw_vs0001_01.row.prog w) (ktrTop dp un gd cn sc L a ccd (cellsFrom ck sc.names []) []) (execs (loopOf b) (envX cn sc L a ccd (cellsFrom ck sc.names []))) Q E s := by
  obtain ⟨rfl, rfl⟩ := hl
  have hl : LawIs w.params (lawBody w.params) (lawScope w.params) := ⟨rfl, rfl⟩
  have O := S.O
  have cml := S.cm
  revert X XB
  k_fill
  intro XB X
  revert hl
  refine' law_at (P := fun b sc => LawIs w.params b sc → wpAny (model PySem.Challenge.rw_vs0001_01.row.prog w) (ktrTop dp un gd cn sc L a ccd (cellsFrom ck sc.names []) []) (execs (loopOf b) (envX cn sc L a ccd (cellsFrom ck sc.names []))) Q E s) ?h ?_
  case h => k_is
  intro hl
  dsimp only [loopOf]
  obtain ⟨k, hk, hke⟩ : ∃ k : Nat, k < 7 ∧ (n.fdiv 6).fmod 7 = (k : Int) := by
    have h1 := Int.fmod_nonneg_of_pos (n.fdiv 6) (show (0 : Int) < 7 by decide)
    have h2 := Int.fmod_lt_of_pos (n.fdiv 6) (show (0 : Int) < 7 by decide)
    exact ⟨((n.fdiv 6).fmod 7).toNat, by omega, by omega⟩
  have hn0 := Int.fmod_nonneg_of_pos n (show (0 : Int) < 6 by decide)
  have hn6 := Int.fmod_lt_of_pos n (show (0 : Int) < 6 by decide)
  k_steps
  · unfold Hold
    (rename News _ _ _ _ => NN)
    (rename Fr _ _ _ _ => FF)
    (rename _ = Data.cell (some (Value.int _ _)) => hc)
    (rename n.fmod 6 < 3 => h3)
    rw [hke] at hc
    refine l_inst hl XB TB B FF X T hd hu NN hc host hk c1 rfl rfl ⟨M.mgr, M.tl, M.ml, M.rl, M.now, M.c⟩ S (by omega) ?_ ?_
    · intro hkd htv h' tk' m' wl' F' M' hkd' hx' N' S' kp
      k_steps
      unfold Hold
      exact l_tail hl B F' X T hd hu N' hc host hkd' hx' M' S' fun h2 tk2 m2 ost2 sv2 F2 M2 N2 ho2 => ret _ _ _ _ _ R now c tv tms _ _ _ _ (.inl ⟨hkd, rfl, rfl, rfl, rfl⟩) F2 M2 N2 hc ho2 S' kp
    · intro v hv rl' ra t tms' h' tk' m' wl' F' M' hkd' hx' N' S' kp
      k_steps
      unfold Hold
      exact l_tail hl B F' X T hd hu N' hc host hkd' hx' M' S' fun h2 tk2 m2 ost2 sv2 F2 M2 N2 ho2 => ret _ _ _ _ _ _ now (c + 1) _ _ _ _ _ _ (.inr (.inl ⟨k, v, hk, hv, rows_add, rfl, rfl, rfl⟩)) F2 M2 N2 hc ho2 S' kp
  · unfold Hold
    (rename News _ _ _ _ => NN)
    (rename Fr _ _ _ _ => FF)
    (rename _ = Data.cell (some (Value.int _ _)) => hc)
    (rename n.fmod 6 = 3 => h3)
    rw [hke] at hc
    refine l_susp hl B FF X T hd hu NN hc host hk rfl rfl ⟨M.mgr, M.tl, M.ml, M.rl, M.now, M.c⟩ S ?_
    intro rl' h' tk' m' wl' F' M' hkd' hx' N' S' kp
    k_steps
    unfold Hold
    exact l_tail hl B F' X T hd hu N' hc host hkd' hx' M' S' fun h2 tk2 m2 ost2 sv2 F2 M2 N2 ho2 => ret _ _ _ _ _ _ now c tv _ _ _ _ _ (.inr (.inr (.inl ⟨h3, ⟨k, without_rows⟩, rfl, rfl, rfl⟩))) F2 M2 N2 hc ho2 S' kp
  · unfold Hold
    (rename News _ _ _ _ => NN)
    (rename Fr _ _ _ _ => FF)
    (rename _ = Data.cell (some (Value.int _ _)) => hc)
    (rename n.fmod 6 = 4 => h3)
    refine l_pass hl B FF X T hd hu NN hc host rfl rfl ⟨M.mgr, M.tl, M.ml, M.rl, M.now, M.c⟩ S ?_
    intro h' tk' m' wl' F' M' hkd' hx' N' S' kp
    k_steps
    unfold Hold
    exact l_tail hl B F' X T hd hu N' hc host hkd' hx' M' S' fun h2 tk2 m2 ost2 sv2 F2 M2 N2 ho2 => ret _ _ _ _ _ _ _ c tv _ _ _ _ _ (.inr (.inr (.inr (.inl ⟨h3, rfl, rfl, rfl, rfl⟩)))) F2 M2 N2 hc ho2 S' kp
  · unfold Hold
    (rename News _ _ _ _ => NN)
    (rename Fr _ _ _ _ => FF)
    (rename _ = Data.cell (some (Value.int _ _)) => hc)
    refine l_next hl B FF X T hd hu NN hc host rfl rfl ⟨M.mgr, M.tl, M.ml, M.rl, M.now, M.c⟩ S ?_
    intro rl' R' hR h' tk' m' wl' F' M' hkd' hx' N' S' kp
    k_steps
    unfold Hold
    refine l_tail hl B F' X T hd hu N' hc host hkd' hx' M' S' fun h2 tk2 m2 ost2 sv2 F2 M2 N2 ho2 => ret _ _ _ _ _ _ now c tv _ _ _ _ _ (.inr (.inr (.inr (.inr ⟨by omega, ?_, rfl, rfl, rfl⟩)))) F2 M2 N2 hc ho2 S' kp
    obtain ⟨Rs, pRs, sRs, h⟩ := hR
    rcases h with ⟨e0, rfl, _⟩ | ⟨rfl, h⟩
    · exact .inl ⟨rowOf e0, by have := pRs.map rowOf; rwa [List.map_cons] at this⟩
    · exact .inr ⟨rfl, fun r hr => by obtain ⟨e, he, rfl⟩ := List.mem_map.mp hr; exact h e he⟩
end
end Mine
end

section
open PySem PySem.W PyProof.Rows
namespace Mine
set_option maxRecDepth 100000

/-- what the end of the script does -/
def tailNs : List Int := [83962, 5, 5, 5, 5, 5, 5, 5, 5]
structure Inv (N i : Nat) (rows : List Row) (now c : Int) (tv : Nat → Option Int) : Prop where
  ci : c ≤ i
  n0 : 0 ≤ now
  w1 : ∀ r ∈ rows, r.1 ≤ now + 1999
  w2 : ∀ k v, tv k = some v → v ≤ now + 1999
  p1 : N < i → ∀ r ∈ rows, r.1 ≤ now
  p2 : N < i → rows.length ≤ 7 - (i - (N + 1))

theorem Inv.base {N i : Nat} {rows rows' : List Row} {now c now' c' : Int} {tv tv' : Nat → Option Int} {n : Int} (I : Inv N i rows now c tv) (S : Step n rows now c tv rows' now' c' tv') :
    c' ≤ (i + 1 : Nat) ∧ 0 ≤ now' ∧ (∀ r ∈ rows', r.1 ≤ now' + 1999) ∧ (∀ k v, tv' k = some v → v ≤ now' + 1999) := by
  have hc := I.ci
  have n0 := I.n0
  have x0 := Int.fmod_nonneg_of_pos (n.fdiv 42) (show (0 : Int) < 2000 by decide)
  have x1 := Int.fmod_lt_of_pos (n.fdiv 42) (show (0 : Int) < 2000 by decide)
  rcases S with ⟨_, rfl, rfl, rfl, rfl⟩ | ⟨k, v, hk, hv, rfl, rfl, rfl, rfl⟩ | ⟨_, ⟨k, rfl⟩, rfl, rfl, rfl⟩ | ⟨_, rfl, rfl, rfl, rfl⟩ | ⟨_, h, rfl, rfl, rfl⟩
  · exact ⟨by omega, n0, I.w1, I.w2⟩
  · have hb : v ≤ now' + 1999 := by
      rcases hv with ⟨_, rfl⟩ | ⟨_, rfl⟩ | ⟨_, h⟩
      · omega
      · omega
      · exact I.w2 k v h
    refine ⟨by omega, n0, fun r hr => ?_, fun j u hu => ?_⟩
    · rcases List.mem_append.mp hr with hr | hr
      · exact I.w1 r (List.mem_filter.mp hr).1
      · rw [List.mem_singleton.mp hr]; exact hb
    · unfold upd at hu
      by_cases e : j = k
      · rw [if_pos e] at hu
        rw [← Option.some.inj hu]; exact hb
      · rw [if_neg e] at hu
        exact I.w2 j u hu
  · exact ⟨by omega, n0, fun r hr => I.w1 r (List.mem_filter.mp hr).1, I.w2⟩
  · exact ⟨by omega, by omega, fun r hr => by have := I.w1 r hr; omega, fun k v h => by have := I.w2 k v h; omega⟩
  · refine ⟨by omega, n0, fun r hr => ?_, I.w2⟩
    rcases h with ⟨r0, p⟩ | ⟨rfl, _⟩
    · exact I.w1 r (p.mem_iff.mp (List.mem_cons_of_mem _ hr))
    · exact I.w1 r hr

theorem Inv.step {nums : List Int} {i : Nat} {rows rows' : List Row} {now c now' c' : Int} {tv tv' : Nat → Option Int} {n : Int} (hn : (nums ++ tailNs)[i]? = some n) (I : Inv nums.length i rows now c tv) (h7 : rows.length ≤ 7) (S : Step n rows now c tv rows' now' c' tv') :
    Inv nums.length (i + 1) rows' now' c' tv' := by
  obtain ⟨b1, b0, b2, b3⟩ := I.base S
  by_cases hlt : i < nums.length
  · exact ⟨b1, b0, b2, b3, fun h => by omega, fun h => by omega⟩
  · rw [List.getElem?_append_right (by omega)] at hn
    by_cases he : i = nums.length
    · have e0 : i - nums.length = 0 := by omega
      rw [e0] at hn
      obtain rfl : 83962 = n := Option.some.inj hn
      rcases S with ⟨h, _⟩ | ⟨k, v, hk, hv, _⟩ | ⟨h, _⟩ | ⟨_, rfl, rfl, rfl, rfl⟩ | ⟨h, _⟩
      · exact absurd h (by decide)
      · rcases hv with ⟨h, _⟩ | ⟨h, _⟩ | ⟨h, _⟩ <;> exact absurd h (by decide)
      · exact absurd h (by decide)
      · refine ⟨b1, b0, b2, b3, fun _ r hr => ?_, fun _ => by omega⟩
        have := I.w1 r hr
        have e : ((83962 : Int).fdiv 42).fmod 2000 = 1999 := by decide
        omega
      · exact absurd h (by decide)
    · have hj : ∃ j, i - nums.length = j + 1 := ⟨i - nums.length - 1, by omega⟩
      obtain ⟨j, hj⟩ := hj
      rw [hj] at hn
      have h5 : n = 5 ∧ j < 8 := by
        match j, hn with
        | 0, hn | 1, hn | 2, hn | 3, hn | 4, hn | 5, hn | 6, hn | 7, hn => exact ⟨(Option.some.inj hn).symm, by omega⟩
        | j + 8, hn => simp [tailNs] at hn
      obtain ⟨rfl, hj8⟩ := h5
      have q1 := I.p1 (by omega)
      have q2 := I.p2 (by omega)
      rcases S with ⟨h, _⟩ | ⟨k, v, hk, hv, _⟩ | ⟨h, _⟩ | ⟨h, _⟩ | ⟨_, h, rfl, rfl, rfl⟩
      · exact absurd h (by decide)
      · rcases hv with ⟨h, _⟩ | ⟨h, _⟩ | ⟨h, _⟩ <;> exact absurd h (by decide)
      · exact absurd h (by decide)
      · exact absurd h (by decide)
      · rcases h with ⟨r0, p⟩ | ⟨rfl, late⟩
        · have hl := p.length_eq
          rw [List.length_cons] at hl
          exact ⟨b1, b0, b2, b3, fun _ r hr => q1 r (p.mem_iff.mp (List.mem_cons_of_mem _ hr)), fun _ => by omega⟩
        · have : rows' = [] := by
            rcases rows' with _ | ⟨r, t⟩
            · rfl
            · have g1 := q1 r List.mem_cons_self
              have g2 := late r List.mem_cons_self
              omega
          subst this
          exact ⟨b1, b0, b2, b3, fun _ r hr => (nomatch hr), fun _ => Nat.zero_le _⟩
theorem Inv.end {nums : List Int} {rows : List Row} {now c : Int} {tv : Nat → Option Int} (I : Inv nums.length (nums ++ tailNs).length rows now c tv) : rows = [] := by
  have hl : (nums ++ tailNs).length = nums.length + 9 := by simp [tailNs]
  have h := I.p2 (by omega)
  have : rows.length = 0 := by omega
  exact List.length_eq_zero_iff.mp this
end Mine
end

section
open PySem PySem.W PySem.Spec PySem.Calls PyProof.Rows PyProof.Rows.LCg PyProof.Rows.LCt
namespace Mine
set_option maxRecDepth 100000

def endOf : List Stmt → List Stmt
  | _ :: _ :: _ :: _ :: _ :: _ :: _ :: _ :: t => t
  | _ => []

abbrev NoIt (p : Addr × Obj) : Prop := p.2.cls ≠ .type "list_iterator"
theorem WL.monoC {w : World} {y : Lay} {now c : Int} {rows : List Row} {tv : Nat → Option Int} {wl wl' : List (Addr × Obj)} (W : WL w y now c rows tv wl) (k : ∀ p ∈ wl, NoIt p → p ∈ wl') : WL w y now c rows tv wl' where
  mgr := k _ W.mgr (by simp [NoIt])
  mgrD := let ⟨a, b, c, d, h⟩ := W.mgrD; ⟨a, b, c, d, k _ h (by simp [NoIt])⟩
  hl := let ⟨es, ep, h, p, G, f⟩ := W.hl; ⟨es, ep, k _ h (by simp [NoIt]), p, ⟨fun e he => let ⟨a, b, c, hm⟩ := G.tup e he; ⟨a, b, c, k _ hm (by simp [NoIt])⟩, G.rng, G.nod, G.sz⟩, f⟩
  cnt := let ⟨a, b, h⟩ := W.cnt; ⟨a, b, k _ h (by simp [NoIt])⟩
  cd := k _ W.cd (by simp [NoIt])
  tk := fun i hi => k _ (W.tk i hi) (by simp [NoIt])
  tkD := fun i hi => let ⟨a, b, c, v, h1, h2⟩ := W.tkD i hi; ⟨a, b, c, v, h1, k _ h2 (by simp [NoIt])⟩
theorem RowsL.monoC {y : Lay} {rl : Addr} {R : List Ent} {wl wl' : List (Addr × Obj)} (h : RowsL y rl R wl) (k : ∀ p ∈ wl, NoIt p → p ∈ wl') : RowsL y rl R wl' :=
  ⟨let ⟨ep, hm⟩ := h.lst; ⟨ep, k _ hm (by simp [NoIt])⟩, h.hi, fun e he => let ⟨a, b, c, hm⟩ := h.tup e he; ⟨a, b, c, k _ hm (by simp [NoIt])⟩, h.thi, h.x⟩
/-- the ledger without the loop's iterator -/
def dropI (I : Addr) (wl : List (Addr × Obj)) : List (Addr × Obj) := wl.filter fun p => decide (p.1 ≠ I)
theorem mem_dropI {I : Addr} {wl : List (Addr × Obj)} {p : Addr × Obj} : p ∈ dropI I wl ↔ p ∈ wl ∧ p.1 ≠ I := by unfold dropI; simp
theorem keep_dropI {h₀ h : Heap} {L I : Addr} {oI : Obj} {wl news : List (Addr × Obj)} (N : News h₀ L h news) (sub : ∀ p ∈ wl, p ∈ news) (hI : (I, oI) ∈ wl) (hc : oI.cls = .type "list_iterator") : ∀ p ∈ wl, NoIt p → p ∈ dropI I wl :=
  fun p hp hn => mem_dropI.mpr ⟨hp, fun e => hn (by
    have h1 := (N _ (sub _ hp)).1
    have h2 := (N _ (sub _ hI)).1
    rw [e, h2] at h1
    rw [← Option.some.inj h1]
    exact hc)⟩
theorem St.dropI {w : World} {y : Lay} {tl ml rl ck I : Addr} {now c : Int} {R : List Ent} {tv : Nat → Option Int} {tms : List Value} {wl : List (Addr × Obj)} (S : St w y tl ml rl ck now c R tv tms wl) (k : ∀ p ∈ wl, NoIt p → p ∈ dropI I wl) : St w y tl ml rl ck now c R tv tms (dropI I wl) :=
  ⟨S.Y, S.RO, S.W.monoC k, fun p hp => S.O p (mem_dropI.mp hp).1, S.away, S.cm, ⟨let ⟨ep, h⟩ := S.tl.1; ⟨ep, k _ h (by simp [NoIt])⟩, S.tl.2⟩, S.rows.monoC k, S.tn, S.tm⟩
theorem St.push {w : World} {y : Lay} {tl ml rl ck I : Addr} {oI : Obj} {now c : Int} {R : List Ent} {tv : Nat → Option Int} {tms : List Value} {wl : List (Addr × Obj)} (S : St w y tl ml rl ck now c R tv tms wl) (h : ∀ b ∈ [ck + 1, ck, ml], I ≠ b) : St w y tl ml rl ck now c R tv tms ((I, oI) :: wl) :=
  S.next S.RO (S.W.mono fun p hp => List.mem_cons_of_mem _ hp) (off_cons S.O h) (fun p hp _ => List.mem_cons_of_mem _ hp) (S.rows.mono fun p hp _ => List.mem_cons_of_mem _ hp) S.tn S.tm

/-- what holds before each turn -/
def LoopJ (w : World) (y : Lay) (tl ml ck nl : Addr) (its : Array Value) (epl ep1 N : Nat) (i : Nat) (m : Str → Option Value) (news : List (Addr × Obj)) : Prop :=
  ∃ rl R now c tv tms ok ost kv sv wl, news = (ck + 1, ost) :: (ck, ok) :: (ml, PySem.W.listOf tms.toArray ep1) :: wl ∧ ok.data = .cell kv ∧ ost.data = .cell sv ∧ LawM m y.mgr tl ml rl now c ∧ St w y tl ml rl ck now c R tv tms wl ∧
    Inv N i (R.map rowOf) now c tv ∧ (nl, PySem.W.listOf its epl) ∈ wl ∧ Off y nl

section
variable {w : World} {mean : ExcName → Option Value} {mg mb : Str → Option Value} {dp un : Nat} {gd : Option (List Code)} {cn : Str} {a : Addr} {ccd : Value} {A₀ : Around} {base h₀ : Heap} {L : Addr} {m : Str → Option Value} {s : Shared}
  {Q : Flow → Shared → Prop} {E : Value → Shared → Prop} {y : Lay} {now c : Int} {tv : Nat → Option Int} {wl : List (Addr × Obj)} {k : Nat}
local macro_rules | `(tactic| k_mem) => `(tactic| first | assumption | exact List.Mem.head _ | (refine List.Mem.tail _ ?_; k_mem))
local macro_rules | `(tactic| k_room) => `(tactic| ktr_room)
local macro_rules | `(tactic| walk_at "pyIter ref") => `(tactic| refine Hold.mk ?_)
local macro_rules | `(tactic| walk_at "call ref") => `(tactic| refine Hold.mk ?_)
local macro_rules | `(tactic| walk_at "binaryOp Add ref ref") => `(tactic| (k_dflt (refine' add_led ?F ?N ?a ?b ?_ ?z; (case F => k_asm); (case N => k_asm); (case a => k_mem); (case b => k_mem); (case z => (simp only [List.length_nil, List.length_cons, List.length_map]; omega))); intro D' h' F' N' l1; (try k_lt l1); (try k_sweep)))

set_option maxHeartbeats 8000000 in
theorem loop_law {b : List Stmt} {sc : Scope} {nums : List Int} {its : List Value} {D lx : Addr} {ox : Obj} {tl ml rl ck : Addr} {ok ost : Obj} {kv sv : Option Value} {tms : List Value} {ep1 : Nat} {R : List Ent} (hl : LawIs w.params b sc)
    (hx : (envX cn sc L a ccd (cellsFrom ck sc.names [])).kindOf (Str.ofString "n") = some .local)
    (XB : (hd.heap_39 w.params).In base) (TB : Top hd.view_39 Lo0 mean mg mb base) (B : Below A₀ base [] h₀) (F : Fr h₀ L s.heap m) (X : (hd.heap_39 w.params).In h₀) (T : Top hd.view_39 Lo0 mean mg mb h₀) (hd : dp + 19 < recursionLimit) (hu : un + 190 < cLine)
    (N : News h₀ L s.heap ((D, PySem.W.listOf its.toArray 0) :: (lx, ox) :: (ck + 1, ost) :: (ck, ok) :: (ml, PySem.W.listOf tms.toArray ep1) :: wl)) (hok : ok.data = .cell kv) (host : ost.data = .cell sv)
    (hI : IntsAre its (nums ++ tailNs)) (hlen : nums.length ≤ 16) (l1 : @LT.lt Nat _ (ck + 1) D) (l2 : @LT.lt Nat _ ck D) (l3 : @LT.lt Nat _ ml D) (lD : AllLt D wl)
    (M : LawM m y.mgr tl ml rl now c) (S : St w y tl ml rl ck now c R tv tms wl) (I0 : Inv nums.length 0 (R.map rowOf) now c tv)
    (done : ∀ h' tk' m' wl' rl' R' now' c' tv' tms' ok' ost' kv' sv', Fr h₀ L h' m' → LawM m' y.mgr tl ml rl' now' c' → News h₀ L h' ((ck + 1, ost') :: (ck, ok') :: (ml, PySem.W.listOf tms'.toArray ep1) :: wl') → ok'.data = .cell kv' → ost'.data = .cell sv' →
      St w y tl ml rl' ck now' c' R' tv' tms' wl' → R'.map rowOf = [] → Q .next { s with heap := h', toks := tk' }) :
    wpAny (model PySem.Challenge.rw_vs0001_01.row.prog w) (ktrTop dp un gd cn sc L a ccd (cellsFrom ck sc.names []) []) (pyIter (.ref D)) (fun it s₂ => LoopAtV PySem.Challenge.rw_vs0001_01.row.prog w (ktrTop dp un gd cn sc L a ccd (cellsFrom ck sc.names []) []) h₀ (envX cn sc L a ccd (cellsFrom ck sc.names [])) (Str.ofString "n") (loopOf b) Q E it s₂) E s := by
  have N3 : News h₀ L s.heap ((ck + 1, ost) :: (ck, ok) :: (ml, PySem.W.listOf tms.toArray ep1) :: (D, PySem.W.listOf its.toArray 0) :: wl) := fun p hp => N p (by
    simp only [List.mem_cons] at hp ⊢
    rcases hp with h | h | h | h | h <;> simp [h])
  have hsz : its.toArray.size = (nums ++ tailNs).length := by rw [List.size_toArray, hI.length]
  refine iter_law (LoopJ w y tl ml ck D its.toArray 0 ep1 nums.length) rfl F N3 (List.Mem.tail _ (List.Mem.tail _ (List.Mem.tail _ (List.Mem.head _)))) ?_ ?_ ?_ ?_
  · rintro i m₁ nw ⟨rl, R, now, c, tv, tms, ok, ost, kv, sv, wl, rfl, _, _, _, _, _, h, _⟩
    exact List.mem_cons_of_mem _ (List.mem_cons_of_mem _ (List.mem_cons_of_mem _ h))
  · refine ⟨rl, R, now, c, tv, tms, ok, ost, kv, sv, _, rfl, hok, host, M, S.push (fun b hb => ?_), I0, List.mem_cons_self, off_of S.W fun p hp => Nat.ne_of_lt (allLt_mem lD p hp)⟩
    simp only [List.mem_cons, List.not_mem_nil, or_false] at hb
    rcases hb with rfl | rfl | rfl
    · exact (Nat.ne_of_lt l1).symm
    · exact (Nat.ne_of_lt l2).symm
    · exact (Nat.ne_of_lt l3).symm
  · rintro i v m₁ news₁ h tk I oI hcI hit ⟨rl, R, now, c, tv, tms, ok, ost, kv, sv, wl, rfl, hok, host, M, S, Iv, hnl, offnl⟩ _ hne F₁ N₁
    have hit' : its[i]? = some v := by simpa using hit
    have hil : i < its.length := by
      by_cases e : i < its.length
      · exact e
      · rw [List.getElem?_eq_none (by omega)] at hit'; cases hit'
    have hil' : i < (nums ++ tailNs).length := by rw [← hI.length]; exact hil
    obtain ⟨t, hv⟩ := hI.get i (nums ++ tailNs)[i] (List.getElem?_eq_getElem hil')
    obtain rfl : v = .int (nums ++ tailNs)[i] t := by rw [hit'] at hv; exact Option.some.inj hv
    have hc1 : c + 1 < 1000 := by
      have := Iv.ci
      have e : (nums ++ tailNs).length = nums.length + 9 := by simp [tailNs]
      omega
    have hIb : ∀ b ∈ [ck + 1, ck, ml], I ≠ b := fun b hb => by
      simp only [List.mem_cons, List.not_mem_nil, or_false] at hb
      rcases hb with rfl | rfl | rfl
      · exact (hne _ List.mem_cons_self).symm
      · exact (hne _ (List.mem_cons_of_mem _ List.mem_cons_self)).symm
      · exact (hne _ (List.mem_cons_of_mem _ (List.mem_cons_of_mem _ List.mem_cons_self))).symm
    have offI : Off y I := off_of S.W fun p hp => hne p (List.mem_cons_of_mem _ (List.mem_cons_of_mem _ (List.mem_cons_of_mem _ hp)))
    refine l_turn hl XB TB B F₁ X T hd hu (news_up N₁) hok host hc1 M (S.push hIb) ?_
    intro h' tk' m' wl' rl' R' now' c' tv' tms' ok' ost' kv' sv' hstep F' M' N' hok' host' S' kp
    have hIm : (I, oI) ∈ wl' := kp _ List.mem_cons_self offI
    have hnl' := kp _ (List.mem_cons_of_mem _ hnl) offnl
    have kd := keep_dropI N' (fun p hp => List.mem_cons_of_mem _ (List.mem_cons_of_mem _ (List.mem_cons_of_mem _ hp))) hIm hcI
    show ∃ h' tk m' news', _
    refine ⟨h', tk', m', (ck + 1, ost') :: (ck, ok') :: (ml, PySem.W.listOf tms'.toArray ep1) :: dropI I wl', rfl, F', fun p hp => N' p ?_, fun p hp => ?_, rl', R', now', c', tv', tms', ok', ost', kv', sv', dropI I wl', rfl, hok', host', M', S'.dropI kd, Iv.step (List.getElem?_eq_getElem hil') S.RO.len hstep, kd _ hnl' (by simp [NoIt]), offnl⟩
    · simp only [List.mem_cons] at hp ⊢
      rcases hp with rfl | h | h | h | h
      · exact .inr (.inr (.inr hIm))
      · simp [h]
      · simp [h]
      · simp [h]
      · exact .inr (.inr (.inr (mem_dropI.mp h).1))
    · simp only [List.mem_cons] at hp
      rcases hp with rfl | rfl | rfl | h
      · exact (hIb _ (by simp)).symm
      · exact (hIb _ (by simp)).symm
      · exact (hIb _ (by simp)).symm
      · exact (mem_dropI.mp h).2
  · rintro m₁ news₁ h tk ⟨rl, R, now, c, tv, tms, ok, ost, kv, sv, wl, rfl, hok, host, M, S, Iv, hnl, offnl⟩ F₁ N₁
    rw [hsz] at Iv
    exact done _ _ _ _ _ _ _ _ _ _ _ _ _ _ F₁ M N₁ hok host S Iv.end

set_option maxHeartbeats 8000000 in
theorem l_loop {b : List Stmt} {sc : Scope} {nums : List Int} {vs : List Value} {nb : Addr} {epn : Nat} {tl ml rl ck : Addr} {ok ost : Obj} {kv sv : Option Value} {tms : List Value} {ep1 : Nat} {R : List Ent} (hl : LawIs w.params b sc)
    (XB : (hd.heap_39 w.params).In base) (TB : Top hd.view_39 Lo0 mean mg mb base) (B : Below A₀ base [] h₀) (F : Fr h₀ L s.heap (fun z => if z = Str.ofString "numbers" then some (.ref nb) else m z)) (X : (hd.heap_39 w.params).In h₀) (T : Top hd.view_39 Lo0 mean mg mb h₀) (hd : dp + 19 < recursionLimit) (hu : un + 190 < cLine)
    (N : News h₀ L s.heap ((ck + 1, ost) :: (ck, ok) :: (ml, PySem.W.listOf tms.toArray ep1) :: wl)) (hok : ok.data = .cell kv) (host : ost.data = .cell sv)
    (hnb : (nb, PySem.W.listOf vs.toArray epn) ∈ wl) (hvs : IntsAre vs nums) (hlen : vs.length ≤ 16)
    (M : LawM m y.mgr tl ml rl now c) (S : St w y tl ml rl ck now c R tv tms wl) (I0 : Inv nums.length 0 (R.map rowOf) now c tv)
    (hE : PassesOwn (model PySem.Challenge.rw_vs0001_01.row.prog w) (ktrTop dp un gd cn sc L a ccd (cellsFrom ck sc.names []) []) (envX cn sc L a ccd (cellsFrom ck sc.names [])) E)
    (ret : ∀ h' tk' m', Fr h₀ L h' m' → Q (.ret (.bool true)) { s with heap := h', toks := tk' }) :
    wpAny (model PySem.Challenge.rw_vs0001_01.row.prog w) (ktrTop dp un gd cn sc L a ccd (cellsFrom ck sc.names []) []) (execs (endOf b) (envX cn sc L a ccd (cellsFrom ck sc.names []))) Q E s := by
  obtain ⟨rfl, rfl⟩ := hl
  have hl : LawIs w.params (lawBody w.params) (lawScope w.params) := ⟨rfl, rfl⟩
  have O := S.O
  have cml := S.cm
  revert X XB
  k_fill
  intro XB X
  revert hl hE
  refine' law_at (P := fun b sc => PassesOwn (model PySem.Challenge.rw_vs0001_01.row.prog w) (ktrTop dp un gd cn sc L a ccd (cellsFrom ck sc.names []) []) (envX cn sc L a ccd (cellsFrom ck sc.names [])) E → LawIs w.params b sc → wpAny (model PySem.Challenge.rw_vs0001_01.row.prog w) (ktrTop dp un gd cn sc L a ccd (cellsFrom ck sc.names []) []) (execs (endOf b) (envX cn sc L a ccd (cellsFrom ck sc.names []))) Q E s) ?h ?_
  case h => k_is
  intro hE hl
  dsimp only [endOf]
  refine wpAny_execs_cons ?_
  refine For_invV (hE := hE) h₀ rfl rfl ?_
  k_steps
  unfold Hold
  (rename News _ _ _ _ => NN)
  (rename Fr _ _ _ _ => FF)
  (rename @LT.lt Nat _ _ _ ∧ @LT.lt Nat _ _ _ ∧ @LT.lt Nat _ _ _ ∧ @LT.lt Nat _ _ _ ∧ AllLt _ _ => lD)
  have hsz : nums.length ≤ 16 := by rw [← hvs.length]; exact hlen
  refine loop_law hl rfl XB TB B FF X T hd hu NN hok host (hvs.append ?_) hsz lD.2.1 lD.2.2.1 lD.2.2.2.1 lD.2.2.2.2 ⟨M.mgr, M.tl, M.ml, M.rl, M.now, M.c⟩ S I0 ?_
  · exact .cons 83962 _ (.cons 5 _ (.cons 5 _ (.cons 5 _ (.cons 5 _ (.cons 5 _ (.cons 5 _ (.cons 5 _ (.cons 5 _ .nil))))))))
  · intro h' tk' m' wl' rl' R' now' c' tv' tms' ok' ost' kv' sv' F' M' N' hok' host' S' hR'
    have hm' : m' = fun z => if z = Str.ofString "manager" then some (.ref y.mgr) else m' z := by
      funext z
      by_cases e : z = Str.ofString "manager"
      · rw [if_pos e, e]; exact M'.mgr
      · rw [if_neg e]
    rw [hm'] at F'
    have w1 := S'.W.mgr
    obtain ⟨u1, u2, u3, u4, w2⟩ := S'.W.mgrD
    clear NN FF
    show wpAny _ _ (execs _ _) _ _ _
    k_steps
    unfold Hold
    show wpAny _ _ (call (Value.ref 234) _) _ _ _
    (rename News _ _ _ _ => NN)
    (rename Fr _ _ _ _ => FF)
    have W0 := S'.W
    have R0 := S'.RO
    rw [hR'] at W0 R0
    refine' t_next (pre := [(ck + 1, ost'), (ck, ok'), (ml, PySem.W.listOf tms'.toArray ep1)]) (adr := [ck + 1, ck, ml]) B FF X NN T rfl (by omega) (by ktr_units) S'.Y R0 W0 (S'.pre _ _ _) (S'.kept _ _ _) S'.O List.Pairwise.nil ?ret
    case ret =>
      intro p told wait rows' wl2 h2 tk2 hnv F2 N2 W2 O2 kp2 hp2
      obtain ⟨rfl, rfl, rfl⟩ := hnv
      replace N2 : News h₀ L h2 ((p, { cls := .type "tuple", data := .seq #[Value.none, Value.none] }) :: (ck + 1, ost') :: (ck, ok') :: (ml, PySem.W.listOf tms'.toArray ep1) :: wl2) := N2
      clear NN FF w1 w2
      k_steps
      exact ret _ _ _ (by assumption)
end
end Mine
end

section
open PySem PySem.W PySem.Spec PySem.Calls PyProof.Rows PyProof.Rows.LCg PyProof.Rows.LCt
namespace Mine
set_option maxRecDepth 100000

section
variable {w : World} {mean : ExcName → Option Value} {mg mb : Str → Option Value} {dp un : Nat} {gd : Option (List Code)} {cn : Str} {a : Addr} {ccd : Value} {A₀ : Around} {base h₀ : Heap} {L : Addr} {m : Str → Option Value} {s : Shared}
  {Q : Flow → Shared → Prop} {E : Value → Shared → Prop} {y : Lay} {now c : Int} {tv : Nat → Option Int} {wl : List (Addr × Obj)} {k : Nat}
local macro_rules | `(tactic| k_room) => `(tactic| ktr_room)
local macro_rules | `(tactic| walk_at "execs cons") => `(tactic| ((with_reducible show wpAny _ _ (execs (Stmt.Assign _ (Expr.List _ _) _ :: Stmt.For _ _ _ _ _ :: _) _) _ _ _); refine Hold.mk ?_))

set_option maxHeartbeats 8000000 in
theorem l_pre1 {b : List Stmt} {sc : Scope} {sl : Addr} {ck : Addr} {ok ost : Obj} {kv sv : Option Value} (hl : LawIs w.params b sc)
    (XB : (hd.heap_39 w.params).In base) (TB : Top hd.view_39 Lo0 mean mg mb base) (B : Below A₀ base [] h₀) (F : Fr h₀ L s.heap (fun z => if z = Str.ofString "script" then some (.ref sl) else m z)) (X : (hd.heap_39 w.params).In h₀) (T : Top hd.view_39 Lo0 mean mg mb h₀) (hd : dp + 19 < recursionLimit) (hu : un + 190 < cLine)
    (N : News h₀ L s.heap ((ck + 1, ost) :: (ck, ok) :: [])) (hok : ok.data = .cell kv) (host : ost.data = .cell sv)
    (ret : ∀ h' tk' mgr mgrD hl cnt cd t1 t2 t3 tn k0 k2, Fr h₀ L h' (fun z => if z = Str.ofString "manager" then some (.ref mgr) else if z = Str.ofString "script" then some (.ref sl) else m z) →
      News h₀ L h' [(cnt, cntObj cd 0 k0 k2), (cd, dictOf [] 0), (hl, PySem.W.listOf #[] 0), (mgr, instObj 244 mgrD), (mgrD, mgrDict w t1 t2 t3 hl cnt 0 tn), (ck + 1, ost), (ck, ok)] →
      @LT.lt Nat _ (ck + 1) mgrD → @LT.lt Nat _ mgrD mgr → @LT.lt Nat _ mgr hl → @LT.lt Nat _ hl cd → @LT.lt Nat _ cd cnt →
      wpAny (model PySem.Challenge.rw_vs0001_01.row.prog w) (ktrTop dp un gd cn sc L a ccd (cellsFrom ck sc.names []) []) (execs (restOf b) (envX cn sc L a ccd (cellsFrom ck sc.names []))) Q E { s with heap := h', toks := tk' }) :
    wpAny (model PySem.Challenge.rw_vs0001_01.row.prog w) (ktrTop dp un gd cn sc L a ccd (cellsFrom ck sc.names []) []) (execs b (envX cn sc L a ccd (cellsFrom ck sc.names []))) Q E s := by
  obtain ⟨rfl, rfl⟩ := hl
  have hl : LawIs w.params (lawBody w.params) (lawScope w.params) := ⟨rfl, rfl⟩
  revert X XB
  k_fill
  intro XB X
  revert hl ret
  refine' law_at (P := fun b sc => (∀ h' tk' mgr mgrD hl cnt cd t1 t2 t3 tn k0 k2, Fr h₀ L h' (fun z => if z = Str.ofString "manager" then some (.ref mgr) else if z = Str.ofString "script" then some (.ref sl) else m z) →
      News h₀ L h' [(cnt, cntObj cd 0 k0 k2), (cd, dictOf [] 0), (hl, PySem.W.listOf #[] 0), (mgr, instObj 244 mgrD), (mgrD, mgrDict w t1 t2 t3 hl cnt 0 tn), (ck + 1, ost), (ck, ok)] →
      @LT.lt Nat _ (ck + 1) mgrD → @LT.lt Nat _ mgrD mgr → @LT.lt Nat _ mgr hl → @LT.lt Nat _ hl cd → @LT.lt Nat _ cd cnt →
      wpAny (model PySem.Challenge.rw_vs0001_01.row.prog w) (ktrTop dp un gd cn sc L a ccd (cellsFrom ck sc.names []) []) (execs (restOf b) (envX cn sc L a ccd (cellsFrom ck sc.names []))) Q E { s with heap := h', toks := tk' }) → LawIs w.params b sc → wpAny (model PySem.Challenge.rw_vs0001_01.row.prog w) (ktrTop dp un gd cn sc L a ccd (cellsFrom ck sc.names []) []) (execs b (envX cn sc L a ccd (cellsFrom ck sc.names []))) Q E s) ?h ?_
  case h => k_is
  intro ret hl
  dsimp only [restOf] at ret
  k_steps
  unfold Hold
  (rename News _ _ _ _ => NN)
  (rename Fr _ _ _ _ => FF)
  (rename @LT.lt Nat _ _ _ ∧ @LT.lt Nat _ _ _ ∧ @LT.lt Nat _ _ _ ∧ @LT.lt Nat _ _ _ ∧ @LT.lt Nat _ _ _ => l5)
  (rename @LT.lt Nat _ _ _ ∧ @LT.lt Nat _ _ _ ∧ @LT.lt Nat _ _ _ ∧ @LT.lt Nat _ _ _ => l4)
  (rename @LT.lt Nat _ _ _ ∧ @LT.lt Nat _ _ _ => l3)
  exact ret _ _ _ _ _ _ _ _ _ _ _ _ _ FF NN l3.1 (by assumption) l4.1 l5.1 (by assumption)
end
end Mine
end

section
open PySem PySem.W PySem.Spec PySem.Calls PyProof.Rows
namespace Mine
/-- a task's dict before its manager is set -/
abbrev taskDict0 (w : World) (u1 u2 : Tok) (tv : Value) : Obj := dictOf [ent w "taskTime" u1 tv, ent w "isScheduled" u2 (.bool false)] 2
end Mine
end

section
open PySem PySem.W PySem.Spec PySem.Calls PyProof.Rows PyProof.Rows.LCg PyProof.Rows.LCt
namespace Mine
set_option maxRecDepth 100000

section
variable {w : World} {mean : ExcName → Option Value} {mg mb : Str → Option Value} {dp un : Nat} {gd : Option (List Code)} {cn : Str} {cs : Scope} {a : Addr} {ccd : Value} {cl : List (Str × Addr)} {outer : List Env} {A₀ : Around} {base h₀ : Heap} {L : Addr} {m : Str → Option Value} {s : Shared}
  {Q E : Value → Shared → Prop}
local macro_rules | `(tactic| k_mem) => `(tactic| first | assumption | exact List.Mem.head _ | (refine List.Mem.tail _ ?_; k_mem))
local macro_rules | `(tactic| k_room) => `(tactic| ktr_room)

set_option maxHeartbeats 4000000 in
theorem c_task0 {b : List Stmt} {sc : Scope} {ck : Addr} {rest : List (Addr × Obj)} (hl : LawIs w.params b sc) (B : Below A₀ base [] h₀) (F : Fr h₀ L s.heap m) (X : (hd.heap_39 w.params).In h₀) (N : News h₀ L s.heap rest) (T : Top hd.view_39 Lo0 mean mg mb h₀) (hd : dp + 9 < recursionLimit) (hu : un + 90 < cLine)
    (ret : ∀ x dx u1 u2 h' tk', AllLt dx rest → @LT.lt Nat _ dx x → Fr h₀ L h' m → News h₀ L h' ((x, instObj 123 dx) :: (dx, taskDict0 w u1 u2 .none) :: rest) → Q (.ref x) { s with heap := h', toks := tk' }) :
    wpAny (model PySem.Challenge.rw_vs0001_01.row.prog w) (ktrTop dp un gd cn sc L a ccd (cellsFrom ck sc.names []) []) (call (.ref 123) []) Q E s := by
  obtain ⟨rfl, rfl⟩ := hl
  revert X
  k_fill
  intro X
  refine' law_at (P := fun b sc => wpAny (model PySem.Challenge.rw_vs0001_01.row.prog w) (ktrTop dp un gd cn sc L a ccd (cellsFrom ck sc.names []) []) (call (.ref 123) []) Q E s) ?h ?_
  case h => k_is
  k_steps
  exact ret _ _ _ _ _ _ (allLt_of (by assumption)) (by assumption) (by assumption) (by assumption)

set_option maxHeartbeats 4000000 in
theorem c_task1 {b : List Stmt} {sc : Scope} {ck : Addr} {v : Int} {tv : Tok} {rest : List (Addr × Obj)} (hl : LawIs w.params b sc) (B : Below A₀ base [] h₀) (F : Fr h₀ L s.heap m) (X : (hd.heap_39 w.params).In h₀) (N : News h₀ L s.heap rest) (T : Top hd.view_39 Lo0 mean mg mb h₀) (hd : dp + 9 < recursionLimit) (hu : un + 90 < cLine)
    (ret : ∀ x dx u1 u2 h' tk', AllLt dx rest → @LT.lt Nat _ dx x → Fr h₀ L h' m → News h₀ L h' ((x, instObj 123 dx) :: (dx, taskDict0 w u1 u2 (.int v tv)) :: rest) → Q (.ref x) { s with heap := h', toks := tk' }) :
    wpAny (model PySem.Challenge.rw_vs0001_01.row.prog w) (ktrTop dp un gd cn sc L a ccd (cellsFrom ck sc.names []) []) (call (.ref 123) [.int v tv]) Q E s := by
  obtain ⟨rfl, rfl⟩ := hl
  revert X
  k_fill
  intro X
  refine' law_at (P := fun b sc => wpAny (model PySem.Challenge.rw_vs0001_01.row.prog w) (ktrTop dp un gd cn sc L a ccd (cellsFrom ck sc.names []) []) (call (.ref 123) [.int v tv]) Q E s) ?h ?_
  case h => k_is
  k_steps
  exact ret _ _ _ _ _ _ (allLt_of (by assumption)) (by assumption) (by assumption) (by assumption)
end
end Mine
end

section
open PySem PySem.W PySem.Spec PySem.Calls PyProof.Rows PyProof.Rows.LCg PyProof.Rows.LCt
namespace Mine
set_option maxRecDepth 100000

/-- the body of the loop that tells each task its manager -/
def setOf : List Stmt → List Stmt
  | _ :: _ :: .For _ _ b _ _ :: _ => b
  | _ => []

section
variable {w : World} {mean : ExcName → Option Value} {mg mb : Str → Option Value} {dp un : Nat} {gd : Option (List Code)} {cn : Str} {a : Addr} {ccd : Value} {A₀ : Around} {base h₀ : Heap} {L : Addr} {m : Str → Option Value} {s : Shared}
  {Q : Flow → Shared → Prop} {E : Value → Shared → Prop}
local macro_rules | `(tactic| k_mem) => `(tactic| first | assumption | exact List.Mem.head _ | (refine List.Mem.tail _ ?_; k_mem))
local macro_rules | `(tactic| k_room) => `(tactic| ktr_room)

set_option maxHeartbeats 4000000 in
theorem l_set {b : List Stmt} {sc : Scope} {ck x dx mgr : Addr} {u1 u2 : Tok} {v : Value} {rest : List (Addr × Obj)} (hl : LawIs w.params b sc) (B : Below A₀ base [] h₀)
    (F : Fr h₀ L s.heap (fun z => if z = Str.ofString "one" then some (.ref x) else if z = Str.ofString "manager" then some (.ref mgr) else m z)) (X : (hd.heap_39 w.params).In h₀) (T : Top hd.view_39 Lo0 mean mg mb h₀) (hd : dp + 19 < recursionLimit) (hu : un + 190 < cLine)
    (N : News h₀ L s.heap ((x, instObj 123 dx) :: (dx, taskDict0 w u1 u2 v) :: rest)) (O : OwnOff rest [x, dx]) (hlt : @LT.lt Nat _ dx x)
    (ret : ∀ h' tk' u3, Fr h₀ L h' (fun z => if z = Str.ofString "one" then some (.ref x) else if z = Str.ofString "manager" then some (.ref mgr) else m z) → News h₀ L h' ((x, instObj 123 dx) :: (dx, taskDict w u1 u2 u3 v false mgr) :: rest) → Q .next { s with heap := h', toks := tk' }) :
    wpAny (model PySem.Challenge.rw_vs0001_01.row.prog w) (ktrTop dp un gd cn sc L a ccd (cellsFrom ck sc.names []) []) (execs (setOf b) (envX cn sc L a ccd (cellsFrom ck sc.names []))) Q E s := by
  obtain ⟨rfl, rfl⟩ := hl
  revert X
  k_fill
  intro X
  refine' law_at (P := fun b sc => wpAny (model PySem.Challenge.rw_vs0001_01.row.prog w) (ktrTop dp un gd cn sc L a ccd (cellsFrom ck sc.names []) []) (execs (setOf b) (envX cn sc L a ccd (cellsFrom ck sc.names []))) Q E s) ?h ?_
  case h => k_is
  dsimp only [setOf]
  k_steps
  (rename News _ _ _ _ => NN)
  (rename Fr _ _ _ _ => FF)
  exact ret _ _ _ FF NN
end
end Mine
end

section
open PySem PySem.W PySem.Spec PySem.Calls PyProof.Rows
namespace Mine
set_option maxRecDepth 100000

/-- the tasks and their dicts were made one after another -/
structure Inc (tk tkD : Nat → Addr) : Prop where
  d : ∀ i, i < 7 → @LT.lt Nat _ (tkD i) (tk i)
  s : ∀ i, i + 1 < 7 → @LT.lt Nat _ (tk i) (tkD (i + 1))
theorem Inc.lt {tk tkD : Nat → Addr} (I : Inc tk tkD) {i : Nat} : ∀ {j : Nat}, i < j → j < 7 → @LT.lt Nat _ (tk i) (tkD j)
  | 0, h, _ => absurd h (Nat.not_lt_zero _)
  | j + 1, h, hj => by
    by_cases e : i = j
    · rw [e]; exact I.s j hj
    · exact Nat.lt_trans (I.lt (j := j) (by omega) (by omega)) (Nat.lt_trans (I.d j (by omega)) (I.s j hj))
theorem Inc.lt' {tk tkD : Nat → Addr} (I : Inc tk tkD) {i j : Nat} (h : i < j) (hj : j < 7) : @LT.lt Nat _ (tk i) (tk j) := Nat.lt_trans (I.lt h hj) (I.d j hj)
theorem Inc.ltD {tk tkD : Nat → Addr} (I : Inc tk tkD) {i j : Nat} (h : i < j) (hj : j < 7) : @LT.lt Nat _ (tkD i) (tkD j) := Nat.lt_trans (I.d i (by omega)) (I.lt h hj)
theorem Inc.first {tk tkD : Nat → Addr} (I : Inc tk tkD) {i : Nat} (h : i < 7) : @LE.le Nat _ (tkD 0) (tkD i) := by
  by_cases e : i = 0
  · rw [e]; exact Nat.le_refl _
  · exact Nat.le_of_lt (I.ltD (by omega) h)
theorem Inc.above {tk tkD : Nat → Addr} (I : Inc tk tkD) {a : Nat} (h : @LT.lt Nat _ a (tkD 0)) {i : Nat} (hi : i < 7) : @LT.lt Nat _ a (tkD i) ∧ @LT.lt Nat _ a (tk i) :=
  ⟨Nat.lt_of_lt_of_le h (I.first hi), Nat.lt_of_lt_of_le h (Nat.le_trans (I.first hi) (Nat.le_of_lt (I.d i hi)))⟩
theorem Inc.below {tk tkD : Nat → Addr} (I : Inc tk tkD) {a : Nat} (h : @LT.lt Nat _ (tk 6) a) {i : Nat} (hi : i < 7) : @LT.lt Nat _ (tkD i) a ∧ @LT.lt Nat _ (tk i) a := by
  have h1 : @LE.le Nat _ (tk i) (tk 6) := by
    by_cases e : i = 6
    · rw [e]; exact Nat.le_refl _
    · exact Nat.le_of_lt (I.lt' (by omega) (by omega))
  have h2 := I.d i hi
  exact ⟨Nat.lt_trans h2 (Nat.lt_of_le_of_lt h1 h), Nat.lt_of_le_of_lt h1 h⟩
theorem Inc.lay {y : Lay} (I : Inc y.tk y.tkD) (h : ∀ a ∈ y.five, @LT.lt Nat _ a (y.tkD 0)) : LayOk y where
  off := fun i hi => ⟨fun hm => Nat.lt_irrefl _ (I.above (h _ hm) hi).2, fun hm => Nat.lt_irrefl _ (I.above (h _ hm) hi).1⟩
  inj := fun i j hi hj hne => by
    rcases Nat.lt_or_gt_of_ne hne with e | e
    · exact ⟨Nat.ne_of_lt (I.lt' e hj), Nat.ne_of_lt (I.ltD e hj)⟩
    · exact ⟨(Nat.ne_of_lt (I.lt' e hi)).symm, (Nat.ne_of_lt (I.ltD e hi)).symm⟩
  apart := fun i j hi hj => by
    by_cases e : i < j
    · exact Nat.ne_of_lt (I.lt e hj)
    · by_cases e2 : i = j
      · rw [e2]; exact (Nat.ne_of_lt (I.d j hj)).symm
      · exact (Nat.ne_of_lt (Nat.lt_trans (I.ltD (by omega) hi) (I.d i hi))).symm

/-- what a task tells before its first time -/
def tv0 : Nat → Option Int := fun i => if i = 2 then some 4 else if i = 5 then some 0 else none
/-- the tasks when the first i know their manager -/
structure TkI (w : World) (y : Lay) (i : Nat) (wl : List (Addr × Obj)) : Prop where
  tk : ∀ j, j < 7 → (y.tk j, instObj 123 (y.tkD j)) ∈ wl
  new : ∀ j, j < 7 → j < i → ∃ u1 u2 u3 v, TV v (tv0 j) ∧ (y.tkD j, taskDict w u1 u2 u3 v false y.mgr) ∈ wl
  old : ∀ j, j < 7 → i ≤ j → ∃ u1 u2 v, TV v (tv0 j) ∧ (y.tkD j, taskDict0 w u1 u2 v) ∈ wl
theorem TkI.step {w : World} {y : Lay} {i : Nat} {wl : List (Addr × Obj)} {u1 u2 u3 : Tok} {v : Value} (Y : LayOk y) (hi : i < 7) (t : TkI w y i wl) (hv : TV v (tv0 i)) :
    TkI w y (i + 1) ((y.tk i, instObj 123 (y.tkD i)) :: (y.tkD i, taskDict w u1 u2 u3 v false y.mgr) :: without [y.tk i, y.tkD i] wl) where
  tk := fun j hj => by
    by_cases e : j = i
    · rw [e]; exact List.mem_cons_self
    · refine List.mem_cons_of_mem _ (List.mem_cons_of_mem _ (mem_without.mpr ⟨t.tk j hj, ?_⟩))
      simp only [List.mem_cons, List.not_mem_nil, or_false, not_or]
      exact ⟨(Y.inj j i hj hi e).1, Y.apart j i hj hi⟩
  new := fun j hj h => by
    by_cases e : j = i
    · rw [e]; exact ⟨_, _, _, _, hv, List.mem_cons_of_mem _ List.mem_cons_self⟩
    · obtain ⟨a1, a2, a3, v', h1, h2⟩ := t.new j hj (by omega)
      refine ⟨a1, a2, a3, v', h1, List.mem_cons_of_mem _ (List.mem_cons_of_mem _ (mem_without.mpr ⟨h2, ?_⟩))⟩
      simp only [List.mem_cons, List.not_mem_nil, or_false, not_or]
      exact ⟨fun h => Y.apart i j hi hj h.symm, (Y.inj j i hj hi e).2⟩
  old := fun j hj h => by
    have e : j ≠ i := by omega
    obtain ⟨a1, a2, v', h1, h2⟩ := t.old j hj (by omega)
    refine ⟨a1, a2, v', h1, List.mem_cons_of_mem _ (List.mem_cons_of_mem _ (mem_without.mpr ⟨h2, ?_⟩))⟩
    simp only [List.mem_cons, List.not_mem_nil, or_false, not_or]
    exact ⟨fun h => Y.apart i j hi hj h.symm, (Y.inj j i hj hi e).2⟩

/-- what holds before each turn of the loop over the tasks -/
def SetJ (w : World) (y : Lay) (tl sl : Addr) (rest : List (Addr × Obj)) (i : Nat) (m : Str → Option Value) (news : List (Addr × Obj)) : Prop :=
  m (Str.ofString "manager") = some (.ref y.mgr) ∧ m (Str.ofString "script") = some (.ref sl) ∧ m (Str.ofString "tasks") = some (.ref tl) ∧ TkI w y i news ∧
    (tl, PySem.W.listOf ((List.range 7).map fun i => Value.ref (y.tk i)).toArray 0) ∈ news ∧ ∀ p ∈ rest, p ∈ news
theorem SetJ.step {w : World} {y : Lay} {tl sl : Addr} {rest wl : List (Addr × Obj)} {i : Nat} {m : Str → Option Value} {u1 u2 u3 : Tok} {v u : Value} (Y : LayOk y) (hi : i < 7) (hv : TV v (tv0 i)) (ht : tl ≠ y.tk i ∧ tl ≠ y.tkD i) (hr : ∀ p ∈ rest, p.1 ≠ y.tk i ∧ p.1 ≠ y.tkD i)
    (J : SetJ w y tl sl rest i m wl) :
    SetJ w y tl sl rest (i + 1) (fun z => if z = Str.ofString "one" then some u else m z) ((y.tk i, instObj 123 (y.tkD i)) :: (y.tkD i, taskDict w u1 u2 u3 v false y.mgr) :: without [y.tk i, y.tkD i] wl) := by
  obtain ⟨h1, h2, h3, t, h4, h5⟩ := J
  refine ⟨?_, ?_, ?_, t.step Y hi hv, ?_, fun p hp => ?_⟩
  · rw [← h1]; exact if_neg (by decide)
  · rw [← h2]; exact if_neg (by decide)
  · rw [← h3]; exact if_neg (by decide)
  · refine List.mem_cons_of_mem _ (List.mem_cons_of_mem _ (mem_without.mpr ⟨h4, ?_⟩))
    simp only [List.mem_cons, List.not_mem_nil, or_false, not_or]
    exact ht
  · refine List.mem_cons_of_mem _ (List.mem_cons_of_mem _ (mem_without.mpr ⟨h5 p hp, ?_⟩))
    simp only [List.mem_cons, List.not_mem_nil, or_false, not_or]
    exact hr p hp
end Mine
end

section
open PySem PySem.W PySem.Spec PySem.Calls PyProof.Rows PyProof.Rows.LCg PyProof.Rows.LCt
namespace Mine
set_option maxRecDepth 100000

section
variable {w : World} {mean : ExcName → Option Value} {mg mb : Str → Option Value} {dp un : Nat} {gd : Option (List Code)} {cn : Str} {a : Addr} {ccd : Value} {A₀ : Around} {base h₀ : Heap} {L : Addr} {m : Str → Option Value} {s : Shared}
  {Q : Flow → Shared → Prop} {E : Value → Shared → Prop}

theorem set_all {b : List Stmt} {sc : Scope} {ck mgr mgrD hl cnt cd tl sl : Addr} {x0 x1 x2 x3 x4 x5 x6 d0 d1 d2 d3 d4 d5 d6 : Addr} {p0 r0 p1 r1 p2 r2 p3 r3 p4 r4 p5 r5 p6 r6 tq2 tq5 : Tok} {rest : List (Addr × Obj)} (hlaw : LawIs w.params b sc)
    (hx : (envX cn sc L a ccd (cellsFrom ck sc.names [])).kindOf (Str.ofString "one") = some .local)
    (B : Below A₀ base [] h₀) (F : Fr h₀ L s.heap m) (hm1 : m (Str.ofString "manager") = some (.ref mgr)) (hm2 : m (Str.ofString "script") = some (.ref sl)) (hm3 : m (Str.ofString "tasks") = some (.ref tl)) (X : (hd.heap_39 w.params).In h₀) (T : Top hd.view_39 Lo0 mean mg mb h₀) (hd : dp + 19 < recursionLimit) (hu : un + 190 < cLine)
    (N : News h₀ L s.heap ((tl, PySem.W.listOf #[Value.ref x0, Value.ref x1, Value.ref x2, Value.ref x3, Value.ref x4, Value.ref x5, Value.ref x6] 0) :: (x6, instObj 123 d6) :: (d6, taskDict0 w p6 r6 .none) :: (x5, instObj 123 d5) :: (d5, taskDict0 w p5 r5 (.int 0 tq5)) :: (x4, instObj 123 d4) :: (d4, taskDict0 w p4 r4 .none) :: (x3, instObj 123 d3) :: (d3, taskDict0 w p3 r3 .none) :: (x2, instObj 123 d2) :: (d2, taskDict0 w p2 r2 (.int 4 tq2)) :: (x1, instObj 123 d1) :: (d1, taskDict0 w p1 r1 .none) :: (x0, instObj 123 d0) :: (d0, taskDict0 w p0 r0 .none) :: rest))
    (a0 : @LT.lt Nat _ d0 x0) (a1 : @LT.lt Nat _ d1 x1) (a2 : @LT.lt Nat _ d2 x2) (a3 : @LT.lt Nat _ d3 x3) (a4 : @LT.lt Nat _ d4 x4) (a5 : @LT.lt Nat _ d5 x5) (a6 : @LT.lt Nat _ d6 x6) (b0 : @LT.lt Nat _ x0 d1) (b1 : @LT.lt Nat _ x1 d2) (b2 : @LT.lt Nat _ x2 d3) (b3 : @LT.lt Nat _ x3 d4) (b4 : @LT.lt Nat _ x4 d5) (b5 : @LT.lt Nat _ x5 d6) (z0 : AllLt d0 rest) (z6 : @LT.lt Nat _ x6 tl) (five : ∀ a ∈ [mgr, mgrD, hl, cnt, cd], ∃ o, (a, o) ∈ rest)
    (done : ∀ h' tk' m' news' tk tkD, Inc tk tkD → AllLt (tkD 0) rest → @LT.lt Nat _ (tk 6) tl → SetJ w ⟨mgr, mgrD, hl, cnt, cd, tk, tkD⟩ tl sl rest 7 m' news' → Fr h₀ L h' m' → News h₀ L h' news' → Q .next { s with heap := h', toks := tk' }) :
    wpAny (model PySem.Challenge.rw_vs0001_01.row.prog w) (ktrTop dp un gd cn sc L a ccd (cellsFrom ck sc.names []) []) (pyIter (.ref tl)) (fun it s₂ => LoopAtV PySem.Challenge.rw_vs0001_01.row.prog w (ktrTop dp un gd cn sc L a ccd (cellsFrom ck sc.names []) []) h₀ (envX cn sc L a ccd (cellsFrom ck sc.names [])) (Str.ofString "one") (setOf b) Q E it s₂) E s := by
  let tk : Nat → Addr := fun i => match i with | 0 => x0 | 1 => x1 | 2 => x2 | 3 => x3 | 4 => x4 | 5 => x5 | _ => x6
  let tkD : Nat → Addr := fun i => match i with | 0 => d0 | 1 => d1 | 2 => d2 | 3 => d3 | 4 => d4 | 5 => d5 | _ => d6
  let y : Lay := ⟨mgr, mgrD, hl, cnt, cd, tk, tkD⟩
  have I : Inc y.tk y.tkD := ⟨fun i hi => match i, hi with | 0, _ => a0 | 1, _ => a1 | 2, _ => a2 | 3, _ => a3 | 4, _ => a4 | 5, _ => a5 | 6, _ => a6 | i + 7, h => absurd h (by omega), fun i hi => match i, hi with | 0, _ => b0 | 1, _ => b1 | 2, _ => b2 | 3, _ => b3 | 4, _ => b4 | 5, _ => b5 | i + 6, h => absurd h (by omega)⟩
  have Y : LayOk y := I.lay fun a ha => let ⟨o, ho⟩ := five a ha; allLt_mem z0 _ ho
  have z6' : @LT.lt Nat _ (y.tk 6) tl := z6
  have z0' : AllLt (y.tkD 0) rest := z0
  have J0 : SetJ w y tl sl rest 0 m ((tl, PySem.W.listOf #[Value.ref x0, Value.ref x1, Value.ref x2, Value.ref x3, Value.ref x4, Value.ref x5, Value.ref x6] 0) :: (x6, instObj 123 d6) :: (d6, taskDict0 w p6 r6 .none) :: (x5, instObj 123 d5) :: (d5, taskDict0 w p5 r5 (.int 0 tq5)) :: (x4, instObj 123 d4) :: (d4, taskDict0 w p4 r4 .none) :: (x3, instObj 123 d3) :: (d3, taskDict0 w p3 r3 .none) :: (x2, instObj 123 d2) :: (d2, taskDict0 w p2 r2 (.int 4 tq2)) :: (x1, instObj 123 d1) :: (d1, taskDict0 w p1 r1 .none) :: (x0, instObj 123 d0) :: (d0, taskDict0 w p0 r0 .none) :: rest) := by
    refine ⟨hm1, hm2, hm3, ⟨fun j hj => ?_, fun j _ h => absurd h (Nat.not_lt_zero _), fun j hj _ => ?_⟩, List.mem_cons_self, fun p hp => by simp only [List.mem_cons]; simp only [hp, or_true]⟩
    · match j, hj with
      | 0, _ => show (x0, instObj 123 d0) ∈ _; simp
      | 1, _ => show (x1, instObj 123 d1) ∈ _; simp
      | 2, _ => show (x2, instObj 123 d2) ∈ _; simp
      | 3, _ => show (x3, instObj 123 d3) ∈ _; simp
      | 4, _ => show (x4, instObj 123 d4) ∈ _; simp
      | 5, _ => show (x5, instObj 123 d5) ∈ _; simp
      | 6, _ => show (x6, instObj 123 d6) ∈ _; simp
      | j + 7, h => exact absurd h (by omega)
    · match j, hj with
      | 0, _ => exact ⟨p0, r0, .none, rfl, show (d0, taskDict0 w p0 r0 .none) ∈ _ by simp⟩
      | 1, _ => exact ⟨p1, r1, .none, rfl, show (d1, taskDict0 w p1 r1 .none) ∈ _ by simp⟩
      | 2, _ => exact ⟨p2, r2, (.int 4 tq2), ⟨_, rfl⟩, show (d2, taskDict0 w p2 r2 (.int 4 tq2)) ∈ _ by simp⟩
      | 3, _ => exact ⟨p3, r3, .none, rfl, show (d3, taskDict0 w p3 r3 .none) ∈ _ by simp⟩
      | 4, _ => exact ⟨p4, r4, .none, rfl, show (d4, taskDict0 w p4 r4 .none) ∈ _ by simp⟩
      | 5, _ => exact ⟨p5, r5, (.int 0 tq5), ⟨_, rfl⟩, show (d5, taskDict0 w p5 r5 (.int 0 tq5)) ∈ _ by simp⟩
      | 6, _ => exact ⟨p6, r6, .none, rfl, show (d6, taskDict0 w p6 r6 .none) ∈ _ by simp⟩
      | j + 7, h => exact absurd h (by omega)
  refine iter_law (SetJ w y tl sl rest) rfl F N List.mem_cons_self ?_ J0 ?_ ?_
  · rintro i m₁ nw ⟨_, _, _, _, h, _⟩
    exact h
  · rintro i v m₁ news₁ h tk' Ia oI hcI hit J _ hne F₁ N₁
    have hi7 : i < 7 := by
      by_cases e : i < 7
      · exact e
      · rw [Array.getElem?_eq_none (by simp; omega)] at hit; cases hit
    obtain rfl : v = .ref (y.tk i) := by
      match i, hi7, hit with
      | 0, _, hit => exact (Option.some.inj hit).symm
      | 1, _, hit => exact (Option.some.inj hit).symm
      | 2, _, hit => exact (Option.some.inj hit).symm
      | 3, _, hit => exact (Option.some.inj hit).symm
      | 4, _, hit => exact (Option.some.inj hit).symm
      | 5, _, hit => exact (Option.some.inj hit).symm
      | 6, _, hit => exact (Option.some.inj hit).symm
      | j + 7, h, _ => exact absurd h (by omega)
    obtain ⟨j1, j2, j3, t, j4, j5⟩ := id J
    obtain ⟨u1, u2, v, hv, hD⟩ := t.old i hi7 (Nat.le_refl _)
    have hT := t.tk i hi7
    have e : (fun z => if z = Str.ofString "one" then some (Value.ref (y.tk i)) else if z = Str.ofString "manager" then some (.ref y.mgr) else m₁ z) = fun z => if z = Str.ofString "one" then some (Value.ref (y.tk i)) else m₁ z := by
      funext z
      by_cases e : z = Str.ofString "manager"
      · rw [e, j1]; rfl
      · rw [if_neg e]
    have F₂ : Fr h₀ L h (fun z => if z = Str.ofString "one" then some (.ref (y.tk i)) else if z = Str.ofString "manager" then some (.ref y.mgr) else m₁ z) := by
      rw [e]; exact F₁
    have N₂ : News h₀ L h ((y.tk i, instObj 123 (y.tkD i)) :: (y.tkD i, taskDict0 w u1 u2 v) :: (Ia, oI) :: without [y.tk i, y.tkD i] news₁) := fun p hp => N₁ p (by
      simp only [List.mem_cons] at hp ⊢
      rcases hp with rfl | rfl | rfl | hp
      · exact .inr hT
      · exact .inr hD
      · exact .inl rfl
      · exact .inr (mem_without.mp hp).1)
    have O : OwnOff ((Ia, oI) :: without [y.tk i, y.tkD i] news₁) [y.tk i, y.tkD i] := fun p hp b hb => by
      rcases List.mem_cons.mp hp with rfl | hp
      · simp only [List.mem_cons, List.not_mem_nil, or_false] at hb
        rcases hb with rfl | rfl
        · exact (hne _ hT).symm
        · exact (hne _ hD).symm
      · rintro rfl
        exact (mem_without.mp hp).2 hb
    refine l_set hlaw B F₂ X T hd hu N₂ O (I.d i hi7) ?_
    intro h' tk₂ u3 F₃ N₃
    show ∃ h' tk m' news', _
    refine ⟨h', tk₂, _, (y.tk i, instObj 123 (y.tkD i)) :: (y.tkD i, taskDict w u1 u2 u3 v false y.mgr) :: without [y.tk i, y.tkD i] news₁, rfl, F₃, fun p hp => N₃ p ?_, fun p hp => ?_, ?_⟩
    · simp only [List.mem_cons] at hp ⊢
      rcases hp with h | h | h | h <;> simp only [h, true_or, or_true]
    · simp only [List.mem_cons] at hp
      rcases hp with rfl | rfl | hp
      · exact hne _ hT
      · exact (show y.tkD i ≠ Ia from hne _ hD)
      · exact hne _ (mem_without.mp hp).1
    · have J' := J.step (u1 := u1) (u2 := u2) (u3 := u3) (u := .ref (y.tk i)) Y hi7 hv ⟨(Nat.ne_of_lt (I.below z6' hi7).2).symm, (Nat.ne_of_lt (I.below z6' hi7).1).symm⟩ (fun p hp => ⟨Nat.ne_of_lt (I.above (allLt_mem z0' p hp) hi7).2, Nat.ne_of_lt (I.above (allLt_mem z0' p hp) hi7).1⟩)
      rw [e]
      exact J'
  · intro m₁ news₁ h tk' J F₁ N₁
    exact done _ _ _ _ _ _ I z0' z6' J F₁ N₁
end
end Mine
end

section
open PySem PySem.W PySem.Spec PySem.Calls PyProof.Rows PyProof.Rows.LCg PyProof.Rows.LCt
namespace Mine
set_option maxRecDepth 100000

/-- what follows the loop over the tasks -/
def timesOf : List Stmt → List Stmt
  | _ :: _ :: _ :: t => t
  | _ => []

section
variable {w : World} {mean : ExcName → Option Value} {mg mb : Str → Option Value} {dp un : Nat} {gd : Option (List Code)} {cn : Str} {a : Addr} {ccd : Value} {A₀ : Around} {base h₀ : Heap} {L : Addr} {m : Str → Option Value} {s : Shared}
  {Q : Flow → Shared → Prop} {E : Value → Shared → Prop}
local macro_rules | `(tactic| k_mem) => `(tactic| first | assumption | exact List.Mem.head _ | (refine List.Mem.tail _ ?_; k_mem))
local macro_rules | `(tactic| k_room) => `(tactic| ktr_room)
local macro_rules | `(tactic| walk_at "call ref") => `(tactic| (k_dflt (refine' c_task0 (by assumption) ?B ?F ?X ?N ?T ?hd ?hu ?_); (case B => k_asm); (case F => k_asm); (case X => k_asm); (case N => k_asm); (case T => k_asm); (case hd => ktr_room); (case hu => ktr_units); intro x' dx' u1' u2' h' tk' l1 l2 F' N'; (try k_lt l1)))
local macro_rules | `(tactic| walk_at "call ref") => `(tactic| (k_dflt (refine' c_task1 (by assumption) ?B ?F ?X ?N ?T ?hd ?hu ?_); (case B => k_asm); (case F => k_asm); (case X => k_asm); (case N => k_asm); (case T => k_asm); (case hd => ktr_room); (case hu => ktr_units); intro x' dx' u1' u2' h' tk' l1 l2 F' N'; (try k_lt l1)))
local macro_rules | `(tactic| walk_at "execs cons") => `(tactic| ((with_reducible show wpAny _ _ (execs (Stmt.For _ _ _ _ _ :: _) _) _ _ _); refine Hold.mk ?_))
local macro_rules | `(tactic| walk_at "pyIter ref") => `(tactic| refine Hold.mk ?_)

set_option maxHeartbeats 8000000 in
theorem l_tasks {b : List Stmt} {sc : Scope} {ck mgr mgrD hl cnt cd sl : Addr} {rest : List (Addr × Obj)} (hlaw : LawIs w.params b sc)
    (B : Below A₀ base [] h₀) (F : Fr h₀ L s.heap (fun z => if z = Str.ofString "manager" then some (.ref mgr) else if z = Str.ofString "script" then some (.ref sl) else m z)) (X : (hd.heap_39 w.params).In h₀) (T : Top hd.view_39 Lo0 mean mg mb h₀) (hd : dp + 19 < recursionLimit) (hu : un + 190 < cLine)
    (N : News h₀ L s.heap rest)
    (five : ∀ a ∈ [mgr, mgrD, hl, cnt, cd], ∃ o, (a, o) ∈ rest)
    (hE : PassesOwn (model PySem.Challenge.rw_vs0001_01.row.prog w) (ktrTop dp un gd cn sc L a ccd (cellsFrom ck sc.names []) []) (envX cn sc L a ccd (cellsFrom ck sc.names [])) E)
    (ret : ∀ h' tk' m' news' tl tk tkD, Inc tk tkD → AllLt (tkD 0) rest → @LT.lt Nat _ (tk 6) tl → SetJ w ⟨mgr, mgrD, hl, cnt, cd, tk, tkD⟩ tl sl rest 7 m' news' → Fr h₀ L h' m' → News h₀ L h' news' →
      wpAny (model PySem.Challenge.rw_vs0001_01.row.prog w) (ktrTop dp un gd cn sc L a ccd (cellsFrom ck sc.names []) []) (execs (timesOf b) (envX cn sc L a ccd (cellsFrom ck sc.names []))) Q E { s with heap := h', toks := tk' }) :
    wpAny (model PySem.Challenge.rw_vs0001_01.row.prog w) (ktrTop dp un gd cn sc L a ccd (cellsFrom ck sc.names []) []) (execs (restOf b) (envX cn sc L a ccd (cellsFrom ck sc.names []))) Q E s := by
  obtain ⟨rfl, rfl⟩ := hlaw
  have hlaw : LawIs w.params (lawBody w.params) (lawScope w.params) := ⟨rfl, rfl⟩
  revert X
  k_fill
  intro X
  revert hlaw
  revert hE
  revert ret
  refine' law_at (P := fun b sc => (∀ h' tk' m' news' tl tk tkD, Inc tk tkD → AllLt (tkD 0) rest → @LT.lt Nat _ (tk 6) tl → SetJ w ⟨mgr, mgrD, hl, cnt, cd, tk, tkD⟩ tl sl rest 7 m' news' → Fr h₀ L h' m' → News h₀ L h' news' →
      wpAny (model PySem.Challenge.rw_vs0001_01.row.prog w) (ktrTop dp un gd cn sc L a ccd (cellsFrom ck sc.names []) []) (execs (timesOf b) (envX cn sc L a ccd (cellsFrom ck sc.names []))) Q E { s with heap := h', toks := tk' }) → PassesOwn (model PySem.Challenge.rw_vs0001_01.row.prog w) (ktrTop dp un gd cn sc L a ccd (cellsFrom ck sc.names []) []) (envX cn sc L a ccd (cellsFrom ck sc.names [])) E → LawIs w.params b sc → wpAny (model PySem.Challenge.rw_vs0001_01.row.prog w) (ktrTop dp un gd cn sc L a ccd (cellsFrom ck sc.names []) []) (execs (restOf b) (envX cn sc L a ccd (cellsFrom ck sc.names []))) Q E s) ?h ?_
  case h => k_is
  intro ret hE hlaw
  dsimp only [restOf]
  k_steps
  unfold Hold
  refine wpAny_execs_cons ?_
  refine For_invV (hE := hE) h₀ rfl rfl ?_
  k_steps
  unfold Hold
  (rename News _ _ _ _ => NN)
  (rename Fr _ _ _ _ => FF)
  (rename @LT.lt Nat _ _ _ ∧ @LT.lt Nat _ _ _ ∧ @LT.lt Nat _ _ _ ∧ @LT.lt Nat _ _ _ ∧ @LT.lt Nat _ _ _ ∧ @LT.lt Nat _ _ _ ∧ @LT.lt Nat _ _ _ ∧ @LT.lt Nat _ _ _ ∧ _ => lD)
  (rename AllLt _ (_ :: _) => q5)
  replace q5 := q5.1
  (rename AllLt _ (_ :: _) => q4)
  replace q4 := q4.1
  (rename AllLt _ (_ :: _) => q3)
  replace q3 := q3.1
  (rename AllLt _ (_ :: _) => q2)
  replace q2 := q2.1
  (rename AllLt _ (_ :: _) => q1)
  replace q1 := q1.1
  (rename AllLt _ (_ :: _) => q0)
  replace q0 := q0.1
  (rename AllLt _ _ => z0)
  refine set_all hlaw rfl B FF rfl rfl rfl X T hd hu NN (by assumption) (by assumption) (by assumption) (by assumption) (by assumption) (by assumption) (by assumption) q0 q1 q2 q3 q4 q5 z0 lD.1 five ?_
  intro h' tk' m' news' tk tkD I z0' z6' J F' N'
  exact ret _ _ _ _ _ _ _ I z0' z6' J F' N'
end
end Mine
end

section
open PySem PySem.W PySem.Spec PySem.Calls PyProof.Rows PyProof.Rows.LCg PyProof.Rows.LCt
namespace Mine
set_option maxRecDepth 100000

/-- the ledger ahead of the tasks -/
abbrev firstL (w : World) (mgr mgrD hl cnt cd ck : Addr) (t1 t2 t3 tn k0 k2 : Tok) (ost ok : Obj) : List (Addr × Obj) :=
  [(cnt, cntObj cd 0 k0 k2), (cd, dictOf [] 0), (hl, PySem.W.listOf #[] 0), (mgr, instObj 244 mgrD), (mgrD, mgrDict w t1 t2 t3 hl cnt 0 tn), (ck + 1, ost), (ck, ok)]
abbrev timesL (t2 t5 : Tok) : List Value := [.none, .none, .int 4 t2, .none, .none, .int 0 t5, .none]
theorem times_tv {t2 t5 : Tok} : ∀ i v, (timesL t2 t5)[i]? = some v → TV v (tv0 i)
  | 0, _, h | 1, _, h | 3, _, h | 4, _, h | 6, _, h => (Option.some.inj h).symm
  | 2, _, h => ⟨t2, (Option.some.inj h).symm⟩
  | 5, _, h => ⟨t5, (Option.some.inj h).symm⟩
  | i + 7, _, h => by simp at h
theorem tv0_le : ∀ k v, tv0 k = some v → v ≤ 0 + 1999 := by
  intro k v h
  unfold tv0 at h
  split at h
  · rw [← Option.some.inj h]; decide
  · split at h
    · rw [← Option.some.inj h]; decide
    · cases h

/-- the world of the law before the main loop -/
theorem start_St {w : World} {mgr mgrD hl cnt cd ck : Addr} {t1 t2 t3 tn k0 k2 q2 q5 : Tok} {ost ok : Obj} {tk tkD : Nat → Addr} {tl sl nb rl ml : Addr} {wl : List (Addr × Obj)} {m' : Str → Option Value} {onb : Obj}
    (g0 : @LT.lt Nat _ (ck + 1) mgrD) (g1 : @LT.lt Nat _ mgrD mgr) (g2 : @LT.lt Nat _ mgr hl) (g3 : @LT.lt Nat _ hl cd) (g4 : @LT.lt Nat _ cd cnt) (I : Inc tk tkD) (z0 : AllLt (tkD 0) (firstL w mgr mgrD hl cnt cd ck t1 t2 t3 tn k0 k2 ost ok)) (z6 : @LT.lt Nat _ (tk 6) tl)
    (J : SetJ w ⟨mgr, mgrD, hl, cnt, cd, tk, tkD⟩ tl sl (firstL w mgr mgrD hl cnt cd ck t1 t2 t3 tn k0 k2 ost ok) 7 m' wl) (zm : ∀ p ∈ wl, @LT.lt Nat _ p.1 ml) (zr : @LT.lt Nat _ ml rl) (zn : @LT.lt Nat _ rl nb) :
    St w ⟨mgr, mgrD, hl, cnt, cd, tk, tkD⟩ tl ml rl ck 0 0 [] tv0 (timesL q2 q5) ((nb, onb) :: (rl, PySem.W.listOf #[] 0) :: without [ck + 1, ck] wl) := by
  obtain ⟨_, _, _, t, jl, jr⟩ := J
  obtain ⟨c1, c2, c3, c4, c5, c6, c7, _⟩ := z0
  have hck : @LT.lt Nat _ ck (ck + 1) := Nat.lt_succ_self _
  have m1 : (cnt, cntObj cd 0 k0 k2) ∈ wl := jr _ (by simp)
  have m2 : (cd, dictOf [] 0) ∈ wl := jr _ (by simp)
  have m3 : (hl, PySem.W.listOf #[] 0) ∈ wl := jr _ (by simp)
  have m3' : (hl, PySem.W.listOf ((#[] : Array Ent).map Ent.val) 0) ∈ wl := by
    rw [show (#[] : Array Ent).map Ent.val = #[] from by simp]; exact m3
  have m4 : (mgr, instObj 244 mgrD) ∈ wl := jr _ (by simp)
  have m5 : (mgrD, mgrDict w t1 t2 t3 hl cnt 0 tn) ∈ wl := jr _ (by simp)
  let y : Lay := ⟨mgr, mgrD, hl, cnt, cd, tk, tkD⟩
  have Iy : Inc y.tk y.tkD := I
  have z6' : @LT.lt Nat _ (y.tk 6) tl := z6
  have hfive : ∀ a ∈ y.five, @LT.lt Nat _ a (y.tkD 0) := fun a ha => by
    simp only [Lay.five, List.mem_cons, List.not_mem_nil, or_false] at ha
    rcases ha with rfl | rfl | rfl | rfl | rfl
    · exact c4
    · exact c5
    · exact c3
    · exact c1
    · exact c2
  have keep : ∀ p, p ∈ wl → @LT.lt Nat _ (ck + 1) p.1 → p ∈ without [ck + 1, ck] wl := fun p hp h => mem_without.mpr ⟨hp, by
    simp only [List.mem_cons, List.not_mem_nil, or_false, not_or]
    exact ⟨(Nat.ne_of_lt h).symm, (Nat.ne_of_lt (Nat.lt_trans hck h)).symm⟩⟩
  have e1 : @LT.lt Nat _ (ck + 1) mgr := Nat.lt_trans g0 g1
  have e2 : @LT.lt Nat _ (ck + 1) hl := Nat.lt_trans e1 g2
  have e3 : @LT.lt Nat _ (ck + 1) cd := Nat.lt_trans e2 g3
  have e4 : @LT.lt Nat _ (ck + 1) cnt := Nat.lt_trans e3 g4
  have c6' : @LT.lt Nat _ (ck + 1) (y.tkD 0) := c6
  have Y : LayOk y := Iy.lay hfive
  have W1 : WL w y 0 0 [] tv0 (without [ck + 1, ck] wl) := {
    mgr := keep _ m4 e1
    mgrD := ⟨t1, t2, t3, tn, keep _ m5 g0⟩
    hl := ⟨#[], 0, keep _ m3' e2, List.Perm.nil, ⟨fun e he => by simp at he, fun e he => by simp at he, by simp, by simp⟩, HeapFrom.vac (by simp)⟩
    cnt := ⟨k0, k2, keep _ m1 e4⟩
    cd := keep _ m2 e3
    tk := fun i hi => keep _ (t.tk i hi) (Iy.above c6' hi).2
    tkD := fun i hi => let ⟨u1, u2, u3, v, h1, h2⟩ := t.new i hi hi; ⟨u1, u2, u3, v, h1, keep _ h2 (Iy.above c6' hi).1⟩ }
  have ztl : @LT.lt Nat _ (y.tkD 0) tl := (Iy.below z6' (by omega)).1
  have hcm : @LT.lt Nat _ (ck + 1) ml := zm _ (jr (ck + 1, ost) (by simp))
  have O : OwnOff ((nb, onb) :: (rl, PySem.W.listOf #[] 0) :: without [ck + 1, ck] wl) [ck + 1, ck, ml] := fun p hp b hb => by
    have hbm : @LE.le Nat _ b ml := by
      simp only [List.mem_cons, List.not_mem_nil, or_false] at hb
      rcases hb with rfl | rfl | rfl
      · exact Nat.le_of_lt hcm
      · exact Nat.le_of_lt (Nat.lt_trans hck hcm)
      · exact Nat.le_refl _
    rcases List.mem_cons.mp hp with rfl | hp
    · exact (Nat.ne_of_lt (Nat.lt_of_le_of_lt hbm (Nat.lt_trans zr zn))).symm
    · rcases List.mem_cons.mp hp with rfl | hp
      · exact (Nat.ne_of_lt (Nat.lt_of_le_of_lt hbm zr)).symm
      · obtain ⟨h1, h2⟩ := mem_without.mp hp
        rintro rfl
        simp only [List.mem_cons, List.not_mem_nil, or_false, not_or] at hb h2
        rcases hb with e | e | e
        · exact h2.1 e
        · exact h2.2 e
        · exact absurd (zm _ h1) (e ▸ Nat.lt_irrefl _)
  have W2 : WL w y 0 0 [] tv0 ((nb, onb) :: (rl, PySem.W.listOf #[] 0) :: without [ck + 1, ck] wl) := W1.mono fun p hp => List.mem_cons_of_mem _ (List.mem_cons_of_mem _ hp)
  exact {
    Y := Y
    RO := ⟨fun r hr => by simp at hr, by simp, fun r hr => by simp at hr, by simp, by decide, by decide⟩
    W := W2
    O := O
    away := fun a ha => off_of W2 fun p hp => O p hp a ha
    cm := hcm
    tl := ⟨⟨0, List.mem_cons_of_mem _ (List.mem_cons_of_mem _ (keep _ jl (Nat.lt_trans c6' ztl)))⟩, ⟨fun h => Nat.lt_irrefl _ (Nat.lt_trans (hfive _ h) ztl), fun i hi => ⟨(Nat.ne_of_lt (Iy.below z6' hi).2).symm, (Nat.ne_of_lt (Iy.below z6' hi).1).symm⟩⟩⟩
    rows := ⟨⟨0, List.mem_cons_of_mem _ List.mem_cons_self⟩, off_of W1 fun p hp => Nat.ne_of_lt (Nat.lt_trans (zm _ (mem_without.mp hp).1) zr), fun e he => by simp at he, fun e he => by simp at he, fun e he => by simp at he⟩
    tn := rfl
    tm := times_tv }

section
variable {w : World} {mean : ExcName → Option Value} {mg mb : Str → Option Value} {dp un : Nat} {gd : Option (List Code)} {cn : Str} {a : Addr} {ccd : Value} {A₀ : Around} {base h₀ : Heap} {L : Addr} {m : Str → Option Value} {s : Shared}
  {Q : Flow → Shared → Prop} {E : Value → Shared → Prop}
theorem l_enter {b : List Stmt} {sc : Scope} {mgr mgrD hl cnt cd ck : Addr} {t1 t2 t3 tn k0 k2 q2 q5 : Tok} {ost ok : Obj} {kv sv : Option Value} {tk tkD : Nat → Addr} {tl sl nb tmp rl ml : Addr} {otmp : Obj} {wl : List (Addr × Obj)} {m' : Str → Option Value} {vs : List Value} {nums : List Int} (hlaw : LawIs w.params b sc)
    (XB : (hd.heap_39 w.params).In base) (TB : Top hd.view_39 Lo0 mean mg mb base) (B : Below A₀ base [] h₀) (F : Fr h₀ L s.heap (fun z => if z = Str.ofString "numbers" then some (.ref nb) else m z)) (M : LawM m mgr tl ml rl 0 0) (X : (hd.heap_39 w.params).In h₀) (T : Top hd.view_39 Lo0 mean mg mb h₀) (hd : dp + 19 < recursionLimit) (hu : un + 190 < cLine)
    (N : News h₀ L s.heap ((nb, PySem.W.listOf vs.toArray 0) :: (tmp, otmp) :: (rl, PySem.W.listOf #[] 0) :: (ml, PySem.W.listOf (timesL q2 q5).toArray 0) :: wl))
    (hI : IntsAre vs nums) (hlen : vs.length ≤ 16) (hok : ok.data = .cell kv) (host : ost.data = .cell sv)
    (g0 : @LT.lt Nat _ (ck + 1) mgrD) (g1 : @LT.lt Nat _ mgrD mgr) (g2 : @LT.lt Nat _ mgr hl) (g3 : @LT.lt Nat _ hl cd) (g4 : @LT.lt Nat _ cd cnt) (I : Inc tk tkD) (z0 : AllLt (tkD 0) (firstL w mgr mgrD hl cnt cd ck t1 t2 t3 tn k0 k2 ost ok)) (z6 : @LT.lt Nat _ (tk 6) tl)
    (J : SetJ w ⟨mgr, mgrD, hl, cnt, cd, tk, tkD⟩ tl sl (firstL w mgr mgrD hl cnt cd ck t1 t2 t3 tn k0 k2 ost ok) 7 m' wl) (zm : AllLt ml wl) (zr : @LT.lt Nat _ ml rl) (zn : @LT.lt Nat _ rl nb)
    (hE : PassesOwn (model PySem.Challenge.rw_vs0001_01.row.prog w) (ktrTop dp un gd cn sc L a ccd (cellsFrom ck sc.names []) []) (envX cn sc L a ccd (cellsFrom ck sc.names [])) E) (ret : ∀ h' tk' m', Fr h₀ L h' m' → Q (.ret (.bool true)) { s with heap := h', toks := tk' }) :
    wpAny (model PySem.Challenge.rw_vs0001_01.row.prog w) (ktrTop dp un gd cn sc L a ccd (cellsFrom ck sc.names []) []) (execs (endOf b) (envX cn sc L a ccd (cellsFrom ck sc.names []))) Q E s := by
  have jr := J.2.2.2.2.2
  refine l_loop (y := ⟨mgr, mgrD, hl, cnt, cd, tk, tkD⟩) (tms := timesL q2 q5) (R := []) (ep1 := 0) hlaw XB TB B F X T hd hu (wl := (nb, PySem.W.listOf vs.toArray 0) :: (rl, PySem.W.listOf #[] 0) :: without [ck + 1, ck] wl) (fun p hp => ?_) hok host List.mem_cons_self hI hlen M (start_St g0 g1 g2 g3 g4 I z0 z6 J (fun p hp => allLt_mem zm p hp) zr zn) ?_ hE ret
  · simp only [List.mem_cons] at hp
    rcases hp with rfl | rfl | rfl | rfl | rfl | hp
    · exact N _ (by simp only [List.mem_cons]; exact .inr (.inr (.inr (.inr (jr _ (by simp))))))
    · exact N _ (by simp only [List.mem_cons]; exact .inr (.inr (.inr (.inr (jr _ (by simp))))))
    · exact N _ (by simp)
    · exact N _ (by simp)
    · exact N _ (by simp)
    · exact N _ (by simp only [List.mem_cons]; exact .inr (.inr (.inr (.inr (mem_without.mp hp).1))))
  · exact ⟨by omega, by decide, fun r hr => by simp at hr, tv0_le, fun h => absurd h (Nat.not_lt_zero _), fun h => absurd h (Nat.not_lt_zero _)⟩
end
end Mine
end

section
open PySem PySem.W PySem.Spec PySem.Calls PyProof.Rows PyProof.Rows.LCg PyProof.Rows.LCt
namespace Mine
set_option maxRecDepth 100000

section
variable {w : World} {mean : ExcName → Option Value} {mg mb : Str → Option Value} {dp un : Nat} {gd : Option (List Code)} {cn : Str} {a : Addr} {ccd : Value} {A₀ : Around} {base h₀ : Heap} {L : Addr} {m : Str → Option Value} {s : Shared}
  {Q : Flow → Shared → Prop} {E : Value → Shared → Prop}
local macro_rules | `(tactic| k_mem) => `(tactic| first | assumption | exact List.Mem.head _ | (refine List.Mem.tail _ ?_; k_mem))
local macro_rules | `(tactic| k_room) => `(tactic| ktr_room)
local macro_rules | `(tactic| walk_at "execs cons") => `(tactic| ((with_reducible show wpAny _ _ (execs (Stmt.For _ _ _ _ _ :: _) _) _ _ _); refine Hold.mk ?_))

set_option maxHeartbeats 8000000 in
theorem l_nums {b : List Stmt} {sc : Scope} {mgr mgrD hl cnt cd ck : Addr} {t1 t2 t3 tn k0 k2 : Tok} {ost ok : Obj} {kv sv : Option Value} {tk tkD : Nat → Addr} {tl sl : Addr} {svs : List Value} {script : List Int} {wl : List (Addr × Obj)} (hlaw : LawIs w.params b sc)
    (XB : (hd.heap_39 w.params).In base) (TB : Top hd.view_39 Lo0 mean mg mb base) (B : Below A₀ base [] h₀) (F : Fr h₀ L s.heap m) (X : (hd.heap_39 w.params).In h₀) (T : Top hd.view_39 Lo0 mean mg mb h₀) (hd : dp + 19 < recursionLimit) (hu : un + 190 < cLine)
    (N : News h₀ L s.heap wl) (hL : h₀.IsList sl svs.toArray) (hI : IntsAre svs script) (hn : script.length ≤ 63) (hok : ok.data = .cell kv) (host : ost.data = .cell sv)
    (g0 : @LT.lt Nat _ (ck + 1) mgrD) (g1 : @LT.lt Nat _ mgrD mgr) (g2 : @LT.lt Nat _ mgr hl) (g3 : @LT.lt Nat _ hl cd) (g4 : @LT.lt Nat _ cd cnt) (I : Inc tk tkD) (z0 : AllLt (tkD 0) (firstL w mgr mgrD hl cnt cd ck t1 t2 t3 tn k0 k2 ost ok)) (z6 : @LT.lt Nat _ (tk 6) tl)
    (J : SetJ w ⟨mgr, mgrD, hl, cnt, cd, tk, tkD⟩ tl sl (firstL w mgr mgrD hl cnt cd ck t1 t2 t3 tn k0 k2 ost ok) 7 m wl)
    (hE : PassesOwn (model PySem.Challenge.rw_vs0001_01.row.prog w) (ktrTop dp un gd cn sc L a ccd (cellsFrom ck sc.names []) []) (envX cn sc L a ccd (cellsFrom ck sc.names [])) E) (ret : ∀ h' tk' m', Fr h₀ L h' m' → Q (.ret (.bool true)) { s with heap := h', toks := tk' }) :
    wpAny (model PySem.Challenge.rw_vs0001_01.row.prog w) (ktrTop dp un gd cn sc L a ccd (cellsFrom ck sc.names []) []) (execs (timesOf b) (envX cn sc L a ccd (cellsFrom ck sc.names []))) Q E s := by
  obtain ⟨rfl, rfl⟩ := hlaw
  have hlaw : LawIs w.params (lawBody w.params) (lawScope w.params) := ⟨rfl, rfl⟩
  have hm : m = fun z => if z = Str.ofString "tasks" then some (.ref tl) else if z = Str.ofString "manager" then some (.ref mgr) else if z = Str.ofString "script" then some (.ref sl) else m z := by
    funext z
    by_cases e1 : z = Str.ofString "tasks"
    · rw [if_pos e1, e1]; exact J.2.2.1
    · rw [if_neg e1]
      by_cases e2 : z = Str.ofString "manager"
      · rw [if_pos e2, e2]; exact J.1
      · rw [if_neg e2]
        by_cases e3 : z = Str.ofString "script"
        · rw [if_pos e3, e3]; exact J.2.1
        · rw [if_neg e3]
  rw [hm] at F
  clear hm
  revert X XB
  k_fill
  intro XB X
  revert hlaw
  revert hE
  refine' law_at (P := fun b sc => PassesOwn (model PySem.Challenge.rw_vs0001_01.row.prog w) (ktrTop dp un gd cn sc L a ccd (cellsFrom ck sc.names []) []) (envX cn sc L a ccd (cellsFrom ck sc.names [])) E → LawIs w.params b sc → wpAny (model PySem.Challenge.rw_vs0001_01.row.prog w) (ktrTop dp un gd cn sc L a ccd (cellsFrom ck sc.names []) []) (execs (timesOf b) (envX cn sc L a ccd (cellsFrom ck sc.names []))) Q E s) ?h ?_
  case h => k_is
  intro hE hlaw
  dsimp only [timesOf]
  k_steps
  · unfold Hold
    (rename News _ _ _ _ => NN)
    (rename Fr _ _ _ _ => FF)
    (rename @LT.lt Nat _ _ _ ∧ @LT.lt Nat _ _ _ ∧ @LT.lt Nat _ _ _ ∧ AllLt _ _ => lN)
    (rename @LT.lt Nat _ _ _ ∧ AllLt _ _ => lR)
    refine l_enter (nums := [14, 426, 54, 480, 32, 61, 21, 5, 46, 5]) hlaw XB TB B FF ⟨rfl, rfl, rfl, rfl, ⟨_, rfl⟩, ⟨_, rfl⟩⟩ X T hd hu NN ?_ ?_ hok host g0 g1 g2 g3 g4 I z0 z6 J (allLt_of (by assumption)) lR.1 lN.2.1 hE (fun h' tk' => ret h' tk')
    · exact .cons 14 _ (.cons 426 _ (.cons 54 _ (.cons 480 _ (.cons 32 _ (.cons 61 _ (.cons 21 _ (.cons 5 _ (.cons 46 _ (.cons 5 _ .nil)))))))))
    · exact Nat.le_of_ble_eq_true rfl
  · unfold Hold
    (rename News _ _ _ _ => NN)
    (rename Fr _ _ _ _ => FF)
    (rename IntsAre _ _ => hI2)
    (rename @LT.lt Nat _ _ _ ∧ @LT.lt Nat _ _ _ ∧ @LT.lt Nat _ _ _ ∧ AllLt _ _ => lN)
    (rename @LT.lt Nat _ _ _ ∧ AllLt _ _ => lR)
    refine l_enter hlaw XB TB B FF ⟨rfl, rfl, rfl, rfl, ⟨_, rfl⟩, ⟨_, rfl⟩⟩ X T hd hu NN hI2 ?_ hok host g0 g1 g2 g3 g4 I z0 z6 J (allLt_of (by assumption)) lR.1 lN.2.1 hE (fun h' tk' => ret h' tk')
    rw [hI2.length, List.length_take]
    exact Nat.min_le_left _ _
end
end Mine
end

section
open PySem PySem.W PySem.Spec PySem.Calls PyProof.Rows PyProof.Rows.LCg PyProof.Rows.LCt
namespace Mine
set_option maxRecDepth 100000

section
variable {w : World} {mean : ExcName → Option Value} {mg mb : Str → Option Value} {dp un : Nat} {gd : Option (List Code)} {cn : Str} {a : Addr} {ccd : Value} {A₀ : Around} {base h₀ : Heap} {L : Addr} {m : Str → Option Value} {s : Shared}
  {Q : Flow → Shared → Prop} {E : Value → Shared → Prop}
/-- the whole text of the law -/
theorem l_law {b : List Stmt} {sc : Scope} {ck sl : Addr} {ost ok : Obj} {kv sv : Option Value} {svs : List Value} {script : List Int} (hlaw : LawIs w.params b sc)
    (XB : (hd.heap_39 w.params).In base) (TB : Top hd.view_39 Lo0 mean mg mb base) (B : Below A₀ base [] h₀) (F : Fr h₀ L s.heap (fun z => if z = Str.ofString "script" then some (.ref sl) else m z)) (X : (hd.heap_39 w.params).In h₀) (T : Top hd.view_39 Lo0 mean mg mb h₀) (hd : dp + 19 < recursionLimit) (hu : un + 190 < cLine)
    (N : News h₀ L s.heap ((ck + 1, ost) :: (ck, ok) :: [])) (hL : h₀.IsList sl svs.toArray) (hI : IntsAre svs script) (hn : script.length ≤ 63) (hok : ok.data = .cell kv) (host : ost.data = .cell sv)
    (hE : PassesOwn (model PySem.Challenge.rw_vs0001_01.row.prog w) (ktrTop dp un gd cn sc L a ccd (cellsFrom ck sc.names []) []) (envX cn sc L a ccd (cellsFrom ck sc.names [])) E) (ret : ∀ h' tk' m', Fr h₀ L h' m' → Q (.ret (.bool true)) { s with heap := h', toks := tk' }) :
    wpAny (model PySem.Challenge.rw_vs0001_01.row.prog w) (ktrTop dp un gd cn sc L a ccd (cellsFrom ck sc.names []) []) (execs b (envX cn sc L a ccd (cellsFrom ck sc.names []))) Q E s := by
  refine l_pre1 hlaw XB TB B F X T hd hu N hok host ?_
  intro h' tk' mgr mgrD hl cnt cd t1 t2 t3 tn k0 k2 F' N' g0 g1 g2 g3 g4
  refine l_tasks hlaw B F' X T hd hu N' (mgrD := mgrD) (hl := hl) (cnt := cnt) (cd := cd) (fun a ha => ?_) hE ?_
  · simp only [List.mem_cons, List.not_mem_nil, or_false] at ha
    rcases ha with rfl | rfl | rfl | rfl | rfl
    · exact ⟨_, .tail _ (.tail _ (.tail _ (.head _)))⟩
    · exact ⟨_, .tail _ (.tail _ (.tail _ (.tail _ (.head _))))⟩
    · exact ⟨_, .tail _ (.tail _ (.head _))⟩
    · exact ⟨_, .head _⟩
    · exact ⟨_, .tail _ (.head _)⟩
  intro h₂ tk₂ m₂ news₂ tl tk tkD I z0 z6 J F₂ N₂
  exact l_nums hlaw XB TB B F₂ X T hd hu N₂ hL hI hn hok host g0 g1 g2 g3 g4 I z0 z6 J hE (fun h' tk' => ret h' tk')
end
end Mine
end

section
open PySem PySem.W PySem.Spec PySem.Calls PyProof.Rows PyProof.Rows.LCg PyProof.Rows.LCt
namespace Mine
set_option maxRecDepth 100000
theorem law_is {p : Params} {name qual : Str} {params : Arguments} {body : List Stmt} {scope : Scope} {dV kV doc pm cdv ct oc : Value} {an od : Option Addr} {osl : Array (Option Value)}
    (h : (hd.heap_39 p).lookup 260 = some ⟨oc, od, .func (fnOf name qual params body scope dV kV doc pm an cdv ct), osl⟩) : LawIs p body scope :=
  law_at (P := fun b sc => body = b ∧ scope = sc) h ⟨rfl, rfl⟩

set_option maxHeartbeats 8000000 in
theorem holds : PySem.Challenge.rw_vs0001_01.Holds := hd (by
  k_go0
  (all_goals try k_fold)
  (rename Below _ _ _ _ => B)
  (rename Top _ _ _ _ _ _ => T)
  (rename News _ _ _ _ => N)
  (rename Fr _ _ _ _ => F)
  (rename IntsAre _ _ => hI)
  (rename PySem.Heap.IsList _ _ _ => hL)
  (rename ¬ ((63 : Nat) : Int) < _ => hn)
  (rename PySem.W.Frag.In _ _ => KX)
  refine' l_law ?hlaw KX T B F KX T ?hd ?hu N hL hI ?hn (by assumption) (by assumption) ?hE ?ret
  case hlaw => exact law_is (by k_is)
  case hd => decide
  case hu => decide
  case hn => omega
  case hE => passes_own
  case ret =>
    intro h' tk' m' F'
    clear F
    k_steps)
end Mine
end

set_option maxRecDepth 100000 in
set_option maxHeartbeats 8000000 in
theorem PySem.Challenge.cw_vs0001_01_holds : PySem.Challenge.rw_vs0001_01.Holds := by
  exact Mine.holds
