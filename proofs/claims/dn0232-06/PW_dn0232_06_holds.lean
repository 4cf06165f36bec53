import PyProof.Rows.All
import Wide.All
import OpenK.AllK
import Wide.FinOn
import PySem.Challenge.RW_dn0232_06
open PySem PySem.W PySem.Calls PyProof.Rows
set_option Elab.async false
set_option maxRecDepth 100000
set_option maxHeartbeats 4000000
set_option linter.unusedVariables false
set_option linter.unusedSimpArgs false
namespace Mine

/-! ### names known of a frame -/
def lk : List (Str × Value) → Str → Option Value
  | [], _ => none
  | (n, v) :: r, x => if n = x then some v else lk r x
def up (x : Str) (v : Value) : List (Str × Value) → List (Str × Value)
  | [] => [(x, v)]
  | (n, u) :: r => if n = x then (n, v) :: r else (n, u) :: up x v r
theorem lk_up (x y : Str) (v : Value) : ∀ b, lk (up x v b) y = if y = x then some v else lk b y
  | [] => by simp only [up, lk]; by_cases h : x = y <;> simp [h, eq_comm]
  | (n, u) :: r => by
    simp only [up]
    by_cases h : n = x
    · subst h; simp only [if_true, lk]
      by_cases h2 : n = y
      · simp [h2]
      · simp [h2, Ne.symm h2, eq_comm]
    · simp only [if_neg h, lk, lk_up x y v r]
      by_cases h2 : n = y
      · subst h2; simp [h]
      · simp [h2]
/-- all that `b` says, `b'` says -/
def Sub (b' b : List (Str × Value)) : Prop := ∀ x v, lk b x = some v → lk b' x = some v
theorem Sub.nil (b) : Sub b [] := fun _ _ h => by simp [lk] at h
theorem Sub.cons {b' b : List (Str × Value)} {n : Str} {u : Value} (h : lk b' n = some u) (hs : Sub b' b) : Sub b' ((n, u) :: b) := fun x v e => by
  simp only [lk] at e
  by_cases hn : n = x
  · subst hn; simp at e; subst e; exact h
  · simp [hn] at e; exact hs x v e

/-! ### what a made object is -/
abbrev Ent := Addr × (Obj → Prop)
def Frm (b : List (Str × Value)) (o : Obj) : Prop := ∃ es ep, o.data = .dict es ep ∧ StrKeys es ∧ ∀ x v, lk b x = some v → nsFind es x = some v
def Lst (vs : List Value) (o : Obj) : Prop := o.cls = .type "list" ∧ o.dict = none ∧ o.slots = #[] ∧ ∃ n, o.data = .seq vs.toArray n
def Tup (vs : List Value) (o : Obj) : Prop := o.cls = .type "tuple" ∧ o.dict = none ∧ o.slots = #[] ∧ ∃ n, o.data = .seq vs.toArray n
def Cel (v : Option Value) (o : Obj) : Prop := o.data = .cell v
theorem Frm.weak {b b' : List (Str × Value)} {o : Obj} (h : Frm b' o) (hs : Sub b' b) : Frm b o := let ⟨es, ep, h1, h2, h3⟩ := h; ⟨es, ep, h1, h2, fun x v e => h3 x v (hs x v e)⟩

structure St (s₁ : Shared) (L : Addr) (b : List (Str × Value)) (H : List Ent) (s : Shared) : Prop where
  ns : ∃ o, s.heap.get? L = some o ∧ Frm b o
  keep : ∀ a o, s₁.heap.get? a = some o → s.heap.get? a = some o
  fr : s₁.heap.get? L = none
  nw : ∀ p ∈ H, ∃ o, s.heap.get? p.1 = some o ∧ p.2 o
  fresh : ∀ p ∈ H, p.1 ≠ L ∧ s₁.heap.get? p.1 = none
  nd : (H.map (·.1)).Nodup
  eq : ∃ h tk, s = { s₁ with heap := h, toks := tk }

/-! ### changing one entry -/
inductive Upd (a : Addr) (P P' : Obj → Prop) : List Ent → List Ent → Prop
  | head (r) : Upd a P P' ((a, P) :: r) ((a, P') :: r)
  | tail (p) {r r'} : Upd a P P' r r' → Upd a P P' (p :: r) (p :: r')
  | appL {r r'} (q) : Upd a P P' r r' → Upd a P P' (r ++ q) (r' ++ q)
  | appR (q) {r r'} : Upd a P P' r r' → Upd a P P' (q ++ r) (q ++ r')
theorem Upd.split {a P P' H H'} (U : Upd a P P' H H') : ∃ x y, H = x ++ (a, P) :: y ∧ H' = x ++ (a, P') :: y := by
  induction U with
  | head r => exact ⟨[], r, rfl, rfl⟩
  | tail p _ ih => obtain ⟨x, y, rfl, rfl⟩ := ih; exact ⟨p :: x, y, rfl, rfl⟩
  | appL q _ ih => obtain ⟨x, y, rfl, rfl⟩ := ih; exact ⟨x, y ++ q, by simp, by simp⟩
  | appR q _ ih => obtain ⟨x, y, rfl, rfl⟩ := ih; exact ⟨q ++ x, y, by simp, by simp⟩
theorem Upd.mem {a P P' H H'} (U : Upd a P P' H H') : (a, P) ∈ H := by obtain ⟨x, y, rfl, _⟩ := U.split; simp

section
variable {s₁ s : Shared} {L : Addr} {b : List (Str × Value)} {H H' : List Ent}

theorem St.get (S : St s₁ L b H s) {a : Addr} {P : Obj → Prop} (h : (a, P) ∈ H) : ∃ o, s.heap.get? a = some o ∧ P o := S.nw _ h
theorem St.tok (S : St s₁ L b H s) (k : Nat) : St s₁ L b H { s with toks := k } :=
  ⟨S.ns, S.keep, S.fr, S.nw, S.fresh, S.nd, let ⟨h, tk, e⟩ := S.eq; ⟨h, k, by rw [e]⟩⟩

theorem St.size (S : St s₁ L b H s) : s₁.heap.get? s.heap.objs.size = none ∧ s.heap.objs.size ≠ L ∧ ∀ p ∈ H, p.1 ≠ s.heap.objs.size := by
  refine ⟨?_, ?_, ?_⟩
  · cases h : s₁.heap.get? s.heap.objs.size with
    | none => rfl
    | some o => exact absurd (Heap.lt_size (S.keep _ _ h)) (Nat.lt_irrefl _)
  · obtain ⟨o, ho, _⟩ := S.ns; exact Nat.ne_of_gt (Heap.lt_size ho)
  · intro p hp; obtain ⟨o, ho, _⟩ := S.nw p hp; exact Nat.ne_of_lt (Heap.lt_size ho)

/-- any later heap that keeps all -/
theorem St.ext (S : St s₁ L b H s) {h' : Heap} (k : Nat) (hk : ∀ a o, s.heap.get? a = some o → h'.get? a = some o) : St s₁ L b H { s with heap := h', toks := k } where
  ns := let ⟨o, ho, h⟩ := S.ns; ⟨o, hk _ _ ho, h⟩
  keep := fun a o e => hk _ _ (S.keep a o e)
  fr := S.fr
  nw := fun p hp => let ⟨o, ho, h⟩ := S.nw p hp; ⟨o, hk _ _ ho, h⟩
  fresh := S.fresh
  nd := S.nd
  eq := let ⟨h, tk, e⟩ := S.eq; ⟨h', k, by rw [e]⟩

/-- a new object at a place that was free -/
theorem St.new (S : St s₁ L b H s) {h' : Heap} {a : Addr} {P : Obj → Prop} (k : Nat) (hk : ∀ a o, s.heap.get? a = some o → h'.get? a = some o) (ha : s.heap.get? a = none) (hP : ∃ o, h'.get? a = some o ∧ P o) :
    St s₁ L b ((a, P) :: H) { s with heap := h', toks := k } where
  ns := (S.ext k hk).ns
  keep := (S.ext k hk).keep
  fr := S.fr
  nw := fun p hp => by
    rcases List.mem_cons.mp hp with rfl | hp
    · exact hP
    · exact (S.ext k hk).nw p hp
  fresh := fun p hp => by
    rcases List.mem_cons.mp hp with rfl | hp
    · refine ⟨?_, ?_⟩
      · rintro rfl; obtain ⟨o, ho, _⟩ := S.ns; rw [ha] at ho; cases ho
      · cases e : s₁.heap.get? a with
        | none => rfl
        | some o => have := S.keep _ _ e; rw [ha] at this; cases this
    · exact S.fresh p hp
  nd := by
    refine List.nodup_cons.mpr ⟨fun hm => ?_, S.nd⟩
    obtain ⟨q, hq, e⟩ := List.mem_map.mp hm
    obtain ⟨o, ho, _⟩ := S.nw q hq
    have e' : q.1 = a := e
    rw [e', ha] at ho; cases ho
  eq := (S.ext k hk).eq

theorem get?_size_none (h : Heap) : h.get? h.objs.size = none := by
  cases e : h.get? h.objs.size with
  | none => rfl
  | some o => exact absurd (Heap.lt_size e) (Nat.lt_irrefl _)

theorem St.push (S : St s₁ L b H s) {o : Obj} {P : Obj → Prop} (hP : P o) (k : Nat) (hf : o.isFreed = false := by rfl) : St s₁ L b ((s.heap.objs.size, P) :: H) { s with heap := s.heap.push o, toks := k } :=
  S.new k (fun _ _ e => Heap.get?_push_of_some _ e) (get?_size_none _) ⟨o, Heap.get?_push_size _ hf, hP⟩

/-- one object changed -/
theorem St.upd (S : St s₁ L b H s) {h' : Heap} {a : Addr} {P P' : Obj → Prop} (U : Upd a P P' H H') (k : Nat) (hk : ∀ c o, c ≠ a → s.heap.get? c = some o → h'.get? c = some o) (hP : ∃ o, h'.get? a = some o ∧ P' o) :
    St s₁ L b H' { s with heap := h', toks := k } := by
  obtain ⟨x, y, rfl, rfl⟩ := U.split
  have ha := S.fresh (a, P) (by simp)
  have hnd : ((x ++ (a, P') :: y).map (·.1)).Nodup := by have := S.nd; simpa using this
  have hne : ∀ p ∈ x ++ y, p.1 ≠ a := by
    intro p hp e
    have h1 := S.nd
    simp only [List.map_append, List.map_cons] at h1
    have h2 := (List.nodup_append.mp h1)
    rcases List.mem_append.mp hp with hp | hp
    · exact h2.2.2 p.1 (List.mem_map.mpr ⟨p, hp, rfl⟩) a (by simp) e
    · exact (List.nodup_cons.mp h2.2.1).1 (List.mem_map.mpr ⟨p, hp, e⟩)
  refine ⟨?_, ?_, S.fr, ?_, ?_, hnd, ?_⟩
  · obtain ⟨o, ho, h⟩ := S.ns; exact ⟨o, hk _ _ (Ne.symm ha.1) ho, h⟩
  · intro c o e; exact hk _ _ (by rintro rfl; have := ha.2; simp only at this; rw [this] at e; cases e) (S.keep c o e)
  · intro p hp
    rcases List.mem_append.mp hp with hp | hp
    · obtain ⟨o, ho, h⟩ := S.nw p (by simp [hp]); exact ⟨o, hk _ _ (hne p (by simp [hp])) ho, h⟩
    · rcases List.mem_cons.mp hp with rfl | hp
      · exact hP
      · obtain ⟨o, ho, h⟩ := S.nw p (by simp [hp]); exact ⟨o, hk _ _ (hne p (by simp [hp])) ho, h⟩
  · intro p hp
    rcases List.mem_append.mp hp with hp | hp
    · exact S.fresh p (by simp [hp])
    · rcases List.mem_cons.mp hp with rfl | hp
      · exact ha
      · exact S.fresh p (by simp [hp])
  · obtain ⟨h, tk, e⟩ := S.eq; exact ⟨h', k, by rw [e]⟩

/-- the frame's own names changed -/
theorem St.frame (S : St s₁ L b H s) {h' : Heap} {b' : List (Str × Value)} (k : Nat) (hk : ∀ c o, c ≠ L → s.heap.get? c = some o → h'.get? c = some o) (hP : ∃ o, h'.get? L = some o ∧ Frm b' o) :
    St s₁ L b' H { s with heap := h', toks := k } where
  ns := hP
  keep := fun c o e => hk _ _ (by rintro rfl; rw [S.fr] at e; cases e) (S.keep c o e)
  fr := S.fr
  nw := fun p hp => let ⟨o, ho, h⟩ := S.nw p hp; ⟨o, hk _ _ (S.fresh p hp).1 ho, h⟩
  fresh := S.fresh
  nd := S.nd
  eq := let ⟨h, tk, e⟩ := S.eq; ⟨h', k, by rw [e]⟩

theorem St.bind (S : St s₁ L b H s) {b' : List (Str × Value)} (hb : Sub b b') : St s₁ L b' H s := ⟨let ⟨o, ho, h⟩ := S.ns; ⟨o, ho, h.weak hb⟩, S.keep, S.fr, S.nw, S.fresh, S.nd, S.eq⟩
theorem St.perm (S : St s₁ L b H s) (hp : H'.Perm H) : St s₁ L b H' s :=
  ⟨S.ns, S.keep, S.fr, fun p h => S.nw p (hp.mem_iff.mp h), fun p h => S.fresh p (hp.mem_iff.mp h), (hp.map (·.1)).nodup_iff.mpr S.nd, S.eq⟩
theorem St.sub (S : St s₁ L b H s) (hs : H'.Sublist H) : St s₁ L b H' s :=
  ⟨S.ns, S.keep, S.fr, fun p h => S.nw p (hs.subset h), fun p h => S.fresh p (hs.subset h), List.Nodup.sublist (hs.map (·.1)) S.nd, S.eq⟩
theorem St.drop (S : St s₁ L b (p :: H) s) : St s₁ L b H s := S.sub (List.sublist_cons_self _ _)

theorem St.Ns (S : St s₁ L b H s) : ∃ m, s.heap.Ns L m ∧ ∀ x v, lk b x = some v → m x = some v := by
  obtain ⟨o, ho, es, ep, hd, hk, hf⟩ := S.ns
  exact ⟨nsFind es, ⟨o, es, ep, ho, hd, hk, fun _ => rfl⟩, hf⟩
theorem Frm.of_Ns {h : Heap} {L : Addr} {m : Str → Option Value} {b : List (Str × Value)} (hn : h.Ns L m) (hb : ∀ x v, lk b x = some v → m x = some v) : ∃ o, h.get? L = some o ∧ Frm b o := by
  obtain ⟨o, es, ep, ho, hd, hk, hf⟩ := hn
  exact ⟨o, ho, es, ep, hd, hk, fun x v e => (hf x).trans (hb x v e)⟩
end

/-! ### kinds -/
theorem Lst.isList {h : Heap} {a : Addr} {vs : List Value} (x : ∃ o, h.get? a = some o ∧ Lst vs o) : h.IsList a vs.toArray := let ⟨o, ho, hc, _, _, n, hd⟩ := x; ⟨o, ho, hc, n, hd⟩
theorem Tup.isTup {h : Heap} {a : Addr} {vs : List Value} (x : ∃ o, h.get? a = some o ∧ Tup vs o) : IsTup h a vs.toArray := let ⟨o, ho, hc, _, _, n, hd⟩ := x; ⟨o, ho, hc, n, hd⟩
theorem Lst.isL {h : Heap} {a : Addr} {vs : List Value} (x : ∃ o, h.get? a = some o ∧ Lst vs o) : ∃ n, IsL h a vs.toArray n := by
  obtain ⟨⟨c, d, dt, sl⟩, ho, hc, hd, hs, n, hdt⟩ := x
  simp only at hc hd hs hdt; subst hc hd hs hdt
  exact ⟨n, ho⟩
end Mine
namespace Mine

/-! ### texts as lists of numbers -/
def T (l : List Nat) : Str := ⟨l.toArray⟩
@[simp] theorem T_cps (l : List Nat) : (T l).cps.toList = l := rfl
@[simp] theorem T_len (l : List Nat) : (T l).length = l.length := by simp [T, Str.length]
theorem T_of (x : Str) : T x.cps.toList = x := by cases x; rfl
theorem T_inj {a b : List Nat} (h : T a = T b) : a = b := by have := congrArg (fun x => x.cps.toList) h; simpa using this
theorem T_append (a b : List Nat) : T a ++ T b = T (a ++ b) := by
  show Str.mk _ = Str.mk _
  simp [T]
@[simp] theorem T_beq (a b : List Nat) : (T a == T b) = (a == b) := by
  rw [Bool.eq_iff_iff]; simp only [beq_iff_eq]; exact ⟨T_inj, fun h => by rw [h]⟩

def clip (n : Nat) (i : Int) : Nat := (max 0 (min (if i < 0 then i + n else i) (n : Int))).toNat
def loC (n : Nat) : Option Int → Nat
  | none => 0
  | some i => clip n i
def hiC (n : Nat) : Option Int → Nat
  | none => n
  | some i => clip n i
/-- `l[lo:hi]` -/
def cut {α : Type} (l : List α) (lo hi : Option Int) : List α := (l.take (hiC l.length hi)).drop (loC l.length lo)
theorem clip_le (n : Nat) (i : Int) : clip n i ≤ n := by unfold clip; omega
theorem hiC_le (n : Nat) (i : Option Int) : hiC n i ≤ n := by cases i <;> simp [hiC, clip_le]
theorem clip_nn {n : Nat} {i : Int} (h : 0 ≤ i) : clip n i = min i.toNat n := by unfold clip; rw [if_neg (by omega)]; omega

theorem picked {α : Type} (l : List α) (a b : Nat) (hb : b ≤ l.length) : ((List.range (b - a)).map (fun k => a + k)).filterMap (l[·]?) = (l.take b).drop a := by
  by_cases h : a ≤ b
  · rw [StrLaws.picks l (b - a) a (by omega), List.drop_take]
  · have : b - a = 0 := by omega
    rw [this]; simp [List.drop_eq_nil_iff]; omega
theorem sliceRange1 (a b : Nat) : sliceRange (a : Int) (b : Int) 1 = (List.range (b - a)).map (fun k => a + k) := by
  unfold sliceRange
  simp only [show ((1 : Int) > 0) = True from by simp, if_true]
  have e : (if (a : Int) < b then ((b : Int) - a + 1 - 1) / 1 else 0).toNat = b - a := by split <;> omega
  rw [e]
  refine List.map_congr_left fun k _ => ?_
  omega
theorem strSliceIndices_eq (lo hi : Option Int) (n : Nat) : Builtin.Str.strSliceIndices lo hi 1 n = (List.range (hiC n hi - loC n lo)).map (fun k => loC n lo + k) := by
  rw [← sliceRange1]
  unfold Builtin.Str.strSliceIndices
  cases lo <;> cases hi <;> simp only [loC, hiC, clip, show ((1 : Int) > 0) = True from by simp, if_true] <;> congr 1 <;> omega
theorem slice_T (l : List Nat) (lo hi : Option Int) : Txt.slice (T l) lo hi = T (cut l lo hi) := by
  have key : (Builtin.Str.strSliceIndices lo hi 1 (T l).length).filterMap ((T l).cps[·]?) = cut l lo hi := by
    rw [strSliceIndices_eq, T_len]
    have := picked l (loC l.length lo) (hiC l.length hi) (hiC_le _ _)
    simpa [T, cut] using this
  unfold Txt.slice
  split
  · rename_i h
    have hl : (Builtin.Str.strSliceIndices lo hi 1 (T l).length).length = l.length := by simpa using h
    rw [strSliceIndices_eq] at hl
    simp only [List.length_map, List.length_range, T_len] at hl
    have h1 := hiC_le l.length hi
    have : cut l lo hi = l := by
      unfold cut
      have h2 : hiC l.length hi = l.length := by omega
      rw [h2]
      by_cases h0 : l.length = 0
      · have : l = [] := List.eq_nil_of_length_eq_zero h0
        subst this; simp
      · have h3 : loC l.length lo = 0 := by omega
        rw [h3]; simp
    rw [this]
  · rw [key]; rfl

theorem cut_len_le {α : Type} (l : List α) (lo hi : Option Int) : (cut l lo hi).length ≤ l.length := by
  unfold cut; have := hiC_le l.length hi; simp; omega
theorem cut_to {α : Type} (l : List α) {k : Int} (h : 0 ≤ k) : cut l none (some k) = l.take k.toNat := by
  unfold cut
  show List.drop 0 (l.take (clip l.length k)) = _
  rw [clip_nn h, List.drop_zero, ← List.take_take, List.take_length]
theorem cut_from {α : Type} (l : List α) {k : Int} (h : 0 ≤ k) : cut l (some k) none = l.drop k.toNat := by
  unfold cut
  show List.drop (clip l.length k) (l.take l.length) = _
  rw [clip_nn h, List.take_length]
  by_cases hk : k.toNat ≤ l.length
  · rw [Nat.min_eq_left hk]
  · rw [Nat.min_eq_right (by omega), List.drop_length, List.drop_eq_nil_of_le (by omega)]
/-! ### names -/
section
variable {M : Model} {A : Around} {E : Value → Shared → Prop} {s s₁ : Shared} {env : Env} {L : Addr} {b : List (Str × Value)} {H H' : List Ent} {x : Str} {v : Value} {pos : Pos}
theorem ld_L {Q : Value → Shared → Prop} (S : St s₁ L b H s) (hv : lk b x = some v) (h : Q v s) (hx : env.kindOf x = some .local) (hL : env.locals = L) (hk : env.scope.kind = .function) : wpAny M A (loadName env x) Q E s := by
  subst hL
  obtain ⟨m, hn, hm⟩ := S.Ns
  exact wpAny_loadName_local hk hx hn (hm _ _ hv) h
theorem nm_L {Q : Value → Shared → Prop} (S : St s₁ L b H s) (hx : env.kindOf x = some .local) (hv : lk b x = some v) (h : Q v s) (hL : env.locals = L) (hk : env.scope.kind = .function)
    (hd : (x == ("__debug__" : Str)) = false) : wpAny M A (eval (.Name x pos) env) Q E s := wpAny_Name (ld_L S hv h hx hL hk) hd
theorem ld_C {Q : Value → Shared → Prop} {c : Addr} (S : St s₁ L b H s) (hx : env.kindOf x = some .cell) (hc : env.cells.lookup x = some c) (hm : (c, Cel (some v)) ∈ H) (h : Q v s) (hk : env.scope.kind = .function) :
    wpAny M A (loadName env x) Q E s := by
  obtain ⟨o, ho, hd⟩ := S.get hm
  exact wpAny_loadName_cell hk hx hc ⟨o, ho, hd⟩ h
theorem nm_C {Q : Value → Shared → Prop} {c : Addr} (S : St s₁ L b H s) (hx : env.kindOf x = some .cell) (hc : env.cells.lookup x = some c) (hm : (c, Cel (some v)) ∈ H) (h : Q v s) (hk : env.scope.kind = .function)
    (hd : (x == ("__debug__" : Str)) = false) : wpAny M A (eval (.Name x pos) env) Q E s := wpAny_Name (ld_C S hx hc hm h hk) hd
theorem nm_K {Q : Value → Shared → Prop} {K : Frag} {p : Program} {loose : List Str} {mg mb : Str → Option Value} (S : St s₁ L b H s) (X : K.In s₁.heap) (T : TopRead p loose mg mb s₁.heap) (hx : env.kindOf x = some .globalImplicit) (e : nsIn K mainGlobals x = some (some v)) (h : Q v s)
    (hg : env.globals = mainGlobals) (hk : env.scope.kind = .function) (hd : (x == ("__debug__" : Str)) = false) : wpAny M A (eval (.Name x pos) env) Q E s :=
  Name_function_global hk hx (loadGlobal_global (env := env) (hg ▸ T.g.keeps S.keep) (mg_of X T.g e) h) hd
theorem nm_B {Q : Value → Shared → Prop} {K : Frag} {p : Program} {loose : List Str} {mg mb : Str → Option Value} (S : St s₁ L b H s) (X : K.In s₁.heap) (T : TopRead p loose mg mb s₁.heap) (hx : env.kindOf x = some .globalImplicit) (e : nsIn K mainGlobals x = some none) (hv : bootBuiltins x = some v) (h : Q v s)
    (hn : x ≠ "__name__") (hg : env.globals = mainGlobals) (hb : env.builtins = builtinsNs) (hk : env.scope.kind = .function) (hd : (x == ("__debug__" : Str)) = false) : wpAny M A (eval (.Name x pos) env) Q E s :=
  Name_function_global hk hx (loadGlobal_builtin (env := env) (hg ▸ T.g.keeps S.keep) (mg_none_of X T.g e) (hb ▸ T.b.keeps S.keep) ((T.builtins x hn).trans hv) h) hd

theorem st_L {Q : Unit → Shared → Prop} (S : St s₁ L b H s) (hx : env.kindOf x = some .local) (h : ∀ s', St s₁ L (up x v b) H s' → Q () s') (hL : env.locals = L) (hk : env.scope.kind = .function) :
    wpAny M A (storeName env x v) Q E s := by
  subst hL
  obtain ⟨m, hn, hm⟩ := S.Ns
  refine wpAny_storeName_local hx hn (fun h' hn' hs => h _ (S.frame _ (fun c o hc e => hs.extBut c o hc e) (Frm.of_Ns hn' fun y u hy => ?_))) (by rw [hk]; rfl)
  rw [lk_up] at hy
  by_cases e : y = x
  · simpa [e] using hy
  · simp only [e, if_false] at hy ⊢; exact hm _ _ hy
theorem st_C {Q : Unit → Shared → Prop} {c : Addr} {v₀ : Option Value} (S : St s₁ L b H s) (hx : env.kindOf x = some .cell) (hc : env.cells.lookup x = some c) (U : Upd c (Cel v₀) (Cel (some v)) H H') (h : ∀ s', St s₁ L b H' s' → Q () s')
    (hk : env.scope.kind = .function) : wpAny M A (storeName env x v) Q E s := by
  obtain ⟨o, ho, hd⟩ := S.get U.mem
  refine wpAny_storeName_cell hk hx hc ⟨o, ho, hd⟩ fun h' hv hs => ?_
  exact h _ (S.upd U s.toks (fun a o ha e => hs.extBut a o ha e) hv)
end

/-! ### ints -/
section
variable {prog : Program} {w : World} {A : Around} {E : Value → Shared → Prop} {s s₁ : Shared} {L : Addr} {b : List (Str × Value)} {H H' : List Ent} {i j : Int} {t u : Tok} {Q : Value → Shared → Prop} {env : Env}
theorem c_int {k : Nat} {pos : Pos} (S : St s₁ L b H s) (h : ∀ s' t', St s₁ L b H s' → Q (.int i t') s') : wpAny (model prog w) A (eval (.Constant (.int i) k pos) env) Q E s := wpAny_Constant_int (h _ _ (S.tok _))
theorem c_str {x : Str} {k : Nat} {pos : Pos} (S : St s₁ L b H s) (h : ∀ s' t', St s₁ L b H s' → Q (.str x t') s') : wpAny (model prog w) A (eval (.Constant (.str x) k pos) env) Q E s := wpAny_Constant_str (h _ _ (S.tok _))
theorem i_add (S : St s₁ L b H s) (h : ∀ s' t', St s₁ L b H s' → Q (.int (i + j) t') s') : wpAny (model prog w) A (binaryOp .Add (.int i t) (.int j u)) Q E s := add_int (h _ _ (S.tok _))
theorem i_sub (S : St s₁ L b H s) (h : ∀ s' t', St s₁ L b H s' → Q (.int (i - j) t') s') : wpAny (model prog w) A (binaryOp .Sub (.int i t) (.int j u)) Q E s := sub_int (h _ _ (S.tok _))
theorem i_mul (S : St s₁ L b H s) (hm : IntMulOk i j) (h : ∀ s' t', St s₁ L b H s' → Q (.int (i * j) t') s') : wpAny (model prog w) A (binaryOp .Mult (.int i t) (.int j u)) Q E s := mul_int (h _ _ (S.tok _)) hm
theorem i_mod (S : St s₁ L b H s) (h0 : 0 < j) (h : ∀ s' t', St s₁ L b H s' → Q (.int (i % j) t') s') : wpAny (model prog w) A (binaryOp .Mod (.int i t) (.int j u)) Q E s :=
  mod_int (by omega) (by rw [Int.fmod_eq_emod_of_nonneg _ (by omega)]; exact h _ _ (S.tok _))
theorem i_gt (h : Q (.bool (decide (j < i))) s) : wpAny (model prog w) A (compareOp .Gt (.int i t) (.int j u)) Q E s := gt_int h
end

/-! ### texts -/
section
variable {prog : Program} {w : World} {A : Around} {E : Value → Shared → Prop} {s s₁ : Shared} {L : Addr} {b : List (Str × Value)} {H H' : List Ent} {l m : List Nat} {t u : Tok} {Q : Value → Shared → Prop} {env : Env}
theorem t_len (S : St s₁ L b H s) (hl : l.length ≤ sizeLine) (h : ∀ s' t', St s₁ L b H s' → Q (.int l.length t') s') : wpAny (model prog w) A (call (.builtin "len") [.str (T l) t]) Q E s := by
  have := h { s with toks := s.toks + 1 + 1 } (s.toks + 1) (S.tok _)
  refine len_str (by rw [T_len]; rw [sizeLine_eq] at hl; omega) ?_
  rw [T_len]; exact this
theorem t_add (S : St s₁ L b H s) (hl : l.length + m.length ≤ sizeLine) (h : ∀ s' t', St s₁ L b H s' → Q (.str (T (l ++ m)) t') s') : wpAny (model prog w) A (binaryOp .Add (.str (T l) t) (.str (T m) u)) Q E s :=
  add_str (fun t' tk => by rw [T_append]; exact h _ _ (S.tok _)) (by simpa using hl)
/-- a slice object -/
def Slc (lo hi : Option Int) (o : Obj) : Prop := ∃ (l u : Option (Int × Tok)), o.cls = .type "slice" ∧ o.data = .fields #[partValue l, partValue u, .none] ∧ l.map (·.1) = lo ∧ u.map (·.1) = hi
theorem slc_sn {i : Int} {ti : Tok} : Slc (some i) none { cls := .type "slice", data := .fields #[.int i ti, .none, .none] } := ⟨some (i, ti), none, rfl, rfl, rfl, rfl⟩
theorem slc_ns {j : Int} {tj : Tok} : Slc none (some j) { cls := .type "slice", data := .fields #[.none, .int j tj, .none] } := ⟨none, some (j, tj), rfl, rfl, rfl, rfl⟩
/-- both ends of a slice are known -/
def SliceEnd (Q : Value → Shared → Prop) (l u : Value) (s : Shared) : Prop := Q (.ref s.heap.objs.size) { s with heap := s.heap.push { cls := .type "slice", data := .fields #[l, u, .none] } }
theorem slice_end {v v' : Value} {lo hi : Option Int} (S : St s₁ L b H s) (hP : Slc lo hi { cls := .type "slice", data := .fields #[v, v', .none] }) (h : ∀ s' a, St s₁ L b ((a, Slc lo hi) :: H) s' → Q (.ref a) s') : SliceEnd Q v v' s :=
  h _ _ (S.push hP s.toks)
theorem ev_slice {lower upper : Option Expr} {p : Pos}
    (h : wpAny (model prog w) A (evalPart lower env) (fun l s₁ => wpAny (model prog w) A (evalPart upper env) (fun u s₂ => SliceEnd Q l u s₂) E s₁) E s) : wpAny (model prog w) A (eval (.Slice lower upper none p) env) Q E s :=
  wpAny_Slice (wpAny_mono h (fun _ _ h₁ => wpAny_mono h₁ (fun _ _ h₂ => wpAny_pure h₂) fun _ _ x => x) fun _ _ x => x)
theorem t_slice {value slice : Expr} {a : Addr} {lo hi : Option Int} (S : St s₁ L b ((a, Slc lo hi) :: H) s) (hl : l.length ≤ sizeLine) (h : ∀ s' t', St s₁ L b H s' → Q (.str (T (cut l lo hi)) t') s')
    (hs : subscripted slice false (.str (T l) t) (.ref a) = operate [.ref a, .str (T l) t] (getItem (.str (T l) t) (.ref a))) (ht : ∀ r, letTemporaryGo value (.str (T l) t) r = pure ()) :
    wpAny (model prog w) A (subscriptTail value slice (.str (T l) t) (.ref a)) Q E s := by
  obtain ⟨o, ho, lo', hi', hc, hd, rfl, rfl⟩ := S.get (List.mem_cons_self ..)
  refine tail_of_ItemOn ⟨"str", _, F.slot_str_getitem.lookup, typeIs_str _ _ _, wpAny_getItem_str_slice (l := lo') (u := hi') (st := none) ⟨o, ho, hc, hd⟩ rfl ?_⟩ hs ht
  have e := slice_T l (lo'.map (·.1)) (hi'.map (·.1))
  exact post_val_or_str ⟨Nat.le_trans (Txt.slice_le (T l) _ _) (by simpa using hl), fun t' k => (congrArg (fun z => Q (.str z t') _) e).mpr (h _ _ (S.drop.tok k))⟩
end
end Mine
namespace Mine

/-! ### the written number -/
def dig (n : Int) : List Nat := (Str.ofString (toString n)).cps.toList
theorem dig_T (n : Int) : Str.ofString (toString n) = T (dig n) := (T_of _).symm

set_option maxHeartbeats 4000000 in
theorem fmt_meets (P R : Str) (n : Int) (tp tn tq t : Tok) (b : Addr) (hn0 : 0 ≤ n) (hn1 : n < 10 ^ 10) (hP : P.length ≤ 1000000) (hR : R.length ≤ 1000000) :
    Meets (Builtin.«str.__mod__» ⟨[.str ⟨#[37, 115, 91, 37, 100, 32, 99, 104, 97, 114, 115, 93, 37, 115]⟩ t, .ref b], []⟩) (fun _ R' s => IsTup s.heap b #[.str P tp, .int n tn, .str R tq] ∧
      ∀ t' k, R' (.ok (.ret (.str (P ++ ⟨#[91]⟩ ++ Str.ofString (toString n) ++ ⟨#[32, 99, 104, 97, 114, 115, 93]⟩ ++ R) t'))) { s with toks := k }) := by
  kpt_run

def chars : List Nat := [32, 99, 104, 97, 114, 115, 93]

section
variable {prog : Program} {w : World} {A : Around} {E : Value → Shared → Prop} {s s₁ : Shared} {L : Addr} {b : List (Str × Value)} {H H' : List Ent} {l m : List Nat} {t u : Tok} {Q : Value → Shared → Prop} {env : Env}
theorem t_fmt {a : Addr} {P R : List Nat} {n : Int} {tp tn tq : Tok} {X : Str} (S : St s₁ L b ((a, Tup [.str (T P) tp, .int n tn, .str (T R) tq]) :: H) s) (hX : X = Str.mk #[37, 115, 91, 37, 100, 32, 99, 104, 97, 114, 115, 93, 37, 115])
    (hn0 : 0 ≤ n) (hn1 : n < 10 ^ 10) (hP : P.length ≤ 1000000) (hR : R.length ≤ 1000000) (h : ∀ s' t', St s₁ L b H s' → Q (.str (T (P ++ [91] ++ dig n ++ chars ++ R)) t') s') :
    wpAny (model prog w) A (binaryOp .Mod (.str X t) (.ref a)) Q E s := by
  subst hX
  have ht : IsTup s.heap a #[.str (T P) tp, .int n tn, .str (T R) tq] := Tup.isTup (S.get (List.mem_cons_self ..))
  have hT : s.TypeIs (.ref a) "tuple" := ht.typeIs
  refine KPt.bin_left (T := "str") (U := "tuple") (op := .Mod) (by decide) (typeIs_str s _ t) hT F.fills_str_mod KPt.fills_tuple F.slot_str_mod
    (call_meets F.slot_str_mod (typeIs_str s _ t) F.entry_str_mod (F.args_str_mod_2 _ _) (fmt_meets (T P) (T R) n tp tn tq t a hn0 hn1 (by simpa using hP) (by simpa using hR)) ⟨ht, fun t' k => ⟨(fun e => nomatch e), ?_⟩⟩)
  have e : T P ++ ⟨#[91]⟩ ++ Str.ofString (toString n) ++ ⟨#[32, 99, 104, 97, 114, 115, 93]⟩ ++ T R = T (P ++ [91] ++ dig n ++ chars ++ R) := by
    rw [dig_T, show (⟨#[91]⟩ : Str) = T [91] from rfl, show (⟨#[32, 99, 104, 97, 114, 115, 93]⟩ : Str) = T chars from rfl, T_append, T_append, T_append, T_append]
  rw [e]; exact h _ _ (S.drop.tok k)

/-! ### made lists and tuples -/
theorem new_list {vs : List Value} (S : St s₁ L b H s) (hsz : vs.length ≤ sizeLine) (h : ∀ s' a, St s₁ L b ((a, Lst vs) :: H) s' → Q (.ref a) s') : wpAny (model prog w) A (newList vs) Q E s :=
  wpAny_newObj_type (h _ _ (S.push (P := Lst vs) ⟨rfl, rfl, rfl, _, rfl⟩ s.toks)) (by show vs.toArray.size ≤ sizeLine; rw [List.size_toArray]; exact hsz)
theorem new_tuple {vs : List Value} (S : St s₁ L b H s) (hsz : vs.length ≤ sizeLine) (h : ∀ s' a, St s₁ L b ((a, Tup vs) :: H) s' → Q (.ref a) s') : wpAny (model prog w) A (newTuple vs) Q E s :=
  wpAny_newObj_type (h _ _ (S.push (P := Tup vs) ⟨rfl, rfl, rfl, _, rfl⟩ s.toks)) (by show vs.toArray.size ≤ sizeLine; rw [List.size_toArray]; exact hsz)

/-! ### calls -/
/-- what stands where a call's arguments are ready -/
def Ready (K : Frag) (P : Shared → Prop) (s : Shared) : Prop := K.In s.heap ∧ P s
theorem Ready.mk' {K : Frag} {P : Shared → Prop} (X : K.In s₁.heap) (S : St s₁ L b H s) (h : P s) : Ready K P s := ⟨X.keeps S.keep, h⟩
theorem callWith_fn {K : Frag} {f : Addr} {e : Expr} {rest : List Expr} {pos : Pos} (X : K.In s₁.heap) (hk : keepIn K (.ref f) = true)
    (h : wpAny (model prog w) A (spliced (backTo pos (starEach (e :: rest) env))) (fun vs s₁ => Ready K (fun s => wpAny (model prog w) A (call (.ref f) vs) Q E s) s₁) E s)
    (he : starEach (e :: rest) env = (false, eval e env) :: starEach rest env) (hplain : (backTo pos (starEach rest env)).any (·.1) = false) :
    wpAny (model prog w) A (callWith pos (.ref f) [] (backTo pos (starEach (e :: rest) env)) []) Q E s :=
  callWith_K X hk (wpAny_mono h (fun _ _ h => h) fun _ _ h => h) he hplain

theorem St.enter (S : St s₁ L b H s) {h₀ : Heap} {b' : List (Str × Value)} {m : Str → Option Value} (k : Nat) (hns : h₀.Ns s.heap.objs.size m) (hk : ∀ b o, s.heap.get? b = some o → h₀.get? b = some o) (hm : ∀ x v, lk b' x = some v → m x = some v) :
    St s₁ s.heap.objs.size b' ((L, Frm b) :: H) { s with heap := h₀, toks := k } where
  ns := Frm.of_Ns hns hm
  keep := fun a o e => hk _ _ (S.keep a o e)
  fr := S.size.1
  nw := fun p hp => by
    rcases List.mem_cons.mp hp with rfl | hp
    · obtain ⟨o, ho, h⟩ := S.ns; exact ⟨o, hk _ _ ho, h⟩
    · obtain ⟨o, ho, h⟩ := S.nw p hp; exact ⟨o, hk _ _ ho, h⟩
  fresh := fun p hp => by
    rcases List.mem_cons.mp hp with rfl | hp
    · exact ⟨Ne.symm S.size.2.1, S.fr⟩
    · exact ⟨S.size.2.2 p hp, (S.fresh p hp).2⟩
  nd := List.nodup_cons.mpr ⟨fun hm => by
    obtain ⟨q, hq, e⟩ := List.mem_map.mp hm
    exact (S.fresh q hq).1 e, S.nd⟩
  eq := let ⟨h, tk, e⟩ := S.eq; ⟨h₀, k, by rw [e]⟩

/-- back to the caller's frame -/
theorem St.back {L' : Addr} {b' : List (Str × Value)} (S : St s₁ L' b' ((L, Frm b) :: H) s) : St s₁ L b H s where
  ns := S.nw (L, Frm b) (List.mem_cons_self ..)
  keep := S.keep
  fr := (S.fresh (L, Frm b) (List.mem_cons_self ..)).2
  nw := fun p hp => S.nw p (List.mem_cons_of_mem _ hp)
  fresh := fun p hp => ⟨fun e => (List.nodup_cons.mp S.nd).1 (List.mem_map.mpr ⟨p, hp, e⟩), (S.fresh p (List.mem_cons_of_mem _ hp)).2⟩
  nd := (List.nodup_cons.mp S.nd).2
  eq := S.eq

theorem call_fn {K : Frag} {f : Addr} {oc : Value} {od : Option Addr} {osl : Array (Option Value)} {fd : FuncData} {body : List Stmt} {args : List Value} {binds b' : List (Str × Value)}
    (S : St s₁ L b H s) (X : K.In s₁.heap) (hlim : s₁.heap.NoLimit) (ho : K.lookup f = some ⟨oc, od, .func fd, osl⟩) (hcd : codeIn K fd.code fd.qualname = true) (hroom : A.depth < recursionLimit)
    (hbody : fd.body = .stmts body) (hbind : BindsTo s fd ⟨args, []⟩ binds) (hcell : ∀ x ∈ fd.scope.names, x.2 ≠ .cell) (hloc : ∀ x ∈ binds, fd.scope.names.lookup x.1 = some .local) (hb : b' = binds.reverse)
    (h : ∀ s' L', St s₁ L' b' ((L, Frm b) :: H) s' →
      wpAny (model prog w) (A.deeper (callEnv fd L' f)) (execs body (callEnv fd L' f)) (fun fl s'' => Q (match fl with | .ret v => v | _ => .none) s'') (fun _ _ => False) s')
    (hco : fd.scope.isCoroutine = false) (hgen : fd.scope.isGenerator = false) (hk : fd.scope.kind = .function) : wpAny (model prog w) A (call (.ref f) args) Q E s := by
  have X' := X.keeps S.keep
  refine wpAny_call (codeAny_call_def hroom (X' _ _ ho) rfl (hlim.keeps S.keep) (codeRec_of X' hcd) hbody hbind hcell hloc (fun h₀ hns hk₀ => ?_) hco hgen hk)
  refine wpAny_mono (h _ _ (S.enter (b' := b') (s.toks + binds.length) hns hk₀ fun x v e => ?_)) (fun _ _ q => q) (fun _ _ q => q.elim)
  subst hb
  rw [← e]
  clear h hns hk₀ hloc hbind e
  induction binds.reverse with
  | nil => rfl
  | cons p r ih =>
    obtain ⟨n, u⟩ := p
    simp only [List.lookup_cons, lk, ih]
    by_cases hx : n = x
    · subst hx; simp
    · have : (x == n) = false := by simp [Ne.symm hx]
      simp [this, hx]
end
end Mine
namespace Mine

/-- an iterator at `I`: at turn i its object meets `P i`, it hands out what meets `V i`, while the heap meets `R` -/
structure Itr (prog : Program) (w : World) (A : Around) (I : Addr) (n : Nat) (P : Nat → Obj → Prop) (V : Nat → Value → Prop) (R : Heap → Prop) : Prop where
  item : ∀ i (s : Shared) (Q : Option Value → Shared → Prop) (E : Value → Shared → Prop), i < n → (∃ o, s.heap.get? I = some o ∧ P i o) → R s.heap →
    (∀ v h' tk, V i v → (∃ o, h'.get? I = some o ∧ P (i + 1) o) → (∀ c o, c ≠ I → s.heap.get? c = some o → h'.get? c = some o) → Q (some v) { s with heap := h', toks := tk }) → wpAny (model prog w) A (pyNext (.ref I)) Q E s
  done : ∀ (s : Shared) (Q : Option Value → Shared → Prop) (E : Value → Shared → Prop), (∃ o, s.heap.get? I = some o ∧ P n o) → R s.heap →
    (∀ h' tk, (∀ c o, c ≠ I → s.heap.get? c = some o → h'.get? c = some o) → Q none { s with heap := h', toks := tk }) → wpAny (model prog w) A (pyNext (.ref I)) Q E s
  self : ∀ i (s : Shared) (Q : Value → Shared → Prop) (E : Value → Shared → Prop), (∃ o, s.heap.get? I = some o ∧ P i o) → R s.heap → Q (.ref I) s → wpAny (model prog w) A (pyIter (.ref I)) Q E s

def LI (l : Addr) (i : Nat) (o : Obj) : Prop := o.cls = .type "list_iterator" ∧ o.data = .fields #[.ref l, .int i 0]
def RI (x left step : Int) (o : Obj) : Prop := o = { cls := .type "range_iterator", dict := none, data := .fields #[rawInt x, rawInt left, rawInt step], slots := #[] }

theorem Itr.list {prog : Program} {w : World} {A : Around} {I l : Addr} (vs : List Value) (hh : A.handled = none) (hne : l ≠ I) :
    Itr prog w A I vs.length (LI l) (fun i v => vs[i]? = some v) (fun h => h.IsList l vs.toArray) where
  item := fun i s Q E hi ⟨o, ho, h1, h2⟩ hR hQ => by
    refine (Walks.list (prog := prog) (w := w) hh I l hne vs.toArray).item i s Q E (by simpa using hi) ⟨⟨o, ho, h1, h2⟩, hR⟩ fun v h' tk hv hst hk => ?_
    exact hQ v h' tk (by simpa using hv) (let ⟨o, ho, r⟩ := hst.1; ⟨o, ho, r⟩) fun c o hc e => hk c o (by simpa using hc) e
  done := fun s Q E ⟨o, ho, h1, h2⟩ hR hQ =>
    (Walks.list (prog := prog) (w := w) hh I l hne vs.toArray).done s Q E ⟨⟨o, ho, h1, by rw [List.size_toArray]; exact h2⟩, hR⟩ fun h' tk hk => hQ h' tk fun c o hc e => hk c o (by simpa using hc) e
  self := fun i s Q E ⟨o, ho, h1, h2⟩ hR hQ => wpAny_pyIter_listiter (i := i) ⟨o, ho, h1, h2⟩ hQ
theorem Itr.range {prog : Program} {w : World} {A : Around} {I : Addr} (a c : Int) (n : Nat) (hh : A.handled = none) :
    Itr prog w A I n (fun i => RI (a + i * c) ((n : Int) - i) c) (fun i v => ∃ t, v = .int (a + i * c) t) (fun _ => True) where
  item := fun i s Q E hi ⟨o, ho, h1⟩ hR hQ => by
    subst h1
    refine (Walks.range (prog := prog) (w := w) hh I a c n).item i s Q E hi ho fun v h' tk hv hst hk => ?_
    exact hQ v h' tk hv ⟨_, hst, rfl⟩ fun c o hc e => hk c o (by simpa using hc) e
  done := fun s Q E ⟨o, ho, h1⟩ hR hQ => by
    subst h1
    exact (Walks.range (prog := prog) (w := w) hh I a c n).done s Q E ho fun h' tk hk => hQ h' tk fun c o hc e => hk c o (by simpa using hc) e
  self := fun i s Q E ⟨o, ho, h1⟩ hR hQ => by subst h1; exact wpAny_pyIter_rangeiter ho hQ

section
variable {prog : Program} {w : World} {A : Around} {E : Value → Shared → Prop} {s s₁ : Shared} {L I l : Addr} {b : List (Str × Value)} {H H' : List Ent} {env : Env}

theorem it_list {Q : Value → Shared → Prop} {vs : List Value} (S : St s₁ L b H s) (hl : (l, Lst vs) ∈ H ∨ s₁.heap.IsList l vs.toArray) (h : ∀ s' I, l ≠ I → St s₁ L b ((I, LI l 0) :: H) s' → Q (.ref I) s') : wpAny (model prog w) A (pyIter (.ref l)) Q E s := by
  have hl' : s.heap.IsList l vs.toArray := hl.elim (fun m => Lst.isList (S.get m)) fun ⟨o, ho, r⟩ => ⟨o, S.keep _ _ ho, r⟩
  refine wpAny_pyIter_list hl' (h _ _ ?_ (S.push (P := LI l 0) ⟨rfl, rfl⟩ s.toks))
  obtain ⟨o, ho, _⟩ := hl'; exact Nat.ne_of_lt (Heap.lt_size ho)
/-- a range object -/
def Rng (a c st : Int) (o : Obj) : Prop := ∃ t u v, o = { cls := .type "range", dict := none, data := .fields #[.int a t, .int c u, .int st v], slots := #[] }
theorem c_range1 {Q : Value → Shared → Prop} {n : Int} {t : Tok} (S : St s₁ L b H s) (h : ∀ s' r, St s₁ L b ((r, Rng 0 n 1) :: H) s' → Q (.ref r) s') : wpAny (model prog w) A (call (.type "range") [.int n t]) Q E s :=
  call_range_1 (h _ _ (S.push (P := Rng 0 n 1) ⟨_, _, _, rfl⟩ _))
theorem c_range2 {Q : Value → Shared → Prop} {n m : Int} {t u : Tok} (S : St s₁ L b H s) (h : ∀ s' r, St s₁ L b ((r, Rng n m 1) :: H) s' → Q (.ref r) s') : wpAny (model prog w) A (call (.type "range") [.int n t, .int m u]) Q E s :=
  call_range_2 (h _ _ (S.push (P := Rng n m 1) ⟨_, _, _, rfl⟩ _))
theorem it_range1 {Q : Value → Shared → Prop} {r : Addr} {a c : Int} (S : St s₁ L b ((r, Rng a c 1) :: H) s) (ha : -(2 ^ 62) ≤ a) (ha' : a < 2 ^ 62) (hc : -(2 ^ 62) ≤ c) (hc' : c < 2 ^ 62)
    (h : ∀ s' I, St s₁ L b ((I, RI (a + ((0 : Nat) : Int) * 1) (((c - a).toNat : Int) - ((0 : Nat) : Int)) 1) :: H) s' → Q (.ref I) s') : wpAny (model prog w) A (pyIter (.ref r)) Q E s := by
  obtain ⟨o, ho, t, u, v, rfl⟩ := S.get (List.mem_cons_self ..)
  refine wpAny_pyIter_range (a := a) (b := c) (c := 1) ho (small_one ha ha' hc hc') (h _ _ (S.drop.push (P := RI _ _ 1) ?_ s.toks))
  show _ = _
  have e : Builtin.Range.rangeSize a c 1 = ((c - a).toNat : Int) - ((0 : Nat) : Int) := by rw [rangeSize_one]; split <;> omega
  rw [e]; simp

/-- an entry at the head passes from one state to the next -/
theorem St.step {P P' : Obj → Prop} (S : St s₁ L b ((I, P) :: H) s) {h' : Heap} (k : Nat) (hP : ∃ o, h'.get? I = some o ∧ P' o) (hk : ∀ c o, c ≠ I → s.heap.get? c = some o → h'.get? c = some o) : St s₁ L b ((I, P') :: H) { s with heap := h', toks := k } :=
  S.upd (.head _) k hk hP
theorem St.gone {P : Obj → Prop} (S : St s₁ L b ((I, P) :: H) s) {h' : Heap} (k : Nat) (hk : ∀ c o, c ≠ I → s.heap.get? c = some o → h'.get? c = some o) : St s₁ L b H { s with heap := h', toks := k } where
  ns := let ⟨o, ho, h⟩ := S.ns; ⟨o, hk _ _ (Ne.symm (S.fresh _ (List.mem_cons_self ..)).1) ho, h⟩
  keep := fun a o e => hk _ _ (by rintro rfl; have := (S.fresh _ (List.mem_cons_self ..)).2; simp only at this; rw [this] at e; cases e) (S.keep a o e)
  fr := S.fr
  nw := fun p hp => let ⟨o, ho, h⟩ := S.nw p (List.mem_cons_of_mem _ hp); ⟨o, hk _ _ (fun e => (List.nodup_cons.mp S.nd).1 (List.mem_map.mpr ⟨p, hp, e⟩)) ho, h⟩
  fresh := fun p hp => S.fresh p (List.mem_cons_of_mem _ hp)
  nd := (List.nodup_cons.mp S.nd).2
  eq := let ⟨h, tk, e⟩ := S.eq; ⟨h', k, by rw [e]⟩

theorem getHead {P : Obj → Prop} (S : St s₁ L b ((I, P) :: H) s) : ∃ o, s.heap.get? I = some o ∧ P o := S.get (List.mem_cons_self ..)

/-- what a turn of a for leaves -/
def TurnEnd (s₁ : Shared) (L I : Addr) (P : Obj → Prop) (J : List (Str × Value) → List Ent → Prop) (Q : Flow → Shared → Prop) (f : Flow) (s : Shared) : Prop :=
  match f with
  | .next | .cont => ∃ b H, St s₁ L b ((I, P) :: H) s ∧ J b H
  | .brk => Q .next s
  | .ret v => Q (.ret v) s

theorem loop_for {n : Nat} {P : Nat → Obj → Prop} {V : Nat → Value → Prop} {R : Heap → Prop} {x : Str} {px : Pos} {body : List Stmt} {Q : Flow → Shared → Prop} {RE : Value → Shared → Prop} (W : Itr prog w A I n P V R) (J : Nat → List (Str × Value) → List Ent → Prop)
    (S : St s₁ L b ((I, P 0) :: H) s) (h0 : J 0 b H) (hR : ∀ i b H s, i ≤ n → J i b H → St s₁ L b ((I, P i) :: H) s → R s.heap) (hx : env.kindOf x = some .local) (hL : env.locals = L) (hk : env.scope.kind = .function)
    (turn : ∀ i v b' H' s', i < n → V i v → J i b' H' → St s₁ L (up x v b') ((I, P (i + 1)) :: H') s' → wpAny (model prog w) A (execs body env) (TurnEnd s₁ L I (P (i + 1)) (J (i + 1)) Q) (fun _ _ => False) s')
    (done : ∀ b' H' s', J n b' H' → St s₁ L b' H' s' → Q .next s') :
    codeAny (model prog w) A (.forLoop (.Name x px) (.ref I) body [] env) (fun r s' => match r with | .ok f => Q f s' | .error e => RE e s') s := by
  refine codeAny_forLoop (fun k s' => ∃ b' H' i, St s₁ L b' ((I, P i) :: H') s' ∧ J i b' H' ∧ i ≤ n ∧ k = n + 1 - i) ?_ (n + 1) ⟨b, H, 0, S, h0, Nat.zero_le _, rfl⟩
  rintro k s' ⟨b', H', i, S', hJ, hi, rfl⟩
  have hR' := hR i b' H' s' hi hJ S'
  by_cases hlt : i < n
  · refine W.item i _ _ _ hlt (getHead S') hR' fun v h₁ tk₁ hV hP₁ hk₁ => ?_
    refine wpAny_assign_Name (st_L (S'.step tk₁ hP₁ hk₁) hx (fun s₂ S₂ => ?_) hL hk)
    refine wpAny_mono (turn i v b' H' s₂ hlt hV hJ S₂) (fun f s₃ h₃ => ?_) fun _ _ e => e.elim
    cases f with
    | next => obtain ⟨b'', H'', S₃, hJ₃⟩ := h₃; exact ⟨n + 1 - (i + 1), by omega, b'', H'', i + 1, S₃, hJ₃, hlt, rfl⟩
    | cont => obtain ⟨b'', H'', S₃, hJ₃⟩ := h₃; exact ⟨n + 1 - (i + 1), by omega, b'', H'', i + 1, S₃, hJ₃, hlt, rfl⟩
    | brk => exact h₃
    | ret v => exact h₃
  · have hin : i = n := by omega
    subst hin
    exact W.done _ _ _ (getHead S') hR' fun h₁ tk₁ hk₁ => wpAny_execs_nil (done b' H' _ hJ (S'.gone tk₁ hk₁))

/-- where the loop's source is known -/
def ForAt (prog : Program) (w : World) (A : Around) (target : Expr) (body : List Stmt) (env : Env) (Q : Flow → Shared → Prop) (E : Value → Shared → Prop) (xv : Value) (s : Shared) : Prop :=
  wpAny (model prog w) A (pyIter xv) (fun it s₂ => codeAny (model prog w) A (.forLoop target it body [] env) (fun r s' => match r with | .ok f => Q f s' | .error e => cameBackBy (model prog w) A env E e s') s₂) E s
theorem ex_for {target iter : Expr} {body : List Stmt} {pos : Pos} {Q : Flow → Shared → Prop} (h : wpAny (model prog w) A (eval iter env) (fun xv s₁ => ForAt prog w A target body env Q E xv s₁) E s)
    (hs : ∀ x, foldedSetIterable iter env x = pure x) : wpAny (model prog w) A (exec (.For target iter body [] pos) env) Q E s := wpAny_For h hs

theorem for_range1 {x : Str} {px : Pos} {body : List Stmt} {Q : Flow → Shared → Prop} {r : Addr} {a c : Int} (J : Nat → List (Str × Value) → List Ent → Prop) (S : St s₁ L b ((r, Rng a c 1) :: H) s) (h0 : J 0 b H)
    (ha : -(2 ^ 62) ≤ a) (ha' : a < 2 ^ 62) (hc : -(2 ^ 62) ≤ c) (hc' : c < 2 ^ 62) (hh : A.handled = none) (hx : env.kindOf x = some .local) (hL : env.locals = L) (hk : env.scope.kind = .function)
    (turn : ∀ I P i t b' H' s', a + (i : Nat) < c → J i b' H' → St s₁ L (up x (.int (a + (i : Nat)) t) b') ((I, P) :: H') s' → wpAny (model prog w) A (execs body env) (TurnEnd s₁ L I P (J (i + 1)) Q) (fun _ _ => False) s')
    (done : ∀ b' H' s', J (c - a).toNat b' H' → St s₁ L b' H' s' → Q .next s') : ForAt prog w A (.Name x px) body env Q E (.ref r) s :=
  it_range1 S ha ha' hc hc' fun s' I S' => loop_for (Itr.range a 1 (c - a).toNat hh) J S' h0 (fun _ _ _ _ _ _ _ => trivial) hx hL hk
    (fun i v b' H' s' hi ⟨t, hV⟩ hj S => by subst hV; rw [Int.mul_one] at S; exact turn I _ i t b' H' s' (by omega) hj S) done

end
end Mine
namespace Mine

section
variable {prog : Program} {w : World} {A : Around} {E : Value → Shared → Prop} {s s₁ : Shared} {L I l D C : Addr} {b : List (Str × Value)} {H H' : List Ent} {env : Env}

/-- a changed list -/
theorem St.mapSeq (S : St s₁ L b H s) {vs : List Value} {f : Array Value → Array Value} {vs' : List Value} (U : Upd l (Lst vs) (Lst vs') H H') (hf : f vs.toArray = vs'.toArray) (k : Nat) :
    St s₁ L b H' { s with heap := s.heap.update l (Obj.mapSeq f), toks := k } := by
  obtain ⟨⟨c, d, dt, sl⟩, ho, hc, hd, hs, n, hdt⟩ := S.get U.mem
  simp only at hc hd hs hdt; subst hc hd hs hdt
  refine S.upd U k (fun c o hc e => (Heap.get?_update_other _ _ (Ne.symm hc)).trans e) ⟨_, Heap.get?_update_self _ ho rfl, rfl, rfl, rfl, ?_⟩
  exact ⟨_, by show Data.seq _ _ = _; rw [hf]⟩

theorem l_append {Q : Value → Shared → Prop} {vs : List Value} {x : Value} (S : St s₁ L b H s) (U : Upd l (Lst vs) (Lst (vs ++ [x])) H H') (hsz : vs.length ≤ sizeLine) (h : ∀ s', St s₁ L b H' s' → Q .none s') :
    wpAny (model prog w) A (call (.builtin "list.append") [.ref l, x]) Q E s := by
  have hl : s.heap.IsList l vs.toArray := Lst.isList (S.get U.mem)
  obtain ⟨o, ho, hc, n, hd⟩ := id hl
  refine wpAny_call_entry slot_list_append hl.typeIs entry_list_append ?_ (args_list_append _ _)
  show wpAny _ _ (updateSeq l (·.push x) >>= fun _ => ret .none) _ _ s
  refine wpAny_bind (wpAny_updateSeq ho hd (wpAny_pure ⟨.none, rfl, h _ (S.mapSeq U (by simp) s.toks)⟩) (by rw [List.size_toArray]; exact hsz))

/-- the tests of a comprehension's clause -/
abbrev tests (ifs : List Expr) (env : Env) : Sem Bool := forIn ifs true fun c r => if r = true then do let ok ← isTrue c env (eval c env); pure (ForInStep.yield ok) else pure (ForInStep.yield r)
theorem tests_nil {Q : Bool → Shared → Prop} (h : Q true s) : wpAny (model prog w) A (tests [] env) Q E s := wpAny_pure h
def CompEnd (s₁ : Shared) (C : Addr) (X : List Ent) (J : List Ent → Prop) (s : Shared) : Prop := ∃ b H, St s₁ C b (X ++ H) s ∧ J H

theorem comp_loop {n : Nat} {P : Nat → Obj → Prop} {V : Nat → Value → Prop} {R : Heap → Prop} {x : Str} {px pos : Pos} {elt iter : Expr} {ifs : List Expr} {scope : Scope} {RR : Result → Shared → Prop} {bC : List (Str × Value)}
    (W : Itr prog w A I n P V R) (J : Nat → List Value → List Ent → Prop)
    (S : St s₁ C bC ((D, Lst []) :: (I, P 0) :: (L, Frm b) :: H) s) (h0 : J 0 [] H) (hn : n ≤ sizeLine) (hR : ∀ i ys H s bC, i ≤ n → J i ys H → St s₁ C bC ((D, Lst ys) :: (I, P i) :: (L, Frm b) :: H) s → R s.heap)
    (hx : env.kindOf x = some .local) (hL : env.locals = C) (hk : env.scope.kind = .function)
    (turn : ∀ i v ys H' s', i < n → V i v → J i ys H' → St s₁ C [(x, v)] ((D, Lst ys) :: (I, P (i + 1)) :: (L, Frm b) :: H') s' →
      wpAny (model prog w) A (tests ifs env) (fun ok s₃ => if ok = true then wpAny (model prog w) A (eval elt env) (fun y s₄ => CompEnd s₁ C [(D, Lst ys), (I, P (i + 1)), (L, Frm b)] (J (i + 1) (ys ++ [y])) s₄) (fun _ _ => False) s₃
        else CompEnd s₁ C [(D, Lst ys), (I, P (i + 1)), (L, Frm b)] (J (i + 1) ys) s₃) (fun _ _ => False) s')
    (done : ∀ ys H' s' bC, J n ys H' → St s₁ C bC ((D, Lst ys) :: (L, Frm b) :: H') s' → RR (.ok .next) s') :
    codeAny (model prog w) A (.compLoop (.ListComp elt [⟨.Name x px, iter, ifs, 0⟩] scope pos) 0 (.ref I) (.ref D) env) RR s := by
  refine codeAny_compLoop_tests (fun k s' => ∃ bC ys H' i, St s₁ C bC ((D, Lst ys) :: (I, P i) :: (L, Frm b) :: H') s' ∧ J i ys H' ∧ i ≤ n ∧ ys.length ≤ i ∧ k = n + 1 - i) ?_ (n + 1) ⟨bC, [], H, 0, S, h0, Nat.zero_le _, Nat.le_refl _, rfl⟩
  rintro k s' ⟨bC', ys, H', i, S', hJ, hi, hlen, rfl⟩
  have hR' := hR i ys H' s' bC' hi hJ S'
  have S₀ := S'.perm (List.Perm.swap (I, P i) (D, Lst ys) ((L, Frm b) :: H')).symm
  by_cases hlt : i < n
  · refine W.item i _ _ _ hlt (getHead S₀) hR' fun v h₁ tk₁ hV hP₁ hk₁ => ?_
    have S₁ := (S₀.step tk₁ hP₁ hk₁).perm (List.Perm.swap (I, P (i + 1)) (D, Lst ys) ((L, Frm b) :: H'))
    refine wpAny_assign_Name (st_L S₁ hx (fun s₂ S₂ => ?_) hL hk)
    have S₃ := S₂.bind (b' := [(x, v)]) (Sub.cons (by rw [lk_up]; simp) (Sub.nil _))
    refine wpAny_mono (turn i v ys H' s₂ hlt hV hJ S₃) (fun ok s₃ h₃ => ?_) fun _ _ e => e.elim
    cases ok with
    | false =>
      obtain ⟨b₃, H₃, S₃, hJ₃⟩ := h₃
      exact ⟨n + 1 - (i + 1), by omega, b₃, ys, H₃, i + 1, S₃, hJ₃, hlt, by omega, rfl⟩
    | true =>
      refine wpAny_mono h₃ (fun y s₄ h₄ => ?_) fun _ _ e => e.elim
      obtain ⟨b₄, H₄, S₄, hJ₄⟩ := h₄
      refine l_append S₄ (.head _) (by omega) fun s₅ S₅ => ?_
      exact ⟨n + 1 - (i + 1), by omega, b₄, ys ++ [y], H₄, i + 1, S₅, hJ₄, hlt, by simp; omega, rfl⟩
  · have hin : i = n := by omega
    subst hin
    refine W.done _ _ _ (getHead S₀) hR' fun h₁ tk₁ hk₁ => ?_
    exact done ys H' _ bC' hJ (S₀.gone tk₁ hk₁)

/-- what stands behind a comprehension -/
def CompDone (prog : Program) (w : World) (A : Around) (use : Option (Value → Sem Unit)) (Q : Value → Shared → Prop) (E : Value → Shared → Prop) (s₁ : Shared) (L : Addr) (b : List (Str × Value)) (C D : Addr) (ys : List Value) (H' : List Ent) (s' : Shared) : Prop :=
  match use with
  | none => ∀ s'', St s₁ L b ((D, Lst ys) :: H') s'' → Q (.ref D) s''
  | some u => wpAny (model prog w) A (u (.ref D)) (fun _ s₂ => ∃ b₂ H₂, St s₁ L b₂ ((C, Frm []) :: H₂) s₂ ∧ ∀ s₃, St s₁ L b₂ H₂ s₃ → Q .none s₃) E s'
/-- where a comprehension's source is known -/
def CompAt (prog : Program) (w : World) (A : Around) (elt : Expr) (x : Str) (px pos : Pos) (iter : Expr) (ifs : List Expr) (scope : Scope) (env : Env) (cl : List (Str × Addr)) (use : Option (Value → Sem Unit)) (Q : Value → Shared → Prop) (E : Value → Shared → Prop) (xv : Value) (s : Shared) : Prop :=
  wpAny (model prog w) A (pyIter xv) (fun it s₂ => wpAny (model prog w) A (newList []) (fun acc s₃ =>
      wpAny (model prog w) A (newFunctionEnv scope env.globals cl [] env.qual none .none (some env)) (fun cenv s₄ =>
        codeAny (model prog w) A (.compStart (.ListComp elt [⟨.Name x px, iter, ifs, 0⟩] scope pos) 0 it acc { cenv with scope := relabel scope env }) (compPost (model prog w) A E use Q acc cenv.locals) s₄) E s₃) E s₂) E s

theorem comp_at {n : Nat} {P : Nat → Obj → Prop} {V : Nat → Value → Prop} {R : Heap → Prop} {x : Str} {px pos : Pos} {elt iter : Expr} {ifs : List Expr} {scope : Scope} {cl : List (Str × Addr)} {use : Option (Value → Sem Unit)} {Q : Value → Shared → Prop}
    (W : Itr prog w A I n P V R) (J : Nat → List Value → List Ent → Prop) (S : St s₁ L b ((I, P 0) :: H) s) (h0 : J 0 [] H) (hn : n ≤ sizeLine)
    (hR : ∀ C D i ys H s bC, i ≤ n → J i ys H → St s₁ C bC ((D, Lst ys) :: (I, P i) :: (L, Frm b) :: H) s → R s.heap) (hR0 : ∀ s b', St s₁ L b' ((I, P 0) :: H) s → R s.heap)
    (hcell : ∀ y ∈ scope.names, y.2 ≠ .cell) (hkind : scope.kind = .function) (hx : scope.names.lookup x = some .local)
    (turn : ∀ C D i v ys H' s', i < n → V i v → J i ys H' → St s₁ C [(x, v)] ((D, Lst ys) :: (I, P (i + 1)) :: (L, Frm b) :: H') s' →
      wpAny (model prog w) A (tests ifs (compEnvC scope cl C env)) (fun ok s₃ => if ok = true then wpAny (model prog w) A (eval elt (compEnvC scope cl C env)) (fun y s₄ => CompEnd s₁ C [(D, Lst ys), (I, P (i + 1)), (L, Frm b)] (J (i + 1) (ys ++ [y])) s₄) (fun _ _ => False) s₃
        else CompEnd s₁ C [(D, Lst ys), (I, P (i + 1)), (L, Frm b)] (J (i + 1) ys) s₃) (fun _ _ => False) s')
    (done : ∀ C D ys H' s', J n ys H' → St s₁ L b ((C, Frm []) :: (D, Lst ys) :: H') s' →
      CompDone prog w A use Q E s₁ L b C D ys H' s') :
    wpAny (model prog w) A (newList []) (fun acc s₃ =>
      wpAny (model prog w) A (newFunctionEnv scope env.globals cl [] env.qual none .none (some env)) (fun cenv s₄ =>
        codeAny (model prog w) A (.compStart (.ListComp elt [⟨.Name x px, iter, ifs, 0⟩] scope pos) 0 (.ref I) acc { cenv with scope := relabel scope env }) (compPost (model prog w) A E use Q acc cenv.locals) s₄) E s₃) E s := by
  refine new_list S (by simp [sizeLine_eq]) fun s₃ D S₃ => ?_
  refine wpAny_newFunctionEnv hcell (by intro y hy; simp at hy) (fun h₁ hns₁ hsb₁ => ?_) hkind
  have S₄ := S₃.enter (b' := []) (s₃.toks + ([] : List (Str × Value)).length) hns₁ (fun c o e => hsb₁.extBut c o (Nat.ne_of_lt (Heap.lt_size e)) (Heap.get?_push_of_some _ e)) (fun x v e => by simp [lk] at e)
  generalize hC : s₃.heap.objs.size = C at S₄ ⊢
  have S₅ : St s₁ C [] ((D, Lst []) :: (I, P 0) :: (L, Frm b) :: H) _ := S₄.perm (by
    refine List.Perm.trans ?_ (List.perm_middle (l₁ := [(D, Lst []), (I, P 0)]) (l₂ := H) (a := (L, Frm b)))
    exact List.Perm.refl _)
  have loop : ∀ s₆, St s₁ C [] ((D, Lst []) :: (I, P 0) :: (L, Frm b) :: H) s₆ → codeAny (model prog w) A (.compLoop (.ListComp elt [⟨.Name x px, iter, ifs, 0⟩] scope pos) 0 (.ref I) (.ref D) (compEnvC scope cl C env)) (compPost (model prog w) A E use Q (.ref D) C) s₆ := by
    intro s₆ S₆
    refine comp_loop (env := compEnvC scope cl C env) W J S₆ h0 hn (fun i ys H s bC hi hJ S => hR C D i ys H s bC hi hJ S) (lookup_relabel_local hx) rfl hkind (fun i v ys H' s' hi hV hJ S => turn C D i v ys H' s' hi hV hJ S) fun ys H' s' bC hJ S' => ?_
    have Sc : St s₁ L b ((C, Frm []) :: (D, Lst ys) :: H') s' := by
      have S0 : St s₁ C bC ((L, Frm b) :: (D, Lst ys) :: H') s' := S'.perm (List.Perm.swap (D, Lst ys) (L, Frm b) H')
      have fC := S0.ns
      have hb := S0.back
      refine ⟨hb.ns, hb.keep, hb.fr, ?_, ?_, ?_, hb.eq⟩
      · intro p hp
        rcases List.mem_cons.mp hp with rfl | hp
        · obtain ⟨o, ho, h⟩ := fC; exact ⟨o, ho, h.weak (Sub.nil _)⟩
        · exact hb.nw p hp
      · intro p hp
        rcases List.mem_cons.mp hp with rfl | hp
        · exact ⟨Ne.symm (S0.fresh (L, Frm b) (List.mem_cons_self ..)).1, S0.fr⟩
        · exact hb.fresh p hp
      · exact List.nodup_cons.mpr ⟨fun hm => by
          obtain ⟨q, hq, e⟩ := List.mem_map.mp hm
          exact (S0.fresh q (List.mem_cons_of_mem _ hq)).1 e, hb.nd⟩
    have fin := done C D ys H' s' hJ Sc
    have nsC : ∀ {b' : List (Str × Value)} {K : List Ent} {s₇ : Shared}, St s₁ L b' ((C, Frm []) :: K) s₇ → ∃ m, s₇.heap.Ns C m ∧ ∀ h', Heap.SameBut C s₇.heap h' → St s₁ L b' K { s₇ with heap := h' } := by
      intro b' K s₇ S₇
      obtain ⟨o, ho, es, ep, hd, hk, hf⟩ := getHead S₇
      exact ⟨nsFind es, ⟨o, es, ep, ho, hd, hk, fun _ => rfl⟩, fun h' hs => S₇.gone s₇.toks fun c o hc e => hs.extBut c o hc e⟩
    cases use with
    | none =>
      obtain ⟨m, hm, hS⟩ := nsC Sc
      exact ⟨m, hm, fun h' hs => fin _ (hS h' hs)⟩
    | some u =>
      refine wpAny_mono fin (fun _ s₂ h₂ => ?_) fun _ _ e => e
      obtain ⟨b₂, H₂, S₂, hq⟩ := h₂
      obtain ⟨m, hm, hS⟩ := nsC S₂
      exact ⟨m, hm, fun h' hs => hq _ (hS h' hs)⟩
  have go := loop _ S₅
  have hRs : R h₁ := hR C D 0 [] H _ [] (Nat.zero_le _) h0 S₅
  exact codeAny_compStart_list go (W.self 0 _ _ _ (getHead (S₅.perm (List.Perm.swap (I, P 0) (D, Lst []) ((L, Frm b) :: H)).symm)) hRs go)

theorem ev_comp {x : Str} {px pos : Pos} {elt iter : Expr} {ifs : List Expr} {scope : Scope} {cl : List (Str × Addr)} {Q : Value → Shared → Prop}
    (hclos : closureFor scope env = pure cl) (hkind : scope.kind = .function) (hnames : ∀ y ∈ scope.names, y.2 = .local → scope.names.lookup y.1 = some .local)
    (h : wpAny (model prog w) A (eval iter env) (fun xv s₁ => CompAt prog w A elt x px pos iter ifs scope env cl none Q E xv s₁) E s) (hs : ∀ x, foldedSetIterable iter env x = pure x) :
    wpAny (model prog w) A (eval (.ListComp elt [⟨.Name x px, iter, ifs, 0⟩] scope pos) env) Q E s := by
  rw [eval_ListComp]
  exact wpAny_comprehension_free (use := none) rfl hs hclos hkind hnames h
/-- over a list -/
theorem comp_list {x : Str} {px pos : Pos} {elt iter : Expr} {ifs : List Expr} {scope : Scope} {cl : List (Str × Addr)} {use : Option (Value → Sem Unit)} {Q : Value → Shared → Prop} {vs : List Value} (J : Nat → List Value → List Ent → Prop)
    (S : St s₁ L b H s) (h0 : J 0 [] H) (hn : vs.length ≤ sizeLine) (hl : (l, Lst vs) ∈ H ∨ s₁.heap.IsList l vs.toArray) (hJ : ∀ i ys H, J i ys H → (l, Lst vs) ∈ H ∨ s₁.heap.IsList l vs.toArray) (hh : A.handled = none)
    (hcell : ∀ y ∈ scope.names, y.2 ≠ .cell) (hkind : scope.kind = .function) (hx : scope.names.lookup x = some .local)
    (turn : ∀ C D I i v ys H' s', vs[i]? = some v → J i ys H' → St s₁ C [(x, v)] ((D, Lst ys) :: (I, LI l (i + 1)) :: (L, Frm b) :: H') s' →
      wpAny (model prog w) A (tests ifs (compEnvC scope cl C env)) (fun ok s₃ => if ok = true then wpAny (model prog w) A (eval elt (compEnvC scope cl C env)) (fun y s₄ => CompEnd s₁ C [(D, Lst ys), (I, LI l (i + 1)), (L, Frm b)] (J (i + 1) (ys ++ [y])) s₄) (fun _ _ => False) s₃
        else CompEnd s₁ C [(D, Lst ys), (I, LI l (i + 1)), (L, Frm b)] (J (i + 1) ys) s₃) (fun _ _ => False) s')
    (done : ∀ C D ys H' s', J vs.length ys H' → St s₁ L b ((C, Frm []) :: (D, Lst ys) :: H') s' →
      CompDone prog w A use Q E s₁ L b C D ys H' s') :
    CompAt prog w A elt x px pos iter ifs scope env cl use Q E (.ref l) s :=
  it_list S hl fun s' I hne S' => comp_at (Itr.list vs hh hne) J S' h0 hn
    (fun C D i ys H s bC _ h S => (hJ i ys H h).elim (fun m => Lst.isList (S.get (List.mem_cons_of_mem _ (List.mem_cons_of_mem _ (List.mem_cons_of_mem _ m))))) fun ⟨o, ho, r⟩ => ⟨o, S.keep _ _ ho, r⟩)
    (fun s b' S => hl.elim (fun m => Lst.isList (S.get (List.mem_cons_of_mem _ m))) fun ⟨o, ho, r⟩ => ⟨o, S.keep _ _ ho, r⟩) hcell hkind hx
    (fun C D i v ys H' s' hi hV hJ S => turn C D I i v ys H' s' hV hJ S) done
theorem comp_range1 {x : Str} {px pos : Pos} {elt iter : Expr} {ifs : List Expr} {scope : Scope} {cl : List (Str × Addr)} {use : Option (Value → Sem Unit)} {Q : Value → Shared → Prop} {r : Addr} {a c : Int} (J : Nat → List Value → List Ent → Prop)
    (S : St s₁ L b ((r, Rng a c 1) :: H) s) (h0 : J 0 [] H) (hn : (c - a).toNat ≤ sizeLine) (ha : -(2 ^ 62) ≤ a) (ha' : a < 2 ^ 62) (hc : -(2 ^ 62) ≤ c) (hc' : c < 2 ^ 62) (hh : A.handled = none)
    (hcell : ∀ y ∈ scope.names, y.2 ≠ .cell) (hkind : scope.kind = .function) (hx : scope.names.lookup x = some .local)
    (turn : ∀ C D I P i t ys H' s', a + (i : Nat) < c → J i ys H' → St s₁ C [(x, .int (a + (i : Nat)) t)] ((D, Lst ys) :: (I, P) :: (L, Frm b) :: H') s' →
      wpAny (model prog w) A (tests ifs (compEnvC scope cl C env)) (fun ok s₃ => if ok = true then wpAny (model prog w) A (eval elt (compEnvC scope cl C env)) (fun y s₄ => CompEnd s₁ C [(D, Lst ys), (I, P), (L, Frm b)] (J (i + 1) (ys ++ [y])) s₄) (fun _ _ => False) s₃
        else CompEnd s₁ C [(D, Lst ys), (I, P), (L, Frm b)] (J (i + 1) ys) s₃) (fun _ _ => False) s')
    (done : ∀ C D ys H' s', J (c - a).toNat ys H' → St s₁ L b ((C, Frm []) :: (D, Lst ys) :: H') s' →
      CompDone prog w A use Q E s₁ L b C D ys H' s') :
    CompAt prog w A elt x px pos iter ifs scope env cl use Q E (.ref r) s :=
  it_range1 S ha ha' hc hc' fun s' I S' => comp_at (Itr.range a 1 (c - a).toNat hh) J S' h0 hn (fun _ _ _ _ _ _ _ _ _ _ => trivial) (fun _ _ _ => trivial) hcell hkind hx
    (fun C D i v ys H' s' hi ⟨t, hV⟩ hJ S => by subst hV; rw [Int.mul_one] at S; exact turn C D I _ i t ys H' s' (by omega) hJ S) done
end
end Mine
namespace Mine

/-! ### lists of texts -/
inductive TxAre : List Value → List (List Nat) → Prop
  | nil : TxAre [] []
  | cons (l : List Nat) (t : Tok) {vs ls} : TxAre vs ls → TxAre (.str (T l) t :: vs) (l :: ls)
theorem TxAre.append : ∀ {vs us : List Value} {ls ms : List (List Nat)}, TxAre vs ls → TxAre us ms → TxAre (vs ++ us) (ls ++ ms)
  | _, _, _, _, .nil, h => h
  | _, _, _, _, .cons l t r, h => .cons l t (r.append h)
theorem TxAre.length : ∀ {vs : List Value} {ls : List (List Nat)}, TxAre vs ls → vs.length = ls.length
  | _, _, .nil => rfl
  | _, _, .cons _ _ r => by simp [r.length]
theorem TxAre.get : ∀ {vs : List Value} {ls : List (List Nat)}, TxAre vs ls → ∀ (i : Nat) (l : List Nat), ls[i]? = some l → ∃ t, vs[i]? = some (.str (T l) t)
  | _, _, .cons l t r, 0, l', h => by simp at h; subst h; exact ⟨t, rfl⟩
  | _, _, .cons l t r, i + 1, l', h => by simpa using r.get i l' (by simpa using h)
theorem TxAre.at : ∀ {vs : List Value} {ls : List (List Nat)}, TxAre vs ls → ∀ (i : Nat) (v : Value), vs[i]? = some v → ∃ l t, v = .str (T l) t ∧ ls[i]? = some l
  | _, _, .cons l t r, 0, v, h => by simp at h; subst h; exact ⟨l, t, rfl, rfl⟩
  | _, _, .cons l t r, i + 1, v, h => by simpa using r.at i v (by simpa using h)
theorem TxAre.snoc {vs : List Value} {ls : List (List Nat)} (h : TxAre vs ls) (l : List Nat) (t : Tok) : TxAre (vs ++ [.str (T l) t]) (ls ++ [l]) := h.append (.cons l t .nil)
theorem TxAre.values : ∀ {vs : List Value} {ls : List (List Nat)}, TxAre vs ls → ∃ p : List (Str × Tok), vs = strValues p ∧ p.map (·.1) = ls.map T
  | _, _, .nil => ⟨[], rfl, rfl⟩
  | _, _, .cons l t r => by obtain ⟨p, rfl, e⟩ := r.values; exact ⟨(T l, t) :: p, rfl, by simp [e]⟩
theorem glued_nil : ∀ (ls : List (List Nat)) (acc : List Nat), (ls.map T).foldl (fun acc p => acc ++ (T []).cps ++ p.cps) acc.toArray = (acc ++ ls.flatten).toArray
  | [], acc => by simp
  | l :: r, acc => by
    simp only [List.map_cons, List.foldl_cons]
    have e : acc.toArray ++ (T []).cps ++ (T l).cps = (acc ++ l).toArray := by simp [T]
    rw [e, glued_nil r]; simp
theorem join_T (ls : List (List Nat)) : Txt.join (T []) (ls.map T) = T ls.flatten := by
  unfold Txt.join Builtin.Str.glued
  cases ls with
  | nil => rfl
  | cons l r =>
    show Str.mk (((l :: r).map T).drop 1 |>.foldl _ _) = _
    simp only [List.map_cons, List.drop_one, List.tail_cons, List.headD_cons]
    have := glued_nil r l
    rw [show (T l).cps = l.toArray from rfl, this]; simp [T]

def tx (s : String) : List Nat := (Str.ofString s).cps.toList

section
variable {prog : Program} {w : World} {A : Around} {E : Value → Shared → Prop} {s s₁ : Shared} {L l a c : Addr} {b : List (Str × Value)} {H H' : List Ent} {env : Env} {Q : Value → Shared → Prop} {t u : Tok} {i j : Int}

theorem c_tx {x : String} {k : Nat} {pos : Pos} (S : St s₁ L b H s) (h : ∀ s' t', St s₁ L b H s' → Q (.str (T (tx x)) t') s') : wpAny (model prog w) A (eval (.Constant (.str (Str.ofString x)) k pos) env) Q E s :=
  c_str S fun s' t' S' => by have := h s' t' S'; rwa [show T (tx x) = Str.ofString x from T_of _] at this

/-! ### where a list lies -/
def IsAt (s₁ : Shared) (H : List Ent) (l : Addr) (vs : List Value) : Prop := (l, Lst vs) ∈ H ∨ s₁.heap.IsList l vs.toArray
theorem IsAt.isList {vs : List Value} (S : St s₁ L b H s) (h : IsAt s₁ H l vs) : s.heap.IsList l vs.toArray := h.elim (fun m => Lst.isList (S.get m)) fun ⟨o, ho, r⟩ => ⟨o, S.keep _ _ ho, r⟩

theorem i_fdiv (S : St s₁ L b H s) (h0 : 0 < j) (h1 : j < 1073741824) (h : ∀ s' t', St s₁ L b H s' → Q (.int (i / j) t') s') : wpAny (model prog w) A (binaryOp .FloorDiv (.int i t) (.int j u)) Q E s :=
  floordiv_int (by omega) (by rw [Int.fdiv_eq_ediv_of_nonneg _ (by omega)]; exact h _ _ (S.tok _)) (Or.inl (PyProof.noPylong_small (by omega)))
theorem i_mulR (S : St s₁ L b H s) (hj : Builtin.Int.intBits j ≤ 64) (h : ∀ s' t', St s₁ L b H s' → Q (.int (i * j) t') s') : wpAny (model prog w) A (binaryOp .Mult (.int i t) (.int j u)) Q E s := i_mul S (.of_right hj) h
theorem i_neg (S : St s₁ L b H s) (h : ∀ s' t', St s₁ L b H s' → Q (.int (-i) t') s') : wpAny (model prog w) A (unaryOp .USub (.int i t)) Q E s := neg_int (h _ _ (S.tok _))
theorem i_le (h : Q (.bool (decide (i ≤ j))) s) : wpAny (model prog w) A (compareOp .LtE (.int i t) (.int j u)) Q E s := le_int h
theorem c_chr (S : St s₁ L b H s) (h0 : 0 ≤ i) (h1 : i ≤ 1114111) (h : ∀ s' t', St s₁ L b H s' → Q (.str (T [i.toNat]) t') s') : wpAny (model prog w) A (call (.builtin "chr") [.int i t]) Q E s :=
  chr_of_range h0 h1 (h _ _ (S.tok _))
theorem c_strInt (S : St s₁ L b H s) (h0 : i.natAbs.log2 < 1920) (h : ∀ s' t', St s₁ L b H s' → Q (.str (T (dig i)) t') s') : wpAny (model prog w) A (call (.type "str") [.int i t]) Q E s :=
  P.str_of_int h0 (by have := h { s with toks := s.toks + 1 } s.toks (S.tok _); rw [← dig_T] at this; exact this)
theorem c_lenL {vs : List Value} (S : St s₁ L b H s) (hl : IsAt s₁ H l vs) (hsz : vs.length ≤ sizeLine) (h : ∀ s' t', St s₁ L b H s' → Q (.int vs.length t') s') : wpAny (model prog w) A (call (.builtin "len") [.ref l]) Q E s := by
  have h' := h { s with toks := s.toks + 1 + 1 } (s.toks + 1) (S.tok _)
  refine len_list (hl.isList S) (by rw [sizeLine_eq] at hsz; rw [List.size_toArray]; omega) ?_
  rw [List.size_toArray]; exact h'
theorem c_sum {vs : List Value} {ns : List Int} (S : St s₁ L b H s) (hh : A.handled = none) (hl : IsAt s₁ H l vs) (hi : IntsAre vs ns) (h : ∀ s' t', St s₁ L b H s' → Q (.int ns.sum t') s') : wpAny (model prog w) A (call (.builtin "sum") [.ref l]) Q E s := by
  obtain ⟨xs, hx⟩ := hi.allInts.items
  refine sum_intListG hh (xs := xs) (by rw [← hx]; exact hl.isList S) fun h' tk t' hk => ?_
  have e : ns.sum = preSum (numAt xs) xs.size := by
    have h1 : numsOf vs.toArray.toList = ns := hi.numsOf
    rw [hx, nums_intItems] at h1
    rw [preSum_eq, List.take_of_length_le (by simp), ← h1]
  rw [← e]; exact h _ _ (S.ext tk hk)
theorem c_join {vs : List Value} {ls : List (List Nat)} (S : St s₁ L b H s) (hl : IsAt s₁ H l vs) (ht : TxAre vs ls) {x : Str} (hx : x = T []) (hsz : (ls.map List.length).sum ≤ sizeLine) (h : ∀ s' t', St s₁ L b H s' → Q (.str (T ls.flatten) t') s') :
    wpAny (model prog w) A (call (.builtin "str.join") [.str x t, .ref l]) Q E s := by
  subst hx
  obtain ⟨p, rfl, e⟩ := ht.values
  refine SC.join (l := p) (hl.isList S) e ?_ fun t' k => ?_
  · unfold JoinOk
    rw [StrLaws.joinTotal]
    simp only [T_len, List.length_nil, Nat.mul_zero, Nat.add_zero, List.map_map]
    have : (ls.map ((fun x : Str => x.length) ∘ T)) = ls.map List.length := List.map_congr_left fun l _ => T_len l
    rw [this]
    simp only [Builtin.Str.tooLong, Bool.not_eq_true', decide_eq_false_iff_not]
    omega
  · rw [join_T]; exact h _ _ (S.tok _)

theorem t_mul {l : List Nat} {n : Int} (S : St s₁ L b H s) (hn : l.length * n.toNat ≤ sizeLine) (hn' : -(2 ^ 62) ≤ n) (hn2 : n < 2 ^ 62) (h : ∀ s' t', St s₁ L b H s' → Q (.str (T (List.replicate n.toNat l).flatten) t') s') : wpAny (model prog w) A (binaryOp .Mult (.str (T l) t) (.int n u)) Q E s := by
  have e : Txt.mul (T l) n = T (List.replicate n.toNat l).flatten := by
    unfold Txt.mul
    split
    · have : n.toNat = 0 := by omega
      rw [this]; rfl
    · split
      · rename_i h1 h2
        simp only [Bool.or_eq_true, beq_iff_eq, T_len, List.length_eq_zero_iff] at h2
        rcases h2 with rfl | rfl
        · simp
        · simp
      · show Str.mk _ = Str.mk _
        have : ∀ (k : Nat) (acc : List Nat), (List.replicate k (T l).cps).foldl (· ++ ·) acc.toArray = (acc ++ (List.replicate k l).flatten).toArray := by
          intro k
          induction k with
          | zero => intro acc; simp
          | succ k ih => intro acc; simp only [List.replicate_succ, List.foldl_cons, List.flatten_cons]; rw [show acc.toArray ++ (T l).cps = (acc ++ l).toArray from by simp [T], ih]; simp
        have := this n.toNat []
        simp only [List.nil_append] at this
        rw [show (#[] : Array Nat) = ([] : List Nat).toArray from rfl, this]
  refine SB.mul ⟨by simp; omega, fun h1 _ => ?_, fun _ _ => ?_⟩ fun t' k => by rw [e]; exact h _ _ (S.tok _)
  · rw [T_len, gt_iff_lt, Int.not_lt]
    rw [sizeLine_eq] at hn
    have hn1 : 0 < n := by omega
    refine (Int.le_ediv_iff_mul_le hn1).mpr ?_
    have h2 : (l.length : Int) * n = ((l.length * n.toNat : Nat) : Int) := by rw [Int.natCast_mul, Int.toNat_of_nonneg (by omega)]
    rw [h2]; omega
  · rw [T_len]; unfold Builtin.Str.tooLong; simpa using hn

theorem t_item {value slice : Expr} {l : List Nat} {k : Int} {ch : Nat} (S : St s₁ L b H s) (h0 : 0 ≤ k) (h1 : k < 2 ^ 62) (hx : l[k.toNat]? = some ch) (h : ∀ s' t', St s₁ L b H s' → Q (.str (T [ch]) t') s')
    (hs : subscripted slice false (.str (T l) t) (.int k u) = operate [.str (T l) t, .int k u] (getItem (.str (T l) t) (.int k u))) :
    wpAny (model prog w) A (subscriptTail value slice (.str (T l) t) (.int k u)) Q E s := by
  refine tail_any (typeIs_str s _ t) F.slot_str_getitem.lookup (getItem_str (c := ch) (by simp; omega) ?_ (h _ _ (S.tok _))) hs
  have hlt : k.toNat < l.length := (List.getElem?_eq_some_iff.mp hx).1
  rw [T_len, seqIndex_of h0 (by omega)]
  simpa [T] using hx
theorem l_item {value slice : Expr} {vs : List Value} {k : Int} {x : Value} (S : St s₁ L b H s) (hl : IsAt s₁ H l vs) (h0 : 0 ≤ k) (h1 : k < 2 ^ 62) (hx : vs[k.toNat]? = some x) (h : Q x s)
    (hs : subscripted slice false (.ref l) (.int k u) = operate [.ref l, .int k u] (getItem (.ref l) (.int k u))) :
    wpAny (model prog w) A (subscriptTail value slice (.ref l) (.int k u)) Q E s :=
  tail_any (hl.isList S).typeIs slot_list_getitem.lookup (wpAny_getItem_list (hl.isList S) h0 (by omega) (by simpa using hx) h) hs
theorem l_last {value slice : Expr} {vs : List Value} {k : Int} {x : Value} (S : St s₁ L b H s) (hl : IsAt s₁ H l vs) (h0 : k < 0) (h1 : -(vs.length : Int) ≤ k) (hb : vs.length ≤ sizeLine) (hx : vs[(k + vs.length).toNat]? = some x) (h : Q x s)
    (hs : subscripted slice false (.ref l) (.int k u) = operate [.ref l, .int k u] (getItem (.ref l) (.int k u))) :
    wpAny (model prog w) A (subscriptTail value slice (.ref l) (.int k u)) Q E s :=
  tail_any (hl.isList S).typeIs slot_list_getitem.lookup (wpAny_getItem_list_neg (hl.isList S) h0 (by simpa using h1) (by rw [sizeLine_eq] at hb; omega) (by simpa using hx) h) hs

theorem unpack_tup {vs : List Value} {n : Nat} {Q : List Value → Shared → Prop} (S : St s₁ L b ((a, Tup vs) :: H) s) (hh : A.handled = none) (hn : n = vs.length) (h : ∀ s', St s₁ L b H s' → Q vs s') : wpAny (model prog w) A (unpackItems (.ref a) n none) Q E s := by
  have ht : IsTup s.heap a vs.toArray := Tup.isTup (getHead S)
  subst hn
  have := unpackItems_tuple (prog := prog) (w := w) (E := E) (Q := Q) hh ht fun h' he => h _ (S.drop.ext s.toks fun c o e => he c o (Nat.ne_of_lt (Heap.lt_size e)) e)
  simpa using this

theorem m_append {vs : List Value} {pl : Sem Bool} {Q : Value × List Value → Shared → Prop} (S : St s₁ L b H s) (hl : (l, Lst vs) ∈ H) (h : Q (.builtin "list.append", [.ref l]) s) : wpAny (model prog w) A (getMethod (.ref l) "append" pl) Q E s := by
  obtain ⟨o, ho, hc, hd, _⟩ := S.get hl
  exact getMethod_list_append ho hc hd h

theorem l_mul {vs : List Value} {n : Int} (S : St s₁ L b H s) (hl : (l, Lst vs) ∈ H) (hlo : -(2 ^ 62) ≤ n) (hhi : n < 2 ^ 62) (hsz : vs.length * n.toNat ≤ 2 ^ 24) (h : ∀ s' a, St s₁ L b ((a, Lst (List.replicate n.toNat vs).flatten) :: H) s' → Q (.ref a) s') :
    wpAny (model prog w) A (binaryOp .Mult (.ref l) (.int n u)) Q E s := by
  obtain ⟨k, hl'⟩ := Lst.isL (S.get hl)
  have e : List.foldl (fun x1 x2 => x1 ++ x2) #[] (List.replicate (if vs.toArray.isEmpty = true then 0 else n.toNat) vs.toArray) = (List.replicate n.toNat vs).flatten.toArray := by
    have key : ∀ (k : Nat) (acc : List Value), (List.replicate k vs.toArray).foldl (· ++ ·) acc.toArray = (acc ++ (List.replicate k vs).flatten).toArray := by
      intro k
      induction k with
      | zero => intro acc; simp
      | succ k ih => intro acc; simp only [List.replicate_succ, List.foldl_cons, List.flatten_cons]; rw [show acc.toArray ++ vs.toArray = (acc ++ vs).toArray from by simp, ih]; simp
    split
    · rename_i h1
      have : vs = [] := by simpa using h1
      subst this; simp
    · have := key n.toNat []
      simpa using this
  exact wpAny_binaryOp_repeat_ref (T := "list") (U := "int") (by decide) ⟨_, hl', rfl⟩ (fun s' => typeIs_int s' n u) noFill_list_mul F.fills_int_mul F.slot_int_rmul repeat_list F.slot_int_index.lookup
    (call_meets F.slot_int_rmul (typeIs_int s n u) F.entry_int_rmul (F.args_int_rmul_2 _ _) (int___rmul___int_list n u l vs.toArray k)
      ⟨hl', rfl, ⟨_, hl', rfl⟩, call_meets F.slot_list_mul ⟨_, hl', rfl⟩ F.entry_list_mul (F.args_list_mul_2 _ _)
        (AutoListH.list___mul___list_int_3 l vs.toArray k n u (by simp [Builtin.List.listFitsIndex]; omega) (by rw [List.size_toArray]; exact Nat.not_lt.mpr (Nat.le_trans hsz (by decide))) (by simp only [Builtin.List.listTooLong, sizeLine, List.size_toArray, decide_eq_true_eq]; exact Nat.not_lt.mpr (Nat.le_trans hsz (by decide))))
        ⟨hl', h _ _ (S.push (P := Lst (List.replicate n.toNat vs).flatten) ⟨rfl, rfl, rfl, _, by show Data.seq _ _ = _; rw [e]⟩ s.toks)⟩⟩)

/-! ### == -/
def lEq (e : Value → Value → Bool) : List Value → List Value → Bool
  | [], [] => true
  | x :: xs, y :: ys => e x y && lEq e xs ys
  | _, _ => false
theorem lEq_len {e : Value → Value → Bool} : ∀ {xs ys : List Value}, lEq e xs ys = true → xs.length = ys.length
  | [], [], _ => rfl
  | [], _ :: _, h => by simp [lEq] at h
  | _ :: _, [], h => by simp [lEq] at h
  | _ :: xs, _ :: ys, h => by simp only [lEq, Bool.and_eq_true] at h; simp [lEq_len h.2]
theorem lEq_iff {e : Value → Value → Bool} : ∀ {xs ys : List Value}, lEq e xs ys = true ↔ xs.length = ys.length ∧ ∀ (j : Nat) (x y : Value), xs[j]? = some x → ys[j]? = some y → e x y = true
  | [], [] => by simp [lEq]
  | [], _ :: _ => by simp [lEq]
  | _ :: _, [] => by simp [lEq]
  | x :: xs, y :: ys => by
    simp only [lEq, Bool.and_eq_true, List.length_cons, Nat.add_right_cancel_iff]
    rw [lEq_iff]
    constructor
    · rintro ⟨h1, h2, h3⟩
      refine ⟨h2, fun j x' y' hx hy => ?_⟩
      cases j with
      | zero => simp at hx hy; subst hx hy; exact h1
      | succ j => exact h3 j x' y' (by simpa using hx) (by simpa using hy)
    · rintro ⟨h1, h2⟩
      exact ⟨h2 0 x y rfl rfl, h1, fun j x' y' hx hy => h2 (j + 1) x' y' (by simpa using hx) (by simpa using hy)⟩
theorem all_range_lEq {e : Value → Value → Bool} {xs ys : List Value} (h : xs.length = ys.length) : (List.range xs.toArray.size).all (fun j => e (xs[j]?.getD .none) (ys[j]?.getD .none)) = lEq e xs ys := by
  rw [Bool.eq_iff_iff, lEq_iff, List.all_eq_true]
  simp only [List.mem_range, List.size_toArray]
  constructor
  · intro hh
    refine ⟨h, fun j x y hx hy => ?_⟩
    have := hh j (List.getElem?_eq_some_iff.mp hx).1
    rwa [hx, hy] at this
  · rintro ⟨_, hh⟩ j hj
    have h2 : j < ys.length := h ▸ hj
    exact hh j _ _ (by simp [hj]) (by simp [h2])
section
open SeqAt
theorem rc_lists {e : Value → Value → Bool} {vs us : List Value} (ha : s.heap.IsList a vs.toArray) (hc : s.heap.IsList c us.toArray) (hu : A.units < cLine) (he : ∀ x ∈ vs, ∀ y ∈ us, EqAt A.in1 s x y (e x y)) :
    RcAt A s (.ref a) (.ref c) (lEq e vs us) := by
  by_cases hl : vs.length = us.length
  · rw [← all_range_lEq hl]
    exact RcAt.lists ha hc (by simpa using hl) hu fun j h1 h2 => by
      have h1' : j < vs.length := by simpa using h1
      have h2' : j < us.length := by simpa using h2
      have := he vs[j] (List.getElem_mem h1') us[j] (List.getElem_mem h2')
      simpa [h1', h2'] using this
  · have : lEq e vs us = false := by
      cases h : lEq e vs us with
      | false => rfl
      | true => exact absurd (lEq_len h) hl
    rw [this]
    exact RcAt.lists_lengths ha hc (by simpa using hl) hu
/-- == of texts -/
def eTx : Value → Value → Bool
  | .str x _, .str y _ => x == y
  | _, _ => false
theorem lEq_tx : ∀ {vs us : List Value} {ls ms : List (List Nat)}, TxAre vs ls → TxAre us ms → lEq eTx vs us = decide (ls = ms)
  | _, _, _, _, .nil, .nil => by simp [lEq]
  | _, _, _, _, .nil, .cons _ _ _ => by simp [lEq]
  | _, _, _, _, .cons _ _ _, .nil => by simp [lEq]
  | _, _, _, _, .cons l t r, .cons m u q => by
    simp only [lEq, eTx, T_beq, lEq_tx r q]
    rename_i ls _ ms
    by_cases h : l = m <;> by_cases h' : ls = ms <;> simp [h, h']
theorem TxAre.eqAt {vs us : List Value} {ls ms : List (List Nat)} (hv : TxAre vs ls) (hw : TxAre us ms) : ∀ x ∈ vs, ∀ y ∈ us, EqAt A s x y (eTx x y) := by
  intro x hx y hy
  obtain ⟨i, _, rfl⟩ := List.mem_iff_getElem.mp hx
  obtain ⟨j, _, rfl⟩ := List.mem_iff_getElem.mp hy
  obtain ⟨l, t, e, _⟩ := hv.at i _ (List.getElem?_eq_getElem _)
  obtain ⟨m, u, e', _⟩ := hw.at j _ (List.getElem?_eq_getElem _)
  rw [e, e']
  exact EqAt.str_str _ _ _ _
theorem l_eqTx {vs us : List Value} {ls ms : List (List Nat)} (S : St s₁ L b H s) (ha : IsAt s₁ H a vs) (hc : IsAt s₁ H c us) (hv : TxAre vs ls) (hw : TxAre us ms) (hu : A.units < cLine) (h : Q (.bool (decide (ls = ms))) s) :
    wpAny (model prog w) A (compareOp .Eq (.ref a) (.ref c)) Q E s := rc_lists (ha.isList S) (hc.isList S) hu (hv.eqAt hw) prog w E Q (by rw [lEq_tx hv hw]; exact h)
end
theorem l_neInts {vs us : List Value} {ns ms : List Int} (S : St s₁ L b H s) (ha : IsAt s₁ H a vs) (hc : IsAt s₁ H c us) (hv : IntsAre vs ns) (hw : IntsAre us ms) (hu : A.units + 64 < cLine) (h : Q (.bool (!decide (ns = ms))) s) :
    wpAny (model prog w) A (compareOp .NotEq (.ref a) (.ref c)) Q E s := ke_ne_ints (ha.isList S) (hc.isList S) hv hw hu h
end
end Mine
namespace Mine
theorem law_end {c : ClaimW} {cl : Str → Option Addr} {mean : ExcName → Option Value} {args : List WData} {s₁ s' : Shared} {L : Addr} {b : List (Str × Value)} {H : List Ent} (S : St s₁ L b H s') (hg : s₁.gens = #[])
    (hn : ∀ cls, c.raises args cls = false) (hp : c.post args (.bool true) args = true) : GoodW c cl mean args s₁ (.ok (.ret (.bool true))) s' := by
  obtain ⟨h, tk, e⟩ := S.eq
  exact ⟨.inl ⟨.bool true, .bool true, [], rfl, hn, .bool true, hp, unshared_nil⟩, S.keep, by rw [e], by rw [e]; exact hg⟩
theorem law_start1 {s₁ : Shared} {L c : Addr} {h : Heap} {m : Str → Option Value} {b : List (Str × Value)} {o : Obj} {v : Option Value} (tk : Nat) (F : Fr s₁.heap L h m) (N : News s₁.heap L h [(c, o)]) (hd : o.data = .cell v)
    (hb : ∀ x v, lk b x = some v → m x = some v) : St s₁ L b [(c, Cel v)] { s₁ with heap := h, toks := tk } where
  ns := Frm.of_Ns F.ns hb
  keep := F.keep
  fr := Heap.get?_none_of_le F.above
  nw := fun p hp => by rw [List.mem_singleton.mp hp]; exact ⟨o, (N _ (List.mem_singleton.mpr rfl)).1, hd⟩
  fresh := fun p hp => by rw [List.mem_singleton.mp hp]; exact (N (c, o) (List.mem_singleton.mpr rfl)).2
  nd := by simp
  eq := ⟨h, tk, rfl⟩
theorem lk1 {x : Str} {v : Value} {m : Str → Option Value} (h : m x = some v) : ∀ y u, lk [(x, v)] y = some u → m y = some u := fun y u e => by
  simp only [lk] at e
  by_cases hx : x = y
  · subst hx; simp at e; subst e; exact h
  · simp [hx] at e
end Mine
namespace Mine
def fdAt (K : Frag) (f : Addr) : FuncData := match K.lookup f with
  | some ⟨_, _, .func fd, _⟩ => fd
  | _ => default
def bodyAt (fd : FuncData) : List Stmt := match fd.body with
  | .stmts b => b
  | _ => []
end Mine
namespace Mine
theorem ifT {P Q : Prop} (h : P) : if true = true then P else Q := h
end Mine
namespace Mine
section
variable {prog : Program} {w : World} {A : Around} {E : Value → Shared → Prop} {s s₁ : Shared} {L l a c : Addr} {b : List (Str × Value)} {H H' : List Ent} {env : Env}
theorem as_tup {elts : List Expr} {k : Nat} {pos : Pos} {vs : List Value} {Q : Unit → Shared → Prop} (S : St s₁ L b H s) (hm : (a, Tup vs) ∈ H) (hh : A.handled = none) (hn : (assignEach elts env).length = vs.length) (hstar : (assignEach elts env).findIdx? (·.1) = none)
    (h : ∀ s', St s₁ L b H s' → wpAny (model prog w) A (assignInOrder ((assignEach elts env).map (·.2)) vs) Q E s') : wpAny (model prog w) A (assign (.Tuple elts k pos) env (.ref a)) Q E s :=
  assign_Tuple_tuple hh (Tup.isTup (S.get hm)) (by simpa using hn) hstar fun h' he => by simpa using h _ (S.ext s.toks fun c o e => he c o (Nat.ne_of_lt (Heap.lt_size e)) e)
/-- a statement's own post -/
theorem ex_post {st : Stmt} {rest : List Stmt} {Q : Flow → Shared → Prop} (P : Shared → Prop) (h : wpAny (model prog w) A (exec st env) (fun f s' => f = .next ∧ P s') E s) (k : ∀ s', P s' → wpAny (model prog w) A (execs rest env) Q E s') : wpAny (model prog w) A (execs (st :: rest) env) Q E s :=
  wpAny_execs_cons (wpAny_mono h (fun f s' ⟨e, p⟩ => by subst e; exact k s' p) fun _ _ x => x)
theorem same_next {P : Prop} (h : P) : Flow.next = Flow.next ∧ P := ⟨rfl, h⟩
end
end Mine
namespace Mine
theorem dig_le {n : Int} (h0 : 0 ≤ n) {k : Nat} (hk : 0 < k) (h : n < 10 ^ k) : (dig n).length ≤ k := by
  have := toString_length_le h0 hk h
  simpa [dig, Str.length] using this
theorem dig_lt {n : Int} (h0 : 0 ≤ n) {k : Nat} (hk : 0 < k) (h : 10 ^ k ≤ n) : k < (dig n).length := by
  obtain ⟨m, rfl⟩ := Int.eq_ofNat_of_zero_le h0
  have e : (dig (m : Int)).length = m.repr.length := by
    have h1 : (dig (m : Int)).length = (Str.ofString (toString (m : Int))).length := by simp [dig, Str.length]
    rw [h1, PySem.ofString_length]; rfl
  rw [e]
  have := (Nat.length_repr_le_iff (n := m) (k := k) hk)
  have h2 : ¬ m < 10 ^ k := by
    intro hlt
    have : ((10 ^ k : Nat) : Int) ≤ (m : Int) := by simpa using h
    omega
  omega
end Mine
namespace Mine
theorem log2_small {n : Int} (h : n.natAbs < 10 ^ 18) : n.natAbs.log2 < 1920 := by
  by_cases h0 : n.natAbs = 0
  · rw [h0]; decide
  · have : n.natAbs.log2 < 64 := (Nat.log2_lt h0).mpr (by omega)
    omega
end Mine
namespace Mine
open_top hd06 for PySem.Challenge.rw_dn0232_06
end Mine
local macro_rules | `(tactic| walk_at "size") => `(tactic| first | assumption | (simp only [sizeLine_eq, List.length_append, List.length_cons, List.length_nil]; omega) | (simp only [sizeLine_eq, List.length_append, List.length_cons, List.length_nil] at *; omega))
local macro_rules | `(tactic| walk_at "mem") => `(tactic| (first | assumption | exact List.mem_cons_self .. | (refine List.mem_cons_of_mem _ ?_; walk_at "mem")))
local macro_rules | `(tactic| walk_at "isat") => `(tactic| first | exact Or.inr (by assumption) | exact Or.inl (by walk_at "mem"))
local macro_rules | `(tactic| walk_at "upd") => `(tactic| (first | exact Mine.Upd.head _ | (apply Mine.Upd.tail; walk_at "upd")))
local macro_rules | `(tactic| walk_at "eval Name") => `(tactic| ((rename Mine.St _ _ _ _ _ => wS); first
  | (refine Mine.nm_L wS (by with_unfolding_all rfl) (by with_unfolding_all rfl) ?_ (by with_unfolding_all rfl) (by with_unfolding_all rfl) (by with_unfolding_all decide))
  | (refine Mine.nm_K wS (by assumption) (by assumption) (by with_unfolding_all rfl) (by with_unfolding_all rfl) ?_ (by with_unfolding_all rfl) (by with_unfolding_all rfl) (by with_unfolding_all decide))
  | (refine Mine.nm_B wS (by assumption) (by assumption) (by with_unfolding_all rfl) (by with_unfolding_all rfl) (by first | reg3_boot | boot_fact | boot_fast) ?_ (by with_unfolding_all decide) (by with_unfolding_all rfl) (by with_unfolding_all rfl) (by with_unfolding_all rfl) (by with_unfolding_all decide))
  | (refine Mine.nm_C wS (by with_unfolding_all rfl) (by with_unfolding_all rfl) (by walk_at "mem") ?_ (by with_unfolding_all rfl) (by with_unfolding_all decide))))
local macro_rules | `(tactic| walk_at "loadName") => `(tactic| ((rename Mine.St _ _ _ _ _ => wS); first
  | (refine Mine.ld_L wS (by with_unfolding_all rfl) ?_ (by with_unfolding_all rfl) (by with_unfolding_all rfl) (by with_unfolding_all rfl))
  | (refine Mine.ld_C wS (by with_unfolding_all rfl) (by with_unfolding_all rfl) (by walk_at "mem") ?_ (by with_unfolding_all rfl))))
local macro_rules | `(tactic| walk_at "storeName") => `(tactic| ((rename Mine.St _ _ _ _ _ => wS); first
  | (refine Mine.st_L wS (by with_unfolding_all rfl) ?_ (by with_unfolding_all rfl) (by with_unfolding_all rfl); clear wS; intro _ _)
  | (refine Mine.st_C wS (by with_unfolding_all rfl) (by with_unfolding_all rfl) (by walk_at "upd") ?_ (by with_unfolding_all rfl); clear wS; intro _ _)))
local macro_rules | `(tactic| walk_at "eval Constant int") => `(tactic| ((rename Mine.St _ _ _ _ _ => wS); refine Mine.c_int wS ?_; clear wS; intro _ _ _))
local macro_rules | `(tactic| walk_at "eval Constant str") => `(tactic| ((rename Mine.St _ _ _ _ _ => wS); refine Mine.c_tx wS ?_; clear wS; intro _ _ _))
local macro_rules | `(tactic| walk_at "binaryOp Add int int") => `(tactic| ((rename Mine.St _ _ _ _ _ => wS); refine Mine.i_add wS ?_; clear wS; intro _ _ _))
local macro_rules | `(tactic| walk_at "inplaceOp Add int int") => `(tactic| ((rename Mine.St _ _ _ _ _ => wS); refine Mine.i_iadd wS ?_; clear wS; intro _ _ _))
local macro_rules | `(tactic| walk_at "binaryOp Sub int int") => `(tactic| ((rename Mine.St _ _ _ _ _ => wS); refine Mine.i_sub wS ?_; clear wS; intro _ _ _))
local macro_rules | `(tactic| walk_at "binaryOp Mod int int") => `(tactic| ((rename Mine.St _ _ _ _ _ => wS); refine Mine.i_mod wS (by first | decide | omega) ?_; clear wS; intro _ _ _))
local macro_rules | `(tactic| walk_at "compareOp Gt int int") => `(tactic| (refine Mine.i_gt ?_))
local macro_rules | `(tactic| walk_at "compareOp Lt int int") => `(tactic| (refine Mine.i_lt ?_))
local macro_rules | `(tactic| walk_at "compareOp Eq int int") => `(tactic| (refine Mine.i_eq ?_))
local macro_rules | `(tactic| walk_at "compareOp NotEq int int") => `(tactic| (refine Mine.i_ne ?_))
local macro_rules | `(tactic| walk_at "call builtin:len cons nil") => `(tactic| ((rename Mine.St _ _ _ _ _ => wS); first
  | (refine Mine.t_len wS (by walk_at "size") ?_; clear wS; intro _ _ _)
  | (refine Mine.c_lenL wS (by walk_at "isat") (by walk_at "size") ?_; clear wS; intro _ _ _)))
local macro_rules | `(tactic| walk_at "eval Slice") => `(tactic| (refine Mine.ev_slice ?_))
local macro_rules | `(tactic| walk_at "evalPart") => `(tactic| first | (refine Mine.ep_some ?_) | (refine Mine.ep_none ?_))
local macro_rules | `(tactic| walk_at "newTuple") => `(tactic| ((rename Mine.St _ _ _ _ _ => wS); refine Mine.new_tuple wS (by simp [sizeLine_eq]) ?_; clear wS; intro _ _ _))
local macro_rules | `(tactic| walk_at "newList") => `(tactic| ((rename Mine.St _ _ _ _ _ => wS); refine Mine.new_list wS (by simp [sizeLine_eq]) ?_; clear wS; intro _ _ _))
local macro_rules | `(tactic| walk_at "SliceEnd") => `(tactic| ((rename Mine.St _ _ _ _ _ => wS); (first | refine Mine.slice_end wS Mine.slc_ss ?_ | refine Mine.slice_end wS Mine.slc_sn ?_ | refine Mine.slice_end wS Mine.slc_ns ?_ | refine Mine.slice_end wS Mine.slc_nn ?_); clear wS; intro _ _ _))
local macro_rules | `(tactic| walk_at "subscriptTail") => `(tactic| ((with_reducible show wpAny _ _ (subscriptTail _ _ (Value.str _ _) (Value.ref _)) _ _ _); (rename Mine.St _ _ _ _ _ => wS); refine Mine.t_slice wS (by walk_at "size") ?_ (by with_unfolding_all rfl) (by intro _; with_unfolding_all rfl); clear wS; intro _ _ _))
local macro_rules | `(tactic| walk_at "binaryOp Mod str ref") => `(tactic| ((rename Mine.St _ _ _ _ _ => wS); refine Mine.t_fmt wS (by decide +kernel) (by omega) (by omega) (by omega) (by omega) ?_; clear wS; intro _ _ _))
local macro_rules | `(tactic| walk_at "eval ListComp") => `(tactic| (refine Mine.ev_comp (by first | exact closureFor_none (by with_unfolding_all decide) | with_unfolding_all rfl) (by with_unfolding_all rfl) (by with_unfolding_all decide) ?_ (by intro _; with_unfolding_all rfl)))
local macro_rules | `(tactic| walk_at "exec Assign cons ListComp") => `(tactic| (refine Mine.ex_comp (by with_unfolding_all rfl) (by first | exact closureFor_none (by with_unfolding_all decide) | with_unfolding_all rfl) (by with_unfolding_all rfl) (by with_unfolding_all decide) ?_ (by intro _; with_unfolding_all rfl)))
local macro_rules | `(tactic| walk_at "exec For") => `(tactic| (refine Mine.ex_for ?_ (by intro _; with_unfolding_all rfl)))
local macro_rules | `(tactic| walk_at "binaryOp FloorDiv int int") => `(tactic| ((rename Mine.St _ _ _ _ _ => wS); refine Mine.i_fdiv wS (by first | decide | omega) (by first | decide | omega) ?_; clear wS; intro _ _ _))
local macro_rules | `(tactic| walk_at "binaryOp Mult int int") => `(tactic| ((rename Mine.St _ _ _ _ _ => wS); first | (refine Mine.i_mulR wS (by decide +kernel) ?_; clear wS; intro _ _ _) | (refine Mine.i_mulL wS (by decide +kernel) ?_; clear wS; intro _ _ _)))
local macro_rules | `(tactic| walk_at "unaryOp USub int") => `(tactic| ((rename Mine.St _ _ _ _ _ => wS); refine Mine.i_neg wS ?_; clear wS; intro _ _ _))
local macro_rules | `(tactic| walk_at "compareOp LtE int int") => `(tactic| (refine Mine.i_le ?_))
local macro_rules | `(tactic| walk_at "compareOp GtE int int") => `(tactic| (refine Mine.i_ge ?_))
local macro_rules | `(tactic| walk_at "compareOp Eq str str") => `(tactic| (refine Mine.t_eq ?_))
local macro_rules | `(tactic| walk_at "compareOp NotEq str str") => `(tactic| (refine Mine.t_ne ?_))
local macro_rules | `(tactic| walk_at "binaryOp Add str str") => `(tactic| ((rename Mine.St _ _ _ _ _ => wS); refine Mine.t_add wS (by walk_at "size") ?_; clear wS; intro _ _ _))
local macro_rules | `(tactic| walk_at "inplaceOp Add str str") => `(tactic| ((rename Mine.St _ _ _ _ _ => wS); refine Mine.t_iadd wS (by walk_at "size") ?_; clear wS; intro _ _ _))
local macro_rules | `(tactic| walk_at "call builtin:chr") => `(tactic| ((rename Mine.St _ _ _ _ _ => wS); refine Mine.c_chr wS (by omega) (by omega) ?_; clear wS; intro _ _ _))
local macro_rules | `(tactic| walk_at "call builtin:sum") => `(tactic| ((rename Mine.St _ _ _ _ _ => wS); refine Mine.c_sum wS (by assumption) (by walk_at "isat") (by assumption) ?_; clear wS; intro _ _ _))
local macro_rules | `(tactic| walk_at "call builtin:str.join") => `(tactic| ((rename Mine.St _ _ _ _ _ => wS); refine Mine.c_join wS (by walk_at "isat") (by assumption) (by with_unfolding_all rfl) (by walk_at "size") ?_; clear wS; intro _ _ _))
local macro_rules | `(tactic| walk_at "unpackItems ref") => `(tactic| ((rename Mine.St _ _ _ _ _ => wS); refine Mine.unpack_tup wS (by assumption) (by with_unfolding_all rfl) ?_; clear wS; intro _ _))
local macro_rules | `(tactic| walk_at "call builtin:list.append") => `(tactic| ((rename Mine.St _ _ _ _ _ => wS); refine Mine.l_append wS (by walk_at "upd") (by walk_at "size") ?_; clear wS; intro _ _))
local macro_rules | `(tactic| walk_at "Ready") => `(tactic| ((rename Mine.St _ _ _ _ _ => wS); refine Mine.Ready.mk' (by assumption) wS ?_))
local macro_rules | `(tactic| walk_at "callWith ref") => `(tactic| (refine Mine.callWith_fn (by assumption) (by with_unfolding_all rfl) ?_ (by with_unfolding_all rfl) (by with_unfolding_all rfl)))
local macro_rules | `(tactic| walk_at "getMethod ref") => `(tactic| ((rename Mine.St _ _ _ _ _ => wS); refine Mine.m_append wS (by walk_at "mem") ?_))
local macro_rules | `(tactic| walk_at "call type:range") => `(tactic| ((rename Mine.St _ _ _ _ _ => wS); (first | refine Mine.c_range1 wS ?_ | refine Mine.c_range2 wS ?_); clear wS; intro _ _ _))
local macro_rules | `(tactic| walk_at "assign Tuple") => `(tactic| ((rename Mine.St _ _ _ _ _ => wS); refine Mine.as_tup wS (by walk_at "mem") (by assumption) (by with_unfolding_all rfl) (by with_unfolding_all rfl) ?_; clear wS; intro _ _))
local macro_rules | `(tactic| walk_at "compareOp NotEq ref ref") => `(tactic| ((rename Mine.St _ _ _ _ _ => wS); first
  | (refine Mine.l_neInts wS (by walk_at "isat") (by walk_at "isat") (by first | assumption | exact PyProof.Rows.IntsAre.nil) (by first | assumption | exact PyProof.Rows.IntsAre.nil) (by assumption) ?_)
  | (refine Mine.l_neTx wS (by walk_at "isat") (by walk_at "isat") (by first | assumption | exact Mine.TxAre.nil) (by first | assumption | exact Mine.TxAre.nil) (by omega) ?_)))
local macro_rules | `(tactic| walk_at "compareOp Eq ref ref") => `(tactic| ((rename Mine.St _ _ _ _ _ => wS); first
  | (refine Mine.l_eqInts wS (by walk_at "isat") (by walk_at "isat") (by first | assumption | exact PyProof.Rows.IntsAre.nil) (by first | assumption | exact PyProof.Rows.IntsAre.nil) (by assumption) ?_)
  | (refine Mine.l_eqTx wS (by walk_at "isat") (by walk_at "isat") (by first | assumption | exact Mine.TxAre.nil) (by first | assumption | exact Mine.TxAre.nil) (by omega) ?_)))
local macro_rules | `(tactic| walk_at "call type:str") => `(tactic| ((rename Mine.St _ _ _ _ _ => wS); refine Mine.c_strInt wS (by first | assumption | exact Mine.log2_small (by omega)) ?_; clear wS; intro _ _ _))
local macro_rules | `(tactic| walk_at "tree") => `(tactic| first | (with_reducible show wpAny _ _ _ _ _ _) | (with_reducible show Mine.SliceEnd _ _ _ _) | (with_reducible show Mine.Ready _ _ _) | (with_reducible show @ite Prop _ _ _ _))
local macro_rules | `(tactic| walk_at "go") => `(tactic| repeat' ((try dsimp only); walk_at "tree"; walk1))
local macro_rules | `(tactic| walk_at "in") => `(tactic| repeat' ((try dsimp only); walk_at "tree"; (fail_if_success (with_reducible show wpAny _ _ (execs _ _) _ _ _)); walk1))
local macro_rules | `(tactic| walk_at "one") => `(tactic| ((try dsimp only); refine wpAny_execs_cons ?_; walk_at "in"))
local macro_rules | `(tactic| walk_at "sub") => `(tactic| first | exact List.Sublist.refl _ | exact List.Sublist.slnil | exact List.nil_sublist _ | (apply List.Sublist.cons₂; walk_at "sub") | (apply List.Sublist.cons; walk_at "sub"))
local macro_rules | `(tactic| walk_at "bind") => `(tactic| first | exact Mine.Sub.nil _ | (refine Mine.Sub.cons (by with_unfolding_all rfl) ?_; walk_at "bind"))
local macro_rules | `(tactic| walk_at "subscriptTail") => `(tactic| ((with_reducible show wpAny _ _ (subscriptTail _ _ (Value.ref _) (Value.int _ _)) _ _ _); (rename Mine.St _ _ _ _ _ => wS); first
  | (refine Mine.l_item wS (by walk_at "isat") (by omega) (by omega) (by assumption) ?_ (by with_unfolding_all rfl))
  | (refine Mine.l_last wS (by walk_at "isat") (by omega) (by omega) (by walk_at "size") (by assumption) ?_ (by with_unfolding_all rfl))))
local macro_rules | `(tactic| walk_at "subscriptTail") => `(tactic| ((with_reducible show wpAny _ _ (subscriptTail _ _ (Value.str _ _) (Value.int _ _)) _ _ _); (rename Mine.St _ _ _ _ _ => wS); refine Mine.t_item wS (by omega) (by omega) (by assumption) ?_ (by with_unfolding_all rfl); clear wS; intro _ _ _))
namespace Mine
def shorten (l : List Nat) (i j : Int) : List Nat :=
  if 12 < (l.length : Int) - i - j then cut l none (some i) ++ [91] ++ dig ((l.length : Int) - i - j) ++ chars ++ cut l (some ((l.length : Int) - j)) none else l
section
variable {w : World} {p : Program} {loose : List Str} {mg mb : Str → Option Value} {A : Around} {E : Value → Shared → Prop} {s s₁ : Shared} {L : Addr} {b : List (Str × Value)} {H : List Ent} {Q : Value → Shared → Prop}
theorem shorten_spec {l : List Nat} {i j : Int} {t ti tj : Tok} (X : (hd06.heap_39 w.params).In s₁.heap) (TR : TopRead p loose mg mb s₁.heap) (S : St s₁ L b H s) (hroom : A.depth < recursionLimit)
    (hl : l.length ≤ 100000) (hi : 0 ≤ i) (hj : 0 ≤ j) (h : ∀ s' t', St s₁ L b H s' → Q (.str (T (shorten l i j)) t') s') :
    wpAny (model PySem.Challenge.rw_dn0232_06.row.prog w) A (call (.ref 21) [.str (T l) t, .int i ti, .int j tj]) Q E s := by
  have hl' : l.length ≤ sizeLine := by rw [sizeLine_eq]; omega
  have hc1 := cut_len_le l none (some i)
  have hc2 := cut_len_le l (some ((l.length : Int) - j)) none
  refine call_fn S X TR.nolimit (by rfl) (by rfl) hroom (by rfl) (BindsTo.of_eq (by rfl)) (by decide) (b' := [(Str.ofString "suffixlen", .int j tj), (Str.ofString "prefixlen", .int i ti), (Str.ofString "s", .str (T l) t)]) (locs (by rfl)) (by rfl) ?_ (by rfl) (by rfl) (by rfl)
  clear S
  intro s' L' S'
  walk_at "go"
  · rename 12 < _ => hc
    have e : shorten l i j = _ := if_pos hc
    rw [← e]
    rename St _ _ _ _ _ => S
    exact h _ _ S.back
  · rename ¬ (12 < _) => hc
    have e : shorten l i j = l := if_neg hc
    rename St _ _ _ _ _ => S
    have := h _ t S.back
    rw [e] at this
    exact this
end
end Mine
local macro_rules | `(tactic| walk_at "call ref") => `(tactic| ((rename Mine.St _ _ _ _ _ => wS); refine Mine.shorten_spec (by assumption) (by assumption) wS (by omega) (by assumption) (by omega) (by omega) ?_; clear wS; intro _ _ _))
namespace Mine
def iterS (l : List Nat) (i j : Int) : Nat → List Nat
  | 0 => l
  | n + 1 => shorten (iterS l i j n) i j
theorem shorten_len {l : List Nat} {i j : Int} (hi : 0 ≤ i) (hj : 0 ≤ j) (hl : l.length < 1000000) : (shorten l i j).length ≤ l.length + 20 := by
  unfold shorten
  split
  · rename_i h
    rw [cut_to _ hi, cut_from _ (by omega)]
    have := dig_le (n := (l.length : Int) - i - j) (by omega) (k := 6) (by decide) (by omega)
    simp only [List.length_append, List.length_take, List.length_drop, List.length_cons, List.length_nil]
    have hc : chars.length = 7 := rfl
    omega
  · omega
theorem iterS_len {l : List Nat} {i j : Int} (hi : 0 ≤ i) (hj : 0 ≤ j) (hl : l.length ≤ 30010) : ∀ n, n ≤ 4 → (iterS l i j n).length ≤ l.length + 20 * n
  | 0, _ => by simp [iterS]
  | n + 1, h => by
    have h1 := iterS_len hi hj hl n (by omega)
    have := shorten_len (l := iterS l i j n) hi hj (by omega)
    simp only [iterS]; omega
theorem shorten_stays {l : List Nat} {i j : Int} (h : (l.length : Int) - i - j ≤ 12) : shorten l i j = l := by unfold shorten; rw [if_neg (by omega)]
theorem iterS_stays {l : List Nat} {i j : Int} (h : shorten l i j = l) : ∀ n, iterS l i j n = l
  | 0 => rfl
  | n + 1 => by simp only [iterS, iterS_stays h n, h]
/-- a text kept at both ends -/
def ended (l : List Nat) (i j : Nat) (n : Int) : List Nat := l.take i ++ [91] ++ dig n ++ chars ++ l.drop (l.length - j)
theorem shorten_eq {l : List Nat} {i j : Nat} (h : 12 < (l.length : Int) - i - j) : shorten l i j = ended l i j ((l.length : Int) - i - j) := by
  unfold shorten ended
  rw [if_pos h, cut_to _ (by omega), cut_from _ (by omega)]
  have e : ((l.length : Int) - (j : Int)).toNat = l.length - j := by omega
  rw [e]; simp
theorem ended_len {l : List Nat} {i j : Nat} {n : Int} (h : i + j ≤ l.length) : (ended l i j n).length = i + j + 8 + (dig n).length := by
  unfold ended
  simp only [List.length_append, List.length_take, List.length_drop, List.length_cons, List.length_nil]
  have hc : chars.length = 7 := rfl
  omega
theorem ended_ended {l : List Nat} {i j : Nat} {n m : Int} (h : i + j ≤ l.length) : ended (ended l i j n) i j m = ended l i j m := by
  have hl := ended_len (n := n) h
  have h1 : (ended l i j n).take i = l.take i := by
    unfold ended
    rw [List.append_assoc, List.append_assoc, List.append_assoc, List.take_append_of_le_length (by simp; omega), List.take_of_length_le (by simp; omega)]
  have h2 : (ended l i j n).drop ((ended l i j n).length - j) = l.drop (l.length - j) := by
    have e : (ended l i j n).length - j = (l.take i ++ [91] ++ dig n ++ chars).length := by
      have : (ended l i j n).length = (l.take i ++ [91] ++ dig n ++ chars).length + (l.drop (l.length - j)).length := by unfold ended; rw [List.length_append]
      rw [this, List.length_drop]; omega
    rw [e]; unfold ended; rw [List.drop_left]
  unfold ended at h1 h2 ⊢
  rw [h1, h2]
theorem plain06 {l : List Nat} {i j : Nat} (hb : l.length ≤ 30010) (h : 12 < (l.length : Int) - i - j) :
    let n := (l.length : Int) - i - j
    let stays := if n ≤ 9999 then ended l i j n else ended l i j 13
    (List.range 5).map (fun k => iterS l i j k) = [l, ended l i j n, stays, stays, stays] := by
  intro n stays
  have e1 : iterS l i j 1 = ended l i j n := shorten_eq h
  have hl := ended_len (l := l) (i := i) (j := j) (n := n) (by omega)
  have e2 : iterS l i j 2 = stays := by
    show shorten (iterS l i j 1) i j = _
    rw [e1]
    by_cases hn : n ≤ 9999
    · have hd := dig_le (n := n) (by omega) (k := 4) (by decide) (by omega)
      rw [shorten_stays (by omega)]
      exact (if_pos hn).symm
    · have hd := dig_le (n := n) (by omega) (k := 5) (by decide) (by omega)
      have hd' := dig_lt (n := n) (by omega) (k := 4) (by decide) (by omega)
      rw [shorten_eq (by omega), ended_ended (by omega)]
      have : ((ended l i j n).length : Int) - i - j = 13 := by omega
      rw [this]
      exact (if_neg hn).symm
  have hst : shorten stays i j = stays := by
    refine shorten_stays ?_
    show ((if n ≤ 9999 then ended l i j n else ended l i j 13).length : Int) - i - j ≤ 12
    by_cases hn : n ≤ 9999
    · have hd := dig_le (n := n) (by omega) (k := 4) (by decide) (by omega)
      rw [if_pos hn]; omega
    · rw [if_neg hn, ended_len (by omega)]
      have hd := dig_le (n := 13) (by omega) (k := 2) (by decide) (by omega)
      omega
  have e3 : iterS l i j 3 = stays := by show shorten (iterS l i j 2) i j = _; rw [e2, hst]
  have e4 : iterS l i j 4 = stays := by show shorten (iterS l i j 3) i j = _; rw [e3, hst]
  show [iterS l i j 0, iterS l i j 1, iterS l i j 2, iterS l i j 3, iterS l i j 4] = _
  rw [e1, e2, e3, e4]; rfl
theorem rest06 {w : World} {p : Program} {loose : List Str} {mg mb : Str → Option Value} {A : Around} {s s₁ : Shared} {L fa : Addr} {cd : Value} {Q : Flow → Shared → Prop} {text : List Nat} {size i j : Int} {t1 t2 t3 t4 : Tok}
    (X : (hd06.heap_39 w.params).In s₁.heap) (TR : TopRead p loose mg mb s₁.heap) (hlen : (text.length : Int) = size) (hb : size ≤ 30010) (hi : 0 ≤ i) (hi' : i < 40) (hj : 0 ≤ j) (hj' : j < 40)
    (hh : A.handled = none) (hd : A.depth + 5 < recursionLimit) (hu : A.units + 64 < cLine)
    (S : St s₁ L [(Str.ofString "size", .int size t1), (Str.ofString "first", .int i t2), (Str.ofString "last", .int j t3)] [(L + 1, Cel (some (.str (T text) t4)))] s) (hQ : ∀ s' b H, St s₁ L b H s' → Q (.ret (.bool true)) s') :
    wpAny (model PySem.Challenge.rw_dn0232_06.row.prog w) A (execs ((bodyAt (fdAt (hd06.heap_39 w.params) 26)).drop 5) (envOfC (fdAt (hd06.heap_39 w.params) 26).name (fdAt (hd06.heap_39 w.params) 26).scope L fa cd)) Q (fun _ _ => False) s := by
  have hu' : A.units < cLine := by omega
  subst hlen
  obtain ⟨i, rfl⟩ := Int.eq_ofNat_of_zero_le hi
  obtain ⟨j, rfl⟩ := Int.eq_ofNat_of_zero_le hj
  walk_at "go"
  rename St _ _ _ _ _ => S
  refine for_range1 (fun k b H => ∃ a us, b = [(Str.ofString "size", .int text.length t1), (Str.ofString "first", .int i t2), (Str.ofString "last", .int j t3), (Str.ofString "told", .ref a)] ∧ H = [(a, Lst us), (L + 1, Cel (some (.str (T text) t4)))] ∧ TxAre us ((List.range (k + 1)).map fun n => iterS text i j n)) (S.bind (b' := [(Str.ofString "size", .int text.length t1), (Str.ofString "first", .int i t2), (Str.ofString "last", .int j t3), (Str.ofString "told", .ref _)]) (by walk_at "bind")) ⟨_, _, rfl, rfl, ?_⟩ (by decide) (by decide) (by decide) (by decide) hh (by with_unfolding_all rfl) (by with_unfolding_all rfl) (by with_unfolding_all rfl) ?_ ?_
  · exact .cons text t4 .nil
  · clear S
    rintro I P k t b' H' s' hk ⟨a, us, rfl, rfl, hus⟩ S'
    have hk4 : k < 4 := by omega
    have hlk := iterS_len (l := text) hi hj (by omega) k (by omega)
    have hlk' : (iterS text i j k).length ≤ 100000 := by omega
    obtain ⟨tk, hg⟩ := hus.get k (iterS text i j k) (by simp)
    have hul : us.length = k + 1 := by rw [hus.length]; simp
    have hg' : us[(0 + (k : Int)).toNat]? = some (.str (T (iterS text i j k)) tk) := by rw [show (0 + (k : Int)).toNat = k by omega]; exact hg
    walk_at "go"
    rename St _ _ _ _ _ => S
    refine ⟨_, _, S.bind ?_, a, _, rfl, rfl, ?_⟩
    · walk_at "bind"
    · rw [List.range_succ, List.map_append]
      exact hus.snoc _ _
  clear S
  rintro b' H' s' ⟨a, us, rfl, rfl, hus⟩ S'
  rw [show (4 - 0 : Int).toNat + 1 = 5 from rfl] at hus
  walk_at "go"
  · rename (text.length : Int) - i - j ≤ 12 => hbt
    rename St _ _ _ _ _ => S
    refine l_mul S (by walk_at "mem") (by decide) (by decide) (by simp) ?_
    clear S
    intro s'' a' S
    have h5 : TxAre (List.replicate (5 : Int).toNat [Value.str (T text) t4]).flatten [text, text, text, text, text] := .cons _ _ (.cons _ _ (.cons _ _ (.cons _ _ (.cons _ _ .nil))))
    walk_at "go"
    rename St _ _ _ _ _ => S
    have e : (List.range 5).map (fun n => iterS text i j n) = [text, text, text, text, text] := by
      have hs := shorten_stays (l := text) (i := i) (j := j) (by omega)
      show [iterS text i j 0, iterS text i j 1, iterS text i j 2, iterS text i j 3, iterS text i j 4] = _
      simp only [iterS_stays hs]
    rw [decide_eq_true e]
    exact hQ _ _ _ S
  · rename ¬ ((text.length : Int) - i - j ≤ 12) => hbt
    rename St _ _ _ _ _ => S
    refine comp_range1 (fun k ys H => TxAre ys ((text.take k).map fun c => [c]) ∧ H = [(a, Lst us), (L + 1, Cel (some (.str (T text) t4)))]) S ⟨by simpa using TxAre.nil, rfl⟩ (by rw [sizeLine_eq]; omega) (by decide) (by decide) (by omega) (by omega) hh (by decide) (by rfl) (by rfl) ?_ ?_
    · clear S
      rintro C D I P k t ys H' s' hk ⟨ht, rfl⟩ S'
      refine tests_nil (ifT ?_)
      have hlt : k < text.length := by omega
      have hx : text[(0 + (k : Int)).toNat]? = some text[k] := by rw [show (0 + (k : Int)).toNat = k by omega]; exact List.getElem?_eq_getElem hlt
      walk_at "go"
      rename St _ _ _ _ _ => S
      refine ⟨_, _, S, ?_, rfl⟩
      have e : (text.take (k + 1)).map (fun c => [c]) = (text.take k).map (fun c => [c]) ++ [[text[k]]] := by
        rw [List.take_add_one, List.getElem?_eq_getElem hlt, List.map_append]; rfl
      rw [e]; exact ht.snoc _ _
    clear S
    rintro C D ys H' s' ⟨ht, rfl⟩ S'
    clear S'
    intro s'' S''
    have hone : ∀ l : List Nat, ((l.map fun c => [c]).map List.length).sum = l.length := by
      intro l
      induction l with
      | nil => rfl
      | cons x r ih => simp only [List.map_cons, List.sum_cons, List.length_cons, List.length_nil, ih]; omega
    have hflat : ∀ l : List Nat, (l.map fun c => [c]).flatten = l := by
      intro l
      induction l with
      | nil => rfl
      | cons x r ih => simp [ih]
    have hsz1 : (((text.take ((i : Int) - 0).toNat).map fun c => [c]).map List.length).sum ≤ sizeLine := by rw [hone, sizeLine_eq, List.length_take]; omega
    walk_at "go"
    rename St _ _ _ _ _ => S
    refine comp_range1 (fun k ys' H => TxAre ys' (((text.drop ((text.length : Int) - j).toNat).take k).map fun c => [c]) ∧ H = [(D, Lst ys), (a, Lst us), (L + 1, Cel (some (.str (T text) t4)))]) S ⟨by simpa using TxAre.nil, rfl⟩ (by rw [sizeLine_eq]; omega) (by omega) (by omega) (by omega) (by omega) hh (by decide) (by rfl) (by rfl) ?_ ?_
    · clear S
      rintro C' D' I P k t ys' H' s' hk ⟨ht', rfl⟩ S'
      refine tests_nil (ifT ?_)
      have hlt : ((text.length : Int) - j + (k : Int)).toNat < text.length := by omega
      have hx : text[((text.length : Int) - j + (k : Int)).toNat]? = some text[((text.length : Int) - j + (k : Int)).toNat] := List.getElem?_eq_getElem hlt
      walk_at "go"
      rename St _ _ _ _ _ => S
      refine ⟨_, _, S, ?_, rfl⟩
      have e : ((text.drop ((text.length : Int) - j).toNat).take (k + 1)).map (fun c => [c]) = ((text.drop ((text.length : Int) - j).toNat).take k).map (fun c => [c]) ++ [[text[((text.length : Int) - j + (k : Int)).toNat]]] := by
        rw [List.take_add_one, List.getElem?_drop, show ((text.length : Int) - j).toNat + k = ((text.length : Int) - j + (k : Int)).toNat by omega, hx, List.map_append]; rfl
      rw [e]; exact ht'.snoc _ _
    clear S
    rintro C' D' ys' H' s' ⟨ht', rfl⟩ S'
    clear S'
    intro s'' S''
    rw [List.take_of_length_le (by rw [List.length_drop]; omega)] at ht'
    have hsz2 : (((text.drop ((text.length : Int) - j).toNat).map fun c => [c]).map List.length).sum ≤ sizeLine := by rw [hone, sizeLine_eq, List.length_drop]; omega
    have hfl1 : ((text.take ((i : Int) - 0).toNat).map fun c => [c]).flatten.length ≤ 40 := by rw [hflat, List.length_take]; omega
    have hfl2 : ((text.drop ((text.length : Int) - j).toNat).map fun c => [c]).flatten.length ≤ 40 := by rw [hflat, List.length_drop]; omega
    have hx1 : (tx "[").length = 1 := by decide +kernel
    have hx2 : (tx " chars]").length = 7 := by decide +kernel
    have hx3 : (tx "[13 chars]").length = 10 := by decide +kernel
    have hdg := dig_le (n := (text.length : Int) - i - j) (by omega) (k := 5) (by decide) (by omega)
    have hi0 : ((i : Int) - 0).toNat = i := by omega
    have hj0 : ((text.length : Int) - (j : Int)).toNat = text.length - j := by omega
    have eo : ((text.take ((i : Int) - 0).toNat).map fun c => [c]).flatten ++ tx "[" ++ dig ((text.length : Int) - i - j) ++ tx " chars]" ++ ((text.drop ((text.length : Int) - (j : Int)).toNat).map fun c => [c]).flatten = ended text i j ((text.length : Int) - i - j) := by
      simp only [hflat, hi0, hj0]
      rfl
    have et : ((text.take ((i : Int) - 0).toNat).map fun c => [c]).flatten ++ tx "[13 chars]" ++ ((text.drop ((text.length : Int) - (j : Int)).toNat).map fun c => [c]).flatten = ended text i j 13 := by
      have h13 : tx "[13 chars]" = [91] ++ dig 13 ++ chars := by decide +kernel
      simp only [hflat, hi0, hj0, h13]
      unfold ended
      simp only [List.append_assoc]
    have pl := plain06 (l := text) (i := i) (j := j) (by omega) (by omega)
    dsimp only at pl
    rw [pl] at hus
    clear pl
    walk_at "go"
    · rename _ ≤ (9999 : Int) => h9
      rename St _ _ _ _ _ => S
      rw [if_pos h9] at hus
      refine l_eqTx S (by walk_at "isat") (by walk_at "isat") hus (.cons _ _ (.cons _ _ (.cons _ _ (.cons _ _ (.cons _ _ .nil))))) hu' ?_
      rw [eo, decide_eq_true rfl]
      exact hQ _ _ _ S
    · rename ¬ (_ ≤ (9999 : Int)) => h9
      rename St _ _ _ _ _ => S
      rw [if_neg h9] at hus
      refine l_eqTx S (by walk_at "isat") (by walk_at "isat") hus (.cons _ _ (.cons _ _ (.cons _ _ (.cons _ _ (.cons _ _ .nil))))) hu' ?_
      rw [eo, et, decide_eq_true rfl]
      exact hQ _ _ _ S
end Mine
namespace Mine
theorem law06_body {w : World} {p : Program} {loose : List Str} {mg mb : Str → Option Value} {A : Around} {s s₁ : Shared} {L l fa : Addr} {cd : Value} {vs : List Value} {ns : List Int} {Q : Flow → Shared → Prop}
    (X : (hd06.heap_39 w.params).In s₁.heap) (TR : TopRead p loose mg mb s₁.heap) (hL : s₁.heap.IsList l vs.toArray) (hI : IntsAre vs ns) (hlen : ns.length ≤ 63)
    (hh : A.handled = none) (hd : A.depth + 5 < recursionLimit) (hu : A.units + 64 < cLine) (S : St s₁ L [(Str.ofString "script", .ref l)] [(L + 1, Cel none)] s) (hQ : ∀ s' b H, St s₁ L b H s' → Q (.ret (.bool true)) s') :
    wpAny (model PySem.Challenge.rw_dn0232_06.row.prog w) A (execs (bodyAt (fdAt (hd06.heap_39 w.params) 26)) (envOfC (fdAt (hd06.heap_39 w.params) 26).name (fdAt (hd06.heap_39 w.params) 26).scope L fa cd)) Q (fun _ _ => False) s := by
  have hvl : vs.length = ns.length := hI.length
  walk_at "go"
  rename St _ _ _ _ _ => S
  refine comp_list (vs := vs) (fun i ys H => TxAre ys ((ns.take i).map fun x => [(97 + x % 26).toNat]) ∧ H = [(L + 1, Cel none)]) S ⟨by simpa using TxAre.nil, rfl⟩ (by rw [sizeLine_eq]; omega) (Or.inr hL) (fun _ _ _ _ => Or.inr hL) hh (by decide) (by rfl) (by rfl) ?_ ?_
  · clear S
    rintro C D I i v ys H' s' hv ⟨ht, rfl⟩ S'
    obtain ⟨n, t, rfl, hn⟩ := hI.at i v hv
    refine tests_nil (ifT ?_)
    walk_at "go"
    rename St _ _ _ _ _ => S
    refine ⟨_, _, S, ?_, rfl⟩
    have e : (ns.take (i + 1)).map (fun x => [(97 + x % 26).toNat]) = (ns.take i).map (fun x => [(97 + x % 26).toNat]) ++ [[(97 + n % 26).toNat]] := by
      rw [List.take_add_one, hn]; simp
    rw [e]
    exact ht.snoc _ _
  clear S
  rintro C D ys H' s' ⟨ht, rfl⟩ S'
  rw [hvl, List.take_length] at ht
  clear S'
  intro s'' S''
  have hsum : ((ns.map fun x => [(97 + x % 26).toNat]).map List.length).sum = ns.length := by
    clear hlen hI hvl ht
    induction ns with
    | nil => rfl
    | cons x r ih => simp only [List.map_cons, List.sum_cons, List.length_cons, List.length_nil, ih]; omega
  have hfl : (ns.map fun x => [(97 + x % 26).toNat]).flatten.length = ns.length := by rw [List.length_flatten, hsum]
  have hx1 : (tx "-").length = 1 := by decide +kernel
  walk_at "go"
  rename St _ _ _ _ _ => S
  have hm3 : (vs.length : Int) % 3 = 0 ∨ (vs.length : Int) % 3 = 1 ∨ (vs.length : Int) % 3 = 2 := by omega
  have hitem : ∀ (t1 t2 t3 : Tok), ∃ d t, [Value.int 60 t1, .int 4000 t2, .int 30011 t3][((vs.length : Int) % 3).toNat]? = some (.int d t) ∧ 0 < d ∧ d ≤ 30011 := by
    intro t1 t2 t3
    rcases hm3 with h | h | h <;> rw [h]
    · exact ⟨60, t1, rfl, by decide, by decide⟩
    · exact ⟨4000, t2, rfl, by decide, by decide⟩
    · exact ⟨30011, t3, rfl, by decide, by decide⟩
  obtain ⟨d, td, hd1, hd2, hd3⟩ := hitem _ _ _
  refine l_item S (Or.inl (by walk_at "mem")) (by omega) (by omega) hd1 ?_ (by with_unfolding_all rfl)
  have hsz0 : 0 ≤ (ns.sum * 997 + (vs.length : Int)) % d := Int.emod_nonneg _ (by omega)
  have hsz1 : (ns.sum * 997 + (vs.length : Int)) % d < d := Int.emod_lt_of_pos _ hd2
  walk1
  walk1
  rename St _ _ _ _ _ => S
  generalize hsize : (ns.sum * 997 + (vs.length : Int)) % d = size at hsz0 hsz1 S
  have hsg : ((ns.map fun x => [(97 + x % 26).toNat]).flatten ++ tx "-").length = ns.length + 1 := by rw [List.length_append, hfl, hx1]
  generalize (ns.map fun x => [(97 + x % 26).toNat]).flatten ++ tx "-" = signs at hsg S
  clear hd1 hsum hfl hitem hm3
  walk_at "go"
  rename St _ _ _ _ _ => S
  have hq0 : 0 ≤ size / (signs.length : Int) := Int.ediv_nonneg hsz0 (by omega)
  have hq1 : size / (signs.length : Int) ≤ size := Int.ediv_le_self _ hsz0
  have hmul : size < (signs.length : Int) * (1 + size / (signs.length : Int)) := by
    have h1 := Int.mul_ediv_add_emod size (signs.length : Int)
    have h2 := Int.emod_lt_of_pos size (b := (signs.length : Int)) (by omega)
    rw [Int.mul_add, Int.mul_one]; omega
  have hmul2 : (signs.length : Int) * (1 + size / (signs.length : Int)) ≤ size + signs.length := by
    have h1 := Int.mul_ediv_add_emod size (signs.length : Int)
    have h2 := Int.emod_nonneg size (b := (signs.length : Int)) (by omega)
    rw [Int.mul_add, Int.mul_one]; omega
  have hrep : (List.replicate (1 + size / (signs.length : Int)).toNat signs).flatten.length = signs.length * (1 + size / (signs.length : Int)).toNat := by
    rw [List.length_flatten]; simp [Nat.mul_comm]
  have hcast : ((signs.length * (1 + size / (signs.length : Int)).toNat : Nat) : Int) = (signs.length : Int) * (1 + size / (signs.length : Int)) := by
    rw [Int.natCast_mul, Int.toNat_of_nonneg (by omega)]
  refine t_mul S (by rw [sizeLine_eq]; omega) (by omega) (by omega) ?_
  clear S
  intro _ _ S
  have hcl : (List.replicate (1 + size / (signs.length : Int)).toNat signs).flatten.length ≤ sizeLine := by rw [hrep, sizeLine_eq]; omega
  walk1
  walk1
  walk1
  walk1
  walk1
  walk1
  rename St _ _ _ _ _ => S
  have htl : (cut (List.replicate (1 + size / (signs.length : Int)).toNat signs).flatten none (some size)).length = size.toNat := by
    rw [cut_to _ hsz0, List.length_take, hrep]; omega
  generalize cut (List.replicate (1 + size / (signs.length : Int)).toNat signs).flatten none (some size) = text at htl
  walk1
  rename St _ _ _ _ _ => S
  clear hcl hcast hrep hmul2 hmul hq1 hq0
  walk_at "one"
  rename St _ _ _ _ _ => S
  refine ex_post (fun s' => ∃ i j ti tj t1 t4, 0 ≤ i ∧ i < 40 ∧ 0 ≤ j ∧ j < 40 ∧ St s₁ L [(Str.ofString "size", .int size t1), (Str.ofString "first", .int i ti), (Str.ofString "last", .int j tj)] [(L + 1, Cel (some (.str (T text) t4)))] s') ?_ ?_
  · walk1
    walk1
    walk_at "in"
    · rename St _ _ _ _ _ => S
      exact wpAny_execs_nil (same_next ⟨0, 0, _, _, _, _, by decide, by decide, by decide, by decide, (S.bind (by walk_at "bind")).sub (by walk_at "sub")⟩)
    · rename decide _ = false => hne
      have hne' : ns ≠ [] := by simpa using hne
      have hpos : 0 < vs.length := by rw [hvl]; exact List.length_pos_iff.mpr hne'
      obtain ⟨n0, t0, e0, _⟩ := hI.at 0 vs[0] (List.getElem?_eq_getElem hpos)
      obtain ⟨n1, t1, e1, _⟩ := hI.at (vs.length - 1) vs[vs.length - 1] (List.getElem?_eq_getElem (by omega))
      have g0 : vs[(0 : Int).toNat]? = some (.int n0 t0) := by rw [← e0]; exact List.getElem?_eq_getElem hpos
      have g1 : vs[(-1 + (vs.length : Int)).toNat]? = some (.int n1 t1) := by rw [← e1, show (-1 + (vs.length : Int)).toNat = vs.length - 1 by omega]; exact List.getElem?_eq_getElem (by omega)
      clear hne
      walk_at "go"
      rename St _ _ _ _ _ => S
      exact same_next ⟨n0 % 40, n1 % 40, _, _, _, _, by omega, by omega, by omega, by omega, (S.bind (by walk_at "bind")).sub (by walk_at "sub")⟩
  · rintro s' ⟨i, j, ti, tj, t1, t4, h1, h2, h3, h4, S'⟩
    exact rest06 X TR (by omega) (by omega) h1 h2 h3 h4 hh hd hu S' hQ
end Mine
namespace Mine
end Mine
open Mine in
theorem PySem.Challenge.cw_dn0232_06_holds : PySem.Challenge.rw_dn0232_06.Holds := by
  refine Mine.hd06 ?_
  k_go0
  rename Fr _ _ _ _ => F0
  rename News _ _ _ _ => N0
  rename _ = Data.cell _ => hcell
  rename Top _ _ _ _ _ _ => T0
  rename Frag.In _ _ => KX
  rename Heap.IsList _ _ _ => hL
  rename IntsAre _ _ => hI
  rename ¬ (_ < _) => hlen
  rename Shared.gens _ = _ => hg
  refine wpAny_mono (law06_body KX (topRead_of T0) hL hI (by omega) (by rfl) (by simp only [depth_deeper, depth_caller]; decide) (by simp only [units_deeper, units_caller]; decide) (law_start1 _ F0 N0 hcell (lk1 (by rfl))) (fun s' b H S' => law_end S' hg (by intro _; rfl) (by with_unfolding_all exact postW_of (by rfl) (by exact w_eq_bool (w_res rfl) w_lit) (by rfl)))) (fun _ _ q => q) (fun _ _ q => q.elim)
