import PyProof.Rows.All
import Wide.All
import OpenK.AllK
import Wide.FinOn
import KE.FramesApart
import KE.RegLGeC
import PyProof.ReprRoads
import PyProof.ReprText
import PyProof.ReprLen
import PyProof.WalksPairs
import PySem.Challenge.RW_dn0232_03
open PySem PySem.W PySem.Calls PyProof.Rows
set_option Elab.async false
set_option maxRecDepth 100000
set_option maxHeartbeats 4000000
set_option linter.unusedVariables false
set_option linter.unusedSimpArgs false
namespace Mine

/-! ### names known of a frame -/
def lk : List (Str × Value) → Str → Option Value
  | [], _ => none
  | (n, v) :: r, x => if n = x then some v else lk r x
def up (x : Str) (v : Value) : List (Str × Value) → List (Str × Value)
  | [] => [(x, v)]
  | (n, u) :: r => if n = x then (n, v) :: r else (n, u) :: up x v r
theorem lk_up (x y : Str) (v : Value) : ∀ b, lk (up x v b) y = if y = x then some v else lk b y
  | [] => by simp only [up, lk]; by_cases h : x = y <;> simp [h, eq_comm]
  | (n, u) :: r => by
    simp only [up]
    by_cases h : n = x
    · subst h; simp only [if_true, lk]
      by_cases h2 : n = y
      · simp [h2]
      · simp [h2, Ne.symm h2, eq_comm]
    · simp only [if_neg h, lk, lk_up x y v r]
      by_cases h2 : n = y
      · subst h2; simp [h]
      · simp [h2]
/-- all that `b` says, `b'` says -/
def Sub (b' b : List (Str × Value)) : Prop := ∀ x v, lk b x = some v → lk b' x = some v
theorem Sub.nil (b) : Sub b [] := fun _ _ h => by simp [lk] at h
theorem Sub.cons {b' b : List (Str × Value)} {n : Str} {u : Value} (h : lk b' n = some u) (hs : Sub b' b) : Sub b' ((n, u) :: b) := fun x v e => by
  simp only [lk] at e
  by_cases hn : n = x
  · subst hn; simp at e; subst e; exact h
  · simp [hn] at e; exact hs x v e

/-! ### what a made object is -/
abbrev Ent := Addr × (Obj → Prop)
def Frm (b : List (Str × Value)) (o : Obj) : Prop := ∃ es ep, o.data = .dict es ep ∧ StrKeys es ∧ ∀ x v, lk b x = some v → nsFind es x = some v
def Lst (vs : List Value) (o : Obj) : Prop := o.cls = .type "list" ∧ o.dict = none ∧ o.slots = #[] ∧ ∃ n, o.data = .seq vs.toArray n
def Tup (vs : List Value) (o : Obj) : Prop := o.cls = .type "tuple" ∧ o.dict = none ∧ o.slots = #[] ∧ ∃ n, o.data = .seq vs.toArray n
def Cel (v : Option Value) (o : Obj) : Prop := o.data = .cell v
def Yes (_ : Obj) : Prop := True

theorem Frm.weak {b b' : List (Str × Value)} {o : Obj} (h : Frm b' o) (hs : Sub b' b) : Frm b o := let ⟨es, ep, h1, h2, h3⟩ := h; ⟨es, ep, h1, h2, fun x v e => h3 x v (hs x v e)⟩

structure St (s₁ : Shared) (L : Addr) (b : List (Str × Value)) (H : List Ent) (s : Shared) : Prop where
  ns : ∃ o, s.heap.get? L = some o ∧ Frm b o
  keep : ∀ a o, s₁.heap.get? a = some o → s.heap.get? a = some o
  fr : s₁.heap.get? L = none
  nw : ∀ p ∈ H, ∃ o, s.heap.get? p.1 = some o ∧ p.2 o
  fresh : ∀ p ∈ H, p.1 ≠ L ∧ s₁.heap.get? p.1 = none
  nd : (H.map (·.1)).Nodup
  eq : ∃ h tk, s = { s₁ with heap := h, toks := tk }

/-! ### changing one entry -/
inductive Upd (a : Addr) (P P' : Obj → Prop) : List Ent → List Ent → Prop
  | head (r) : Upd a P P' ((a, P) :: r) ((a, P') :: r)
  | tail (p) {r r'} : Upd a P P' r r' → Upd a P P' (p :: r) (p :: r')
  | appL {r r'} (q) : Upd a P P' r r' → Upd a P P' (r ++ q) (r' ++ q)
  | appR (q) {r r'} : Upd a P P' r r' → Upd a P P' (q ++ r) (q ++ r')
theorem Upd.split {a P P' H H'} (U : Upd a P P' H H') : ∃ x y, H = x ++ (a, P) :: y ∧ H' = x ++ (a, P') :: y := by
  induction U with
  | head r => exact ⟨[], r, rfl, rfl⟩
  | tail p _ ih => obtain ⟨x, y, rfl, rfl⟩ := ih; exact ⟨p :: x, y, rfl, rfl⟩
  | appL q _ ih => obtain ⟨x, y, rfl, rfl⟩ := ih; exact ⟨x, y ++ q, by simp, by simp⟩
  | appR q _ ih => obtain ⟨x, y, rfl, rfl⟩ := ih; exact ⟨q ++ x, y, by simp, by simp⟩
theorem Upd.mem {a P P' H H'} (U : Upd a P P' H H') : (a, P) ∈ H := by obtain ⟨x, y, rfl, _⟩ := U.split; simp

section
variable {s₁ s : Shared} {L : Addr} {b : List (Str × Value)} {H H' : List Ent}

theorem St.get (S : St s₁ L b H s) {a : Addr} {P : Obj → Prop} (h : (a, P) ∈ H) : ∃ o, s.heap.get? a = some o ∧ P o := S.nw _ h
theorem St.tok (S : St s₁ L b H s) (k : Nat) : St s₁ L b H { s with toks := k } :=
  ⟨S.ns, S.keep, S.fr, S.nw, S.fresh, S.nd, let ⟨h, tk, e⟩ := S.eq; ⟨h, k, by rw [e]⟩⟩

theorem St.size (S : St s₁ L b H s) : s₁.heap.get? s.heap.objs.size = none ∧ s.heap.objs.size ≠ L ∧ ∀ p ∈ H, p.1 ≠ s.heap.objs.size := by
  refine ⟨?_, ?_, ?_⟩
  · cases h : s₁.heap.get? s.heap.objs.size with
    | none => rfl
    | some o => exact absurd (Heap.lt_size (S.keep _ _ h)) (Nat.lt_irrefl _)
  · obtain ⟨o, ho, _⟩ := S.ns; exact Nat.ne_of_gt (Heap.lt_size ho)
  · intro p hp; obtain ⟨o, ho, _⟩ := S.nw p hp; exact Nat.ne_of_lt (Heap.lt_size ho)

/-- any later heap that keeps all -/
theorem St.ext (S : St s₁ L b H s) {h' : Heap} (k : Nat) (hk : ∀ a o, s.heap.get? a = some o → h'.get? a = some o) : St s₁ L b H { s with heap := h', toks := k } where
  ns := let ⟨o, ho, h⟩ := S.ns; ⟨o, hk _ _ ho, h⟩
  keep := fun a o e => hk _ _ (S.keep a o e)
  fr := S.fr
  nw := fun p hp => let ⟨o, ho, h⟩ := S.nw p hp; ⟨o, hk _ _ ho, h⟩
  fresh := S.fresh
  nd := S.nd
  eq := let ⟨h, tk, e⟩ := S.eq; ⟨h', k, by rw [e]⟩

/-- a new object at a place that was free -/
theorem St.new (S : St s₁ L b H s) {h' : Heap} {a : Addr} {P : Obj → Prop} (k : Nat) (hk : ∀ a o, s.heap.get? a = some o → h'.get? a = some o) (ha : s.heap.get? a = none) (hP : ∃ o, h'.get? a = some o ∧ P o) :
    St s₁ L b ((a, P) :: H) { s with heap := h', toks := k } where
  ns := (S.ext k hk).ns
  keep := (S.ext k hk).keep
  fr := S.fr
  nw := fun p hp => by
    rcases List.mem_cons.mp hp with rfl | hp
    · exact hP
    · exact (S.ext k hk).nw p hp
  fresh := fun p hp => by
    rcases List.mem_cons.mp hp with rfl | hp
    · refine ⟨?_, ?_⟩
      · rintro rfl; obtain ⟨o, ho, _⟩ := S.ns; rw [ha] at ho; cases ho
      · cases e : s₁.heap.get? a with
        | none => rfl
        | some o => have := S.keep _ _ e; rw [ha] at this; cases this
    · exact S.fresh p hp
  nd := by
    refine List.nodup_cons.mpr ⟨fun hm => ?_, S.nd⟩
    obtain ⟨q, hq, e⟩ := List.mem_map.mp hm
    obtain ⟨o, ho, _⟩ := S.nw q hq
    have e' : q.1 = a := e
    rw [e', ha] at ho; cases ho
  eq := (S.ext k hk).eq

theorem get?_size_none (h : Heap) : h.get? h.objs.size = none := by
  cases e : h.get? h.objs.size with
  | none => rfl
  | some o => exact absurd (Heap.lt_size e) (Nat.lt_irrefl _)

theorem St.push (S : St s₁ L b H s) {o : Obj} {P : Obj → Prop} (hP : P o) (k : Nat) (hf : o.isFreed = false := by rfl) : St s₁ L b ((s.heap.objs.size, P) :: H) { s with heap := s.heap.push o, toks := k } :=
  S.new k (fun _ _ e => Heap.get?_push_of_some _ e) (get?_size_none _) ⟨o, Heap.get?_push_size _ hf, hP⟩

/-- one object changed -/
theorem St.upd (S : St s₁ L b H s) {h' : Heap} {a : Addr} {P P' : Obj → Prop} (U : Upd a P P' H H') (k : Nat) (hk : ∀ c o, c ≠ a → s.heap.get? c = some o → h'.get? c = some o) (hP : ∃ o, h'.get? a = some o ∧ P' o) :
    St s₁ L b H' { s with heap := h', toks := k } := by
  obtain ⟨x, y, rfl, rfl⟩ := U.split
  have ha := S.fresh (a, P) (by simp)
  have hnd : ((x ++ (a, P') :: y).map (·.1)).Nodup := by have := S.nd; simpa using this
  have hne : ∀ p ∈ x ++ y, p.1 ≠ a := by
    intro p hp e
    have h1 := S.nd
    simp only [List.map_append, List.map_cons] at h1
    have h2 := (List.nodup_append.mp h1)
    rcases List.mem_append.mp hp with hp | hp
    · exact h2.2.2 p.1 (List.mem_map.mpr ⟨p, hp, rfl⟩) a (by simp) e
    · exact (List.nodup_cons.mp h2.2.1).1 (List.mem_map.mpr ⟨p, hp, e⟩)
  refine ⟨?_, ?_, S.fr, ?_, ?_, hnd, ?_⟩
  · obtain ⟨o, ho, h⟩ := S.ns; exact ⟨o, hk _ _ (Ne.symm ha.1) ho, h⟩
  · intro c o e; exact hk _ _ (by rintro rfl; have := ha.2; simp only at this; rw [this] at e; cases e) (S.keep c o e)
  · intro p hp
    rcases List.mem_append.mp hp with hp | hp
    · obtain ⟨o, ho, h⟩ := S.nw p (by simp [hp]); exact ⟨o, hk _ _ (hne p (by simp [hp])) ho, h⟩
    · rcases List.mem_cons.mp hp with rfl | hp
      · exact hP
      · obtain ⟨o, ho, h⟩ := S.nw p (by simp [hp]); exact ⟨o, hk _ _ (hne p (by simp [hp])) ho, h⟩
  · intro p hp
    rcases List.mem_append.mp hp with hp | hp
    · exact S.fresh p (by simp [hp])
    · rcases List.mem_cons.mp hp with rfl | hp
      · exact ha
      · exact S.fresh p (by simp [hp])
  · obtain ⟨h, tk, e⟩ := S.eq; exact ⟨h', k, by rw [e]⟩

/-- the frame's own names changed -/
theorem St.frame (S : St s₁ L b H s) {h' : Heap} {b' : List (Str × Value)} (k : Nat) (hk : ∀ c o, c ≠ L → s.heap.get? c = some o → h'.get? c = some o) (hP : ∃ o, h'.get? L = some o ∧ Frm b' o) :
    St s₁ L b' H { s with heap := h', toks := k } where
  ns := hP
  keep := fun c o e => hk _ _ (by rintro rfl; rw [S.fr] at e; cases e) (S.keep c o e)
  fr := S.fr
  nw := fun p hp => let ⟨o, ho, h⟩ := S.nw p hp; ⟨o, hk _ _ (S.fresh p hp).1 ho, h⟩
  fresh := S.fresh
  nd := S.nd
  eq := let ⟨h, tk, e⟩ := S.eq; ⟨h', k, by rw [e]⟩

theorem St.bind (S : St s₁ L b H s) {b' : List (Str × Value)} (hb : Sub b b') : St s₁ L b' H s := ⟨let ⟨o, ho, h⟩ := S.ns; ⟨o, ho, h.weak hb⟩, S.keep, S.fr, S.nw, S.fresh, S.nd, S.eq⟩
theorem St.perm (S : St s₁ L b H s) (hp : H'.Perm H) : St s₁ L b H' s :=
  ⟨S.ns, S.keep, S.fr, fun p h => S.nw p (hp.mem_iff.mp h), fun p h => S.fresh p (hp.mem_iff.mp h), (hp.map (·.1)).nodup_iff.mpr S.nd, S.eq⟩
theorem St.sub (S : St s₁ L b H s) (hs : H'.Sublist H) : St s₁ L b H' s :=
  ⟨S.ns, S.keep, S.fr, fun p h => S.nw p (hs.subset h), fun p h => S.fresh p (hs.subset h), List.Nodup.sublist (hs.map (·.1)) S.nd, S.eq⟩
theorem St.drop (S : St s₁ L b (p :: H) s) : St s₁ L b H s := S.sub (List.sublist_cons_self _ _)

theorem St.Ns (S : St s₁ L b H s) : ∃ m, s.heap.Ns L m ∧ ∀ x v, lk b x = some v → m x = some v := by
  obtain ⟨o, ho, es, ep, hd, hk, hf⟩ := S.ns
  exact ⟨nsFind es, ⟨o, es, ep, ho, hd, hk, fun _ => rfl⟩, hf⟩
theorem Frm.of_Ns {h : Heap} {L : Addr} {m : Str → Option Value} {b : List (Str × Value)} (hn : h.Ns L m) (hb : ∀ x v, lk b x = some v → m x = some v) : ∃ o, h.get? L = some o ∧ Frm b o := by
  obtain ⟨o, es, ep, ho, hd, hk, hf⟩ := hn
  exact ⟨o, ho, es, ep, hd, hk, fun x v e => (hf x).trans (hb x v e)⟩
end

/-! ### kinds -/
theorem Lst.isList {h : Heap} {a : Addr} {vs : List Value} (x : ∃ o, h.get? a = some o ∧ Lst vs o) : h.IsList a vs.toArray := let ⟨o, ho, hc, _, _, n, hd⟩ := x; ⟨o, ho, hc, n, hd⟩
theorem Tup.isTup {h : Heap} {a : Addr} {vs : List Value} (x : ∃ o, h.get? a = some o ∧ Tup vs o) : IsTup h a vs.toArray := let ⟨o, ho, hc, _, _, n, hd⟩ := x; ⟨o, ho, hc, n, hd⟩
end Mine
namespace Mine

/-! ### texts as lists of numbers -/
def T (l : List Nat) : Str := ⟨l.toArray⟩
@[simp] theorem T_cps (l : List Nat) : (T l).cps.toList = l := rfl
@[simp] theorem T_len (l : List Nat) : (T l).length = l.length := by simp [T, Str.length]
theorem T_of (x : Str) : T x.cps.toList = x := by cases x; rfl
theorem T_inj {a b : List Nat} (h : T a = T b) : a = b := by have := congrArg (fun x => x.cps.toList) h; simpa using this
theorem T_append (a b : List Nat) : T a ++ T b = T (a ++ b) := by
  show Str.mk _ = Str.mk _
  simp [T]
@[simp] theorem T_beq (a b : List Nat) : (T a == T b) = (a == b) := by
  rw [Bool.eq_iff_iff]; simp only [beq_iff_eq]; exact ⟨T_inj, fun h => by rw [h]⟩

def clip (n : Nat) (i : Int) : Nat := (max 0 (min (if i < 0 then i + n else i) (n : Int))).toNat
def loC (n : Nat) : Option Int → Nat
  | none => 0
  | some i => clip n i
def hiC (n : Nat) : Option Int → Nat
  | none => n
  | some i => clip n i
/-- `l[lo:hi]` -/
def cut {α : Type} (l : List α) (lo hi : Option Int) : List α := (l.take (hiC l.length hi)).drop (loC l.length lo)
theorem clip_le (n : Nat) (i : Int) : clip n i ≤ n := by unfold clip; omega
theorem hiC_le (n : Nat) (i : Option Int) : hiC n i ≤ n := by cases i <;> simp [hiC, clip_le]
theorem clip_nn {n : Nat} {i : Int} (h : 0 ≤ i) : clip n i = min i.toNat n := by unfold clip; rw [if_neg (by omega)]; omega

theorem picked {α : Type} (l : List α) (a b : Nat) (hb : b ≤ l.length) : ((List.range (b - a)).map (fun k => a + k)).filterMap (l[·]?) = (l.take b).drop a := by
  by_cases h : a ≤ b
  · rw [StrLaws.picks l (b - a) a (by omega), List.drop_take]
  · have : b - a = 0 := by omega
    rw [this]; simp [List.drop_eq_nil_iff]; omega
theorem sliceRange1 (a b : Nat) : sliceRange (a : Int) (b : Int) 1 = (List.range (b - a)).map (fun k => a + k) := by
  unfold sliceRange
  simp only [show ((1 : Int) > 0) = True from by simp, if_true]
  have e : (if (a : Int) < b then ((b : Int) - a + 1 - 1) / 1 else 0).toNat = b - a := by split <;> omega
  rw [e]
  refine List.map_congr_left fun k _ => ?_
  omega
theorem strSliceIndices_eq (lo hi : Option Int) (n : Nat) : Builtin.Str.strSliceIndices lo hi 1 n = (List.range (hiC n hi - loC n lo)).map (fun k => loC n lo + k) := by
  rw [← sliceRange1]
  unfold Builtin.Str.strSliceIndices
  cases lo <;> cases hi <;> simp only [loC, hiC, clip, show ((1 : Int) > 0) = True from by simp, if_true] <;> congr 1 <;> omega
theorem slice_T (l : List Nat) (lo hi : Option Int) : Txt.slice (T l) lo hi = T (cut l lo hi) := by
  have key : (Builtin.Str.strSliceIndices lo hi 1 (T l).length).filterMap ((T l).cps[·]?) = cut l lo hi := by
    rw [strSliceIndices_eq, T_len]
    have := picked l (loC l.length lo) (hiC l.length hi) (hiC_le _ _)
    simpa [T, cut] using this
  unfold Txt.slice
  split
  · rename_i h
    have hl : (Builtin.Str.strSliceIndices lo hi 1 (T l).length).length = l.length := by simpa using h
    rw [strSliceIndices_eq] at hl
    simp only [List.length_map, List.length_range, T_len] at hl
    have h1 := hiC_le l.length hi
    have : cut l lo hi = l := by
      unfold cut
      have h2 : hiC l.length hi = l.length := by omega
      rw [h2]
      by_cases h0 : l.length = 0
      · have : l = [] := List.eq_nil_of_length_eq_zero h0
        subst this; simp
      · have h3 : loC l.length lo = 0 := by omega
        rw [h3]; simp
    rw [this]
  · rw [key]; rfl

theorem cut_len_le {α : Type} (l : List α) (lo hi : Option Int) : (cut l lo hi).length ≤ l.length := by
  unfold cut; have := hiC_le l.length hi; simp; omega
theorem cut_to {α : Type} (l : List α) {k : Int} (h : 0 ≤ k) : cut l none (some k) = l.take k.toNat := by
  unfold cut
  show List.drop 0 (l.take (clip l.length k)) = _
  rw [clip_nn h, List.drop_zero, ← List.take_take, List.take_length]
theorem cut_from {α : Type} (l : List α) {k : Int} (h : 0 ≤ k) : cut l (some k) none = l.drop k.toNat := by
  unfold cut
  show List.drop (clip l.length k) (l.take l.length) = _
  rw [clip_nn h, List.take_length]
  by_cases hk : k.toNat ≤ l.length
  · rw [Nat.min_eq_left hk]
  · rw [Nat.min_eq_right (by omega), List.drop_length, List.drop_eq_nil_of_le (by omega)]
theorem cut_mid {α : Type} (l : List α) {a k : Int} (ha : 0 ≤ a) (h : 0 ≤ k) : cut l (some a) (some k) = (l.take k.toNat).drop a.toNat := by
  unfold cut
  show List.drop (clip l.length a) (l.take (clip l.length k)) = _
  rw [clip_nn h, clip_nn ha, ← List.take_take, List.take_length]
  by_cases hk : a.toNat ≤ l.length
  · rw [Nat.min_eq_left hk]
  · rw [Nat.min_eq_right (by omega), List.drop_eq_nil_of_le (by simp; omega), List.drop_eq_nil_of_le (by simp; omega)]
/-! ### names -/
section
variable {M : Model} {A : Around} {E : Value → Shared → Prop} {s s₁ : Shared} {env : Env} {L : Addr} {b : List (Str × Value)} {H H' : List Ent} {x : Str} {v : Value} {pos : Pos}
theorem ld_L {Q : Value → Shared → Prop} (S : St s₁ L b H s) (hv : lk b x = some v) (h : Q v s) (hx : env.kindOf x = some .local) (hL : env.locals = L) (hk : env.scope.kind = .function) : wpAny M A (loadName env x) Q E s := by
  subst hL
  obtain ⟨m, hn, hm⟩ := S.Ns
  exact wpAny_loadName_local hk hx hn (hm _ _ hv) h
theorem nm_L {Q : Value → Shared → Prop} (S : St s₁ L b H s) (hx : env.kindOf x = some .local) (hv : lk b x = some v) (h : Q v s) (hL : env.locals = L) (hk : env.scope.kind = .function)
    (hd : (x == ("__debug__" : Str)) = false) : wpAny M A (eval (.Name x pos) env) Q E s := wpAny_Name (ld_L S hv h hx hL hk) hd
theorem ld_C {Q : Value → Shared → Prop} {c : Addr} (S : St s₁ L b H s) (hx : env.kindOf x = some .cell) (hc : env.cells.lookup x = some c) (hm : (c, Cel (some v)) ∈ H) (h : Q v s) (hk : env.scope.kind = .function) :
    wpAny M A (loadName env x) Q E s := by
  obtain ⟨o, ho, hd⟩ := S.get hm
  exact wpAny_loadName_cell hk hx hc ⟨o, ho, hd⟩ h
theorem nm_C {Q : Value → Shared → Prop} {c : Addr} (S : St s₁ L b H s) (hx : env.kindOf x = some .cell) (hc : env.cells.lookup x = some c) (hm : (c, Cel (some v)) ∈ H) (h : Q v s) (hk : env.scope.kind = .function)
    (hd : (x == ("__debug__" : Str)) = false) : wpAny M A (eval (.Name x pos) env) Q E s := wpAny_Name (ld_C S hx hc hm h hk) hd
theorem nm_K {Q : Value → Shared → Prop} {K : Frag} {p : Program} {loose : List Str} {mg mb : Str → Option Value} (S : St s₁ L b H s) (X : K.In s₁.heap) (T : TopRead p loose mg mb s₁.heap) (hx : env.kindOf x = some .globalImplicit) (e : nsIn K mainGlobals x = some (some v)) (h : Q v s)
    (hg : env.globals = mainGlobals) (hk : env.scope.kind = .function) (hd : (x == ("__debug__" : Str)) = false) : wpAny M A (eval (.Name x pos) env) Q E s :=
  Name_function_global hk hx (loadGlobal_global (env := env) (hg ▸ T.g.keeps S.keep) (mg_of X T.g e) h) hd
theorem nm_B {Q : Value → Shared → Prop} {K : Frag} {p : Program} {loose : List Str} {mg mb : Str → Option Value} (S : St s₁ L b H s) (X : K.In s₁.heap) (T : TopRead p loose mg mb s₁.heap) (hx : env.kindOf x = some .globalImplicit) (e : nsIn K mainGlobals x = some none) (hv : bootBuiltins x = some v) (h : Q v s)
    (hn : x ≠ "__name__") (hg : env.globals = mainGlobals) (hb : env.builtins = builtinsNs) (hk : env.scope.kind = .function) (hd : (x == ("__debug__" : Str)) = false) : wpAny M A (eval (.Name x pos) env) Q E s :=
  Name_function_global hk hx (loadGlobal_builtin (env := env) (hg ▸ T.g.keeps S.keep) (mg_none_of X T.g e) (hb ▸ T.b.keeps S.keep) ((T.builtins x hn).trans hv) h) hd

theorem st_L {Q : Unit → Shared → Prop} (S : St s₁ L b H s) (hx : env.kindOf x = some .local) (h : ∀ s', St s₁ L (up x v b) H s' → Q () s') (hL : env.locals = L) (hk : env.scope.kind = .function) :
    wpAny M A (storeName env x v) Q E s := by
  subst hL
  obtain ⟨m, hn, hm⟩ := S.Ns
  refine wpAny_storeName_local hx hn (fun h' hn' hs => h _ (S.frame _ (fun c o hc e => hs.extBut c o hc e) (Frm.of_Ns hn' fun y u hy => ?_))) (by rw [hk]; rfl)
  rw [lk_up] at hy
  by_cases e : y = x
  · simpa [e] using hy
  · simp only [e, if_false] at hy ⊢; exact hm _ _ hy
theorem st_C {Q : Unit → Shared → Prop} {c : Addr} {v₀ : Option Value} (S : St s₁ L b H s) (hx : env.kindOf x = some .cell) (hc : env.cells.lookup x = some c) (U : Upd c (Cel v₀) (Cel (some v)) H H') (h : ∀ s', St s₁ L b H' s' → Q () s')
    (hk : env.scope.kind = .function) : wpAny M A (storeName env x v) Q E s := by
  obtain ⟨o, ho, hd⟩ := S.get U.mem
  refine wpAny_storeName_cell hk hx hc ⟨o, ho, hd⟩ fun h' hv hs => ?_
  exact h _ (S.upd U s.toks (fun a o ha e => hs.extBut a o ha e) hv)
end

/-! ### ints -/
section
variable {prog : Program} {w : World} {A : Around} {E : Value → Shared → Prop} {s s₁ : Shared} {L : Addr} {b : List (Str × Value)} {H H' : List Ent} {i j : Int} {t u : Tok} {Q : Value → Shared → Prop} {env : Env}
theorem c_int {k : Nat} {pos : Pos} (S : St s₁ L b H s) (h : ∀ s' t', St s₁ L b H s' → Q (.int i t') s') : wpAny (model prog w) A (eval (.Constant (.int i) k pos) env) Q E s := wpAny_Constant_int (h _ _ (S.tok _))
theorem c_str {x : Str} {k : Nat} {pos : Pos} (S : St s₁ L b H s) (h : ∀ s' t', St s₁ L b H s' → Q (.str x t') s') : wpAny (model prog w) A (eval (.Constant (.str x) k pos) env) Q E s := wpAny_Constant_str (h _ _ (S.tok _))
theorem i_add (S : St s₁ L b H s) (h : ∀ s' t', St s₁ L b H s' → Q (.int (i + j) t') s') : wpAny (model prog w) A (binaryOp .Add (.int i t) (.int j u)) Q E s := add_int (h _ _ (S.tok _))
theorem i_iadd (S : St s₁ L b H s) (h : ∀ s' t', St s₁ L b H s' → Q (.int (i + j) t') s') : wpAny (model prog w) A (inplaceOp .Add (.int i t) (.int j u)) Q E s := iadd_int (h _ _ (S.tok _))
theorem i_sub (S : St s₁ L b H s) (h : ∀ s' t', St s₁ L b H s' → Q (.int (i - j) t') s') : wpAny (model prog w) A (binaryOp .Sub (.int i t) (.int j u)) Q E s := sub_int (h _ _ (S.tok _))
theorem i_mul (S : St s₁ L b H s) (hm : IntMulOk i j) (h : ∀ s' t', St s₁ L b H s' → Q (.int (i * j) t') s') : wpAny (model prog w) A (binaryOp .Mult (.int i t) (.int j u)) Q E s := mul_int (h _ _ (S.tok _)) hm
theorem i_mod (S : St s₁ L b H s) (h0 : 0 < j) (h : ∀ s' t', St s₁ L b H s' → Q (.int (i % j) t') s') : wpAny (model prog w) A (binaryOp .Mod (.int i t) (.int j u)) Q E s :=
  mod_int (by omega) (by rw [Int.fmod_eq_emod_of_nonneg _ (by omega)]; exact h _ _ (S.tok _))
theorem i_lt (h : Q (.bool (decide (i < j))) s) : wpAny (model prog w) A (compareOp .Lt (.int i t) (.int j u)) Q E s := lt_int h
theorem i_gt (h : Q (.bool (decide (j < i))) s) : wpAny (model prog w) A (compareOp .Gt (.int i t) (.int j u)) Q E s := gt_int h
theorem i_eq (h : Q (.bool (i == j)) s) : wpAny (model prog w) A (compareOp .Eq (.int i t) (.int j u)) Q E s := eq_int h
end

/-! ### texts -/
section
variable {prog : Program} {w : World} {A : Around} {E : Value → Shared → Prop} {s s₁ : Shared} {L : Addr} {b : List (Str × Value)} {H H' : List Ent} {l m : List Nat} {t u : Tok} {Q : Value → Shared → Prop} {env : Env}
theorem t_len (S : St s₁ L b H s) (hl : l.length ≤ sizeLine) (h : ∀ s' t', St s₁ L b H s' → Q (.int l.length t') s') : wpAny (model prog w) A (call (.builtin "len") [.str (T l) t]) Q E s := by
  have := h { s with toks := s.toks + 1 + 1 } (s.toks + 1) (S.tok _)
  refine len_str (by rw [T_len]; rw [sizeLine_eq] at hl; omega) ?_
  rw [T_len]; exact this
theorem t_add (S : St s₁ L b H s) (hl : l.length + m.length ≤ sizeLine) (h : ∀ s' t', St s₁ L b H s' → Q (.str (T (l ++ m)) t') s') : wpAny (model prog w) A (binaryOp .Add (.str (T l) t) (.str (T m) u)) Q E s :=
  add_str (fun t' tk => by rw [T_append]; exact h _ _ (S.tok _)) (by simpa using hl)
theorem t_iadd (S : St s₁ L b H s) (hl : l.length + m.length ≤ sizeLine) (h : ∀ s' t', St s₁ L b H s' → Q (.str (T (l ++ m)) t') s') : wpAny (model prog w) A (inplaceOp .Add (.str (T l) t) (.str (T m) u)) Q E s :=
  iadd_str (fun t' tk => by rw [T_append]; exact h _ _ (S.tok _)) (by simpa using hl)
theorem t_ne (h : Q (.bool (l != m)) s) : wpAny (model prog w) A (compareOp .NotEq (.str (T l) t) (.str (T m) u)) Q E s := ne_str (by unfold bne; rw [T_beq]; exact h)

/-- a slice object -/
def Slc (lo hi : Option Int) (o : Obj) : Prop := ∃ (l u : Option (Int × Tok)), o.cls = .type "slice" ∧ o.data = .fields #[partValue l, partValue u, .none] ∧ l.map (·.1) = lo ∧ u.map (·.1) = hi
theorem slc_ss {i j : Int} {ti tj : Tok} : Slc (some i) (some j) { cls := .type "slice", data := .fields #[.int i ti, .int j tj, .none] } := ⟨some (i, ti), some (j, tj), rfl, rfl, rfl, rfl⟩
theorem slc_sn {i : Int} {ti : Tok} : Slc (some i) none { cls := .type "slice", data := .fields #[.int i ti, .none, .none] } := ⟨some (i, ti), none, rfl, rfl, rfl, rfl⟩
theorem slc_ns {j : Int} {tj : Tok} : Slc none (some j) { cls := .type "slice", data := .fields #[.none, .int j tj, .none] } := ⟨none, some (j, tj), rfl, rfl, rfl, rfl⟩
/-- both ends of a slice are known -/
def SliceEnd (Q : Value → Shared → Prop) (l u : Value) (s : Shared) : Prop := Q (.ref s.heap.objs.size) { s with heap := s.heap.push { cls := .type "slice", data := .fields #[l, u, .none] } }
theorem slice_end {v v' : Value} {lo hi : Option Int} (S : St s₁ L b H s) (hP : Slc lo hi { cls := .type "slice", data := .fields #[v, v', .none] }) (h : ∀ s' a, St s₁ L b ((a, Slc lo hi) :: H) s' → Q (.ref a) s') : SliceEnd Q v v' s :=
  h _ _ (S.push hP s.toks)
theorem ev_slice {lower upper : Option Expr} {p : Pos}
    (h : wpAny (model prog w) A (evalPart lower env) (fun l s₁ => wpAny (model prog w) A (evalPart upper env) (fun u s₂ => SliceEnd Q l u s₂) E s₁) E s) : wpAny (model prog w) A (eval (.Slice lower upper none p) env) Q E s :=
  wpAny_Slice (wpAny_mono h (fun _ _ h₁ => wpAny_mono h₁ (fun _ _ h₂ => wpAny_pure h₂) fun _ _ x => x) fun _ _ x => x)
theorem t_slice {value slice : Expr} {a : Addr} {lo hi : Option Int} (S : St s₁ L b ((a, Slc lo hi) :: H) s) (hl : l.length ≤ sizeLine) (h : ∀ s' t', St s₁ L b H s' → Q (.str (T (cut l lo hi)) t') s')
    (hs : subscripted slice false (.str (T l) t) (.ref a) = operate [.ref a, .str (T l) t] (getItem (.str (T l) t) (.ref a))) (ht : ∀ r, letTemporaryGo value (.str (T l) t) r = pure ()) :
    wpAny (model prog w) A (subscriptTail value slice (.str (T l) t) (.ref a)) Q E s := by
  obtain ⟨o, ho, lo', hi', hc, hd, rfl, rfl⟩ := S.get (List.mem_cons_self ..)
  refine tail_of_ItemOn ⟨"str", _, F.slot_str_getitem.lookup, typeIs_str _ _ _, wpAny_getItem_str_slice (l := lo') (u := hi') (st := none) ⟨o, ho, hc, hd⟩ rfl ?_⟩ hs ht
  have e := slice_T l (lo'.map (·.1)) (hi'.map (·.1))
  exact post_val_or_str ⟨Nat.le_trans (Txt.slice_le (T l) _ _) (by simpa using hl), fun t' k => (congrArg (fun z => Q (.str z t') _) e).mpr (h _ _ (S.drop.tok k))⟩
end
end Mine
namespace Mine

/-! ### the written number -/
def dig (n : Int) : List Nat := (Str.ofString (toString n)).cps.toList
theorem dig_T (n : Int) : Str.ofString (toString n) = T (dig n) := (T_of _).symm

set_option maxHeartbeats 4000000 in
theorem fmt_meets (P R : Str) (n : Int) (tp tn tq t : Tok) (b : Addr) (hn0 : 0 ≤ n) (hn1 : n < 10 ^ 10) (hP : P.length ≤ 1000000) (hR : R.length ≤ 1000000) :
    Meets (Builtin.«str.__mod__» ⟨[.str ⟨#[37, 115, 91, 37, 100, 32, 99, 104, 97, 114, 115, 93, 37, 115]⟩ t, .ref b], []⟩) (fun _ R' s => IsTup s.heap b #[.str P tp, .int n tn, .str R tq] ∧
      ∀ t' k, R' (.ok (.ret (.str (P ++ ⟨#[91]⟩ ++ Str.ofString (toString n) ++ ⟨#[32, 99, 104, 97, 114, 115, 93]⟩ ++ R) t'))) { s with toks := k }) := by
  kpt_run

def chars : List Nat := [32, 99, 104, 97, 114, 115, 93]

section
variable {prog : Program} {w : World} {A : Around} {E : Value → Shared → Prop} {s s₁ : Shared} {L : Addr} {b : List (Str × Value)} {H H' : List Ent} {l m : List Nat} {t u : Tok} {Q : Value → Shared → Prop} {env : Env}
theorem t_fmt {a : Addr} {P R : List Nat} {n : Int} {tp tn tq : Tok} {X : Str} (S : St s₁ L b ((a, Tup [.str (T P) tp, .int n tn, .str (T R) tq]) :: H) s) (hX : X = Str.mk #[37, 115, 91, 37, 100, 32, 99, 104, 97, 114, 115, 93, 37, 115])
    (hn0 : 0 ≤ n) (hn1 : n < 10 ^ 10) (hP : P.length ≤ 1000000) (hR : R.length ≤ 1000000) (h : ∀ s' t', St s₁ L b H s' → Q (.str (T (P ++ [91] ++ dig n ++ chars ++ R)) t') s') :
    wpAny (model prog w) A (binaryOp .Mod (.str X t) (.ref a)) Q E s := by
  subst hX
  have ht : IsTup s.heap a #[.str (T P) tp, .int n tn, .str (T R) tq] := Tup.isTup (S.get (List.mem_cons_self ..))
  have hT : s.TypeIs (.ref a) "tuple" := ht.typeIs
  refine KPt.bin_left (T := "str") (U := "tuple") (op := .Mod) (by decide) (typeIs_str s _ t) hT F.fills_str_mod KPt.fills_tuple F.slot_str_mod
    (call_meets F.slot_str_mod (typeIs_str s _ t) F.entry_str_mod (F.args_str_mod_2 _ _) (fmt_meets (T P) (T R) n tp tn tq t a hn0 hn1 (by simpa using hP) (by simpa using hR)) ⟨ht, fun t' k => ⟨(fun e => nomatch e), ?_⟩⟩)
  have e : T P ++ ⟨#[91]⟩ ++ Str.ofString (toString n) ++ ⟨#[32, 99, 104, 97, 114, 115, 93]⟩ ++ T R = T (P ++ [91] ++ dig n ++ chars ++ R) := by
    rw [dig_T, show (⟨#[91]⟩ : Str) = T [91] from rfl, show (⟨#[32, 99, 104, 97, 114, 115, 93]⟩ : Str) = T chars from rfl, T_append, T_append, T_append, T_append]
  rw [e]; exact h _ _ (S.drop.tok k)

/-! ### made lists and tuples -/
theorem new_list {vs : List Value} (S : St s₁ L b H s) (hsz : vs.length ≤ sizeLine) (h : ∀ s' a, St s₁ L b ((a, Lst vs) :: H) s' → Q (.ref a) s') : wpAny (model prog w) A (newList vs) Q E s :=
  wpAny_newObj_type (h _ _ (S.push (P := Lst vs) ⟨rfl, rfl, rfl, _, rfl⟩ s.toks)) (by show vs.toArray.size ≤ sizeLine; rw [List.size_toArray]; exact hsz)
theorem new_tuple {vs : List Value} (S : St s₁ L b H s) (hsz : vs.length ≤ sizeLine) (h : ∀ s' a, St s₁ L b ((a, Tup vs) :: H) s' → Q (.ref a) s') : wpAny (model prog w) A (newTuple vs) Q E s :=
  wpAny_newObj_type (h _ _ (S.push (P := Tup vs) ⟨rfl, rfl, rfl, _, rfl⟩ s.toks)) (by show vs.toArray.size ≤ sizeLine; rw [List.size_toArray]; exact hsz)

/-! ### calls -/
/-- what stands where a call's arguments are ready -/
def Ready (K : Frag) (P : Shared → Prop) (s : Shared) : Prop := K.In s.heap ∧ P s
theorem Ready.mk' {K : Frag} {P : Shared → Prop} (X : K.In s₁.heap) (S : St s₁ L b H s) (h : P s) : Ready K P s := ⟨X.keeps S.keep, h⟩
theorem callWith_fn {K : Frag} {f : Addr} {e : Expr} {rest : List Expr} {pos : Pos} (X : K.In s₁.heap) (hk : keepIn K (.ref f) = true)
    (h : wpAny (model prog w) A (spliced (backTo pos (starEach (e :: rest) env))) (fun vs s₁ => Ready K (fun s => wpAny (model prog w) A (call (.ref f) vs) Q E s) s₁) E s)
    (he : starEach (e :: rest) env = (false, eval e env) :: starEach rest env) (hplain : (backTo pos (starEach rest env)).any (·.1) = false) :
    wpAny (model prog w) A (callWith pos (.ref f) [] (backTo pos (starEach (e :: rest) env)) []) Q E s :=
  callWith_K X hk (wpAny_mono h (fun _ _ h => h) fun _ _ h => h) he hplain

theorem St.enter (S : St s₁ L b H s) {h₀ : Heap} {b' : List (Str × Value)} {m : Str → Option Value} (k : Nat) (hns : h₀.Ns s.heap.objs.size m) (hk : ∀ b o, s.heap.get? b = some o → h₀.get? b = some o) (hm : ∀ x v, lk b' x = some v → m x = some v) :
    St s₁ s.heap.objs.size b' ((L, Frm b) :: H) { s with heap := h₀, toks := k } where
  ns := Frm.of_Ns hns hm
  keep := fun a o e => hk _ _ (S.keep a o e)
  fr := S.size.1
  nw := fun p hp => by
    rcases List.mem_cons.mp hp with rfl | hp
    · obtain ⟨o, ho, h⟩ := S.ns; exact ⟨o, hk _ _ ho, h⟩
    · obtain ⟨o, ho, h⟩ := S.nw p hp; exact ⟨o, hk _ _ ho, h⟩
  fresh := fun p hp => by
    rcases List.mem_cons.mp hp with rfl | hp
    · exact ⟨Ne.symm S.size.2.1, S.fr⟩
    · exact ⟨S.size.2.2 p hp, (S.fresh p hp).2⟩
  nd := List.nodup_cons.mpr ⟨fun hm => by
    obtain ⟨q, hq, e⟩ := List.mem_map.mp hm
    exact (S.fresh q hq).1 e, S.nd⟩
  eq := let ⟨h, tk, e⟩ := S.eq; ⟨h₀, k, by rw [e]⟩

/-- back to the caller's frame -/
theorem St.back {L' : Addr} {b' : List (Str × Value)} (S : St s₁ L' b' ((L, Frm b) :: H) s) : St s₁ L b H s where
  ns := S.nw (L, Frm b) (List.mem_cons_self ..)
  keep := S.keep
  fr := (S.fresh (L, Frm b) (List.mem_cons_self ..)).2
  nw := fun p hp => S.nw p (List.mem_cons_of_mem _ hp)
  fresh := fun p hp => ⟨fun e => (List.nodup_cons.mp S.nd).1 (List.mem_map.mpr ⟨p, hp, e⟩), (S.fresh p (List.mem_cons_of_mem _ hp)).2⟩
  nd := (List.nodup_cons.mp S.nd).2
  eq := S.eq

theorem call_fn {K : Frag} {f : Addr} {oc : Value} {od : Option Addr} {osl : Array (Option Value)} {fd : FuncData} {body : List Stmt} {args : List Value} {binds b' : List (Str × Value)}
    (S : St s₁ L b H s) (X : K.In s₁.heap) (hlim : s₁.heap.NoLimit) (ho : K.lookup f = some ⟨oc, od, .func fd, osl⟩) (hcd : codeIn K fd.code fd.qualname = true) (hroom : A.depth < recursionLimit)
    (hbody : fd.body = .stmts body) (hbind : BindsTo s fd ⟨args, []⟩ binds) (hcell : ∀ x ∈ fd.scope.names, x.2 ≠ .cell) (hloc : ∀ x ∈ binds, fd.scope.names.lookup x.1 = some .local) (hb : b' = binds.reverse)
    (h : ∀ s' L', St s₁ L' b' ((L, Frm b) :: H) s' →
      wpAny (model prog w) (A.deeper (callEnv fd L' f)) (execs body (callEnv fd L' f)) (fun fl s'' => Q (match fl with | .ret v => v | _ => .none) s'') (fun _ _ => False) s')
    (hco : fd.scope.isCoroutine = false) (hgen : fd.scope.isGenerator = false) (hk : fd.scope.kind = .function) : wpAny (model prog w) A (call (.ref f) args) Q E s := by
  have X' := X.keeps S.keep
  refine wpAny_call (codeAny_call_def hroom (X' _ _ ho) rfl (hlim.keeps S.keep) (codeRec_of X' hcd) hbody hbind hcell hloc (fun h₀ hns hk₀ => ?_) hco hgen hk)
  refine wpAny_mono (h _ _ (S.enter (b' := b') (s.toks + binds.length) hns hk₀ fun x v e => ?_)) (fun _ _ q => q) (fun _ _ q => q.elim)
  subst hb
  rw [← e]
  clear h hns hk₀ hloc hbind e
  induction binds.reverse with
  | nil => rfl
  | cons p r ih =>
    obtain ⟨n, u⟩ := p
    simp only [List.lookup_cons, lk, ih]
    by_cases hx : n = x
    · subst hx; simp
    · have : (x == n) = false := by simp [Ne.symm hx]
      simp [this, hx]
end
end Mine
namespace Mine

/-- an iterator at `I`: at turn i its object meets `P i`, it hands out what meets `V i`, while the heap meets `R` -/
structure Itr (prog : Program) (w : World) (A : Around) (I : Addr) (n : Nat) (P : Nat → Obj → Prop) (V : Nat → Value → Prop) (R : Heap → Prop) : Prop where
  item : ∀ i (s : Shared) (Q : Option Value → Shared → Prop) (E : Value → Shared → Prop), i < n → (∃ o, s.heap.get? I = some o ∧ P i o) → R s.heap →
    (∀ v h' tk, V i v → (∃ o, h'.get? I = some o ∧ P (i + 1) o) → (∀ c o, c ≠ I → s.heap.get? c = some o → h'.get? c = some o) → Q (some v) { s with heap := h', toks := tk }) → wpAny (model prog w) A (pyNext (.ref I)) Q E s
  done : ∀ (s : Shared) (Q : Option Value → Shared → Prop) (E : Value → Shared → Prop), (∃ o, s.heap.get? I = some o ∧ P n o) → R s.heap →
    (∀ h' tk, (∀ c o, c ≠ I → s.heap.get? c = some o → h'.get? c = some o) → Q none { s with heap := h', toks := tk }) → wpAny (model prog w) A (pyNext (.ref I)) Q E s
  self : ∀ i (s : Shared) (Q : Value → Shared → Prop) (E : Value → Shared → Prop), (∃ o, s.heap.get? I = some o ∧ P i o) → R s.heap → Q (.ref I) s → wpAny (model prog w) A (pyIter (.ref I)) Q E s

def LI (l : Addr) (i : Nat) (o : Obj) : Prop := o.cls = .type "list_iterator" ∧ o.data = .fields #[.ref l, .int i 0]
def TI (l : Addr) (i : Nat) (o : Obj) : Prop := o.cls = .type "tuple_iterator" ∧ o.data = .fields #[.ref l, .int i 0]
def RI (x left step : Int) (o : Obj) : Prop := o = { cls := .type "range_iterator", dict := none, data := .fields #[rawInt x, rawInt left, rawInt step], slots := #[] }

theorem Itr.list {prog : Program} {w : World} {A : Around} {I l : Addr} (vs : List Value) (hh : A.handled = none) (hne : l ≠ I) :
    Itr prog w A I vs.length (LI l) (fun i v => vs[i]? = some v) (fun h => h.IsList l vs.toArray) where
  item := fun i s Q E hi ⟨o, ho, h1, h2⟩ hR hQ => by
    refine (Walks.list (prog := prog) (w := w) hh I l hne vs.toArray).item i s Q E (by simpa using hi) ⟨⟨o, ho, h1, h2⟩, hR⟩ fun v h' tk hv hst hk => ?_
    exact hQ v h' tk (by simpa using hv) (let ⟨o, ho, r⟩ := hst.1; ⟨o, ho, r⟩) fun c o hc e => hk c o (by simpa using hc) e
  done := fun s Q E ⟨o, ho, h1, h2⟩ hR hQ =>
    (Walks.list (prog := prog) (w := w) hh I l hne vs.toArray).done s Q E ⟨⟨o, ho, h1, by rw [List.size_toArray]; exact h2⟩, hR⟩ fun h' tk hk => hQ h' tk fun c o hc e => hk c o (by simpa using hc) e
  self := fun i s Q E ⟨o, ho, h1, h2⟩ hR hQ => wpAny_pyIter_listiter (i := i) ⟨o, ho, h1, h2⟩ hQ
theorem Itr.tuple {prog : Program} {w : World} {A : Around} {I l : Addr} (vs : List Value) (hh : A.handled = none) (hne : l ≠ I) :
    Itr prog w A I vs.length (TI l) (fun i v => vs[i]? = some v) (fun h => h.IsTuple l vs.toArray) where
  item := fun i s Q E hi ⟨o, ho, h1, h2⟩ hR hQ => by
    refine (Walks.tuple (prog := prog) (w := w) hh I l hne vs.toArray).item i s Q E (by simpa using hi) ⟨⟨o, ho, h1, h2⟩, hR⟩ fun v h' tk hv hst hk => ?_
    exact hQ v h' tk (by simpa using hv) (let ⟨o, ho, r⟩ := hst.1; ⟨o, ho, r⟩) fun c o hc e => hk c o (by simpa using hc) e
  done := fun s Q E ⟨o, ho, h1, h2⟩ hR hQ =>
    (Walks.tuple (prog := prog) (w := w) hh I l hne vs.toArray).done s Q E ⟨⟨o, ho, h1, by rw [List.size_toArray]; exact h2⟩, hR⟩ fun h' tk hk => hQ h' tk fun c o hc e => hk c o (by simpa using hc) e
  self := fun i s Q E ⟨o, ho, h1, h2⟩ hR hQ => wpAny_pyIter_tupleiter (i := i) ⟨o, ho, h1, h2⟩ hQ
theorem Itr.range {prog : Program} {w : World} {A : Around} {I : Addr} (a c : Int) (n : Nat) (hh : A.handled = none) :
    Itr prog w A I n (fun i => RI (a + i * c) ((n : Int) - i) c) (fun i v => ∃ t, v = .int (a + i * c) t) (fun _ => True) where
  item := fun i s Q E hi ⟨o, ho, h1⟩ hR hQ => by
    subst h1
    refine (Walks.range (prog := prog) (w := w) hh I a c n).item i s Q E hi ho fun v h' tk hv hst hk => ?_
    exact hQ v h' tk hv ⟨_, hst, rfl⟩ fun c o hc e => hk c o (by simpa using hc) e
  done := fun s Q E ⟨o, ho, h1⟩ hR hQ => by
    subst h1
    exact (Walks.range (prog := prog) (w := w) hh I a c n).done s Q E ho fun h' tk hk => hQ h' tk fun c o hc e => hk c o (by simpa using hc) e
  self := fun i s Q E ⟨o, ho, h1⟩ hR hQ => by subst h1; exact wpAny_pyIter_rangeiter ho hQ

section
variable {prog : Program} {w : World} {A : Around} {E : Value → Shared → Prop} {s s₁ : Shared} {L I l : Addr} {b : List (Str × Value)} {H H' : List Ent} {env : Env}

theorem it_list {Q : Value → Shared → Prop} {vs : List Value} (S : St s₁ L b H s) (hl : (l, Lst vs) ∈ H ∨ s₁.heap.IsList l vs.toArray) (h : ∀ s' I, l ≠ I → St s₁ L b ((I, LI l 0) :: H) s' → Q (.ref I) s') : wpAny (model prog w) A (pyIter (.ref l)) Q E s := by
  have hl' : s.heap.IsList l vs.toArray := hl.elim (fun m => Lst.isList (S.get m)) fun ⟨o, ho, r⟩ => ⟨o, S.keep _ _ ho, r⟩
  refine wpAny_pyIter_list hl' (h _ _ ?_ (S.push (P := LI l 0) ⟨rfl, rfl⟩ s.toks))
  obtain ⟨o, ho, _⟩ := hl'; exact Nat.ne_of_lt (Heap.lt_size ho)
theorem it_tuple {Q : Value → Shared → Prop} {vs : List Value} (S : St s₁ L b H s) (hl : (l, Tup vs) ∈ H) (h : ∀ s' I, l ≠ I → St s₁ L b ((I, TI l 0) :: H) s' → Q (.ref I) s') : wpAny (model prog w) A (pyIter (.ref l)) Q E s := by
  have hl' : s.heap.IsTuple l vs.toArray := Tup.isTup (S.get hl)
  refine wpAny_pyIter_tuple hl' (h _ _ ?_ (S.push (P := TI l 0) ⟨rfl, rfl⟩ s.toks))
  obtain ⟨o, ho, _⟩ := hl'; exact Nat.ne_of_lt (Heap.lt_size ho)
/-- a range object -/
def Rng (a c st : Int) (o : Obj) : Prop := ∃ t u v, o = { cls := .type "range", dict := none, data := .fields #[.int a t, .int c u, .int st v], slots := #[] }
theorem c_range1 {Q : Value → Shared → Prop} {n : Int} {t : Tok} (S : St s₁ L b H s) (h : ∀ s' r, St s₁ L b ((r, Rng 0 n 1) :: H) s' → Q (.ref r) s') : wpAny (model prog w) A (call (.type "range") [.int n t]) Q E s :=
  call_range_1 (h _ _ (S.push (P := Rng 0 n 1) ⟨_, _, _, rfl⟩ _))
theorem it_range1 {Q : Value → Shared → Prop} {r : Addr} {a c : Int} (S : St s₁ L b ((r, Rng a c 1) :: H) s) (ha : -(2 ^ 62) ≤ a) (ha' : a < 2 ^ 62) (hc : -(2 ^ 62) ≤ c) (hc' : c < 2 ^ 62)
    (h : ∀ s' I, St s₁ L b ((I, RI (a + ((0 : Nat) : Int) * 1) (((c - a).toNat : Int) - ((0 : Nat) : Int)) 1) :: H) s' → Q (.ref I) s') : wpAny (model prog w) A (pyIter (.ref r)) Q E s := by
  obtain ⟨o, ho, t, u, v, rfl⟩ := S.get (List.mem_cons_self ..)
  refine wpAny_pyIter_range (a := a) (b := c) (c := 1) ho (small_one ha ha' hc hc') (h _ _ (S.drop.push (P := RI _ _ 1) ?_ s.toks))
  show _ = _
  have e : Builtin.Range.rangeSize a c 1 = ((c - a).toNat : Int) - ((0 : Nat) : Int) := by rw [rangeSize_one]; split <;> omega
  rw [e]; simp

/-- an entry at the head passes from one state to the next -/
theorem St.step {P P' : Obj → Prop} (S : St s₁ L b ((I, P) :: H) s) {h' : Heap} (k : Nat) (hP : ∃ o, h'.get? I = some o ∧ P' o) (hk : ∀ c o, c ≠ I → s.heap.get? c = some o → h'.get? c = some o) : St s₁ L b ((I, P') :: H) { s with heap := h', toks := k } :=
  S.upd (.head _) k hk hP
theorem St.gone {P : Obj → Prop} (S : St s₁ L b ((I, P) :: H) s) {h' : Heap} (k : Nat) (hk : ∀ c o, c ≠ I → s.heap.get? c = some o → h'.get? c = some o) : St s₁ L b H { s with heap := h', toks := k } where
  ns := let ⟨o, ho, h⟩ := S.ns; ⟨o, hk _ _ (Ne.symm (S.fresh _ (List.mem_cons_self ..)).1) ho, h⟩
  keep := fun a o e => hk _ _ (by rintro rfl; have := (S.fresh _ (List.mem_cons_self ..)).2; simp only at this; rw [this] at e; cases e) (S.keep a o e)
  fr := S.fr
  nw := fun p hp => let ⟨o, ho, h⟩ := S.nw p (List.mem_cons_of_mem _ hp); ⟨o, hk _ _ (fun e => (List.nodup_cons.mp S.nd).1 (List.mem_map.mpr ⟨p, hp, e⟩)) ho, h⟩
  fresh := fun p hp => S.fresh p (List.mem_cons_of_mem _ hp)
  nd := (List.nodup_cons.mp S.nd).2
  eq := let ⟨h, tk, e⟩ := S.eq; ⟨h', k, by rw [e]⟩

theorem getHead {P : Obj → Prop} (S : St s₁ L b ((I, P) :: H) s) : ∃ o, s.heap.get? I = some o ∧ P o := S.get (List.mem_cons_self ..)

/-- what a turn of a for leaves -/
def TurnEnd (s₁ : Shared) (L I : Addr) (P : Obj → Prop) (J : List (Str × Value) → List Ent → Prop) (Q : Flow → Shared → Prop) (f : Flow) (s : Shared) : Prop :=
  match f with
  | .next | .cont => ∃ b H, St s₁ L b ((I, P) :: H) s ∧ J b H
  | .brk => Q .next s
  | .ret v => Q (.ret v) s

theorem loop_for {n : Nat} {P : Nat → Obj → Prop} {V : Nat → Value → Prop} {R : Heap → Prop} {x : Str} {px : Pos} {body : List Stmt} {Q : Flow → Shared → Prop} {RE : Value → Shared → Prop} (W : Itr prog w A I n P V R) (J : Nat → List (Str × Value) → List Ent → Prop)
    (S : St s₁ L b ((I, P 0) :: H) s) (h0 : J 0 b H) (hR : ∀ i b H s, i ≤ n → J i b H → St s₁ L b ((I, P i) :: H) s → R s.heap) (hx : env.kindOf x = some .local) (hL : env.locals = L) (hk : env.scope.kind = .function)
    (turn : ∀ i v b' H' s', i < n → V i v → J i b' H' → St s₁ L (up x v b') ((I, P (i + 1)) :: H') s' → wpAny (model prog w) A (execs body env) (TurnEnd s₁ L I (P (i + 1)) (J (i + 1)) Q) (fun _ _ => False) s')
    (done : ∀ b' H' s', J n b' H' → St s₁ L b' H' s' → Q .next s') :
    codeAny (model prog w) A (.forLoop (.Name x px) (.ref I) body [] env) (fun r s' => match r with | .ok f => Q f s' | .error e => RE e s') s := by
  refine codeAny_forLoop (fun k s' => ∃ b' H' i, St s₁ L b' ((I, P i) :: H') s' ∧ J i b' H' ∧ i ≤ n ∧ k = n + 1 - i) ?_ (n + 1) ⟨b, H, 0, S, h0, Nat.zero_le _, rfl⟩
  rintro k s' ⟨b', H', i, S', hJ, hi, rfl⟩
  have hR' := hR i b' H' s' hi hJ S'
  by_cases hlt : i < n
  · refine W.item i _ _ _ hlt (getHead S') hR' fun v h₁ tk₁ hV hP₁ hk₁ => ?_
    refine wpAny_assign_Name (st_L (S'.step tk₁ hP₁ hk₁) hx (fun s₂ S₂ => ?_) hL hk)
    refine wpAny_mono (turn i v b' H' s₂ hlt hV hJ S₂) (fun f s₃ h₃ => ?_) fun _ _ e => e.elim
    cases f with
    | next => obtain ⟨b'', H'', S₃, hJ₃⟩ := h₃; exact ⟨n + 1 - (i + 1), by omega, b'', H'', i + 1, S₃, hJ₃, hlt, rfl⟩
    | cont => obtain ⟨b'', H'', S₃, hJ₃⟩ := h₃; exact ⟨n + 1 - (i + 1), by omega, b'', H'', i + 1, S₃, hJ₃, hlt, rfl⟩
    | brk => exact h₃
    | ret v => exact h₃
  · have hin : i = n := by omega
    subst hin
    exact W.done _ _ _ (getHead S') hR' fun h₁ tk₁ hk₁ => wpAny_execs_nil (done b' H' _ hJ (S'.gone tk₁ hk₁))

/-- where the loop's source is known -/
def ForAt (prog : Program) (w : World) (A : Around) (target : Expr) (body : List Stmt) (env : Env) (Q : Flow → Shared → Prop) (E : Value → Shared → Prop) (xv : Value) (s : Shared) : Prop :=
  wpAny (model prog w) A (pyIter xv) (fun it s₂ => codeAny (model prog w) A (.forLoop target it body [] env) (fun r s' => match r with | .ok f => Q f s' | .error e => cameBackBy (model prog w) A env E e s') s₂) E s
theorem ex_for {target iter : Expr} {body : List Stmt} {pos : Pos} {Q : Flow → Shared → Prop} (h : wpAny (model prog w) A (eval iter env) (fun xv s₁ => ForAt prog w A target body env Q E xv s₁) E s)
    (hs : ∀ x, foldedSetIterable iter env x = pure x) : wpAny (model prog w) A (exec (.For target iter body [] pos) env) Q E s := wpAny_For h hs

/-- a for over a list of the call's own or of the caller's -/
theorem for_list {x : Str} {px : Pos} {body : List Stmt} {Q : Flow → Shared → Prop} {vs : List Value} (J : Nat → List (Str × Value) → List Ent → Prop) (S : St s₁ L b H s) (h0 : J 0 b H)
    (hl : (l, Lst vs) ∈ H ∨ s₁.heap.IsList l vs.toArray) (hJ : ∀ i b H, J i b H → (l, Lst vs) ∈ H ∨ s₁.heap.IsList l vs.toArray) (hh : A.handled = none) (hx : env.kindOf x = some .local) (hL : env.locals = L) (hk : env.scope.kind = .function)
    (turn : ∀ I i v b' H' s', vs[i]? = some v → J i b' H' → St s₁ L (up x v b') ((I, LI l (i + 1)) :: H') s' → wpAny (model prog w) A (execs body env) (TurnEnd s₁ L I (LI l (i + 1)) (J (i + 1)) Q) (fun _ _ => False) s')
    (done : ∀ b' H' s', J vs.length b' H' → St s₁ L b' H' s' → Q .next s') : ForAt prog w A (.Name x px) body env Q E (.ref l) s :=
  it_list S hl fun s' I hne S' => loop_for (Itr.list vs hh hne) J S' h0
    (fun i b H s _ h S => (hJ i b H h).elim (fun m => Lst.isList (S.get (List.mem_cons_of_mem _ m))) fun ⟨o, ho, r⟩ => ⟨o, S.keep _ _ ho, r⟩) hx hL hk
    (fun i v b' H' s' _ hV hj S => turn I i v b' H' s' hV hj S) done
theorem for_tuple {x : Str} {px : Pos} {body : List Stmt} {Q : Flow → Shared → Prop} {vs : List Value} (J : Nat → List (Str × Value) → List Ent → Prop) (S : St s₁ L b H s) (h0 : J 0 b H)
    (hl : (l, Tup vs) ∈ H) (hJ : ∀ i b H, J i b H → (l, Tup vs) ∈ H) (hh : A.handled = none) (hx : env.kindOf x = some .local) (hL : env.locals = L) (hk : env.scope.kind = .function)
    (turn : ∀ I i v b' H' s', vs[i]? = some v → J i b' H' → St s₁ L (up x v b') ((I, TI l (i + 1)) :: H') s' → wpAny (model prog w) A (execs body env) (TurnEnd s₁ L I (TI l (i + 1)) (J (i + 1)) Q) (fun _ _ => False) s')
    (done : ∀ b' H' s', J vs.length b' H' → St s₁ L b' H' s' → Q .next s') : ForAt prog w A (.Name x px) body env Q E (.ref l) s :=
  it_tuple S hl fun s' I hne S' => loop_for (Itr.tuple vs hh hne) J S' h0
    (fun i b H s _ h S => Tup.isTup (S.get (List.mem_cons_of_mem _ (hJ i b H h)))) hx hL hk
    (fun i v b' H' s' _ hV hj S => turn I i v b' H' s' hV hj S) done
/-- a while by a measure -/
def WTurn (s₁ : Shared) (L : Addr) (J : Nat → List (Str × Value) → List Ent → Prop) (n : Nat) (Q : Flow → Shared → Prop) (f : Flow) (s : Shared) : Prop :=
  match f with
  | .next | .cont => ∃ m b H, m < n ∧ St s₁ L b H s ∧ J m b H
  | .brk => Q .next s
  | .ret v => Q (.ret v) s
theorem ex_while {test : Expr} {body : List Stmt} {pos : Pos} {Q : Flow → Shared → Prop} (J : Nat → List (Str × Value) → List Ent → Prop) (n : Nat) (S : St s₁ L b H s) (h0 : J n b H)
    (turn : ∀ n b' H' s', J n b' H' → St s₁ L b' H' s' → wpAny (model prog w) A (isTrue test env (eval test env)) (fun c s₂ => if c then wpAny (model prog w) A (execs body env) (WTurn s₁ L J n Q) (fun _ _ => False) s₂ else Q .next s₂) (fun _ _ => False) s') :
    wpAny (model prog w) A (exec (.While test body [] pos) env) Q E s := by
  refine wpAny_While (codeAny_whileLoop (fun n s' => ∃ b' H', St s₁ L b' H' s' ∧ J n b' H') ?_ n ⟨b, H, S, h0⟩)
  rintro n s' ⟨b', H', S', hJ⟩
  refine wpAny_mono (turn n b' H' s' hJ S') (fun c s₂ h₂ => ?_) fun _ _ e => e.elim
  cases c with
  | true =>
    simp only [if_true] at h₂ ⊢
    refine wpAny_mono h₂ (fun f s₃ h₃ => ?_) fun _ _ e => e.elim
    cases f with
    | next => obtain ⟨m, b'', H'', hm, S₃, hJ₃⟩ := h₃; exact ⟨m, hm, b'', H'', S₃, hJ₃⟩
    | cont => obtain ⟨m, b'', H'', hm, S₃, hJ₃⟩ := h₃; exact ⟨m, hm, b'', H'', S₃, hJ₃⟩
    | brk => exact h₃
    | ret v => exact h₃
  | false =>
    simp only [Bool.false_eq_true, if_false] at h₂ ⊢
    exact wpAny_execs_nil h₂
end
end Mine
namespace Mine

section
variable {prog : Program} {w : World} {A : Around} {E : Value → Shared → Prop} {s s₁ : Shared} {L I l D C : Addr} {b : List (Str × Value)} {H H' : List Ent} {env : Env}

/-- a changed list -/
theorem St.mapSeq (S : St s₁ L b H s) {vs : List Value} {f : Array Value → Array Value} {vs' : List Value} (U : Upd l (Lst vs) (Lst vs') H H') (hf : f vs.toArray = vs'.toArray) (k : Nat) :
    St s₁ L b H' { s with heap := s.heap.update l (Obj.mapSeq f), toks := k } := by
  obtain ⟨⟨c, d, dt, sl⟩, ho, hc, hd, hs, n, hdt⟩ := S.get U.mem
  simp only at hc hd hs hdt; subst hc hd hs hdt
  refine S.upd U k (fun c o hc e => (Heap.get?_update_other _ _ (Ne.symm hc)).trans e) ⟨_, Heap.get?_update_self _ ho rfl, rfl, rfl, rfl, ?_⟩
  exact ⟨_, by show Data.seq _ _ = _; rw [hf]⟩

theorem l_append {Q : Value → Shared → Prop} {vs : List Value} {x : Value} (S : St s₁ L b H s) (U : Upd l (Lst vs) (Lst (vs ++ [x])) H H') (hsz : vs.length ≤ sizeLine) (h : ∀ s', St s₁ L b H' s' → Q .none s') :
    wpAny (model prog w) A (call (.builtin "list.append") [.ref l, x]) Q E s := by
  have hl : s.heap.IsList l vs.toArray := Lst.isList (S.get U.mem)
  obtain ⟨o, ho, hc, n, hd⟩ := id hl
  refine wpAny_call_entry slot_list_append hl.typeIs entry_list_append ?_ (args_list_append _ _)
  show wpAny _ _ (updateSeq l (·.push x) >>= fun _ => ret .none) _ _ s
  refine wpAny_bind (wpAny_updateSeq ho hd (wpAny_pure ⟨.none, rfl, h _ (S.mapSeq U (by simp) s.toks)⟩) (by rw [List.size_toArray]; exact hsz))

/-- the tests of a comprehension's clause -/
abbrev tests (ifs : List Expr) (env : Env) : Sem Bool := forIn ifs true fun c r => if r = true then do let ok ← isTrue c env (eval c env); pure (ForInStep.yield ok) else pure (ForInStep.yield r)
theorem tests_nil {Q : Bool → Shared → Prop} (h : Q true s) : wpAny (model prog w) A (tests [] env) Q E s := wpAny_pure h
theorem tests_one {c : Expr} {Q : Bool → Shared → Prop} (h : wpAny (model prog w) A (isTrue c env (eval c env)) Q E s) : wpAny (model prog w) A (tests [c] env) Q E s := wpAny_tests_one h

def CompEnd (s₁ : Shared) (C : Addr) (X : List Ent) (J : List Ent → Prop) (s : Shared) : Prop := ∃ b H, St s₁ C b (X ++ H) s ∧ J H

theorem comp_loop {n : Nat} {P : Nat → Obj → Prop} {V : Nat → Value → Prop} {R : Heap → Prop} {x : Str} {px pos : Pos} {elt iter : Expr} {ifs : List Expr} {scope : Scope} {RR : Result → Shared → Prop} {bC : List (Str × Value)}
    (W : Itr prog w A I n P V R) (J : Nat → List Value → List Ent → Prop)
    (S : St s₁ C bC ((D, Lst []) :: (I, P 0) :: (L, Frm b) :: H) s) (h0 : J 0 [] H) (hn : n ≤ sizeLine) (hR : ∀ i ys H s bC, i ≤ n → J i ys H → St s₁ C bC ((D, Lst ys) :: (I, P i) :: (L, Frm b) :: H) s → R s.heap)
    (hx : env.kindOf x = some .local) (hL : env.locals = C) (hk : env.scope.kind = .function)
    (turn : ∀ i v ys H' s', i < n → V i v → J i ys H' → St s₁ C [(x, v)] ((D, Lst ys) :: (I, P (i + 1)) :: (L, Frm b) :: H') s' →
      wpAny (model prog w) A (tests ifs env) (fun ok s₃ => if ok = true then wpAny (model prog w) A (eval elt env) (fun y s₄ => CompEnd s₁ C [(D, Lst ys), (I, P (i + 1)), (L, Frm b)] (J (i + 1) (ys ++ [y])) s₄) (fun _ _ => False) s₃
        else CompEnd s₁ C [(D, Lst ys), (I, P (i + 1)), (L, Frm b)] (J (i + 1) ys) s₃) (fun _ _ => False) s')
    (done : ∀ ys H' s' bC, J n ys H' → St s₁ C bC ((D, Lst ys) :: (L, Frm b) :: H') s' → RR (.ok .next) s') :
    codeAny (model prog w) A (.compLoop (.ListComp elt [⟨.Name x px, iter, ifs, 0⟩] scope pos) 0 (.ref I) (.ref D) env) RR s := by
  refine codeAny_compLoop_tests (fun k s' => ∃ bC ys H' i, St s₁ C bC ((D, Lst ys) :: (I, P i) :: (L, Frm b) :: H') s' ∧ J i ys H' ∧ i ≤ n ∧ ys.length ≤ i ∧ k = n + 1 - i) ?_ (n + 1) ⟨bC, [], H, 0, S, h0, Nat.zero_le _, Nat.le_refl _, rfl⟩
  rintro k s' ⟨bC', ys, H', i, S', hJ, hi, hlen, rfl⟩
  have hR' := hR i ys H' s' bC' hi hJ S'
  have S₀ := S'.perm (List.Perm.swap (I, P i) (D, Lst ys) ((L, Frm b) :: H')).symm
  by_cases hlt : i < n
  · refine W.item i _ _ _ hlt (getHead S₀) hR' fun v h₁ tk₁ hV hP₁ hk₁ => ?_
    have S₁ := (S₀.step tk₁ hP₁ hk₁).perm (List.Perm.swap (I, P (i + 1)) (D, Lst ys) ((L, Frm b) :: H'))
    refine wpAny_assign_Name (st_L S₁ hx (fun s₂ S₂ => ?_) hL hk)
    have S₃ := S₂.bind (b' := [(x, v)]) (Sub.cons (by rw [lk_up]; simp) (Sub.nil _))
    refine wpAny_mono (turn i v ys H' s₂ hlt hV hJ S₃) (fun ok s₃ h₃ => ?_) fun _ _ e => e.elim
    cases ok with
    | false =>
      obtain ⟨b₃, H₃, S₃, hJ₃⟩ := h₃
      exact ⟨n + 1 - (i + 1), by omega, b₃, ys, H₃, i + 1, S₃, hJ₃, hlt, by omega, rfl⟩
    | true =>
      refine wpAny_mono h₃ (fun y s₄ h₄ => ?_) fun _ _ e => e.elim
      obtain ⟨b₄, H₄, S₄, hJ₄⟩ := h₄
      refine l_append S₄ (.head _) (by omega) fun s₅ S₅ => ?_
      exact ⟨n + 1 - (i + 1), by omega, b₄, ys ++ [y], H₄, i + 1, S₅, hJ₄, hlt, by simp; omega, rfl⟩
  · have hin : i = n := by omega
    subst hin
    refine W.done _ _ _ (getHead S₀) hR' fun h₁ tk₁ hk₁ => ?_
    exact done ys H' _ bC' hJ (S₀.gone tk₁ hk₁)

/-- what stands behind a comprehension -/
def CompDone (prog : Program) (w : World) (A : Around) (use : Option (Value → Sem Unit)) (Q : Value → Shared → Prop) (E : Value → Shared → Prop) (s₁ : Shared) (L : Addr) (b : List (Str × Value)) (C D : Addr) (ys : List Value) (H' : List Ent) (s' : Shared) : Prop :=
  match use with
  | none => ∀ s'', St s₁ L b ((D, Lst ys) :: H') s'' → Q (.ref D) s''
  | some u => wpAny (model prog w) A (u (.ref D)) (fun _ s₂ => ∃ b₂ H₂, St s₁ L b₂ ((C, Frm []) :: H₂) s₂ ∧ ∀ s₃, St s₁ L b₂ H₂ s₃ → Q .none s₃) E s'
/-- where a comprehension's source is known -/
def CompAt (prog : Program) (w : World) (A : Around) (elt : Expr) (x : Str) (px pos : Pos) (iter : Expr) (ifs : List Expr) (scope : Scope) (env : Env) (cl : List (Str × Addr)) (use : Option (Value → Sem Unit)) (Q : Value → Shared → Prop) (E : Value → Shared → Prop) (xv : Value) (s : Shared) : Prop :=
  wpAny (model prog w) A (pyIter xv) (fun it s₂ => wpAny (model prog w) A (newList []) (fun acc s₃ =>
      wpAny (model prog w) A (newFunctionEnv scope env.globals cl [] env.qual none .none (some env)) (fun cenv s₄ =>
        codeAny (model prog w) A (.compStart (.ListComp elt [⟨.Name x px, iter, ifs, 0⟩] scope pos) 0 it acc { cenv with scope := relabel scope env }) (compPost (model prog w) A E use Q acc cenv.locals) s₄) E s₃) E s₂) E s

theorem comp_at {n : Nat} {P : Nat → Obj → Prop} {V : Nat → Value → Prop} {R : Heap → Prop} {x : Str} {px pos : Pos} {elt iter : Expr} {ifs : List Expr} {scope : Scope} {cl : List (Str × Addr)} {use : Option (Value → Sem Unit)} {Q : Value → Shared → Prop}
    (W : Itr prog w A I n P V R) (J : Nat → List Value → List Ent → Prop) (S : St s₁ L b ((I, P 0) :: H) s) (h0 : J 0 [] H) (hn : n ≤ sizeLine)
    (hR : ∀ C D i ys H s bC, i ≤ n → J i ys H → St s₁ C bC ((D, Lst ys) :: (I, P i) :: (L, Frm b) :: H) s → R s.heap) (hR0 : ∀ s b', St s₁ L b' ((I, P 0) :: H) s → R s.heap)
    (hcell : ∀ y ∈ scope.names, y.2 ≠ .cell) (hkind : scope.kind = .function) (hx : scope.names.lookup x = some .local)
    (turn : ∀ C D i v ys H' s', i < n → V i v → J i ys H' → St s₁ C [(x, v)] ((D, Lst ys) :: (I, P (i + 1)) :: (L, Frm b) :: H') s' →
      wpAny (model prog w) A (tests ifs (compEnvC scope cl C env)) (fun ok s₃ => if ok = true then wpAny (model prog w) A (eval elt (compEnvC scope cl C env)) (fun y s₄ => CompEnd s₁ C [(D, Lst ys), (I, P (i + 1)), (L, Frm b)] (J (i + 1) (ys ++ [y])) s₄) (fun _ _ => False) s₃
        else CompEnd s₁ C [(D, Lst ys), (I, P (i + 1)), (L, Frm b)] (J (i + 1) ys) s₃) (fun _ _ => False) s')
    (done : ∀ C D ys H' s', J n ys H' → St s₁ L b ((C, Frm []) :: (D, Lst ys) :: H') s' →
      CompDone prog w A use Q E s₁ L b C D ys H' s') :
    wpAny (model prog w) A (newList []) (fun acc s₃ =>
      wpAny (model prog w) A (newFunctionEnv scope env.globals cl [] env.qual none .none (some env)) (fun cenv s₄ =>
        codeAny (model prog w) A (.compStart (.ListComp elt [⟨.Name x px, iter, ifs, 0⟩] scope pos) 0 (.ref I) acc { cenv with scope := relabel scope env }) (compPost (model prog w) A E use Q acc cenv.locals) s₄) E s₃) E s := by
  refine new_list S (by simp [sizeLine_eq]) fun s₃ D S₃ => ?_
  refine wpAny_newFunctionEnv hcell (by intro y hy; simp at hy) (fun h₁ hns₁ hsb₁ => ?_) hkind
  have S₄ := S₃.enter (b' := []) (s₃.toks + ([] : List (Str × Value)).length) hns₁ (fun c o e => hsb₁.extBut c o (Nat.ne_of_lt (Heap.lt_size e)) (Heap.get?_push_of_some _ e)) (fun x v e => by simp [lk] at e)
  generalize hC : s₃.heap.objs.size = C at S₄ ⊢
  have S₅ : St s₁ C [] ((D, Lst []) :: (I, P 0) :: (L, Frm b) :: H) _ := S₄.perm (by
    refine List.Perm.trans ?_ (List.perm_middle (l₁ := [(D, Lst []), (I, P 0)]) (l₂ := H) (a := (L, Frm b)))
    exact List.Perm.refl _)
  have loop : ∀ s₆, St s₁ C [] ((D, Lst []) :: (I, P 0) :: (L, Frm b) :: H) s₆ → codeAny (model prog w) A (.compLoop (.ListComp elt [⟨.Name x px, iter, ifs, 0⟩] scope pos) 0 (.ref I) (.ref D) (compEnvC scope cl C env)) (compPost (model prog w) A E use Q (.ref D) C) s₆ := by
    intro s₆ S₆
    refine comp_loop (env := compEnvC scope cl C env) W J S₆ h0 hn (fun i ys H s bC hi hJ S => hR C D i ys H s bC hi hJ S) (lookup_relabel_local hx) rfl hkind (fun i v ys H' s' hi hV hJ S => turn C D i v ys H' s' hi hV hJ S) fun ys H' s' bC hJ S' => ?_
    have Sc : St s₁ L b ((C, Frm []) :: (D, Lst ys) :: H') s' := by
      have S0 : St s₁ C bC ((L, Frm b) :: (D, Lst ys) :: H') s' := S'.perm (List.Perm.swap (D, Lst ys) (L, Frm b) H')
      have fC := S0.ns
      have hb := S0.back
      refine ⟨hb.ns, hb.keep, hb.fr, ?_, ?_, ?_, hb.eq⟩
      · intro p hp
        rcases List.mem_cons.mp hp with rfl | hp
        · obtain ⟨o, ho, h⟩ := fC; exact ⟨o, ho, h.weak (Sub.nil _)⟩
        · exact hb.nw p hp
      · intro p hp
        rcases List.mem_cons.mp hp with rfl | hp
        · exact ⟨Ne.symm (S0.fresh (L, Frm b) (List.mem_cons_self ..)).1, S0.fr⟩
        · exact hb.fresh p hp
      · exact List.nodup_cons.mpr ⟨fun hm => by
          obtain ⟨q, hq, e⟩ := List.mem_map.mp hm
          exact (S0.fresh q (List.mem_cons_of_mem _ hq)).1 e, hb.nd⟩
    have fin := done C D ys H' s' hJ Sc
    have nsC : ∀ {b' : List (Str × Value)} {K : List Ent} {s₇ : Shared}, St s₁ L b' ((C, Frm []) :: K) s₇ → ∃ m, s₇.heap.Ns C m ∧ ∀ h', Heap.SameBut C s₇.heap h' → St s₁ L b' K { s₇ with heap := h' } := by
      intro b' K s₇ S₇
      obtain ⟨o, ho, es, ep, hd, hk, hf⟩ := getHead S₇
      exact ⟨nsFind es, ⟨o, es, ep, ho, hd, hk, fun _ => rfl⟩, fun h' hs => S₇.gone s₇.toks fun c o hc e => hs.extBut c o hc e⟩
    cases use with
    | none =>
      obtain ⟨m, hm, hS⟩ := nsC Sc
      exact ⟨m, hm, fun h' hs => fin _ (hS h' hs)⟩
    | some u =>
      refine wpAny_mono fin (fun _ s₂ h₂ => ?_) fun _ _ e => e
      obtain ⟨b₂, H₂, S₂, hq⟩ := h₂
      obtain ⟨m, hm, hS⟩ := nsC S₂
      exact ⟨m, hm, fun h' hs => hq _ (hS h' hs)⟩
  have go := loop _ S₅
  have hRs : R h₁ := hR C D 0 [] H _ [] (Nat.zero_le _) h0 S₅
  exact codeAny_compStart_list go (W.self 0 _ _ _ (getHead (S₅.perm (List.Perm.swap (I, P 0) (D, Lst []) ((L, Frm b) :: H)).symm)) hRs go)

theorem ev_comp {x : Str} {px pos : Pos} {elt iter : Expr} {ifs : List Expr} {scope : Scope} {cl : List (Str × Addr)} {Q : Value → Shared → Prop}
    (hclos : closureFor scope env = pure cl) (hkind : scope.kind = .function) (hnames : ∀ y ∈ scope.names, y.2 = .local → scope.names.lookup y.1 = some .local)
    (h : wpAny (model prog w) A (eval iter env) (fun xv s₁ => CompAt prog w A elt x px pos iter ifs scope env cl none Q E xv s₁) E s) (hs : ∀ x, foldedSetIterable iter env x = pure x) :
    wpAny (model prog w) A (eval (.ListComp elt [⟨.Name x px, iter, ifs, 0⟩] scope pos) env) Q E s := by
  rw [eval_ListComp]
  exact wpAny_comprehension_free (use := none) rfl hs hclos hkind hnames h
theorem ex_comp {x y : Str} {px py pos spos : Pos} {elt iter : Expr} {ifs : List Expr} {scope : Scope} {cl : List (Str × Addr)} {Q : Flow → Shared → Prop}
    (hsw : swapsWith (.ListComp elt [⟨.Name x px, iter, ifs, 0⟩] scope pos) (some (.Name y py)) spos.line env = pure true)
    (hclos : closureFor scope env = pure cl) (hkind : scope.kind = .function) (hnames : ∀ y ∈ scope.names, y.2 = .local → scope.names.lookup y.1 = some .local)
    (h : wpAny (model prog w) A (eval iter env) (fun xv s₁ => CompAt prog w A elt x px pos iter ifs scope env cl (some (assign (.Name y py) env)) (fun _ s' => Q .next s') E xv s₁) E s) (hs : ∀ x, foldedSetIterable iter env x = pure x) :
    wpAny (model prog w) A (exec (.Assign [.Name y py] (.ListComp elt [⟨.Name x px, iter, ifs, 0⟩] scope pos) spos) env) Q E s := by
  rw [exec_Assign_Name_used _ _ _ _ hsw]
  refine wpAny_bind (wpAny_standAt (wpAny_bind ?_))
  show wpAny _ A (do let _ ← comprehension (.ListComp elt [⟨.Name x px, iter, ifs, 0⟩] scope pos) scope env _ (newList []) false (eval iter env) (some (assign (.Name y py) env))) _ _ s
  exact wpAny_bind (wpAny_mono (wpAny_comprehension_free (use := some (assign (.Name y py) env)) (Q := fun _ s' => Q .next s') rfl hs hclos hkind hnames h) (fun _ s' hq => wpAny_pure (wpAny_pure hq)) fun _ _ e => e)

/-- over a list -/
theorem comp_list {x : Str} {px pos : Pos} {elt iter : Expr} {ifs : List Expr} {scope : Scope} {cl : List (Str × Addr)} {use : Option (Value → Sem Unit)} {Q : Value → Shared → Prop} {vs : List Value} (J : Nat → List Value → List Ent → Prop)
    (S : St s₁ L b H s) (h0 : J 0 [] H) (hn : vs.length ≤ sizeLine) (hl : (l, Lst vs) ∈ H ∨ s₁.heap.IsList l vs.toArray) (hJ : ∀ i ys H, J i ys H → (l, Lst vs) ∈ H ∨ s₁.heap.IsList l vs.toArray) (hh : A.handled = none)
    (hcell : ∀ y ∈ scope.names, y.2 ≠ .cell) (hkind : scope.kind = .function) (hx : scope.names.lookup x = some .local)
    (turn : ∀ C D I i v ys H' s', vs[i]? = some v → J i ys H' → St s₁ C [(x, v)] ((D, Lst ys) :: (I, LI l (i + 1)) :: (L, Frm b) :: H') s' →
      wpAny (model prog w) A (tests ifs (compEnvC scope cl C env)) (fun ok s₃ => if ok = true then wpAny (model prog w) A (eval elt (compEnvC scope cl C env)) (fun y s₄ => CompEnd s₁ C [(D, Lst ys), (I, LI l (i + 1)), (L, Frm b)] (J (i + 1) (ys ++ [y])) s₄) (fun _ _ => False) s₃
        else CompEnd s₁ C [(D, Lst ys), (I, LI l (i + 1)), (L, Frm b)] (J (i + 1) ys) s₃) (fun _ _ => False) s')
    (done : ∀ C D ys H' s', J vs.length ys H' → St s₁ L b ((C, Frm []) :: (D, Lst ys) :: H') s' →
      CompDone prog w A use Q E s₁ L b C D ys H' s') :
    CompAt prog w A elt x px pos iter ifs scope env cl use Q E (.ref l) s :=
  it_list S hl fun s' I hne S' => comp_at (Itr.list vs hh hne) J S' h0 hn
    (fun C D i ys H s bC _ h S => (hJ i ys H h).elim (fun m => Lst.isList (S.get (List.mem_cons_of_mem _ (List.mem_cons_of_mem _ (List.mem_cons_of_mem _ m))))) fun ⟨o, ho, r⟩ => ⟨o, S.keep _ _ ho, r⟩)
    (fun s b' S => hl.elim (fun m => Lst.isList (S.get (List.mem_cons_of_mem _ m))) fun ⟨o, ho, r⟩ => ⟨o, S.keep _ _ ho, r⟩) hcell hkind hx
    (fun C D i v ys H' s' hi hV hJ S => turn C D I i v ys H' s' hV hJ S) done
theorem comp_tuple {x : Str} {px pos : Pos} {elt iter : Expr} {ifs : List Expr} {scope : Scope} {cl : List (Str × Addr)} {use : Option (Value → Sem Unit)} {Q : Value → Shared → Prop} {vs : List Value} (J : Nat → List Value → List Ent → Prop)
    (S : St s₁ L b H s) (h0 : J 0 [] H) (hn : vs.length ≤ sizeLine) (hl : (l, Tup vs) ∈ H) (hJ : ∀ i ys H, J i ys H → (l, Tup vs) ∈ H) (hh : A.handled = none)
    (hcell : ∀ y ∈ scope.names, y.2 ≠ .cell) (hkind : scope.kind = .function) (hx : scope.names.lookup x = some .local)
    (turn : ∀ C D I i v ys H' s', vs[i]? = some v → J i ys H' → St s₁ C [(x, v)] ((D, Lst ys) :: (I, TI l (i + 1)) :: (L, Frm b) :: H') s' →
      wpAny (model prog w) A (tests ifs (compEnvC scope cl C env)) (fun ok s₃ => if ok = true then wpAny (model prog w) A (eval elt (compEnvC scope cl C env)) (fun y s₄ => CompEnd s₁ C [(D, Lst ys), (I, TI l (i + 1)), (L, Frm b)] (J (i + 1) (ys ++ [y])) s₄) (fun _ _ => False) s₃
        else CompEnd s₁ C [(D, Lst ys), (I, TI l (i + 1)), (L, Frm b)] (J (i + 1) ys) s₃) (fun _ _ => False) s')
    (done : ∀ C D ys H' s', J vs.length ys H' → St s₁ L b ((C, Frm []) :: (D, Lst ys) :: H') s' →
      CompDone prog w A use Q E s₁ L b C D ys H' s') :
    CompAt prog w A elt x px pos iter ifs scope env cl use Q E (.ref l) s :=
  it_tuple S hl fun s' I hne S' => comp_at (Itr.tuple vs hh hne) J S' h0 hn
    (fun C D i ys H s bC _ h S => Tup.isTup (S.get (List.mem_cons_of_mem _ (List.mem_cons_of_mem _ (List.mem_cons_of_mem _ (hJ i ys H h))))))
    (fun s b' S => Tup.isTup (S.get (List.mem_cons_of_mem _ hl))) hcell hkind hx
    (fun C D i v ys H' s' hi hV hJ S => turn C D I i v ys H' s' hV hJ S) done
theorem comp_range1 {x : Str} {px pos : Pos} {elt iter : Expr} {ifs : List Expr} {scope : Scope} {cl : List (Str × Addr)} {use : Option (Value → Sem Unit)} {Q : Value → Shared → Prop} {r : Addr} {a c : Int} (J : Nat → List Value → List Ent → Prop)
    (S : St s₁ L b ((r, Rng a c 1) :: H) s) (h0 : J 0 [] H) (hn : (c - a).toNat ≤ sizeLine) (ha : -(2 ^ 62) ≤ a) (ha' : a < 2 ^ 62) (hc : -(2 ^ 62) ≤ c) (hc' : c < 2 ^ 62) (hh : A.handled = none)
    (hcell : ∀ y ∈ scope.names, y.2 ≠ .cell) (hkind : scope.kind = .function) (hx : scope.names.lookup x = some .local)
    (turn : ∀ C D I P i t ys H' s', a + (i : Nat) < c → J i ys H' → St s₁ C [(x, .int (a + (i : Nat)) t)] ((D, Lst ys) :: (I, P) :: (L, Frm b) :: H') s' →
      wpAny (model prog w) A (tests ifs (compEnvC scope cl C env)) (fun ok s₃ => if ok = true then wpAny (model prog w) A (eval elt (compEnvC scope cl C env)) (fun y s₄ => CompEnd s₁ C [(D, Lst ys), (I, P), (L, Frm b)] (J (i + 1) (ys ++ [y])) s₄) (fun _ _ => False) s₃
        else CompEnd s₁ C [(D, Lst ys), (I, P), (L, Frm b)] (J (i + 1) ys) s₃) (fun _ _ => False) s')
    (done : ∀ C D ys H' s', J (c - a).toNat ys H' → St s₁ L b ((C, Frm []) :: (D, Lst ys) :: H') s' →
      CompDone prog w A use Q E s₁ L b C D ys H' s') :
    CompAt prog w A elt x px pos iter ifs scope env cl use Q E (.ref r) s :=
  it_range1 S ha ha' hc hc' fun s' I S' => comp_at (Itr.range a 1 (c - a).toNat hh) J S' h0 hn (fun _ _ _ _ _ _ _ _ _ _ => trivial) (fun _ _ _ => trivial) hcell hkind hx
    (fun C D i v ys H' s' hi ⟨t, hV⟩ hJ S => by subst hV; rw [Int.mul_one] at S; exact turn C D I _ i t ys H' s' (by omega) hJ S) done
end
end Mine
namespace Mine

/-! ### lists of texts -/
inductive TxAre : List Value → List (List Nat) → Prop
  | nil : TxAre [] []
  | cons (l : List Nat) (t : Tok) {vs ls} : TxAre vs ls → TxAre (.str (T l) t :: vs) (l :: ls)
theorem TxAre.append : ∀ {vs us : List Value} {ls ms : List (List Nat)}, TxAre vs ls → TxAre us ms → TxAre (vs ++ us) (ls ++ ms)
  | _, _, _, _, .nil, h => h
  | _, _, _, _, .cons l t r, h => .cons l t (r.append h)
theorem TxAre.length : ∀ {vs : List Value} {ls : List (List Nat)}, TxAre vs ls → vs.length = ls.length
  | _, _, .nil => rfl
  | _, _, .cons _ _ r => by simp [r.length]
theorem TxAre.get : ∀ {vs : List Value} {ls : List (List Nat)}, TxAre vs ls → ∀ (i : Nat) (l : List Nat), ls[i]? = some l → ∃ t, vs[i]? = some (.str (T l) t)
  | _, _, .cons l t r, 0, l', h => by simp at h; subst h; exact ⟨t, rfl⟩
  | _, _, .cons l t r, i + 1, l', h => by simpa using r.get i l' (by simpa using h)
theorem TxAre.at : ∀ {vs : List Value} {ls : List (List Nat)}, TxAre vs ls → ∀ (i : Nat) (v : Value), vs[i]? = some v → ∃ l t, v = .str (T l) t ∧ ls[i]? = some l
  | _, _, .cons l t r, 0, v, h => by simp at h; subst h; exact ⟨l, t, rfl, rfl⟩
  | _, _, .cons l t r, i + 1, v, h => by simpa using r.at i v (by simpa using h)
theorem TxAre.snoc {vs : List Value} {ls : List (List Nat)} (h : TxAre vs ls) (l : List Nat) (t : Tok) : TxAre (vs ++ [.str (T l) t]) (ls ++ [l]) := h.append (.cons l t .nil)
theorem TxAre.values : ∀ {vs : List Value} {ls : List (List Nat)}, TxAre vs ls → ∃ p : List (Str × Tok), vs = strValues p ∧ p.map (·.1) = ls.map T
  | _, _, .nil => ⟨[], rfl, rfl⟩
  | _, _, .cons l t r => by obtain ⟨p, rfl, e⟩ := r.values; exact ⟨(T l, t) :: p, rfl, by simp [e]⟩
theorem glued_nil : ∀ (ls : List (List Nat)) (acc : List Nat), (ls.map T).foldl (fun acc p => acc ++ (T []).cps ++ p.cps) acc.toArray = (acc ++ ls.flatten).toArray
  | [], acc => by simp
  | l :: r, acc => by
    simp only [List.map_cons, List.foldl_cons]
    have e : acc.toArray ++ (T []).cps ++ (T l).cps = (acc ++ l).toArray := by simp [T]
    rw [e, glued_nil r]; simp
theorem join_T (ls : List (List Nat)) : Txt.join (T []) (ls.map T) = T ls.flatten := by
  unfold Txt.join Builtin.Str.glued
  cases ls with
  | nil => rfl
  | cons l r =>
    show Str.mk (((l :: r).map T).drop 1 |>.foldl _ _) = _
    simp only [List.map_cons, List.drop_one, List.tail_cons, List.headD_cons]
    have := glued_nil r l
    rw [show (T l).cps = l.toArray from rfl, this]; simp [T]

def tx (s : String) : List Nat := (Str.ofString s).cps.toList

section
variable {prog : Program} {w : World} {A : Around} {E : Value → Shared → Prop} {s s₁ : Shared} {L l a c : Addr} {b : List (Str × Value)} {H H' : List Ent} {env : Env} {Q : Value → Shared → Prop} {t u : Tok} {i j : Int}

theorem c_tx {x : String} {k : Nat} {pos : Pos} (S : St s₁ L b H s) (h : ∀ s' t', St s₁ L b H s' → Q (.str (T (tx x)) t') s') : wpAny (model prog w) A (eval (.Constant (.str (Str.ofString x)) k pos) env) Q E s :=
  c_str S fun s' t' S' => by have := h s' t' S'; rwa [show T (tx x) = Str.ofString x from T_of _] at this

/-! ### where a list lies -/
def IsAt (s₁ : Shared) (H : List Ent) (l : Addr) (vs : List Value) : Prop := (l, Lst vs) ∈ H ∨ s₁.heap.IsList l vs.toArray
theorem IsAt.isList {vs : List Value} (S : St s₁ L b H s) (h : IsAt s₁ H l vs) : s.heap.IsList l vs.toArray := h.elim (fun m => Lst.isList (S.get m)) fun ⟨o, ho, r⟩ => ⟨o, S.keep _ _ ho, r⟩

theorem i_fdiv (S : St s₁ L b H s) (h0 : 0 < j) (h1 : j < 1073741824) (h : ∀ s' t', St s₁ L b H s' → Q (.int (i / j) t') s') : wpAny (model prog w) A (binaryOp .FloorDiv (.int i t) (.int j u)) Q E s :=
  floordiv_int (by omega) (by rw [Int.fdiv_eq_ediv_of_nonneg _ (by omega)]; exact h _ _ (S.tok _)) (Or.inl (PyProof.noPylong_small (by omega)))
theorem i_mulR (S : St s₁ L b H s) (hj : Builtin.Int.intBits j ≤ 64) (h : ∀ s' t', St s₁ L b H s' → Q (.int (i * j) t') s') : wpAny (model prog w) A (binaryOp .Mult (.int i t) (.int j u)) Q E s := i_mul S (.of_right hj) h
theorem i_mulL (S : St s₁ L b H s) (hj : Builtin.Int.intBits i ≤ 64) (h : ∀ s' t', St s₁ L b H s' → Q (.int (i * j) t') s') : wpAny (model prog w) A (binaryOp .Mult (.int i t) (.int j u)) Q E s := i_mul S (.of_left hj) h
theorem i_neg (S : St s₁ L b H s) (h : ∀ s' t', St s₁ L b H s' → Q (.int (-i) t') s') : wpAny (model prog w) A (unaryOp .USub (.int i t)) Q E s := neg_int (h _ _ (S.tok _))
theorem i_le (h : Q (.bool (decide (i ≤ j))) s) : wpAny (model prog w) A (compareOp .LtE (.int i t) (.int j u)) Q E s := le_int h
theorem c_chr (S : St s₁ L b H s) (h0 : 0 ≤ i) (h1 : i ≤ 1114111) (h : ∀ s' t', St s₁ L b H s' → Q (.str (T [i.toNat]) t') s') : wpAny (model prog w) A (call (.builtin "chr") [.int i t]) Q E s :=
  chr_of_range h0 h1 (h _ _ (S.tok _))
theorem c_strInt (S : St s₁ L b H s) (h0 : i.natAbs.log2 < 1920) (h : ∀ s' t', St s₁ L b H s' → Q (.str (T (dig i)) t') s') : wpAny (model prog w) A (call (.type "str") [.int i t]) Q E s :=
  P.str_of_int h0 (by have := h { s with toks := s.toks + 1 } s.toks (S.tok _); rw [← dig_T] at this; exact this)
theorem c_lenL {vs : List Value} (S : St s₁ L b H s) (hl : IsAt s₁ H l vs) (hsz : vs.length ≤ sizeLine) (h : ∀ s' t', St s₁ L b H s' → Q (.int vs.length t') s') : wpAny (model prog w) A (call (.builtin "len") [.ref l]) Q E s := by
  have h' := h { s with toks := s.toks + 1 + 1 } (s.toks + 1) (S.tok _)
  refine len_list (hl.isList S) (by rw [sizeLine_eq] at hsz; rw [List.size_toArray]; omega) ?_
  rw [List.size_toArray]; exact h'
theorem c_join {vs : List Value} {ls : List (List Nat)} (S : St s₁ L b H s) (hl : IsAt s₁ H l vs) (ht : TxAre vs ls) {x : Str} (hx : x = T []) (hsz : (ls.map List.length).sum ≤ sizeLine) (h : ∀ s' t', St s₁ L b H s' → Q (.str (T ls.flatten) t') s') :
    wpAny (model prog w) A (call (.builtin "str.join") [.str x t, .ref l]) Q E s := by
  subst hx
  obtain ⟨p, rfl, e⟩ := ht.values
  refine SC.join (l := p) (hl.isList S) e ?_ fun t' k => ?_
  · unfold JoinOk
    rw [StrLaws.joinTotal]
    simp only [T_len, List.length_nil, Nat.mul_zero, Nat.add_zero, List.map_map]
    have : (ls.map ((fun x : Str => x.length) ∘ T)) = ls.map List.length := List.map_congr_left fun l _ => T_len l
    rw [this]
    simp only [Builtin.Str.tooLong, Bool.not_eq_true', decide_eq_false_iff_not]
    omega
  · rw [join_T]; exact h _ _ (S.tok _)

theorem t_mul {l : List Nat} {n : Int} (S : St s₁ L b H s) (hn : l.length * n.toNat ≤ sizeLine) (hn' : -(2 ^ 62) ≤ n) (hn2 : n < 2 ^ 62) (h : ∀ s' t', St s₁ L b H s' → Q (.str (T (List.replicate n.toNat l).flatten) t') s') : wpAny (model prog w) A (binaryOp .Mult (.str (T l) t) (.int n u)) Q E s := by
  have e : Txt.mul (T l) n = T (List.replicate n.toNat l).flatten := by
    unfold Txt.mul
    split
    · have : n.toNat = 0 := by omega
      rw [this]; rfl
    · split
      · rename_i h1 h2
        simp only [Bool.or_eq_true, beq_iff_eq, T_len, List.length_eq_zero_iff] at h2
        rcases h2 with rfl | rfl
        · simp
        · simp
      · show Str.mk _ = Str.mk _
        have : ∀ (k : Nat) (acc : List Nat), (List.replicate k (T l).cps).foldl (· ++ ·) acc.toArray = (acc ++ (List.replicate k l).flatten).toArray := by
          intro k
          induction k with
          | zero => intro acc; simp
          | succ k ih => intro acc; simp only [List.replicate_succ, List.foldl_cons, List.flatten_cons]; rw [show acc.toArray ++ (T l).cps = (acc ++ l).toArray from by simp [T], ih]; simp
        have := this n.toNat []
        simp only [List.nil_append] at this
        rw [show (#[] : Array Nat) = ([] : List Nat).toArray from rfl, this]
  refine SB.mul ⟨by simp; omega, fun h1 _ => ?_, fun _ _ => ?_⟩ fun t' k => by rw [e]; exact h _ _ (S.tok _)
  · rw [T_len, gt_iff_lt, Int.not_lt]
    rw [sizeLine_eq] at hn
    have hn1 : 0 < n := by omega
    refine (Int.le_ediv_iff_mul_le hn1).mpr ?_
    have h2 : (l.length : Int) * n = ((l.length * n.toNat : Nat) : Int) := by rw [Int.natCast_mul, Int.toNat_of_nonneg (by omega)]
    rw [h2]; omega
  · rw [T_len]; unfold Builtin.Str.tooLong; simpa using hn

theorem t_item {value slice : Expr} {l : List Nat} {k : Int} {ch : Nat} (S : St s₁ L b H s) (h0 : 0 ≤ k) (h1 : k < 2 ^ 62) (hx : l[k.toNat]? = some ch) (h : ∀ s' t', St s₁ L b H s' → Q (.str (T [ch]) t') s')
    (hs : subscripted slice false (.str (T l) t) (.int k u) = operate [.str (T l) t, .int k u] (getItem (.str (T l) t) (.int k u))) :
    wpAny (model prog w) A (subscriptTail value slice (.str (T l) t) (.int k u)) Q E s := by
  refine tail_any (typeIs_str s _ t) F.slot_str_getitem.lookup (getItem_str (c := ch) (by simp; omega) ?_ (h _ _ (S.tok _))) hs
  have hlt : k.toNat < l.length := (List.getElem?_eq_some_iff.mp hx).1
  rw [T_len, seqIndex_of h0 (by omega)]
  simpa [T] using hx
theorem l_item {value slice : Expr} {vs : List Value} {k : Int} {x : Value} (S : St s₁ L b H s) (hl : IsAt s₁ H l vs) (h0 : 0 ≤ k) (h1 : k < 2 ^ 62) (hx : vs[k.toNat]? = some x) (h : Q x s)
    (hs : subscripted slice false (.ref l) (.int k u) = operate [.ref l, .int k u] (getItem (.ref l) (.int k u))) :
    wpAny (model prog w) A (subscriptTail value slice (.ref l) (.int k u)) Q E s :=
  tail_any (hl.isList S).typeIs slot_list_getitem.lookup (wpAny_getItem_list (hl.isList S) h0 (by omega) (by simpa using hx) h) hs
theorem l_last {value slice : Expr} {vs : List Value} {k : Int} {x : Value} (S : St s₁ L b H s) (hl : IsAt s₁ H l vs) (h0 : k < 0) (h1 : -(vs.length : Int) ≤ k) (hb : vs.length ≤ sizeLine) (hx : vs[(k + vs.length).toNat]? = some x) (h : Q x s)
    (hs : subscripted slice false (.ref l) (.int k u) = operate [.ref l, .int k u] (getItem (.ref l) (.int k u))) :
    wpAny (model prog w) A (subscriptTail value slice (.ref l) (.int k u)) Q E s :=
  tail_any (hl.isList S).typeIs slot_list_getitem.lookup (wpAny_getItem_list_neg (hl.isList S) h0 (by simpa using h1) (by rw [sizeLine_eq] at hb; omega) (by simpa using hx) h) hs

theorem unpack_tup {vs : List Value} {n : Nat} {Q : List Value → Shared → Prop} (S : St s₁ L b ((a, Tup vs) :: H) s) (hh : A.handled = none) (hn : n = vs.length) (h : ∀ s', St s₁ L b H s' → Q vs s') : wpAny (model prog w) A (unpackItems (.ref a) n none) Q E s := by
  have ht : IsTup s.heap a vs.toArray := Tup.isTup (getHead S)
  subst hn
  have := unpackItems_tuple (prog := prog) (w := w) (E := E) (Q := Q) hh ht fun h' he => h _ (S.drop.ext s.toks fun c o e => he c o (Nat.ne_of_lt (Heap.lt_size e)) e)
  simpa using this

theorem m_append {vs : List Value} {pl : Sem Bool} {Q : Value × List Value → Shared → Prop} (S : St s₁ L b H s) (hl : (l, Lst vs) ∈ H) (h : Q (.builtin "list.append", [.ref l]) s) : wpAny (model prog w) A (getMethod (.ref l) "append" pl) Q E s := by
  obtain ⟨o, ho, hc, hd, _⟩ := S.get hl
  exact getMethod_list_append ho hc hd h

/-! ### == -/
def lEq (e : Value → Value → Bool) : List Value → List Value → Bool
  | [], [] => true
  | x :: xs, y :: ys => e x y && lEq e xs ys
  | _, _ => false
theorem lEq_len {e : Value → Value → Bool} : ∀ {xs ys : List Value}, lEq e xs ys = true → xs.length = ys.length
  | [], [], _ => rfl
  | [], _ :: _, h => by simp [lEq] at h
  | _ :: _, [], h => by simp [lEq] at h
  | _ :: xs, _ :: ys, h => by simp only [lEq, Bool.and_eq_true] at h; simp [lEq_len h.2]
theorem lEq_iff {e : Value → Value → Bool} : ∀ {xs ys : List Value}, lEq e xs ys = true ↔ xs.length = ys.length ∧ ∀ (j : Nat) (x y : Value), xs[j]? = some x → ys[j]? = some y → e x y = true
  | [], [] => by simp [lEq]
  | [], _ :: _ => by simp [lEq]
  | _ :: _, [] => by simp [lEq]
  | x :: xs, y :: ys => by
    simp only [lEq, Bool.and_eq_true, List.length_cons, Nat.add_right_cancel_iff]
    rw [lEq_iff]
    constructor
    · rintro ⟨h1, h2, h3⟩
      refine ⟨h2, fun j x' y' hx hy => ?_⟩
      cases j with
      | zero => simp at hx hy; subst hx hy; exact h1
      | succ j => exact h3 j x' y' (by simpa using hx) (by simpa using hy)
    · rintro ⟨h1, h2⟩
      exact ⟨h2 0 x y rfl rfl, h1, fun j x' y' hx hy => h2 (j + 1) x' y' (by simpa using hx) (by simpa using hy)⟩
theorem all_range_lEq {e : Value → Value → Bool} {xs ys : List Value} (h : xs.length = ys.length) : (List.range xs.toArray.size).all (fun j => e (xs[j]?.getD .none) (ys[j]?.getD .none)) = lEq e xs ys := by
  rw [Bool.eq_iff_iff, lEq_iff, List.all_eq_true]
  simp only [List.mem_range, List.size_toArray]
  constructor
  · intro hh
    refine ⟨h, fun j x y hx hy => ?_⟩
    have := hh j (List.getElem?_eq_some_iff.mp hx).1
    rwa [hx, hy] at this
  · rintro ⟨_, hh⟩ j hj
    have h2 : j < ys.length := h ▸ hj
    exact hh j _ _ (by simp [hj]) (by simp [h2])
section
open SeqAt
theorem rc_lists {e : Value → Value → Bool} {vs us : List Value} (ha : s.heap.IsList a vs.toArray) (hc : s.heap.IsList c us.toArray) (hu : A.units < cLine) (he : ∀ x ∈ vs, ∀ y ∈ us, EqAt A.in1 s x y (e x y)) :
    RcAt A s (.ref a) (.ref c) (lEq e vs us) := by
  by_cases hl : vs.length = us.length
  · rw [← all_range_lEq hl]
    exact RcAt.lists ha hc (by simpa using hl) hu fun j h1 h2 => by
      have h1' : j < vs.length := by simpa using h1
      have h2' : j < us.length := by simpa using h2
      have := he vs[j] (List.getElem_mem h1') us[j] (List.getElem_mem h2')
      simpa [h1', h2'] using this
  · have : lEq e vs us = false := by
      cases h : lEq e vs us with
      | false => rfl
      | true => exact absurd (lEq_len h) hl
    rw [this]
    exact RcAt.lists_lengths ha hc (by simpa using hl) hu
/-- == of texts -/
def eTx : Value → Value → Bool
  | .str x _, .str y _ => x == y
  | _, _ => false
theorem lEq_tx : ∀ {vs us : List Value} {ls ms : List (List Nat)}, TxAre vs ls → TxAre us ms → lEq eTx vs us = decide (ls = ms)
  | _, _, _, _, .nil, .nil => by simp [lEq]
  | _, _, _, _, .nil, .cons _ _ _ => by simp [lEq]
  | _, _, _, _, .cons _ _ _, .nil => by simp [lEq]
  | _, _, _, _, .cons l t r, .cons m u q => by
    simp only [lEq, eTx, T_beq, lEq_tx r q]
    rename_i ls _ ms
    by_cases h : l = m <;> by_cases h' : ls = ms <;> simp [h, h']
theorem TxAre.eqAt {vs us : List Value} {ls ms : List (List Nat)} (hv : TxAre vs ls) (hw : TxAre us ms) : ∀ x ∈ vs, ∀ y ∈ us, EqAt A s x y (eTx x y) := by
  intro x hx y hy
  obtain ⟨i, _, rfl⟩ := List.mem_iff_getElem.mp hx
  obtain ⟨j, _, rfl⟩ := List.mem_iff_getElem.mp hy
  obtain ⟨l, t, e, _⟩ := hv.at i _ (List.getElem?_eq_getElem _)
  obtain ⟨m, u, e', _⟩ := hw.at j _ (List.getElem?_eq_getElem _)
  rw [e, e']
  exact EqAt.str_str _ _ _ _
theorem l_eqTx {vs us : List Value} {ls ms : List (List Nat)} (S : St s₁ L b H s) (ha : IsAt s₁ H a vs) (hc : IsAt s₁ H c us) (hv : TxAre vs ls) (hw : TxAre us ms) (hu : A.units < cLine) (h : Q (.bool (decide (ls = ms))) s) :
    wpAny (model prog w) A (compareOp .Eq (.ref a) (.ref c)) Q E s := rc_lists (ha.isList S) (hc.isList S) hu (hv.eqAt hw) prog w E Q (by rw [lEq_tx hv hw]; exact h)
end
theorem l_eqInts {vs us : List Value} {ns ms : List Int} (S : St s₁ L b H s) (ha : IsAt s₁ H a vs) (hc : IsAt s₁ H c us) (hv : IntsAre vs ns) (hw : IntsAre us ms) (hu : A.units + 64 < cLine) (h : Q (.bool (decide (ns = ms))) s) :
    wpAny (model prog w) A (compareOp .Eq (.ref a) (.ref c)) Q E s := ke_eq_ints (ha.isList S) (hc.isList S) hv hw hu h
end
end Mine
namespace Mine
end Mine
namespace Mine
def fdAt (K : Frag) (f : Addr) : FuncData := match K.lookup f with
  | some ⟨_, _, .func fd, _⟩ => fd
  | _ => default
def bodyAt (fd : FuncData) : List Stmt := match fd.body with
  | .stmts b => b
  | _ => []
end Mine
namespace Mine
theorem ifT {P Q : Prop} (h : P) : if true = true then P else Q := h
end Mine
namespace Mine
section
variable {prog : Program} {w : World} {A : Around} {E : Value → Shared → Prop} {s s₁ : Shared} {L l a c : Addr} {b : List (Str × Value)} {H H' : List Ent} {env : Env}
theorem as_tup {elts : List Expr} {k : Nat} {pos : Pos} {vs : List Value} {Q : Unit → Shared → Prop} (S : St s₁ L b H s) (hm : (a, Tup vs) ∈ H) (hh : A.handled = none) (hn : (assignEach elts env).length = vs.length) (hstar : (assignEach elts env).findIdx? (·.1) = none)
    (h : ∀ s', St s₁ L b H s' → wpAny (model prog w) A (assignInOrder ((assignEach elts env).map (·.2)) vs) Q E s') : wpAny (model prog w) A (assign (.Tuple elts k pos) env (.ref a)) Q E s :=
  assign_Tuple_tuple hh (Tup.isTup (S.get hm)) (by simpa using hn) hstar fun h' he => by simpa using h _ (S.ext s.toks fun c o e => he c o (Nat.ne_of_lt (Heap.lt_size e)) e)
/-- a statement's own post -/
theorem ex_post {st : Stmt} {rest : List Stmt} {Q : Flow → Shared → Prop} (P : Shared → Prop) (h : wpAny (model prog w) A (exec st env) (fun f s' => f = .next ∧ P s') E s) (k : ∀ s', P s' → wpAny (model prog w) A (execs rest env) Q E s') : wpAny (model prog w) A (execs (st :: rest) env) Q E s :=
  wpAny_execs_cons (wpAny_mono h (fun f s' ⟨e, p⟩ => by subst e; exact k s' p) fun _ _ x => x)
end
end Mine
namespace Mine
theorem dig_le {n : Int} (h0 : 0 ≤ n) {k : Nat} (hk : 0 < k) (h : n < 10 ^ k) : (dig n).length ≤ k := by
  have := toString_length_le h0 hk h
  simpa [dig, Str.length] using this
end Mine
namespace Mine
theorem log2_small {n : Int} (h : n.natAbs < 10 ^ 18) : n.natAbs.log2 < 1920 := by
  by_cases h0 : n.natAbs = 0
  · rw [h0]; decide
  · have : n.natAbs.log2 < 64 := (Nat.log2_lt h0).mpr (by omega)
    omega
end Mine
namespace Mine
section
variable {prog : Program} {w : World} {A : Around} {E : Value → Shared → Prop} {s s₁ : Shared} {L l a c : Addr} {b : List (Str × Value)} {H H' : List Ent} {env : Env} {Q : Value → Shared → Prop} {t u : Tok} {i j : Int}

end
section
variable {prog : Program} {w : World} {A : Around} {E : Value → Shared → Prop} {s s₁ : Shared} {L I l : Addr} {b : List (Str × Value)} {H H' : List Ent} {env : Env}
theorem comp_use {y : Str} {py : Pos} {C D : Addr} {ys : List Value} {Q : Value → Shared → Prop} (S : St s₁ L b ((C, Frm []) :: (D, Lst ys) :: H) s) (hx : env.kindOf y = some .local) (hL : env.locals = L) (hk : env.scope.kind = .function)
    (h : ∀ s₃, St s₁ L (up y (.ref D) b) ((D, Lst ys) :: H) s₃ → Q .none s₃) : CompDone prog w A (some (assign (.Name y py) env)) Q E s₁ L b C D ys H s :=
  wpAny_assign_Name (st_L S hx (fun s' S' => ⟨_, _, S', h⟩) hL hk)
end
end Mine
namespace Mine
def shorten (l : List Nat) (i j : Int) : List Nat :=
  if 12 < (l.length : Int) - i - j then cut l none (some i) ++ [91] ++ dig ((l.length : Int) - i - j) ++ chars ++ cut l (some ((l.length : Int) - j)) none else l
theorem shorten_len {l : List Nat} {i j : Int} (hi : 0 ≤ i) (hj : 0 ≤ j) (hl : l.length < 1000000) : (shorten l i j).length ≤ l.length + 20 := by
  unfold shorten
  split
  · rename_i h
    rw [cut_to _ hi, cut_from _ (by omega)]
    have := dig_le (n := (l.length : Int) - i - j) (by omega) (k := 6) (by decide) (by omega)
    simp only [List.length_append, List.length_take, List.length_drop, List.length_cons, List.length_nil]
    have hc : chars.length = 7 := rfl
    omega
  · omega
theorem shorten_stays {l : List Nat} {i j : Int} (h : (l.length : Int) - i - j ≤ 12) : shorten l i j = l := by unfold shorten; rw [if_neg (by omega)]
/-- a text kept at both ends -/
def ended (l : List Nat) (i j : Nat) (n : Int) : List Nat := l.take i ++ [91] ++ dig n ++ chars ++ l.drop (l.length - j)
theorem shorten_eq {l : List Nat} {i j : Nat} (h : 12 < (l.length : Int) - i - j) : shorten l i j = ended l i j ((l.length : Int) - i - j) := by
  unfold shorten ended
  rw [if_pos h, cut_to _ (by omega), cut_from _ (by omega)]
  have e : ((l.length : Int) - (j : Int)).toNat = l.length - j := by omega
  rw [e]; simp
end Mine
open PyProof.Rows.TI (gone gone_some gone_none gone_get)
open PySem.AutoSeq1 (wpAny_loadPart')
open PySem.SeqAt PySem.MeetsSeq PySem.MeetsSeq2 PySem.MeetsSeq3 PySem.SeqRoads2
namespace Mine

section
variable {prog : Program} {w : World} {A : Around} {E : Value → Shared → Prop} {s s₁ : Shared} {L l : Addr} {b : List (Str × Value)} {H H' : List Ent} {env : Env}

/-! ### a try -/
def FrsIn (L : Addr) (H : List Ent) (l : List Env) : Prop := ∀ env ∈ l, env.scope.kind ≠ .module ∧ ∃ F, env.frame = some F ∧ (F = L ∨ ∃ b, (F, Frm b) ∈ H)

structure Hld (s₁ : Shared) (L : Addr) (b : List (Str × Value)) (H : List Ent) (l : List Env) (base : Heap) (e : Addr) (X : String) (a0 fl : Value) (s : Shared) : Prop where
  S : St s₁ L b H s
  nw : ∀ p ∈ H, (∃ o, base.get? p.1 = some o ∧ p.2 o) ∨ ∃ b', p.2 = Frm b'
  kb : ∀ a o, s₁.heap.get? a = some o → base.get? a = some o
  st : base.StaysIn s.heap
  ff : s.heap.FunFrames base l
  tr : s.heap.TracedAtW base e (.type X) a0 fl

theorem Hld.next {l : List Env} {base : Heap} {e : Addr} {X : String} {a0 fl fl' : Value} (h : Hld s₁ L b H l base e X a0 fl s) {h' : Heap} (tk : Nat) (st : base.StaysIn h') (ff : h'.FunFrames base l) (tr : h'.TracedAtW base e (.type X) a0 fl')
    (up : s.heap.UpToSlots h') : Hld s₁ L b H l base e X a0 fl' { s with heap := h', toks := tk } := by
  have fr : ∀ (a : Addr) (b' : List (Str × Value)), (∃ o, s.heap.get? a = some o ∧ Frm b' o) → ∃ o, h'.get? a = some o ∧ Frm b' o := by
    rintro a b' ⟨o, ho, es, ep, hd, r⟩
    obtain ⟨sl, h2⟩ := up a o ho (fun vs q => by rw [hd] at q; cases q)
    exact ⟨_, h2, es, ep, hd, r⟩
  refine ⟨⟨fr _ _ h.S.ns, fun a o x => st a o (h.kb a o x), h.S.fr, fun p hp => ?_, h.S.fresh, h.S.nd, ?_⟩, h.nw, h.kb, st, ff, tr⟩
  · rcases h.nw p hp with ⟨o, ho, hP⟩ | ⟨b', hb⟩
    · exact ⟨o, st _ _ ho, hP⟩
    · have := h.S.nw p hp
      rw [hb] at this ⊢
      exact fr _ _ this
  · obtain ⟨_, _, e⟩ := h.S.eq
    exact ⟨h', tk, by rw [e]⟩

theorem Hld.flight {l : List Env} {base : Heap} {e : Addr} {X : String} {a0 fl : Value} {Q : Unit → Shared → Prop} (h : Hld s₁ L b H l base e X a0 fl s) (k : ∀ s', Hld s₁ L b H l base e X a0 .none s' → Q () s') :
    wpAny (model prog w) A (setFlight (.ref e) none) Q E s := by
  refine wpAny_setFlight_noneW h.st h.ff h.tr fun h' k1 k2 k3 k4 => ?_
  exact k _ (h.next s.toks k1 k2 k3.at fun a o ho hn => ⟨o.slots, k4 a o ho hn⟩)

theorem mem_fst_unique {H : List Ent} (nd : (H.map (·.1)).Nodup) {p q : Ent} (hp : p ∈ H) (hq : q ∈ H) (e : p.1 = q.1) : p = q := by
  induction H with
  | nil => simp at hp
  | cons r H ih =>
    simp only [List.map_cons, List.nodup_cons] at nd
    rcases List.mem_cons.mp hp with h1 | h1 <;> rcases List.mem_cons.mp hq with h2 | h2
    · rw [h1, h2]
    · exact absurd (List.mem_map.mpr ⟨q, h2, by rw [← e, h1]⟩) nd.1
    · exact absurd (List.mem_map.mpr ⟨p, h1, by rw [e, h2]⟩) nd.1
    · exact ih nd.2 h1 h2

theorem St.funFrames {base : Heap} (S : St s₁ L b H s) : ∀ {l : List Env}, FrsIn L H l → (∀ env ∈ l, ∀ F, env.frame = some F → base.get? F = none) → s.heap.FunFrames base l
  | [], _, _ => trivial
  | env :: l, hF, hb => by
    obtain ⟨hk, F, hf, hm⟩ := hF env (List.mem_cons_self ..)
    have : ∃ b' o, s.heap.get? F = some o ∧ Frm b' o := by
      rcases hm with rfl | ⟨b', hm⟩
      · obtain ⟨o, ho, h⟩ := S.ns; exact ⟨b, o, ho, h⟩
      · obtain ⟨o, ho, h⟩ := S.get hm; exact ⟨b', o, ho, h⟩
    obtain ⟨b', o, ho, es, ep, hd, _⟩ := this
    exact ⟨hk, ⟨F, o, hf, hb env (List.mem_cons_self ..) F hf, ho, fun vs q => by rw [hd] at q; cases q⟩, S.funFrames (fun e he => hF e (List.mem_cons_of_mem _ he)) fun e he => hb e (List.mem_cons_of_mem _ he)⟩

/-- the state in which a try's body raised -/
def Rais (s₁ : Shared) (L : Addr) (X : String) (J : List (Str × Value) → List Ent → Prop) (ev : Value) (s' : Shared) : Prop :=
  ∃ b H s h' tk e, ev = .ref e ∧ s' = { s with heap := h', toks := tk } ∧ St s₁ L b H s ∧ Heap.NewExc s.heap h' e X ∧ J b H

end
end Mine
open PySem.SeqAt
namespace Mine
section
variable {prog : Program} {w : World} {A : Around} {E : Value → Shared → Prop} {s s₁ : Shared} {L l f : Addr} {b b' : List (Str × Value)} {H H' : List Ent} {Q : Value → Shared → Prop} {fd : FuncData} {body : List Stmt} {binds : List (Str × Value)}
theorem lookup_of_mem_nodup {cs : List (Str × Addr)} (hn : (cs.map (·.1)).Nodup) {n : Str} {c : Addr} (h : (n, c) ∈ cs) : cs.lookup n = some c := by
  induction cs with
  | nil => simp at h
  | cons p r ih =>
    obtain ⟨n', c'⟩ := p
    simp only [List.map_cons, List.nodup_cons] at hn
    rcases List.mem_cons.mp h with e | h2
    · cases e; simp
    · have hne : n ≠ n' := by rintro rfl; exact hn.1 (List.mem_map.mpr ⟨(n, c), h2, rfl⟩)
      rw [List.lookup_cons]
      have : (n == n') = false := by simp [hne]
      rw [this]; exact ih hn.2 h2
theorem St.enterC (S : St s₁ L b H s) {s' : Shared} {L' : Addr} {m cm : Str → Option Value} {cs : List (Str × Addr)} (x : InCallC s L' m cs cm s') (hL : L' = s.heap.objs.size) (hcn : (cs.map (·.1)).Nodup) (hb : ∀ y v, lk b' y = some v → m y = some v) :
    St s₁ L' b' (cs.map (fun p => (p.2, Cel (cm p.1))) ++ (L, Frm b) :: H) s' where
  ns := Frm.of_Ns x.toInCall.ns hb
  keep := fun a o e => x.toInCall.keep _ _ (S.keep a o e)
  fr := by rw [hL]; exact S.size.1
  nw := fun p hp => by
    rcases List.mem_append.mp hp with hp | hp
    · obtain ⟨⟨n, c⟩, hm, rfl⟩ := List.mem_map.mp hp
      obtain ⟨o, ho, hd⟩ := x.cell n c (lookup_of_mem_nodup hcn hm)
      exact ⟨o, ho, hd⟩
    · rcases List.mem_cons.mp hp with rfl | hp
      · obtain ⟨o, ho, h⟩ := S.ns; exact ⟨o, x.toInCall.keep _ _ ho, h⟩
      · obtain ⟨o, ho, h⟩ := S.nw p hp; exact ⟨o, x.toInCall.keep _ _ ho, h⟩
  fresh := fun p hp => by
    rcases List.mem_append.mp hp with hp | hp
    · obtain ⟨⟨n, c⟩, hm, rfl⟩ := List.mem_map.mp hp
      have := x.above n c hm
      refine ⟨Nat.ne_of_gt this, ?_⟩
      cases e : s₁.heap.get? c with
      | none => rfl
      | some o =>
        have := Heap.lt_size (S.keep _ _ e)
        have h2 := x.above n c hm
        rw [hL] at h2
        exact absurd (Nat.lt_trans this h2) (Nat.lt_irrefl _)
    · rcases List.mem_cons.mp hp with rfl | hp
      · exact ⟨by rw [hL]; exact Ne.symm S.size.2.1, S.fr⟩
      · exact ⟨by rw [hL]; exact S.size.2.2 p hp, (S.fresh p hp).2⟩
  nd := by
    rw [List.map_append, List.map_map]
    refine List.nodup_append.mpr ⟨?_, ?_, ?_⟩
    · have := x.apart
      rw [List.Nodup, List.pairwise_map]
      exact this.imp fun h => h
    · refine List.nodup_cons.mpr ⟨fun hm => ?_, S.nd⟩
      obtain ⟨q, hq, e⟩ := List.mem_map.mp hm
      exact (S.fresh q hq).1 e
    · intro a ha c hc e
      subst e
      obtain ⟨⟨n, c⟩, hm, rfl⟩ := List.mem_map.mp ha
      have h2 := x.above n c hm
      rw [hL] at h2
      simp only [Function.comp] at hc
      rcases List.mem_cons.mp hc with e | hc
      · obtain ⟨o, ho, _⟩ := S.ns
        have := Heap.lt_size ho
        simp only at e
        rw [← e] at this
        exact absurd (Nat.lt_trans this h2) (Nat.lt_irrefl _)
      · obtain ⟨q, hq, e⟩ := List.mem_map.mp hc
        obtain ⟨o, ho, _⟩ := S.nw q hq
        have := Heap.lt_size ho
        rw [e] at this
        exact absurd (Nat.lt_trans this h2) (Nat.lt_irrefl _)
  eq := by
    obtain ⟨h, tk, e⟩ := x.toInCall.same
    obtain ⟨h', tk', e'⟩ := S.eq
    exact ⟨h, tk, by rw [e, e']⟩
theorem call_fnC {K : Frag} {oc : Value} {od : Option Addr} {osl : Array (Option Value)} {args : List Value} (ents : Addr → List Ent)
    (S : St s₁ L b H s) (X : K.In s₁.heap) (hlim : s₁.heap.NoLimit) (ho : K.lookup f = some ⟨oc, od, .func fd, osl⟩) (hcd : codeIn K fd.code fd.qualname = true) (hroom : A.depth < recursionLimit)
    (hbody : fd.body = .stmts body) (hbind : bindArgs fd ⟨args, []⟩ = pure binds) (hclo : fd.closure = [])
    (hkind : ∀ n, (binds.all fun x => decide (fd.scope.names.lookup x.1 = some .local) || (decide (fd.scope.names.lookup x.1 = some .cell) && ((cellsFrom n fd.scope.names []).lookup x.1).isSome)) = true)
    (cns : List Str) (hcs : ∀ n, (cellsFrom n fd.scope.names []).map (·.1) = cns) (hcn : cns.Nodup)
    (hb : ∀ L' y v, lk b' y = some v → bindL (callEnvC fd L' f).kindOf binds (fun _ => none) y = some v)
    (he : ∀ L', (cellsFrom (L' + 1) fd.scope.names []).map (fun p => (p.2, Cel (bindC (callEnvC fd L' f).kindOf binds (fun _ => none) p.1))) = ents L')
    (h : ∀ s' L', St s₁ L' b' (ents L' ++ (L, Frm b) :: H) s' →
      wpAny (model prog w) (A.deeper (callEnvC fd L' f)) (execs body (callEnvC fd L' f)) (fun fl s'' => Q (match fl with | .ret v => v | _ => .none) s'') (fun _ _ => False) s')
    (hco : fd.scope.isCoroutine = false) (hgen : fd.scope.isGenerator = false) (hk : fd.scope.kind = .function) : wpAny (model prog w) A (call (.ref f) args) Q E s := by
  have X' := X.keeps S.keep
  refine wpAny_call (codeAny_call_cells hroom (X' _ _ ho) rfl (hlim.keeps S.keep) (codeRec_of X' hcd) hbody hbind hclo (fun x hx => ?_) (fun s₂ x => ?_) hco hgen hk)
  · have := List.all_eq_true.mp (hkind (s.heap.objs.size + 1)) x hx
    simpa using this
  have S' := S.enterC (b' := b') x rfl (by rw [show (callEnvC fd s.heap.objs.size f).cells = cellsFrom (s.heap.objs.size + 1) fd.scope.names [] from rfl, hcs]; exact hcn) (hb _)
  refine wpAny_mono (h _ _ ?_) (fun _ _ q => q) (fun _ _ q => q.elim)
  rw [← he]
  exact S'
end
end Mine
open PySem.SeqAt
namespace Mine
/-! ### map objects -/
theorem owner_map : Manifest.owners.lookup (String.ofList ['p', 'a', 'm'].reverse) = some Manifest.sig_map := by kernel_rfl
theorem slot_map_next : Slot "map" "__next__" "map.__next__" :=
  .of (owner := "map") (n := "__next__") (by rw [typeLookup_type, builtinLookup_eq_fast]; kernel_rfl) (by decide +kernel) (by decide +kernel) (by decide +kernel)
    (by first | exact .inl (by decide +kernel) | exact .inr (by decide +kernel)) (by rw [isSubtype_type]; kernel_rfl)
theorem entry_map_next : entryFor table "map.__next__" = some Builtin.«map.__next__» := entryFor_of_tree (by kernel_rfl)
theorem args_map_next_1 (a : Value) : argsOk "map.__next__" ⟨[a], []⟩ := by
  unfold argsOk; rw [signature?_of (id := "map.__next__") (n := ['_', '_', 't', 'x', 'e', 'n', '_', '_']) (o := ['p', 'a', 'm']) (by kernel_rfl) owner_map]; kernel_rfl
theorem slot_map_iter : Slot "map" "__iter__" "map.__iter__" :=
  .of (owner := "map") (n := "__iter__") (by rw [typeLookup_type, builtinLookup_eq_fast]; kernel_rfl) (by decide +kernel) (by decide +kernel) (by decide +kernel)
    (by first | exact .inl (by decide +kernel) | exact .inr (by decide +kernel)) (by rw [isSubtype_type]; kernel_rfl)
theorem entry_map_iter : entryFor table "map.__iter__" = some Builtin.«dict_keyiterator.__iter__» :=
  entryFor_alias (id' := "dict_keyiterator.__iter__") (by kernel_rfl) rfl (by decide +kernel) (by kernel_rfl)
theorem args_map_iter_1 (a : Value) : argsOk "map.__iter__" ⟨[a], []⟩ := by
  unfold argsOk; rw [signature?_of (id := "map.__iter__") (n := ['_', '_', 'r', 'e', 't', 'i', '_', '_']) (o := ['p', 'a', 'm']) (by kernel_rfl) owner_map]; kernel_rfl
theorem slot_map_init : Slot "map" "__init__" "object.__init__" :=
  .of (owner := "object") (n := "__init__") (by rw [typeLookup_type, builtinLookup_eq_fast]; kernel_rfl) (by decide +kernel) (by decide +kernel) (by decide +kernel)
    (by first | exact .inl (by decide +kernel) | exact .inr (by decide +kernel)) (by rw [isSubtype_type]; kernel_rfl)
theorem mro_map : mroOf (.type "map") = pure [.type "map", .type "object"] := by rw [mroOf_type]; kernel_rfl
theorem lookup_map_new : typeLookup (.type "map") "__new__" = pure (some (.builtin "map.__new__")) := by rw [typeLookup_type, builtinLookup_eq_fast]; kernel_rfl
theorem called_map : TypeCalled "map" "map.__new__" "object.__init__" :=
  ⟨by decide +kernel, by decide +kernel, ⟨_, _, mro_map⟩, madeBy_type mro_map lookup_map_new (by decide +kernel), by decide +kernel, by rw [isSubtype_type]; kernel_rfl, slot_map_init⟩
theorem typeCall_map_2 (a b : Value) : checkTypeCall "map" ⟨[a, b], []⟩ = pure () := by kernel_rfl
theorem newCall_map_2 (a b : Value) : checkBuiltinCall "map.__new__" ⟨[.type "map", a, b], []⟩ = pure () := by kernel_rfl
theorem entry_map_new : entryFor table "map.__new__" = some Builtin.«map.__new__» := entryFor_of_tree (by kernel_rfl)
theorem sub_map : isSubtype (.type "map") (.type "map") = pure true := by rw [isSubtype_type]; kernel_rfl
abbrev IsMap (h : Heap) (z TI : Addr) (f : Value) : Prop := h.get? z = some { cls := .type "map", dict := none, data := .fields #[.ref TI, f], slots := #[] }
abbrev IsOne (h : Heap) (T : Addr) (a : Value) : Prop := h.get? T = some { cls := .type "tuple", data := .seq #[a] }
abbrev mapH1 (h : Heap) (t : Addr) : Heap := h.push { cls := .type "tuple_iterator", data := .fields #[.ref t, .int 0 0] }
abbrev mapH2 (h : Heap) (t : Addr) : Heap := (mapH1 h t).push { cls := .type "tuple", data := .seq #[.ref h.objs.size] }
abbrev mapH3 (h : Heap) (t : Addr) (f : Value) : Heap := (mapH2 h t).push { cls := .type "map", data := .fields #[.ref (mapH1 h t).objs.size, f] }
theorem meets_map_new (f : Value) (t : Addr) (xs : Array Value) :
    Meets (Builtin.«map.__new__» ⟨[.type "map", f, .ref t], []⟩) (fun _ R s => s.heap.IsTuple t xs ∧ R (.ok (.ret (.ref (mapH2 s.heap t).objs.size))) { s with heap := mapH3 s.heap t f }) :=
  .of_wp fun prog w A R s h => by
    obtain ⟨hp, g, d, tk, os⟩ := s; obtain ⟨hl1, h⟩ := h
    have hsub := sub_map
    have hL1 : Heap.IsTuple (Shared.heap ⟨hp, g, d, tk, os⟩) t xs := hl1
    wp_walk using wpAny_pyIter_tuple hL1
    exact ⟨_, rfl, h⟩
section
variable {prog : Program} {w : World} {A : Around} {E : Value → Shared → Prop} {s : Shared}
theorem call_map {f : Value} {t : Addr} {xs : Array Value} {Q : Value → Shared → Prop} (ht : s.heap.IsTuple t xs)
    (h : ∀ h', IsMap h' (s.heap.objs.size + 2) (s.heap.objs.size + 1) f → IsOne h' (s.heap.objs.size + 1) (.ref s.heap.objs.size) → h'.IsTupleIter s.heap.objs.size t 0 → h'.objs.size = s.heap.objs.size + 3 →
      (∀ c o, s.heap.get? c = some o → h'.get? c = some o) → Q (.ref (s.heap.objs.size + 2)) { s with heap := h' }) :
    wpAny (model prog w) A (call (.type "map") [f, .ref t]) Q E s := by
  refine callType_new called_map (by decide) (typeCall_map_2 _ _) (newCall_map_2 _ _) (fun obj => PySem.F.args_object_init_3 obj _ _) entry_map_new (meets_map_new f t xs) ⟨ht, ?_⟩
  have z1 : (mapH1 s.heap t).objs.size = s.heap.objs.size + 1 := Heap.size_push ..
  have z2 : (mapH2 s.heap t).objs.size = s.heap.objs.size + 2 := by rw [Heap.size_push, z1]
  have z3 : (mapH3 s.heap t f).objs.size = s.heap.objs.size + 3 := by rw [Heap.size_push, z2]
  have g3 : (mapH3 s.heap t f).get? (mapH2 s.heap t).objs.size = some _ := Heap.get?_push_size _ rfl
  have g2 : (mapH3 s.heap t f).get? (mapH1 s.heap t).objs.size = some _ := Heap.get?_push_of_some _ (Heap.get?_push_size _ rfl)
  have g1 : (mapH3 s.heap t f).get? s.heap.objs.size = some _ := Heap.get?_push_of_some _ (Heap.get?_push_of_some _ (Heap.get?_push_size _ rfl))
  show _ ∧ _
  rw [z1, z2] at g3
  rw [z1] at g2
  rw [z2]
  exact ⟨⟨_, g3, rfl⟩, h _ g3 g2 ⟨_, g1, rfl, rfl⟩ z3 fun c o x => Heap.get?_push_of_some _ (Heap.get?_push_of_some _ (Heap.get?_push_of_some _ x))⟩
theorem nextOf_tuple_item {it l : Addr} {i : Nat} {items : Array Value} {x : Value} {Q : Value → Shared → Prop} (hit : s.heap.IsTupleIter it l i) (hl : s.heap.IsTuple l items) (hx : items[i]? = some x)
    (hQ : ∀ h', h'.IsTupleIter it l (i + 1) → Heap.SameBut it s.heap h' → Q x { s with heap := h' }) : wpAny (model prog w) A (Builtin.SmallTypes.nextOf (.ref it)) Q E s := by
  have hT : s.TypeIs (.ref it) "tuple_iterator" := let ⟨o, ho, hc, _⟩ := hit; ⟨o, ho, hc⟩
  obtain ⟨o, ho, hc, hd⟩ := id hit
  obtain ⟨ol, hol, _, nl, hdl⟩ := hl
  unfold Builtin.SmallTypes.nextOf
  refine wpAny_bind (wpAny_callSpecial?_slot (name := Str.ofString "__next__") hT PySem.F.slot_tuple_iterator_next
    (wpAny_call_entry PySem.F.slot_tuple_iterator_next hT PySem.F.entry_tuple_iterator_next ?_ (PySem.F.args_tuple_iterator_next_1 _)))
  show wpAny _ _ (field (.ref it) 0 >>= _) _ _ s
  refine wpAny_bind (wpAny_field ho hd (x := .ref l) rfl ?_)
  show wpAny _ _ (if (Value.ref l == Value.none) = true then _ else _) _ _ s
  rw [if_neg (show ¬ ((Value.ref l == Value.none) = true) from Bool.false_ne_true)]
  show wpAny _ _ (field (.ref it) 1 >>= _) _ _ s
  refine wpAny_bind (wpAny_field ho hd (x := .int i 0) rfl ?_)
  show wpAny _ _ (seqItems? (.ref l) >>= _) _ _ s
  refine wpAny_bind (wpAny_seqItems hol hdl ?_)
  simp only [Int.toNat_natCast, hx]
  refine wpAny_bind (wpAny_setField ho hd (by simp) (wpAny_pure ⟨x, rfl, wpAny_pure (hQ _ ?_ (Heap.SameBut.update ..))⟩))
  exact ⟨_, Heap.get?_update_self _ ho (Obj.isFreed_of_fields (Obj.data_mapFields hd _)), (Obj.cls_mapFields ..).trans hc, by
    rw [Obj.data_mapFields hd]; simp [rawInt]⟩
theorem nextOf_tuple_end {it l : Addr} {i : Nat} {items : Array Value} {Q : Value → Shared → Prop} (hh : A.handled = none)
    (hit : s.heap.IsTupleIter it l i) (hl : s.heap.IsTuple l items) (hx : items[i]? = none)
    (hE : ∀ h' e, Heap.ExtBut it s.heap h' → (∃ o, h'.get? e = some o ∧ o.cls = .type "StopIteration") → E (.ref e) { s with heap := h' }) :
    wpAny (model prog w) A (Builtin.SmallTypes.nextOf (.ref it)) Q E s := by
  have hT : s.TypeIs (.ref it) "tuple_iterator" := let ⟨o, ho, hc, _⟩ := hit; ⟨o, ho, hc⟩
  obtain ⟨o, ho, hc, hd⟩ := id hit
  obtain ⟨ol, hol, _, nl, hdl⟩ := hl
  unfold Builtin.SmallTypes.nextOf
  refine wpAny_bind (wpAny_callSpecial?_slot (name := Str.ofString "__next__") hT PySem.F.slot_tuple_iterator_next
    (wpAny_call_entry PySem.F.slot_tuple_iterator_next hT PySem.F.entry_tuple_iterator_next ?_ (PySem.F.args_tuple_iterator_next_1 _)))
  show wpAny _ _ (field (.ref it) 0 >>= _) _ _ s
  refine wpAny_bind (wpAny_field ho hd (x := .ref l) rfl ?_)
  show wpAny _ _ (if (Value.ref l == Value.none) = true then _ else _) _ _ s
  rw [if_neg (show ¬ ((Value.ref l == Value.none) = true) from Bool.false_ne_true)]
  show wpAny _ _ (field (.ref it) 1 >>= _) _ _ s
  refine wpAny_bind (wpAny_field ho hd (x := .int i 0) rfl ?_)
  show wpAny _ _ (seqItems? (.ref l) >>= _) _ _ s
  refine wpAny_bind (wpAny_seqItems hol hdl ?_)
  simp only [Int.toNat_natCast, hx]
  refine wpAny_bind (wpAny_rule (wpAny_bind (wpAny_setField ho hd (by simp) ?_)))
  show wpAny _ _ (newExc (.type "StopIteration") [] >>= _) _ _ _
  refine wpAny_bind ?_
  simp only [newExc, newTuple]
  refine wpAny_bind (wpAny_newObj_type ?_ (by size_fits))
  refine wpAny_bind (m := firstArgMember _ _) (wpAny_of_eq (a := Value.none) (by first | rfl | (simp only [firstArgMember]; rfl)) ?_)
  refine wpAny_newObj_type ?_ (by size_fits)
  simp only [raiseNew]
  refine wpAny_bind (wpAny_handled ?_)
  first | rw [show A.in1.handled = none from hh] | rw [hh]
  refine wpAny_bind (wpAny_pure (wpAny_throw ?_))
  exact hE _ _ (((Heap.SameBut.update ..).extBut.push _).push _) ⟨_, Heap.get?_push_size _ rfl, rfl⟩
end
/-- all but the inner iterator stays; the iterator stands at i -/
structure MapSt (h₀ : Heap) (z TI J t : Addr) (f : Value) (xs : Array Value) (i : Nat) (h : Heap) : Prop where
  keep : ∀ b o, b ≠ J → h₀.get? b = some o → h.get? b = some o
  it : h.IsTupleIter J t i
section
variable {prog : Program} {w : World} {A : Around} {h₀ : Heap} {z TI J t : Addr} {f : Value} {xs : Array Value} {P : Nat → Value → Prop}
theorem Walks.map (hh : A.handled = none) (hz : IsMap h₀ z TI f) (hTI : IsOne h₀ TI (.ref J)) (ht : h₀.IsTuple t xs) (hzJ : z ≠ J) (hTJ : TI ≠ J) (htJ : t ≠ J)
    (hf : ∀ i x (s : Shared) (Q : Value → Shared → Prop) (E : Value → Shared → Prop), xs[i]? = some x → (∀ b o, b ≠ J → h₀.get? b = some o → s.heap.get? b = some o) →
      (∀ v h' tk, P i v → (∀ b o, s.heap.get? b = some o → h'.get? b = some o) → Q v { s with heap := h', toks := tk }) → wpAny (model prog w) A.in1 (call f [x]) Q E s) :
    Walks prog w A z (J :: List.range h₀.objs.size) [J] xs.size P (MapSt h₀ z TI J t f xs) where
  sub := fun b hb => by rw [List.mem_singleton.mp hb]; exact List.mem_cons_self ..
  frame := fun i h h' st hk => ⟨fun b o hb e => hk b (List.mem_cons_of_mem _ (List.mem_range.mpr (Heap.lt_size e))) o (st.keep b o hb e), let ⟨o, ho, r⟩ := st.it; ⟨o, hk J (List.mem_cons_self ..) o ho, r⟩⟩
  item := fun i s Q E hi st hQ => by
    have hzs : IsMap s.heap z TI f := st.keep _ _ hzJ hz
    have hTIs : IsOne s.heap TI (.ref J) := st.keep _ _ hTJ hTI
    have hts : s.heap.IsTuple t xs := let ⟨o, ho, r⟩ := ht; ⟨o, st.keep _ _ htJ ho, r⟩
    have hT : s.TypeIs (.ref z) "map" := ⟨_, hzs, rfl⟩
    have hx : xs[i]? = some xs[i] := Array.getElem?_eq_getElem hi
    unfold pyNext
    refine wpAny_bind (wpAny_attempt (wpAny_callSpecial?_slot (name := Str.ofString "__next__") hT slot_map_next (wpAny_call_entry slot_map_next hT entry_map_next ?_ (args_map_next_1 _))))
    show wpAny _ _ (field (.ref z) 0 >>= _) _ _ _
    refine wpAny_bind (wpAny_field hzs rfl (x := .ref TI) rfl ?_)
    refine wpAny_bind (wpAny_seqItems hTIs rfl ?_)
    simp only [Array.forIn_toList.symm, List.forIn_cons, List.forIn_nil]
    refine wpAny_bind (wpAny_bind (wpAny_bind (wpAny_holding (nextOf_tuple_item st.it hts hx fun h₁ hit₁ hs₁ => ?_))))
    refine wpAny_pure (wpAny_pure ?_)
    have hz₁ : IsMap h₁ z TI f := hs₁.extBut _ _ hzJ hzs
    show wpAny _ _ (field (.ref z) 1 >>= _) _ _ _
    refine wpAny_bind (wpAny_field (s := { s with heap := h₁ }) hz₁ rfl (x := f) rfl ?_)
    have hk₁ : ∀ b o, b ≠ J → h₀.get? b = some o → h₁.get? b = some o := fun b o hb e => hs₁.extBut _ _ hb (st.keep b o hb e)
    refine wpAny_bind (wpAny_holding (hf i _ { s with heap := h₁ } _ _ hx hk₁ fun v h₂ tk hP hk₂ => ?_))
    refine wpAny_bind (wpAny_letGo ?_)
    refine wpAny_pure ⟨_, rfl, wpAny_pure (hQ v h₂ tk hP ⟨fun b o hb e => hk₂ _ _ (hk₁ b o hb e), let ⟨o, ho, r⟩ := hit₁; ⟨o, hk₂ _ _ ho, r⟩⟩ fun b o hb e => hk₂ _ _ (hs₁.extBut _ _ (fun q => hb (List.mem_singleton.mpr q)) e))⟩
  done := fun s Q E st hQ => by
    have hzs : IsMap s.heap z TI f := st.keep _ _ hzJ hz
    have hTIs : IsOne s.heap TI (.ref J) := st.keep _ _ hTJ hTI
    have hts : s.heap.IsTuple t xs := let ⟨o, ho, r⟩ := ht; ⟨o, st.keep _ _ htJ ho, r⟩
    have hT : s.TypeIs (.ref z) "map" := ⟨_, hzs, rfl⟩
    unfold pyNext
    refine wpAny_bind (wpAny_attempt (wpAny_callSpecial?_slot (name := Str.ofString "__next__") hT slot_map_next (wpAny_call_entry slot_map_next hT entry_map_next ?_ (args_map_next_1 _))))
    show wpAny _ _ (field (.ref z) 0 >>= _) _ _ _
    refine wpAny_bind (wpAny_field hzs rfl (x := .ref TI) rfl ?_)
    refine wpAny_bind (wpAny_seqItems hTIs rfl ?_)
    simp only [Array.forIn_toList.symm, List.forIn_cons, List.forIn_nil]
    refine wpAny_bind (wpAny_bind (wpAny_bind (wpAny_holding (nextOf_tuple_end hh st.it hts (by simp) fun h₁ e hs₁ he => ?_))))
    obtain ⟨o, ho, hc⟩ := he
    refine wpAny_bind (wpAny_isInstance (T := "StopIteration") (b := true) ⟨o, ho, hc⟩ isSubtype_stop ?_)
    exact wpAny_pure (hQ _ _ fun b o hb e => hs₁ _ _ (fun q => hb (List.mem_singleton.mpr q)) e)
  self := fun i s Q E st hQ => by
    have hzs : IsMap s.heap z TI f := st.keep _ _ hzJ hz
    have hT : s.TypeIs (.ref z) "map" := ⟨_, hzs, rfl⟩
    refine wpAny_pyIter_slot hT slot_map_iter (wpAny_call_entry slot_map_iter hT entry_map_iter ?_ (args_map_iter_1 _))
    show wpAny _ _ (ret (.ref z)) _ _ s
    exact wpAny_pure ⟨_, rfl, "map", _, hT, slot_map_next.lookup, hQ⟩
end
end Mine
open PySem.SeqAt
namespace Mine
theorem map_no_len : typeLookup (.type "map") "__len__" = pure none := by rw [typeLookup_type, builtinLookup_eq_fast]; kernel_rfl
theorem map_no_hint : typeLookup (.type "map") "__length_hint__" = pure none := by rw [typeLookup_type, builtinLookup_eq_fast]; kernel_rfl
section
variable {prog : Program} {w : World} {A : Around} {E : Value → Shared → Prop} {s : Shared} {I : Addr} {fp wr : List Addr} {G : Array GenState → Array GenState → Prop} {n : Nat} {P : Nat → Value → Prop} {St : Nat → Shared → Prop}
theorem collect_map {Q : List Value → Shared → Prop} (W : WalksS prog w A.in1 I fp wr G n P St) (hT : ∀ i s, St i s → s.TypeIs (.ref I) "map") (hst : St 0 s) (hfp : ∀ b ∈ fp, b < s.heap.objs.size) (hIn : I < s.heap.objs.size)
    (hQ : ∀ s' acc, Moved wr G s s' → ItemsOf P acc n → Q acc.toList s') (hn : n ≤ sizeLine) : wpAny (model prog w) A (collect (.ref I)) Q E s := by
  have hSf : s.heap.objs.size ∉ fp := fun hm => Nat.lt_irrefl _ (hfp _ hm)
  have hSI : s.heap.objs.size ≠ I := Nat.ne_of_gt hIn
  unfold collect
  refine wpAny_bind (wpAny_runValue (codeAny_builtin PySem.F.entry_proto_collect ?_))
  rw [Around.under_plainId PySem.F.plain_proto_collect _]
  show wpAny _ A.in1 (newList [] >>= fun l => again (.builtin "list.__iadd__" ⟨[l, .ref I], []⟩)) _ _ s
  refine wpAny_bind (wpAny_newObj_type ?_)
  refine wpAny_pure ⟨plainId_quiet PySem.F.plain_list_iadd _, codeAny_builtin PySem.F.entry_list_iadd ?_⟩
  rw [Around.under_plainId PySem.F.plain_list_iadd _]
  have hst₁ := W.frame 0 s (s.heap.push { cls := .type "list", data := .seq ([] : List Value).toArray }) s.toks hst (Nat.le_refl _) fun b _ o e => Heap.get?_push_of_some _ e
  show wpAny _ A.in1 (Builtin.List.listExtendWith (.ref s.heap.objs.size) (.ref I) (.ref s.heap.objs.size)) _ _ _
  unfold Builtin.List.listExtendWith
  refine wpAny_bind (wpAny_typeOf (hT 0 _ hst₁) ?_)
  have h1 : Builtin.List.listSameRef (.ref s.heap.objs.size) (.ref I) = false := by simp [Builtin.List.listSameRef, hSI]
  have h2 : (Value.type "map" == Value.type "list") = false := by decide
  have h3 : (Value.type "map" == Value.type "tuple") = false := by decide
  simp only [h1, h2, h3, Bool.or_false, Bool.false_eq_true, if_false]
  refine wpAny_bind (W.self 0 _ _ _ hst₁ ?_)
  refine wpAny_bind (wpAny_holding ?_)
  unfold Builtin.List.listLengthHint
  refine wpAny_bind (wpAny_specialOf (hT 0 _ hst₁) map_no_len ?_)
  show wpAny _ A.in1 (specialOf (Value.ref I) (Str.ofString "__length_hint__") >>= _) _ _ _
  refine wpAny_bind (wpAny_specialOf (hT 0 _ hst₁) map_no_hint ?_)
  refine wpAny_pure ?_
  show wpAny _ A.in1 (rule "list.extend.makes-room" >>= fun _ => Builtin.List.listTouch (.ref s.heap.objs.size) >>= fun _ =>
    again (.builtin "list.extend.loop" ⟨[.ref s.heap.objs.size, .ref I, .ref s.heap.objs.size], []⟩)) _ _ _
  refine wpAny_bind (wpAny_rule ?_)
  have hS₁ : (s.heap.push { cls := .type "list", data := .seq ([] : List Value).toArray }).get? s.heap.objs.size = some { cls := .type "list", data := .seq ([] : List Value).toArray } := Heap.get?_push_size _ rfl
  refine wpAny_bind ?_
  show wpAny _ A.in1 (updateSeq s.heap.objs.size (·.push .none) >>= fun _ => updateSeq s.heap.objs.size (·.pop)) _ _ _
  refine wpAny_bind (wpAny_updateSeq hS₁ rfl ?_)
  have hS₂ := Heap.get?_update_self (Obj.mapSeq (·.push Value.none)) hS₁ rfl
  refine wpAny_updateSeq hS₂ rfl ?_
  have hS₃ := Heap.get?_update_self (Obj.mapSeq (·.pop)) hS₂ rfl
  have oth : ∀ b o, b ≠ s.heap.objs.size → (s.heap.push { cls := .type "list", data := .seq ([] : List Value).toArray }).get? b = some o →
      (((s.heap.push { cls := .type "list", data := .seq ([] : List Value).toArray }).update s.heap.objs.size (Obj.mapSeq (·.push Value.none))).update s.heap.objs.size (Obj.mapSeq (·.pop))).get? b = some o :=
    fun b o hb e => (Heap.get?_update_other _ _ (Ne.symm hb)).trans ((Heap.get?_update_other _ _ (Ne.symm hb)).trans e)
  refine wpAny_pure ⟨plainId_quiet PySem.F.plain_extend_loop _, codeAny_extend_loopS W hn _ hSf _ n 0 _ _ _ rfl (Nat.zero_le _)
    (W.frame 0 ({ s with heap := s.heap.push { cls := .type "list", data := .seq ([] : List Value).toArray } } : Shared) _ s.toks hst₁ (Nat.le_refl _) fun b hb o e => oth b o (fun h => hSf (h ▸ hb)) e) hS₃ (ItemsOf.nil P) fun s' acc' c' hm hS' hacc => ?_⟩
  show wpAny _ A (load s.heap.objs.size >>= _) _ _ s'
  refine wpAny_bind (wpAny_load hS' ?_)
  refine wpAny_pure (hQ s' acc' (Moved.drop_new (o := { cls := .type "list", data := .seq ([] : List Value).toArray }) (tk := s.toks) (Moved.trans W.gtrans ((Moved.refl W.grefl).then_heap (by first | exact Nat.le_refl _ | exact Nat.le_succ _ | omega) fun b o hb e => ?_) hm) (Nat.le_refl _)) hacc)
  exact oth b o (fun h => hb (h ▸ List.mem_cons_self)) e
theorem code_tuple_map {Q₁ : Value → Shared → Prop} (W : WalksS prog w A.in1.in1 I fp wr G n P St) (hT : ∀ i s, St i s → s.TypeIs (.ref I) "map") (hst : St 0 s) (hfp : ∀ b ∈ fp, b < s.heap.objs.size) (hIn : I < s.heap.objs.size)
    (h : ∀ s' acc, Moved wr G s s' → ItemsOf P acc n → Q₁ (.ref s'.heap.objs.size) { s' with heap := s'.heap.push { cls := .type "tuple", data := .seq acc } }) (hsz : n ≤ sizeLine) :
    codeAny (model prog w) A (.call (.builtin "tuple.__new__") ⟨[.type "tuple", .ref I], []⟩) (wants Q₁ E) s := by
  refine codeAny_of_tree ?_
  show wpAny _ A.in1 (do checkBuiltinCall "tuple.__new__" ⟨[.type "tuple", .ref I], []⟩; again (.builtin "tuple.__new__" ⟨[.type "tuple", .ref I], []⟩)) _ _ s
  refine wpAny_bind (wpAny_of_eq (PySem.F.newCall_tuple_1 _) (wpAny_pure ⟨plainId_quiet PySem.F.plain_tuple_new _, codeAny_builtin PySem.F.entry_tuple_new ?_⟩))
  rw [Around.under_plainId PySem.F.plain_tuple_new _]
  have hsub := sub_tuple_self
  have hinit := init_tuple_lookup
  have hmh := madeHere_tuple
  have hTI := hT 0 s hst
  wp_walk using wpAny_typeOf hTI, collect_map (hn := hsz) W hT hst hfp hIn
  intro s' acc hm hacc
  show wpAny _ _ (Builtin.Tuple.tupleExact acc.toList.toArray >>= fun v => ret v) _ _ _
  unfold Builtin.Tuple.tupleExact
  refine wpAny_bind (wpAny_newObj_type ?_ (by show acc.toList.toArray.size ≤ sizeLine; simp only [Array.toArray_toList]; rw [hacc.1]; exact hsz))
  refine wpAny_pure ?_
  have e : acc.toList.toArray = acc := by simp
  rw [e]
  exact h s' acc hm hacc
theorem call_tuple_map {Q : Value → Shared → Prop} (W : WalksS prog w A.in1.in1.in1 I fp wr G n P St) (hT : ∀ i s, St i s → s.TypeIs (.ref I) "map") (hst : St 0 s) (hfp : ∀ b ∈ fp, b < s.heap.objs.size) (hIn : I < s.heap.objs.size)
    (hQ : ∀ s' acc, Moved wr G s s' → ItemsOf P acc n → Q (.ref s'.heap.objs.size) { s' with heap := s'.heap.push { cls := .type "tuple", data := .seq acc } }) (hsz : n ≤ sizeLine) :
    wpAny (model prog w) A (call (.type "tuple") [.ref I]) Q E s := by
  refine callType_codes (Q₁ := fun obj s₁ => s₁.TypeIs obj "tuple" ∧ Q obj s₁) PySem.F.called_tuple (PySem.F.typeCall_tuple_1 _) PySem.F.entry_object_init
    (code_tuple_map (hsz := hsz) W hT hst hfp hIn fun s' acc hm hacc => ⟨⟨_, Heap.get?_push_size _ rfl, rfl⟩, hQ s' acc hm hacc⟩) fun obj s₁ h₁ => ?_
  exact ⟨h₁.1, PySem.F.args_object_init_2 obj _, object_init_meets PySem.F.called_tuple.init.lookup PySem.F.called_tuple.made (by decide) prog w A.in1 _ s₁ ⟨h₁.1, rfl, h₁.2⟩⟩
end
end Mine
open PySem.SeqAt
namespace Mine
def MapO (TA : Addr) (f : Value) (o : Obj) : Prop := o = { cls := .type "map", dict := none, data := .fields #[.ref TA, f], slots := #[] }
def One (v : Value) (o : Obj) : Prop := o = { cls := .type "tuple", data := .seq #[v] }
section
variable {prog : Program} {w : World} {A : Around} {E : Value → Shared → Prop} {s s₁ : Shared} {L m TA J t : Addr} {b : List (Str × Value)} {H : List Ent} {Q : Value → Shared → Prop} {f : Value} {vs : List Value}
theorem c_map (S : St s₁ L b H s) (ht : (t, Tup vs) ∈ H) (h : ∀ s' m TA J, St s₁ L b ((m, MapO TA f) :: (TA, One (.ref J)) :: (J, TI t 0) :: H) s' → Q (.ref m) s') : wpAny (model prog w) A (call (.type "map") [f, .ref t]) Q E s := by
  refine call_map (xs := vs.toArray) (Tup.isTup (S.get ht)) fun h' g1 g2 g3 hz hk => ?_
  have n0 : s.heap.get? s.heap.objs.size = none := get?_size_none _
  have n1 : s.heap.get? (s.heap.objs.size + 1) = none := Heap.get?_none_of_le (Nat.le_succ _)
  have n2 : s.heap.get? (s.heap.objs.size + 2) = none := Heap.get?_none_of_le (Nat.le_trans (Nat.le_succ _) (Nat.le_succ _))
  refine h _ _ (s.heap.objs.size + 1) s.heap.objs.size ?_
  have S0 : St s₁ L b H { s with heap := h', toks := s.toks } := S.ext s.toks hk
  obtain ⟨o3, h3, h3c, h3d⟩ := g3
  refine ⟨S0.ns, S0.keep, S0.fr, ?_, ?_, ?_, S0.eq⟩
  · intro p hp
    rcases List.mem_cons.mp hp with rfl | hp
    · exact ⟨_, g1, rfl⟩
    rcases List.mem_cons.mp hp with rfl | hp
    · exact ⟨_, g2, rfl⟩
    rcases List.mem_cons.mp hp with rfl | hp
    · exact ⟨o3, h3, h3c, h3d⟩
    exact S0.nw p hp
  · have hL : ∀ k, s.heap.objs.size + k ≠ L := fun k e => by obtain ⟨o, ho, _⟩ := S.ns; have := Heap.lt_size ho; rw [← e] at this; exact absurd this (Nat.not_lt.mpr (Nat.le_add_right _ _))
    have h1 : ∀ k, s₁.heap.get? (s.heap.objs.size + k) = none := fun k => by
      cases e : s₁.heap.get? (s.heap.objs.size + k) with
      | none => rfl
      | some o => exact absurd (Heap.lt_size (S.keep _ _ e)) (Nat.not_lt.mpr (Nat.le_add_right _ _))
    intro p hp
    rcases List.mem_cons.mp hp with rfl | hp
    · exact ⟨hL 2, h1 2⟩
    rcases List.mem_cons.mp hp with rfl | hp
    · exact ⟨hL 1, h1 1⟩
    rcases List.mem_cons.mp hp with rfl | hp
    · exact ⟨hL 0, h1 0⟩
    exact S0.fresh p hp
  · have hH : ∀ k, s.heap.objs.size + k ∉ H.map (·.1) := fun k hm => by
      obtain ⟨q, hq, e⟩ := List.mem_map.mp hm
      obtain ⟨o, ho, _⟩ := S.nw q hq
      have := Heap.lt_size ho
      rw [e] at this
      exact absurd this (Nat.not_lt.mpr (Nat.le_add_right _ _))
    simp only [List.map_cons, List.nodup_cons, List.mem_cons, not_or]
    exact ⟨⟨Nat.ne_of_gt (Nat.lt_succ_self _), Nat.ne_of_gt (Nat.lt_add_of_pos_right (by decide)), hH 2⟩, ⟨Nat.ne_of_gt (Nat.lt_succ_self _), hH 1⟩, hH 0, S.nd⟩
/-- a step that leaves all but one made object -/
theorem St.but {P : Obj → Prop} {X : List Ent} (S : St s₁ L b (X ++ (J, P) :: H) s) {s' : Shared} (hk : ∀ c o, c ≠ J → s.heap.get? c = some o → s'.heap.get? c = some o) (he : ∃ h tk, s' = { s with heap := h, toks := tk }) : St s₁ L b H s' := by
  obtain ⟨h, tk, rfl⟩ := he
  have S0 : St s₁ L b ((J, P) :: H) s := S.sub (List.sublist_append_right X _)
  exact S0.gone tk hk
theorem map_walks (S : St s₁ L b ((m, MapO TA f) :: (TA, One (.ref J)) :: (J, TI t 0) :: H) s) (ht : (t, Tup vs) ∈ H) {A' : Around} {P : Nat → Value → Prop} (hh : A'.handled = none)
    (hf : ∀ i x (s' : Shared) (Q : Value → Shared → Prop) (E : Value → Shared → Prop), vs[i]? = some x → (∀ b o, b ≠ J → s.heap.get? b = some o → s'.heap.get? b = some o) →
      (∀ v h' tk, P i v → (∀ b o, s'.heap.get? b = some o → h'.get? b = some o) → Q v { s' with heap := h', toks := tk }) → wpAny (model prog w) A'.in1 (call f [x]) Q E s') :
    Walks prog w A' m (J :: List.range s.heap.objs.size) [J] vs.length P (MapSt s.heap m TA J t f vs.toArray) ∧ MapSt s.heap m TA J t f vs.toArray 0 s.heap ∧ (∀ b ∈ J :: List.range s.heap.objs.size, b < s.heap.objs.size) ∧ m < s.heap.objs.size ∧ m ≠ J ∧ IsMap s.heap m TA f := by
  obtain ⟨o1, g1, e1⟩ := S.get (a := m) (P := MapO TA f) (by simp)
  obtain ⟨o2, g2, e2⟩ := S.get (a := TA) (P := One (.ref J)) (by simp)
  obtain ⟨o3, g3, c3, d3⟩ := S.get (a := J) (P := TI t 0) (by simp)
  rw [e1] at g1
  rw [e2] at g2
  have nd := S.nd
  simp only [List.map_cons, List.nodup_cons, List.mem_cons, not_or] at nd
  have htJ : t ≠ J := fun e => nd.2.2.1 (List.mem_map.mpr ⟨_, ht, e⟩)
  have hW := Walks.map (prog := prog) (w := w) (A := A') (xs := vs.toArray) (P := P) hh g1 g2 (Tup.isTup (S.get (by simp [ht]))) nd.1.2.1 nd.2.1.1 htJ (fun i x s' Q E hx hk hq => hf i x s' Q E (by simpa using hx) hk hq)
  rw [List.size_toArray] at hW
  refine ⟨hW, ⟨fun b o _ e => e, ⟨o3, g3, c3, d3⟩⟩, ?_, Heap.lt_size g1, nd.1.2.1, g1⟩
  intro b hb
  rcases List.mem_cons.mp hb with rfl | hb
  · exact Heap.lt_size g3
  · exact List.mem_range.mp hb
theorem t_tupmap (S : St s₁ L b ((m, MapO TA f) :: (TA, One (.ref J)) :: (J, TI t 0) :: H) s) (ht : (t, Tup vs) ∈ H) (P : Nat → Value → Prop) (hh : A.handled = none) (hsz : vs.length ≤ sizeLine)
    (hf : ∀ i x (s' : Shared) (Q : Value → Shared → Prop) (E : Value → Shared → Prop), vs[i]? = some x → (∀ b o, b ≠ J → s.heap.get? b = some o → s'.heap.get? b = some o) →
      (∀ v h' tk, P i v → (∀ b o, s'.heap.get? b = some o → h'.get? b = some o) → Q v { s' with heap := h', toks := tk }) → wpAny (model prog w) A.in1.in1.in1.in1 (call f [x]) Q E s')
    (h : ∀ s' D ys, ys.length = vs.length → (∀ i y, ys[i]? = some y → P i y) → St s₁ L b ((D, Tup ys) :: H) s' → Q (.ref D) s') : wpAny (model prog w) A (call (.type "tuple") [.ref m]) Q E s := by
  obtain ⟨W, h0, hfp, hm, hmJ, hM⟩ := map_walks S ht (A' := A.in1.in1.in1) (P := P) hh hf
  refine call_tuple_map W.toS (fun i s' st => ⟨_, st.keep _ _ hmJ hM, rfl⟩) h0 hfp hm (fun s' acc hmv hacc => ?_) hsz
  have S' : St s₁ L b H s' := St.but (X := [_, _]) S (fun c o hc e => hmv.heap c o (by simpa using hc) e) ⟨s'.heap, s'.toks, Moved.eq_with hmv⟩
  refine h _ _ acc.toList (by rw [Array.length_toList]; exact hacc.1) (fun i y hy => hacc.2 i y (by rw [← Array.getElem?_toList]; exact hy)) ?_
  exact S'.push (o := { cls := .type "tuple", data := .seq acc }) (P := Tup acc.toList) ⟨rfl, rfl, rfl, 0, by simp⟩ s'.toks
/-! ### a call out of any state -/
theorem call_fn0 {K : Frag} {g : Addr} {oc : Value} {od : Option Addr} {osl : Array (Option Value)} {fd : FuncData} {body : List Stmt} {args : List Value} {binds b' : List (Str × Value)}
    (X : K.In s.heap) (hlim : s.heap.NoLimit) (ho : K.lookup g = some ⟨oc, od, .func fd, osl⟩) (hcd : codeIn K fd.code fd.qualname = true) (hroom : A.depth < recursionLimit)
    (hbody : fd.body = .stmts body) (hbind : BindsTo s fd ⟨args, []⟩ binds) (hcell : ∀ x ∈ fd.scope.names, x.2 ≠ .cell) (hloc : ∀ x ∈ binds, fd.scope.names.lookup x.1 = some .local) (hb : b' = binds.reverse)
    (h : ∀ s' L', St s L' b' [] s' →
      wpAny (model prog w) (A.deeper (callEnv fd L' g)) (execs body (callEnv fd L' g)) (fun fl s'' => Q (match fl with | .ret v => v | _ => .none) s'') (fun _ _ => False) s')
    (hco : fd.scope.isCoroutine = false) (hgen : fd.scope.isGenerator = false) (hk : fd.scope.kind = .function) : wpAny (model prog w) A (call (.ref g) args) Q E s := by
  refine wpAny_call (codeAny_call_def hroom (X _ _ ho) rfl hlim (codeRec_of X hcd) hbody hbind hcell hloc (fun h₀ hns hk₀ => ?_) hco hgen hk)
  refine wpAny_mono (h { s with heap := h₀, toks := s.toks + binds.length } s.heap.objs.size ?_) (fun _ _ q => q) (fun _ _ q => q.elim)
  refine ⟨Frm.of_Ns hns ?_, hk₀, get?_size_none _, (fun _ hp => nomatch hp), (fun _ hp => nomatch hp), List.nodup_nil, ⟨_, _, rfl⟩⟩
  intro x v e
  subst hb
  rw [← e]
  clear h hns hk₀ hloc hbind e
  induction binds.reverse with
  | nil => rfl
  | cons p r ih =>
    obtain ⟨n, u⟩ := p
    simp only [List.lookup_cons, lk, ih]
    by_cases hx : n = x
    · subst hx; simp
    · have : (x == n) = false := by simp [Ne.symm hx]
      simp [this, hx]
/-- what a call that only makes things leaves -/
theorem St.pure {b' : List (Str × Value)} {L' : Addr} {H' : List Ent} {s' : Shared} (S : St s L' b' H' s') : ∃ h' tk, s' = { s with heap := h', toks := tk } ∧ ∀ c o, s.heap.get? c = some o → h'.get? c = some o := by
  obtain ⟨h', tk, e⟩ := S.eq
  exact ⟨h', tk, e, fun c o x => by have := S.keep c o x; rw [e] at this; exact this⟩
/-- a try whose body does not raise -/
theorem ex_try0 {env : Env} {body hbody : List Stmt} {tt : Option Expr} {nm : Option Str} {pos hpos : Pos} {Q : Flow → Shared → Prop}
    (hbody' : wpAny (model prog w) A (execs body env) Q (fun _ _ => False) s) :
    wpAny (model prog w) A (exec (.Try body [.ExceptHandler tt nm hbody hpos] [] [] pos) env) Q E s := by
  refine wpAny_Try_except (wpAny_mono hbody' (fun f s' hq => ?_) fun ev s' hr => hr.elim)
  cases f with
  | next => exact wpAny_execs_nil hq
  | _ => exact hq
end
end Mine
open PySem.SeqAt
namespace Mine
section
variable {prog : Program} {w : World} {A : Around} {E : Value → Shared → Prop} {s s₁ : Shared} {L I : Addr} {b : List (Str × Value)} {H : List Ent} {env : Env}
/-- some made objects pass from one state to the next -/
theorem St.swapX {X X' : List Ent} {wr : List Addr} (S : St s₁ L b (X ++ H) s) (hX : X.map (·.1) = wr) (hX' : X'.map (·.1) = wr) {h' : Heap} (tk : Nat) (hk : ∀ c o, c ∉ wr → s.heap.get? c = some o → h'.get? c = some o)
    (hP : ∀ p ∈ X', ∃ o, h'.get? p.1 = some o ∧ p.2 o) : St s₁ L b (X' ++ H) { s with heap := h', toks := tk } := by
  have hmem : ∀ a ∈ wr, ∃ p ∈ X, p.1 = a := fun a ha => by rw [← hX] at ha; obtain ⟨p, hp, e⟩ := List.mem_map.mp ha; exact ⟨p, hp, e⟩
  have hnd : ((X' ++ H).map (·.1)).Nodup := by
    have := S.nd
    rw [List.map_append, hX] at this
    rw [List.map_append, hX']; exact this
  have hL : L ∉ wr := fun h => by obtain ⟨p, hp, e⟩ := hmem L h; exact (S.fresh p (List.mem_append_left _ hp)).1 e
  have h1 : ∀ a o, s₁.heap.get? a = some o → a ∉ wr := fun a o e h => by
    obtain ⟨p, hp, e'⟩ := hmem a h
    have := (S.fresh p (List.mem_append_left _ hp)).2
    rw [e', e] at this; cases this
  have hH : ∀ p ∈ H, p.1 ∉ wr := fun p hp h => by
    have := S.nd
    rw [List.map_append, hX] at this
    exact (List.nodup_append.mp this).2.2 p.1 h p.1 (List.mem_map.mpr ⟨p, hp, rfl⟩) rfl
  refine ⟨?_, fun a o e => hk _ _ (h1 a o e) (S.keep a o e), S.fr, ?_, ?_, hnd, ?_⟩
  · obtain ⟨o, ho, h⟩ := S.ns; exact ⟨o, hk _ _ hL ho, h⟩
  · intro p hp
    rcases List.mem_append.mp hp with hp | hp
    · exact hP p hp
    · obtain ⟨o, ho, h⟩ := S.nw p (List.mem_append_right _ hp); exact ⟨o, hk _ _ (hH p hp) ho, h⟩
  · intro p hp
    rcases List.mem_append.mp hp with hp | hp
    · have : p.1 ∈ wr := by rw [← hX']; exact List.mem_map.mpr ⟨p, hp, rfl⟩
      obtain ⟨q, hq, e⟩ := hmem _ this
      rw [← e]; exact S.fresh q (List.mem_append_left _ hq)
    · exact S.fresh p (List.mem_append_right _ hp)
  · obtain ⟨h, tk', e⟩ := S.eq; exact ⟨h', tk, by rw [e]⟩
/-- what a turn of a for over pairs leaves -/
def TurnEndX (s₁ : Shared) (L : Addr) (X : List Ent) (J : List (Str × Value) → List Ent → Prop) (Q : Flow → Shared → Prop) (f : Flow) (s : Shared) : Prop :=
  match f with
  | .next | .cont => ∃ b H, St s₁ L b (X ++ H) s ∧ J b H
  | .brk => Q .next s
  | .ret v => Q (.ret v) s
theorem loop_pairs {fp wr : List Addr} {n : Nat} {Pt : Nat → Array Value → Prop} {Stt : Nat → Heap → Prop} {Mid : Nat → Addr → Heap → Prop} {xi xc : Str} {pk pv pt : Pos} {x1 : Nat} {body : List Stmt} {Q : Flow → Shared → Prop} {RE : Value → Shared → Prop}
    (W : WalksU prog w A I fp wr n Pt Stt Mid) (X : Nat → List Ent) (hXa : ∀ i, (X i).map (·.1) = wr) (hXs : ∀ i b' H' s', St s₁ L b' (X i ++ H') s' → (∃ i, i ≤ n) → Stt i s'.heap) (hXr : ∀ i h, Stt i h → ∀ p ∈ X i, ∃ o, h.get? p.1 = some o ∧ p.2 o)
    (hPt : ∀ i vals, Pt i vals → ∃ v0 v1, vals = #[v0, v1]) (J : Nat → List (Str × Value) → List Ent → Prop)
    (S : St s₁ L b (X 0 ++ H) s) (h0 : J 0 b H) (hh : A.handled = none) (hxi : env.kindOf xi = some .local) (hxc : env.kindOf xc = some .local) (hL : env.locals = L) (hk : env.scope.kind = .function)
    (turn : ∀ i v0 v1 b' H' s', i < n → Pt i #[v0, v1] → J i b' H' → St s₁ L (up xc v1 (up xi v0 b')) (X (i + 1) ++ H') s' → wpAny (model prog w) A (execs body env) (TurnEndX s₁ L (X (i + 1)) (J (i + 1)) Q) (fun _ _ => False) s')
    (done : ∀ b' H' s', J n b' H' → St s₁ L b' H' s' → Q .next s') :
    codeAny (model prog w) A (.forLoop (.Tuple [.Name xi pk, .Name xc pv] x1 pt) (.ref I) body [] env) (fun r s' => match r with | .ok f => Q f s' | .error e => RE e s') s := by
  refine codeAny_forLoop_any (fun k s' => ∃ b' H' i, St s₁ L b' (X i ++ H') s' ∧ J i b' H' ∧ i ≤ n ∧ k = n + 1 - i) ?_ (n + 1) ⟨b, H, 0, S, h0, Nat.zero_le _, rfl⟩
  rintro k s' ⟨b', H', i, S', hJ, hi, rfl⟩
  have hSt := hXs i b' H' s' S' ⟨0, Nat.zero_le _⟩
  by_cases hlt : i < n
  · refine W.item i _ _ _ hlt hSt fun T vals h₁ tk₁ hP hT hMid hk₁ => ?_
    refine W.go _ _ _ i T _ _ _ hMid fun h₂ hSt₂ hk₂ => ?_
    have S₂ : St s₁ L b' (X (i + 1) ++ H') { s' with heap := h₂, toks := tk₁ } := S'.swapX (hXa i) (hXa (i + 1)) tk₁ (fun c o hc e => hk₂ c o hc (hk₁ c o hc e)) (hXr (i + 1) h₂ hSt₂)
    obtain ⟨v0, v1, rfl⟩ := hPt i vals hP
    have hT₂ : h₂.IsTuple T #[v0, v1] := let ⟨o, ho, r⟩ := hT; ⟨o, hk₂ _ _ (W.apart i T h₁ hMid) ho, r⟩
    refine assign_Tuple_tuple (s := { s' with heap := h₂, toks := tk₁ }) hh hT₂ (by rfl) (by rfl) fun h₃ hx₃ => ?_
    have S₃ := S₂.ext tk₁ fun c o e => hx₃ c o (Nat.ne_of_lt (Heap.lt_size e)) e
    show wpAny _ _ (assignInOrder [assign (.Name xi pk) env, assign (.Name xc pv) env] [v0, v1]) _ _ _
    unfold assignInOrder
    refine wpAny_bind (wpAny_holding ?_)
    refine wpAny_assign_Name (st_L S₃ hxi (fun s₄ S₄ => ?_) hL hk)
    unfold assignInOrder
    refine wpAny_bind (wpAny_holding ?_)
    refine wpAny_assign_Name (st_L S₄ hxc (fun s₅ S₅ => ?_) hL hk)
    unfold assignInOrder
    refine wpAny_pure ?_
    refine wpAny_mono (turn i v0 v1 b' H' s₅ hlt hP hJ S₅) (fun f s₆ h₆ => ?_) fun _ _ e => e.elim
    cases f with
    | next => obtain ⟨b'', H'', S₆, hJ₆⟩ := h₆; exact ⟨n + 1 - (i + 1), by omega, b'', H'', i + 1, S₆, hJ₆, hlt, rfl⟩
    | cont => obtain ⟨b'', H'', S₆, hJ₆⟩ := h₆; exact ⟨n + 1 - (i + 1), by omega, b'', H'', i + 1, S₆, hJ₆, hlt, rfl⟩
    | brk => exact h₆
    | ret v => exact h₆
  · have hin : i = n := by omega
    subst hin
    refine W.done _ _ _ hSt fun h₁ tk₁ hk₁ => wpAny_execs_nil (done b' H' _ hJ ?_)
    have := S'.swapX (X' := (X i).map fun p => (p.1, Yes)) (hXa i) (by rw [List.map_map]; exact hXa i) (h' := h₁)
    have hnd := S'.nd
    rw [List.map_append, hXa i] at hnd
    have hLw : L ∉ wr := fun h => by
      rw [← hXa i] at h; obtain ⟨p, hp, e⟩ := List.mem_map.mp h; exact (S'.fresh p (List.mem_append_left _ hp)).1 e
    have h1 : ∀ a o, s₁.heap.get? a = some o → a ∉ wr := fun a o e h => by
      rw [← hXa i] at h; obtain ⟨p, hp, e'⟩ := List.mem_map.mp h
      have := (S'.fresh p (List.mem_append_left _ hp)).2
      rw [e', e] at this; cases this
    have hHw : ∀ p ∈ H', p.1 ∉ wr := fun p hp h => (List.nodup_append.mp hnd).2.2 p.1 h p.1 (List.mem_map.mpr ⟨p, hp, rfl⟩) rfl
    refine ⟨?_, fun a o e => hk₁ _ _ (h1 a o e) (S'.keep a o e), S'.fr, ?_, fun p hp => S'.fresh p (List.mem_append_right _ hp), (List.nodup_append.mp hnd).2.1, ?_⟩
    · obtain ⟨o, ho, h⟩ := S'.ns; exact ⟨o, hk₁ _ _ hLw ho, h⟩
    · intro p hp; obtain ⟨o, ho, h⟩ := S'.nw p (List.mem_append_right _ hp); exact ⟨o, hk₁ _ _ (hHw p hp) ho, h⟩
    · obtain ⟨h, tk', e⟩ := S'.eq; exact ⟨h₁, tk₁, by rw [e]⟩
end
end Mine
open PySem.SeqAt
namespace Mine
def EnO (it : Addr) (i : Nat) (o : Obj) : Prop := ∃ old, o = { cls := .type "enumerate", dict := none, data := .fields #[.none, .bool false, .ref it, rawInt i, .none, old], slots := #[] }
def SiO (ty : String) (x : Str) (t : Tok) (i : Nat) (o : Obj) : Prop := o.cls = .type ty ∧ o.data = .fields #[.str x t, .int i 0]
section
variable {prog : Program} {w : World} {A : Around} {E : Value → Shared → Prop} {s s₁ : Shared} {L e it : Addr} {b : List (Str × Value)} {H : List Ent} {env : Env} {l : List Nat} {t : Tok}
theorem enum_walks (hh : A.handled = none) (hei : e ≠ it) (x : Str) : ∃ Mid, WalksU prog w A e [e, it] [e, it] x.cps.size (fun i vals => ∃ tk c u, x.cps[i]? = some c ∧ vals = #[.int i tk, .str ⟨#[c]⟩ u]) (fun i h => (∃ old, IsEnum h e it i old) ∧ h.IsStrIter it (strIterType x) x t i) Mid := by
  have key : ∀ ty, (Draws prog w A.in1 it [it] x.cps.size (fun i v => ∃ c u, x.cps[i]? = some c ∧ v = .str ⟨#[c]⟩ u) (fun i h => h.IsStrIter it ty x t i)) → ∃ Mid, WalksU prog w A e [e, it] [e, it] x.cps.size (fun i vals => ∃ tk c u, x.cps[i]? = some c ∧ vals = #[.int i tk, .str ⟨#[c]⟩ u]) (fun i h => (∃ old, IsEnum h e it i old) ∧ h.IsStrIter it ty x t i) Mid := by
    intro ty D
    have W := (WalksT.enumerateD D e hei (by simpa using hei) (by simp)).toU
    refine ⟨_, ⟨W.sub, W.frame, fun i s Q E hi st hQ => W.item i s Q E hi st fun T vals h' tk hP hT hm hk => hQ T vals h' tk ?_ hT hm hk, W.go, W.apart, W.done, W.self⟩⟩
    obtain ⟨t', v, ⟨c, u, hc, rfl⟩, rfl⟩ := hP
    exact ⟨t', c, u, hc, rfl⟩
  unfold strIterType
  split
  · exact key _ (Draws.strAscii (A := A.in1) hh it x t)
  · exact key _ (Draws.strWide (A := A.in1) hh it x t)
theorem c_enum {Q : Value → Shared → Prop} (S : St s₁ L b H s) (h : ∀ s' e it, e ≠ it → St s₁ L b ((e, EnO it 0) :: (it, SiO (strIterType (T l)) (T l) t 0) :: H) s' → Q (.ref e) s') : wpAny (model prog w) A (call (.type "enumerate") [.str (T l) t]) Q E s := by
  refine call_enumerate_str fun h' he hit hsz hk => ?_
  obtain ⟨o, ho, hoc, hod⟩ := hit
  refine h _ _ s.heap.objs.size (Nat.succ_ne_self _) ?_
  have S0 : St s₁ L b H { s with heap := h', toks := s.toks } := S.ext s.toks hk
  have hL : ∀ k, s.heap.objs.size + k ≠ L := fun k e => by obtain ⟨o, ho, _⟩ := S.ns; have := Heap.lt_size ho; rw [← e] at this; exact absurd this (Nat.not_lt.mpr (Nat.le_add_right _ _))
  have h1 : ∀ k, s₁.heap.get? (s.heap.objs.size + k) = none := fun k => by
    cases e : s₁.heap.get? (s.heap.objs.size + k) with
    | none => rfl
    | some o => exact absurd (Heap.lt_size (S.keep _ _ e)) (Nat.not_lt.mpr (Nat.le_add_right _ _))
  have hH : ∀ k, s.heap.objs.size + k ∉ H.map (·.1) := fun k hm => by
    obtain ⟨q, hq, e⟩ := List.mem_map.mp hm
    obtain ⟨o, ho, _⟩ := S.nw q hq
    have := Heap.lt_size ho
    rw [e] at this
    exact absurd this (Nat.not_lt.mpr (Nat.le_add_right _ _))
  refine ⟨S0.ns, S0.keep, S0.fr, ?_, ?_, ?_, S0.eq⟩
  · intro p hp
    rcases List.mem_cons.mp hp with rfl | hp
    · exact ⟨_, he, .none, rfl⟩
    rcases List.mem_cons.mp hp with rfl | hp
    · exact ⟨o, ho, hoc, hod⟩
    exact S0.nw p hp
  · intro p hp
    rcases List.mem_cons.mp hp with rfl | hp
    · exact ⟨hL 1, h1 1⟩
    rcases List.mem_cons.mp hp with rfl | hp
    · exact ⟨hL 0, h1 0⟩
    exact S0.fresh p hp
  · simp only [List.map_cons, List.nodup_cons, List.mem_cons, not_or]
    exact ⟨⟨Nat.succ_ne_self _, hH 1⟩, hH 0, S.nd⟩
theorem for_enum {xi xc : Str} {pk pv pt : Pos} {x1 : Nat} {body : List Stmt} {Q : Flow → Shared → Prop} (J : Nat → List (Str × Value) → List Ent → Prop) (S : St s₁ L b ((e, EnO it 0) :: (it, SiO (strIterType (T l)) (T l) t 0) :: H) s) (hei : e ≠ it) (h0 : J 0 b H)
    (hh : A.handled = none) (hxi : env.kindOf xi = some .local) (hxc : env.kindOf xc = some .local) (hL : env.locals = L) (hk : env.scope.kind = .function)
    (turn : ∀ i c ti tc X b' H' s', l[i]? = some c → J i b' H' → St s₁ L (up xc (.str (T [c]) tc) (up xi (.int (i : Nat) ti) b')) (X ++ H') s' → wpAny (model prog w) A (execs body env) (TurnEndX s₁ L X (J (i + 1)) Q) (fun _ _ => False) s')
    (done : ∀ b' H' s', J l.length b' H' → St s₁ L b' H' s' → Q .next s') : ForAt prog w A (.Tuple [.Name xi pk, .Name xc pv] x1 pt) body env Q E (.ref e) s := by
  obtain ⟨Mid, W⟩ := enum_walks (prog := prog) (w := w) (A := A) (t := t) hh hei (T l)
  have hsz : (T l).cps.size = l.length := by simp [T]
  rw [hsz] at W
  obtain ⟨o, ho, old, rfl⟩ := S.get (List.mem_cons_self ..)
  refine wpAny_pyIter_enum ho ?_
  refine loop_pairs W (fun i => [(e, EnO it i), (it, SiO (strIterType (T l)) (T l) t i)]) (fun i => rfl) (fun i b' H' s' S' _ => ?_) (fun i h st p hp => ?_) (fun i vals hP => ?_) J S h0 hh hxi hxc hL hk (fun i v0 v1 b' H' s' hi hP hJ S' => ?_) done
  · obtain ⟨o1, h1, old, e1⟩ := S'.get (a := e) (P := EnO it i) (by simp)
    obtain ⟨o2, h2, hc2, hd2⟩ := S'.get (a := it) (P := SiO (strIterType (T l)) (T l) t i) (by simp)
    rw [e1] at h1
    exact ⟨⟨old, h1⟩, o2, h2, hc2, hd2⟩
  · obtain ⟨⟨old, h1⟩, o2, h2, hc2, hd2⟩ := st
    rcases List.mem_cons.mp hp with rfl | hp
    · exact ⟨_, h1, old, rfl⟩
    · rw [List.mem_singleton.mp hp]; exact ⟨o2, h2, hc2, hd2⟩
  · obtain ⟨tk, c, u, _, rfl⟩ := hP; exact ⟨_, _, rfl⟩
  · obtain ⟨tk, c, u, hc, e⟩ := hP
    have e0 : v0 = .int i tk ∧ v1 = .str ⟨#[c]⟩ u := by
      have := congrArg Array.toList e
      simp at this; exact this
    obtain ⟨rfl, rfl⟩ := e0
    exact turn i c tk u _ b' H' s' (by simpa [T] using hc) hJ S'
end
end Mine
open PySem.SeqAt
namespace Mine
theorem argBest_best {α : Type} (lt : α → α → Prop) [DecidableRel lt] (tr : ∀ a b c, lt a b → lt b c → lt a c) (ir : ∀ a, ¬ lt a a) (f : Nat → α) : ∀ k, argBest (fun i j => decide (lt (f i) (f j))) k ≤ k ∧ ∀ j, j ≤ k → ¬ lt (f j) (f (argBest (fun i j => decide (lt (f i) (f j))) k))
  | 0 => ⟨Nat.le_refl _, fun j hj => by have : j = 0 := by omega
                                        subst this; exact ir _⟩
  | k + 1 => by
    obtain ⟨h1, h2⟩ := argBest_best lt tr ir f k
    unfold argBest
    by_cases h : lt (f (k + 1)) (f (argBest (fun i j => decide (lt (f i) (f j))) k))
    · rw [if_pos (by simpa using h)]
      refine ⟨Nat.le_refl _, fun j hj hl => ?_⟩
      by_cases e : j = k + 1
      · subst e; exact ir _ hl
      · exact h2 j (by omega) (tr _ _ _ hl h)
    · rw [if_neg (by simpa using h)]
      refine ⟨by omega, fun j hj hl => ?_⟩
      by_cases e : j = k + 1
      · subst e; exact h hl
      · exact h2 j (by omega) hl
section
variable {prog : Program} {w : World} {A : Around} {E : Value → Shared → Prop} {s s₁ : Shared} {L t m TA J : Addr} {b : List (Str × Value)} {H : List Ent} {Q : Value → Shared → Prop} {vs : List Value} {ls : List (List Nat)}
theorem tx_getD (h : TxAre vs ls) {i : Nat} {v : Value} (hv : vs[i]? = some v) : ∃ u, v = .str (T (ls.getD i [])) u := by
  obtain ⟨l, u, rfl, hl⟩ := h.at i v hv
  exact ⟨u, by simp [List.getD, hl]⟩
theorem c_minT (S : St s₁ L b H s) (ht : (t, Tup vs) ∈ H) (htx : TxAre vs ls) (hne : ls ≠ []) (hh : A.handled = none) (h : ∀ s' l u, l ∈ ls → (∀ k ∈ ls, ¬ k < l) → St s₁ L b H s' → Q (.str (T l) u) s') :
    wpAny (model prog w) A (call (.builtin "min") [.ref t]) Q E s := by
  have hlen : vs.length = ls.length := htx.length
  have hpos : 0 < ls.length := List.length_pos_iff.mpr hne
  refine call_min_walk ?_
  have htup : s.heap.IsTuple t vs.toArray := Tup.isTup (S.get ht)
  have hlt : t < s.heap.objs.size := let ⟨o, ho, _⟩ := htup; Heap.lt_size ho
  refine wpAny_pyIter_tuple htup ?_
  refine ⟨_, _, _, _, _, _, fun i j => decide (ls.getD i [] < ls.getD j []), rfl, Walks.tuple (A := A.in1) hh s.heap.objs.size t (Nat.ne_of_lt hlt) vs.toArray, ⟨⟨_, Heap.get?_push_size _ rfl, rfl, rfl⟩, htup.push _⟩, ?_, by simp; omega, ?_, ?_⟩
  · intro c hc
    show c < (s.heap.push _).objs.size
    rw [Heap.size_push]
    simp at hc
    rcases hc with rfl | rfl
    · exact Nat.lt_succ_self _
    · exact Nat.lt_succ_of_lt hlt
  · intro i j vi vj s' Q' E' hi hj hq
    obtain ⟨u, rfl⟩ := tx_getD htx (by simpa using hi)
    obtain ⟨u', rfl⟩ := tx_getD htx (by simpa using hj)
    exact PyProof.Rows.lt_str (by simpa using hq)
  · intro v h' tk hP hk
    obtain ⟨b1, b2⟩ := argBest_best (fun a c : List Nat => a < c) (fun a b c h1 h2 => List.lt_trans h1 h2) (fun a => List.lt_irrefl a) (fun i => ls.getD i []) (vs.toArray.size - 1)
    generalize argBest (fun i j => decide (ls.getD i [] < ls.getD j [])) (vs.toArray.size - 1) = k at hP b1 b2
    obtain ⟨u, rfl⟩ := tx_getD htx (by simpa using hP)
    rw [List.size_toArray] at b1 b2
    have hk' : k < ls.length := by omega
    refine h _ _ u ?_ ?_ (S.ext tk fun c o e => hk c o (by simp; exact Nat.ne_of_lt (Heap.lt_size e)) (Heap.get?_push_of_some _ e))
    · simp [List.getD, hk']
    · intro x hx
      obtain ⟨j, hj, rfl⟩ := List.mem_iff_getElem.mp hx
      have := b2 j (by omega)
      simpa [List.getD, hj] using this
theorem c_maxT (S : St s₁ L b H s) (ht : (t, Tup vs) ∈ H) (htx : TxAre vs ls) (hne : ls ≠ []) (hh : A.handled = none) (h : ∀ s' l u, l ∈ ls → (∀ k ∈ ls, ¬ l < k) → St s₁ L b H s' → Q (.str (T l) u) s') :
    wpAny (model prog w) A (call (.builtin "max") [.ref t]) Q E s := by
  have hlen : vs.length = ls.length := htx.length
  have hpos : 0 < ls.length := List.length_pos_iff.mpr hne
  refine call_max_walk ?_
  have htup : s.heap.IsTuple t vs.toArray := Tup.isTup (S.get ht)
  have hlt : t < s.heap.objs.size := let ⟨o, ho, _⟩ := htup; Heap.lt_size ho
  refine wpAny_pyIter_tuple htup ?_
  refine ⟨_, _, _, _, _, _, fun i j => decide (ls.getD j [] < ls.getD i []), rfl, Walks.tuple (A := A.in1) hh s.heap.objs.size t (Nat.ne_of_lt hlt) vs.toArray, ⟨⟨_, Heap.get?_push_size _ rfl, rfl, rfl⟩, htup.push _⟩, ?_, by simp; omega, ?_, ?_⟩
  · intro c hc
    show c < (s.heap.push _).objs.size
    rw [Heap.size_push]
    simp at hc
    rcases hc with rfl | rfl
    · exact Nat.lt_succ_self _
    · exact Nat.lt_succ_of_lt hlt
  · intro i j vi vj s' Q' E' hi hj hq
    obtain ⟨u, rfl⟩ := tx_getD htx (by simpa using hi)
    obtain ⟨u', rfl⟩ := tx_getD htx (by simpa using hj)
    exact P.gt_str (by simpa using hq)
  · intro v h' tk hP hk
    obtain ⟨b1, b2⟩ := argBest_best (fun a c : List Nat => c < a) (fun a b c h1 h2 => List.lt_trans h2 h1) (fun a => List.lt_irrefl a) (fun i => ls.getD i []) (vs.toArray.size - 1)
    generalize argBest (fun i j => decide (ls.getD j [] < ls.getD i [])) (vs.toArray.size - 1) = k at hP b1 b2
    obtain ⟨u, rfl⟩ := tx_getD htx (by simpa using hP)
    rw [List.size_toArray] at b1 b2
    have hk' : k < ls.length := by omega
    refine h _ _ u ?_ ?_ (S.ext tk fun c o e => hk c o (by simp; exact Nat.ne_of_lt (Heap.lt_size e)) (Heap.get?_push_of_some _ e))
    · simp [List.getD, hk']
    · intro x hx
      obtain ⟨j, hj, rfl⟩ := List.mem_iff_getElem.mp hx
      have := b2 j (by omega)
      simpa [List.getD, hj] using this
/-- max(map(len, texts)) -/
theorem c_maxLen (S : St s₁ L b ((m, MapO TA (.builtin "len")) :: (TA, One (.ref J)) :: (J, TI t 0) :: H) s) (ht : (t, Tup vs) ∈ H) (htx : TxAre vs ls) (hne : ls ≠ []) (hh : A.handled = none) (hsz : ∀ l ∈ ls, l.length ≤ sizeLine)
    (h : ∀ s' (M : Nat) u, M ∈ ls.map List.length → (∀ l ∈ ls, l.length ≤ M) → St s₁ L b H s' → Q (.int M u) s') : wpAny (model prog w) A (call (.builtin "max") [.ref m]) Q E s := by
  have hlen : vs.length = ls.length := htx.length
  have hpos : 0 < ls.length := List.length_pos_iff.mpr hne
  obtain ⟨W, h0, hfp, hm, hmJ, hM⟩ := map_walks (prog := prog) (w := w) S ht (A' := A.in1) (P := fun i v => ∃ u, v = .int ((ls.getD i []).length : Nat) u) hh (fun i x s' Q' E' hx hk hq => by
    obtain ⟨u, rfl⟩ := tx_getD htx hx
    have hi : i < ls.length := by rw [← hlen]; exact (List.getElem?_eq_some_iff.mp hx).1
    have hz := hsz (ls.getD i []) (by simp [List.getD, hi])
    have := hq (.int ((ls.getD i []).length : Nat) (s'.toks + 1)) s'.heap (s'.toks + 1 + 1) ⟨_, rfl⟩ (fun _ _ e => e)
    refine len_str (by rw [T_len]; rw [sizeLine_eq] at hz; omega) ?_
    rw [T_len]; exact this)
  refine call_max_walk (W.self 0 _ _ _ h0 ?_)
  refine ⟨_, _, _, _, _, _, fun i j => decide ((ls.getD j []).length < (ls.getD i []).length), rfl, W, h0, hfp, by omega, ?_, ?_⟩
  · rintro i j vi vj s' Q' E' ⟨u, rfl⟩ ⟨u', rfl⟩ hq
    exact gt_int (by simpa using hq)
  · rintro v h' tk ⟨u, rfl⟩ hk
    obtain ⟨b1, b2⟩ := argBest_best (fun a c : Nat => c < a) (fun a b c h1 h2 => Nat.lt_trans h2 h1) (fun a => Nat.lt_irrefl a) (fun i => (ls.getD i []).length) (vs.length - 1)
    generalize argBest (fun i j => decide ((ls.getD j []).length < (ls.getD i []).length)) (vs.length - 1) = k at b1 b2 ⊢
    have hk' : k < ls.length := by omega
    refine h _ _ u ?_ ?_ (St.but (X := [_, _]) S (fun c o hc e => hk c o (by simpa using hc) e) ⟨h', tk, rfl⟩)
    · exact List.mem_map.mpr ⟨_, List.getElem_mem hk', by simp [List.getD, hk']⟩
    · intro x hx
      obtain ⟨j, hj, rfl⟩ := List.mem_iff_getElem.mp hx
      have := b2 j (by omega)
      simp [List.getD, hj, hk'] at this ⊢
      omega
theorem t_truth {l : List Nat} {u : Tok} {Q : Bool → Shared → Prop} (S : St s₁ L b H s) (hz : l.length ≤ sizeLine) (h : ∀ s', St s₁ L b H s' → Q (!l.isEmpty) s') : wpAny (model prog w) A (truthy (.str (T l) u)) Q E s := by
  refine P.truthy_str (by rw [T_len]; rw [sizeLine_eq] at hz; omega) ?_
  have : (((T l).length : Int) != 0) = !l.isEmpty := by
    rw [T_len]; cases l <;> simp; omega
  rw [this]; exact h _ (S.tok _)
end
end Mine
namespace Mine
/-- r is what all of them begin with, and no more -/
def Pre (ls : List (List Nat)) (r : List Nat) : Prop := (∀ l ∈ ls, l.take r.length = r) ∧ (r ∈ ls ∨ ∃ a ∈ ls, ∃ c ∈ ls, a[r.length]? ≠ c[r.length]?)
theorem sandwich : ∀ (r l1 l2 l : List Nat), l1.take r.length = r → l2.take r.length = r → ¬ l < l1 → ¬ l2 < l → l.take r.length = r
  | [], _, _, _, _, _, _, _ => by simp
  | c :: r, l1, l2, l, h1, h2, h3, h4 => by
    match l1, l2 with
    | [], _ => simp at h1
    | a :: l1, [] => simp at h2
    | a :: l1, d :: l2 =>
      simp only [List.length_cons, List.take_succ_cons, List.cons.injEq] at h1 h2
      obtain ⟨rfl, h1⟩ := h1
      obtain ⟨rfl, h2⟩ := h2
      match l with
      | [] => exact absurd (List.nil_lt_cons _ _) h3
      | e :: l =>
        rw [List.cons_lt_cons_iff] at h3 h4
        have he : e = d := by omega
        subst he
        simp only [List.length_cons, List.take_succ_cons, List.cons.injEq, true_and]
        exact sandwich r l1 l2 l h1 h2 (fun q => h3 (Or.inr ⟨rfl, q⟩)) (fun q => h4 (Or.inr ⟨rfl, q⟩))
theorem take_lt : ∀ (l : List Nat) (i : Nat), i < l.length → l.take i < l
  | [], i, h => by simp at h
  | a :: l, 0, h => List.nil_lt_cons _ _
  | a :: l, i + 1, h => by
    rw [List.take_succ_cons, List.cons_lt_cons_iff]
    exact Or.inr ⟨rfl, take_lt l i (by simpa using h)⟩
theorem len_of_min {l1 l2 : List Nat} {i : Nat} (h : ¬ l2 < l1) (ht : l1.take i = l2.take i) (hi : i < l1.length) : i < l2.length := by
  by_cases hl : i < l2.length
  · exact hl
  · rw [List.take_of_length_le (by omega : l2.length ≤ i)] at ht
    exact absurd (by rw [← ht]; exact take_lt l1 i hi) h
theorem pre_ret {ls : List (List Nat)} {l1 l2 : List Nat} {i : Nat} (m1 : l1 ∈ ls) (m2 : l2 ∈ ls) (h1 : ∀ k ∈ ls, ¬ k < l1) (h2 : ∀ k ∈ ls, ¬ l2 < k) (ht : l1.take i = l2.take i) (hi : i < l1.length) (hd : l1[i]? ≠ l2[i]?) : Pre ls (l1.take i) := by
  have hlen : (l1.take i).length = i := by simp; omega
  refine ⟨fun l hl => ?_, Or.inr ⟨l1, m1, l2, m2, by rw [hlen]; exact hd⟩⟩
  exact sandwich _ l1 l2 l (by rw [hlen]) (by rw [hlen, ht]) (h1 l hl) (h2 l hl)
theorem pre_all {ls : List (List Nat)} {l1 l2 : List Nat} (m1 : l1 ∈ ls) (h1 : ∀ k ∈ ls, ¬ k < l1) (h2 : ∀ k ∈ ls, ¬ l2 < k) (ht : l1.take l1.length = l2.take l1.length) : Pre ls l1 := by
  refine ⟨fun l hl => ?_, Or.inl m1⟩
  exact sandwich l1 l1 l2 l (List.take_length) (by rw [← ht]; exact List.take_length) (h1 l hl) (h2 l hl)
theorem take_succ_eq {l1 l2 : List Nat} {i : Nat} (ht : l1.take i = l2.take i) (h1 : i < l1.length) (h2 : i < l2.length) (he : l1[i] = l2[i]) : l1.take (i + 1) = l2.take (i + 1) := by
  rw [List.take_succ_eq_append_getElem h1, List.take_succ_eq_append_getElem h2, ht, he]
end Mine
open PySem.SeqAt
namespace Mine
section
variable {prog : Program} {w : World} {A : Around} {E : Value → Shared → Prop} {s s₁ : Shared} {L t a l : Addr} {b : List (Str × Value)} {H : List Ent} {Q : Value → Shared → Prop} {vs : List Value}
theorem c_typeT (S : St s₁ L b H s) (ht : (t, Tup vs) ∈ H) (h : Q (.type "tuple") s) : wpAny (model prog w) A (call (.type "type") [.ref t]) Q E s :=
  call_type_of (Tx := "tuple") (IsTup.typeIs (Tup.isTup (S.get ht))) (by decide) h
theorem c_truthT {Q : Bool → Shared → Prop} (S : St s₁ L b H s) (ht : (t, Tup vs) ∈ H) (hsz : vs.length ≤ sizeLine) (h : ∀ s', St s₁ L b H s' → Q (!vs.isEmpty) s') : wpAny (model prog w) A (truthy (.ref t)) Q E s := by
  refine truthy_tuple (Tup.isTup (S.get ht)) (by rw [sizeLine_eq] at hsz; simp; omega) ?_
  have : (!vs.toArray.isEmpty) = !vs.isEmpty := by cases vs <;> simp
  rw [this]; exact h _ (S.tok _)
theorem tupitem {value slice : Expr} {k : Int} {u : Tok} {x : Value} (S : St s₁ L b H s) (hl : (a, Tup vs) ∈ H) (h0 : 0 ≤ k) (h1 : k < 2 ^ 62) (hx : vs[k.toNat]? = some x) (h : Q x s)
    (hs : subscripted slice false (.ref a) (.int k u) = operate [.ref a, .int k u] (getItem (.ref a) (.int k u))) :
    wpAny (model prog w) A (subscriptTail value slice (.ref a) (.int k u)) Q E s := by
  have ht : IsTup s.heap a vs.toArray := Tup.isTup (S.get hl)
  have hlt : k.toNat < vs.length := (List.getElem?_eq_some_iff.mp hx).1
  exact tail_any ht.typeIs slot_tuple_getitem.lookup (getItem_tuple ht (by omega) (by omega) (j := k.toNat) (seqIndex_of h0 (by simp; omega)) (by simpa using hx) h) hs
theorem c_tupL (S : St s₁ L b H s) (hl : (l, Lst vs) ∈ H) (hsz : vs.length ≤ sizeLine) (h : ∀ s' D, St s₁ L b ((D, Tup vs) :: H) s' → Q (.ref D) s') : wpAny (model prog w) A (call (.type "tuple") [.ref l]) Q E s := by
  refine call_tuple_list (Lst.isList (S.get hl)) (fun h' hk => ?_) (by simpa using hsz)
  have S' := S.ext s.toks hk
  exact h _ _ (S'.push (o := { cls := .type "tuple", data := .seq vs.toArray }) (P := Tup vs) ⟨rfl, rfl, rfl, 0, rfl⟩ s.toks)
end
end Mine
open PySem.SeqAt
namespace Mine
section
variable {prog : Program} {w : World} {A : Around} {E : Value → Shared → Prop} {s s₁ : Shared} {L a c P t : Addr} {b : List (Str × Value)} {H : List Ent} {Q : Value → Shared → Prop} {h₁ : Heap} {ps : Array Value} {mg : Str → Option Value} {bm : Addr} {ob : Obj}
/-- the same made things over a changed base -/
theorem St.rebase {s₁' s' : Shared} {ps' : Array Value} (S : St s₁ L b H s) (hP : ∃ o, s₁.heap.get? P = some o) (hb : s₁'.heap = regrown s₁.heap P ps') (hns : ∃ o, s'.heap.get? L = some o ∧ Frm b o) (hkeep : ∀ c o, s₁'.heap.get? c = some o → s'.heap.get? c = some o)
    (hk : ∀ c o, c ≠ P → s.heap.get? c = some o → s'.heap.get? c = some o) (he : ∃ h tk, s' = { s₁' with heap := h, toks := tk }) : St s₁' L b H s' := by
  obtain ⟨oP, hoP⟩ := hP
  have hLP : L ≠ P := fun e => by have := S.fr; rw [e, hoP] at this; cases this
  have hHP : ∀ p ∈ H, p.1 ≠ P := fun p hp e => by have := (S.fresh p hp).2; rw [e, hoP] at this; cases this
  have hoth : ∀ c, c ≠ P → s₁'.heap.get? c = s₁.heap.get? c := fun c hc => by rw [hb]; exact Heap.get?_update_other _ _ (Ne.symm hc)
  exact ⟨hns, hkeep, by rw [hoth L hLP]; exact S.fr, fun p hp => let ⟨o, ho, h⟩ := S.nw p hp; ⟨o, hk _ _ (hHP p hp) ho, h⟩, fun p hp => ⟨(S.fresh p hp).1, by rw [hoth _ (hHP p hp)]; exact (S.fresh p hp).2⟩, S.nd, he⟩
theorem passing_all (n : Nat) : passing (fun _ => true) n 0 = List.range n := by
  unfold passing; simp
theorem ev_gen {env : Env} {elt iter : Expr} {x : Str} {px pos : Pos} {scope : Scope} {cl : List (Str × Addr)} {vs : List Value} (F : Nat → Value → Prop) (S : St s₁ L b H s) (hab : s₁.heap.objs.size ≤ L) (B : Based h₁ s₁.heap c P ps) (M : BMod s₁.heap env.globals mg bm ob)
    (G : AllBare s.gens) (hlim : s₁.heap.NoLimit) (hcode : env.code = .ref c) (hnf : codeAmong pos ps.toList = none) (hh : A.handled = none) (hco : scope.isCoroutine = false) (hclos : closureFor scope env = pure cl) (hcell : ∀ y ∈ scope.names, y.2 ≠ .cell)
    (h0 : scope.names.lookup (".0" : Str) = some NameKind.local) (hx : scope.names.lookup x = some .local) (hkind : scope.kind = .function) (hroom : A.depth < recursionLimit) (hs : ∀ x, genFold iter env x = pure x)
    (ht : (t, Tup vs) ∈ H) (hiter : ∀ (Q' : Value → Shared → Prop), Q' (.ref t) s → wpAny (model prog w) A (eval iter env) Q' E s)
    (helt : ∀ (c' C : Addr) (A' : Around) (E' : Value → Shared → Prop) i v (t' : Shared) m₂, A'.handled = none → A'.depth ≤ A.depth + 1 → A'.units ≤ A.units + 8 → vs[i]? = some v → Fr (regrown s₁.heap P (ps ++ #[rawInt pos.line, rawInt pos.col, .ref c'])) C t'.heap m₂ → m₂ x = some v →
      (∀ b o, b ≠ P → s.heap.get? b = some o → t'.heap.get? b = some o) → wpAny (model prog w) A' (eval elt (genEnv scope cl C (.ref c') builtinsNs env)) (fun y s₃ => F i y ∧ Keeps t' s₃) E' t')
    (h : ∀ (s₁' s₅ : Shared) ps' a K, s₁'.heap = regrown s₁.heap P ps' → Based h₁ s₁'.heap c P ps' → AllBare s₁'.gens → s₁'.os = s₁.os → St s₁' L b H s₅ → (∀ p ∈ H, p.1 ≤ K) → L ≤ K →
      Gen prog w A K a (passing (fun _ => true) vs.toArray.size 0).length (fun j y => ∃ i, (passing (fun _ => true) vs.toArray.size 0)[j]? = some i ∧ F i y) s₅ → Q (.ref a) s₅) :
    wpAny (model prog w) A (eval (.GeneratorExp elt [⟨.Name x px, iter, [], 0⟩] scope pos) env) Q E s := by
  obtain ⟨m, hm, hmb⟩ := S.Ns
  have F₁ : Fr s₁.heap L s.heap m := ⟨hm, S.keep, hab⟩
  have hLs : L < s.heap.objs.size := hm.lt
  refine GeneratorExp_rowsP (L := L) (m := m) B M hcode hnf hh hco hclos hcell h0 hx hkind hroom (hiter _ ?_) hs
  refine src_tuple (K := s.heap.objs.size - 1) (pz := fun _ => true) (F := F) B (Tup.isTup (S.get ht)) F₁ G (hlim.keeps S.keep) (by have : L ≤ s.heap.objs.size - 1 := Nat.le_sub_one_of_lt hLs; exact this) (by have : s.heap.objs.size - 1 < s.heap.objs.size := Nat.sub_lt (Nat.lt_of_le_of_lt (Nat.zero_le _) hLs) (by decide); exact this) ?_ ?_ ?_
  · intro c' C A' E' i v t' m₂ _ _ _ _ _ _ _ _
    exact wpAny_pure ⟨rfl, t'.heap, t'.toks, rfl, fun _ _ e => e⟩
  · intro c' C A' E' i v t' m₂ hA hD hU hv _ hF hm' hLC hk
    exact helt c' C A' E' i v t' m₂ hA hD hU (by simpa using hv) hF hm' hk
  · intro c' a s₅ B' F' G' hos hk X
    refine h { s₅ with heap := regrown s₁.heap P (ps ++ #[rawInt pos.line, rawInt pos.col, .ref c']) } s₅ _ a (s.heap.objs.size - 1) rfl B' G' ?_ ?_ (fun p hp => ?_) (Nat.le_sub_one_of_lt hLs) X
    · obtain ⟨_, _, e⟩ := S.eq
      show s₅.os = _
      rw [hos, e]
    · refine S.rebase ⟨_, B.tab.2⟩ rfl (Frm.of_Ns F'.ns hmb) F'.keep hk ⟨s₅.heap, s₅.toks, rfl⟩
    · obtain ⟨o, ho, _⟩ := S.nw p hp; exact Nat.le_sub_one_of_lt (Heap.lt_size ho)
theorem c_tupgen {K : Addr} {n : Nat} {F : Nat → Value → Prop} (S : St s₁ L b H s) (G : AllBare s.gens) (hK : ∀ p ∈ H, p.1 ≤ K) (hL : L ≤ K) (h1 : ∀ c o, s₁.heap.get? c = some o → c ≤ K) (X : Gen prog w A K a n F s) (hn : n ≤ sizeLine)
    (h : ∀ (s₁'' s' : Shared) D ys, s₁''.heap = s₁.heap → AllBare s₁''.gens → s₁''.os = s₁.os → ys.length = n → (∀ j y, ys[j]? = some y → F j y) → St s₁'' L b ((D, Tup ys) :: H) s' → Q (.ref D) s') :
    wpAny (model prog w) A (call (.type "tuple") [.ref a]) Q E s := by
  obtain ⟨fp, wr, g, Stt, W, hst, hT, hI, hfp, hwr⟩ := X
  refine call_tuple_gen W.in4_3 hT hst hfp hI (fun s' acc hm hacc => ?_) hn
  have hk : ∀ c o, c ≤ K → s.heap.get? c = some o → s'.heap.get? c = some o := fun c o hc e => hm.heap c o (fun hmem => Nat.lt_irrefl _ (Nat.lt_of_lt_of_le (hwr c hmem) hc)) e
  have S' : St { s' with heap := s₁.heap } L b H s' := by
    refine ⟨let ⟨o, ho, hf⟩ := S.ns; ⟨o, hk _ _ hL ho, hf⟩, fun c o e => hk _ _ (h1 c o e) (S.keep c o e), S.fr, fun p hp => let ⟨o, ho, hf⟩ := S.nw p hp; ⟨o, hk _ _ (hK p hp) ho, hf⟩, S.fresh, S.nd, ⟨s'.heap, s'.toks, rfl⟩⟩
  refine h { s' with heap := s₁.heap } _ _ acc.toList rfl (show AllBare s'.gens from G.movedS hm) ?_ (by rw [Array.length_toList]; exact hacc.1) (fun i y hy => hacc.2 i y (by rw [← Array.getElem?_toList]; exact hy)) ?_
  · obtain ⟨_, _, e⟩ := S.eq
    show s'.os = _
    rw [hm.os, e]
  · exact S'.push (o := { cls := .type "tuple", data := .seq acc }) (P := Tup acc.toList) ⟨rfl, rfl, rfl, 0, by simp⟩ s'.toks
theorem star_list {l : Addr} {vs : List Value} {Q : List Value → Shared → Prop} (S : St s₁ L b H s) (hl : (l, Lst vs) ∈ H) (hsz : vs.length ≤ sizeLine) (h : ∀ s', St s₁ L b H s' → Q vs s') : StarOf (model prog w) A E (.ref l) Q s := by
  obtain ⟨o, ho, hc, n, hd⟩ := Lst.isList (S.get hl)
  have hT' : s.TypeIs (.ref l) "list" := ⟨o, ho, hc⟩
  have z : wpAny (model prog w) A (collect (.ref l)) Q E s := by
    refine wpAny_collect_seq l (Or.inl rfl) ho hc hd (fun h' hk => ?_) (by simpa using hsz)
    exact h _ (S.ext s.toks hk)
  unfold StarOf notIterableAtAll
  exact wpAny_bind (wpAny_specialOf hT' PySem.F.slot_list_iter.lookup (wpAny_pure ⟨rfl, z⟩))
end
end Mine
open PySem.SeqAt
namespace Mine
theorem ktrans {a c d : Shared} (h : Keeps a c) (k : Keeps c d) : Keeps a d := by
  obtain ⟨h1, t1, rfl, k1⟩ := h
  obtain ⟨h2, t2, rfl, k2⟩ := k
  exact ⟨h2, t2, rfl, fun b o e => k2 b o (k1 b o e)⟩
theorem krefl (s : Shared) : Keeps s s := ⟨s.heap, s.toks, rfl, fun _ _ e => e⟩
theorem kget {a c : Shared} (h : Keeps a c) : ∀ b o, a.heap.get? b = some o → c.heap.get? b = some o := by obtain ⟨h1, t1, rfl, k1⟩ := h; exact k1
theorem ktok {a c : Shared} (h : Keeps a c) (k : Nat) : Keeps a { c with toks := k } := by obtain ⟨h1, t1, rfl, k1⟩ := h; exact ⟨h1, k, rfl, k1⟩
/-! ### reading out of a state that is only added to -/
section
variable {prog : Program} {w : World} {A : Around} {E : Value → Shared → Prop} {s t₀ : Shared} {env : Env} {x : Str} {v : Value} {pos : Pos} {Q : Value → Shared → Prop} {m : Str → Option Value} {K : Frag} {p : Program} {loose : List Str} {mg mb : Str → Option Value} {l l' : List Nat} {t u : Tok}
theorem pu_L (P : Keeps t₀ s) (hn : t₀.heap.Ns env.locals m) (hx : env.kindOf x = some .local) (hv : m x = some v) (h : Q v s) (hk : env.scope.kind = .function) (hd : (x == ("__debug__" : Str)) = false) : wpAny (model prog w) A (eval (.Name x pos) env) Q E s :=
  wpAny_Name (wpAny_loadName_local hk hx (hn.keeps (kget P)) hv h) hd
theorem pu_F {c : Addr} (P : Keeps t₀ s) (hx : env.kindOf x = some .free) (hc : env.cells.lookup x = some c) (hv : t₀.heap.IsCell c (some v)) (h : Q v s) (hk : env.scope.kind = .function) (hd : (x == ("__debug__" : Str)) = false) (hcd : (x == ("__classdict__" : Str)) = false) : wpAny (model prog w) A (eval (.Name x pos) env) Q E s :=
  wpAny_Name (wpAny_loadName_free hk hx hc (let ⟨o, ho, hd⟩ := hv; ⟨o, kget P _ _ ho, hd⟩) h hcd) hd
theorem pu_K (P : Keeps t₀ s) (X : K.In t₀.heap) (TR : TopRead p loose mg mb t₀.heap) (hx : env.kindOf x = some .globalImplicit) (e : nsIn K mainGlobals x = some (some v)) (h : Q v s) (hg : env.globals = mainGlobals) (hk : env.scope.kind = .function)
    (hd : (x == ("__debug__" : Str)) = false) : wpAny (model prog w) A (eval (.Name x pos) env) Q E s :=
  Name_function_global hk hx (loadGlobal_global (env := env) (hg ▸ TR.g.keeps (kget P)) (mg_of X TR.g e) h) hd
theorem pu_sliceEnd {v v' : Value} {lo hi : Option Int} (P : Keeps t₀ s) (hP : Slc lo hi { cls := .type "slice", data := .fields #[v, v', .none] }) (h : ∀ s' a, Keeps t₀ s' → (∃ o, s'.heap.get? a = some o ∧ Slc lo hi o) → Q (.ref a) s') : SliceEnd Q v v' s := by
  refine h _ _ ?_ ⟨_, Heap.get?_push_size _ rfl, hP⟩
  obtain ⟨h1, t1, rfl, k1⟩ := P
  exact ⟨_, t1, rfl, fun b o e => Heap.get?_push_of_some _ (k1 b o e)⟩
theorem pu_slice {value slice : Expr} {a : Addr} {lo hi : Option Int} (P : Keeps t₀ s) (hs' : ∃ o, s.heap.get? a = some o ∧ Slc lo hi o) (hl : l.length ≤ sizeLine) (h : ∀ s' t', Keeps t₀ s' → Q (.str (T (cut l lo hi)) t') s')
    (hs : subscripted slice false (.str (T l) t) (.ref a) = operate [.ref a, .str (T l) t] (getItem (.str (T l) t) (.ref a))) (ht : ∀ r, letTemporaryGo value (.str (T l) t) r = pure ()) :
    wpAny (model prog w) A (subscriptTail value slice (.str (T l) t) (.ref a)) Q E s := by
  obtain ⟨o, ho, lo', hi', hc, hd, rfl, rfl⟩ := hs'
  refine tail_of_ItemOn ⟨"str", _, F.slot_str_getitem.lookup, typeIs_str _ _ _, wpAny_getItem_str_slice (l := lo') (u := hi') (st := none) ⟨o, ho, hc, hd⟩ rfl ?_⟩ hs ht
  have e := slice_T l (lo'.map (·.1)) (hi'.map (·.1))
  exact post_val_or_str ⟨Nat.le_trans (Txt.slice_le (T l) _ _) (by simpa using hl), fun t' k => (congrArg (fun z => Q (.str z t') _) e).mpr (h _ _ (ktok P k))⟩
theorem pu_add (P : Keeps t₀ s) (hl : l.length + l'.length ≤ sizeLine) (h : ∀ s' t', Keeps t₀ s' → Q (.str (T (l ++ l')) t') s') : wpAny (model prog w) A (binaryOp .Add (.str (T l) t) (.str (T l') u)) Q E s :=
  add_str (fun t' tk => by rw [T_append]; exact h _ _ (ktok P _)) (by simpa using hl)
theorem pu_callWith {f : Addr} {e : Expr} {rest : List Expr} (P : Keeps t₀ s) (X : K.In t₀.heap) (hk : keepIn K (.ref f) = true)
    (h : wpAny (model prog w) A (spliced (backTo pos (starEach (e :: rest) env))) (fun vs s₁ => Ready K (fun s => wpAny (model prog w) A (call (.ref f) vs) Q E s) s₁) E s)
    (he : starEach (e :: rest) env = (false, eval e env) :: starEach rest env) (hplain : (backTo pos (starEach rest env)).any (·.1) = false) :
    wpAny (model prog w) A (callWith pos (.ref f) [] (backTo pos (starEach (e :: rest) env)) []) Q E s :=
  callWith_K (X.keeps (kget P)) hk (wpAny_mono h (fun _ _ h => h) fun _ _ h => h) he hplain
theorem pu_ready {P' : Shared → Prop} (P : Keeps t₀ s) (X : K.In t₀.heap) (h : P' s) : Ready K P' s := ⟨X.keeps (kget P), h⟩
end
/-! ### a call with a star parameter and captured names -/
section
variable {prog : Program} {w : World} {A : Around} {E : Value → Shared → Prop} {s s₁ : Shared} {L f : Addr} {b : List (Str × Value)} {H : List Ent} {Q : Value → Shared → Prop} {fd : FuncData} {body : List Stmt}
theorem call_star {K : Frag} {oc : Value} {od : Option Addr} {osl : Array (Option Value)} {args : List Value} {nm : Str} (ents : Addr → List Ent)
    (S : St s₁ L b H s) (X : K.In s₁.heap) (hlim : s₁.heap.NoLimit) (ho : K.lookup f = some ⟨oc, od, .func fd, osl⟩) (hcd : codeIn K fd.code fd.qualname = true) (hroom : A.depth < recursionLimit)
    (hbody : fd.body = .stmts body) (hbind : bindArgs fd ⟨args, []⟩ = (newTuple args >>= fun t => pure [(nm, t)])) (hclo : fd.closure = []) (hnm : fd.scope.names.lookup nm = some .local)
    (cns : List Str) (hcs : ∀ n, (cellsFrom n fd.scope.names []).map (·.1) = cns) (hcn : cns.Nodup)
    (hb : ∀ L' t y v, lk [(nm, t)] y = some v → bindL (callEnvC fd L' f).kindOf [(nm, t)] (fun _ => none) y = some v)
    (he : ∀ L' t, (cellsFrom (L' + 1) fd.scope.names []).map (fun p => (p.2, Cel (bindC (callEnvC fd L' f).kindOf [(nm, t)] (fun _ => none) p.1))) = ents L') (hsz : args.length ≤ sizeLine)
    (h : ∀ s' L' t, L < L' → St s₁ L' [(nm, .ref t)] (ents L' ++ (L, Frm b) :: (t, Tup args) :: H) s' →
      wpAny (model prog w) (A.deeper (callEnvC fd L' f)) (execs body (callEnvC fd L' f)) (fun fl s'' => Q (match fl with | .ret v => v | _ => .none) s'') (fun _ _ => False) s')
    (hco : fd.scope.isCoroutine = false) (hgen : fd.scope.isGenerator = false) (hk : fd.scope.kind = .function) : wpAny (model prog w) A (call (.ref f) args) Q E s := by
  have X' := X.keeps S.keep
  refine wpAny_call (codeAny_call_function hroom (X' _ _ ho) rfl hco hgen hbody (codeRec_of X' hcd) ?_)
  rw [hbind, hclo]
  refine wpAny_bind (new_tuple S hsz fun s₂ t S₂ => wpAny_pure ?_)
  refine wpAny_newFunctionEnv_cells hk (fun x hx => ?_) fun env he' s' x => ?_
  · rw [List.mem_singleton.mp hx]; exact Or.inl hnm
  · subst he'
    have hLlt : L < s₂.heap.objs.size := let ⟨o, ho, _⟩ := S₂.ns; Heap.lt_size ho
    have S₃ := S₂.enterC (b' := [(nm, .ref t)]) x rfl (by rw [show (newEnv fd.scope s₂.heap.objs.size fd.globals (cellsFrom (s₂.heap.objs.size + 1) fd.scope.names []) (fd.qualname ++ ".<locals>.") (some f) fd.code none fd.builtins).cells = cellsFrom (s₂.heap.objs.size + 1) fd.scope.names [] from rfl, hcs]; exact hcn) (hb _ _)
    refine ⟨(hlim.keeps S₂.keep).keeps x.toInCall.keep, codeAny_func ?_⟩
    refine wpAny_mono (h s' s₂.heap.objs.size t hLlt ?_) (fun _ _ q => q) (fun _ _ q => q.elim)
    rw [← he s₂.heap.objs.size (.ref t)]
    exact S₃
end
end Mine
namespace Mine
/-- the end of a law over a base that has grown a code table -/
theorem law_endG {c : ClaimW} {cl : Str → Option Addr} {mean : ExcName → Option Value} {args : List WData} {s₁ s₁' s' : Shared} {L : Addr} {b : List (Str × Value)} {H : List Ent} (S : St s₁' L b H s') (old : OldK s₁.heap s₁'.heap) (hos : s₁'.os = s₁.os) (hg : AllBare s₁'.gens)
    (hn : ∀ cls, c.raises args cls = false) (hp : c.post args (.bool true) args = true) : GoodWG c cl mean args s₁ (.ok (.ret (.bool true))) s' := by
  obtain ⟨h, tk, e⟩ := S.eq
  exact ⟨.inl ⟨.bool true, .bool true, [], rfl, hn, .bool true, hp, unshared_nil⟩, old.step_keeps S.keep, by rw [e]; exact hos, by rw [e]; exact hg⟩
end Mine
namespace Mine
/-! ### the writings of things -/
/-- a text of plain letters, written -/
theorem repr_plain {l : List Nat} (h : ∀ c ∈ l, 97 ≤ c ∧ c ≤ 122) : reprText (T l) = T ([39] ++ l ++ [39]) := by
  have hq : reprQuote (T l) = 39 := by
    unfold reprQuote
    have : (T l).cps.contains 39 = false := by
      rw [Bool.eq_false_iff]
      intro hc
      have hm : 39 ∈ l := by simpa [T] using hc
      have := h 39 hm
      omega
    rw [this]; rfl
  have key : ∀ (r : List Nat) (acc : List Nat), (∀ c ∈ r, 97 ≤ c ∧ c ≤ 122) → r.foldl (fun out c => out ++ (Builtin.Str.reprChar 39 c).toArray) acc.toArray = (acc ++ r).toArray := by
    intro r
    induction r with
    | nil => intro acc _; simp
    | cons c r ih =>
      intro acc hr
      have hc := hr c (by simp)
      have hp : Unicode.isPrintable c = true := by
        have : ∀ c, c < 128 → (97 ≤ c ∧ c ≤ 122) → Unicode.isPrintable c = true := by decide +kernel
        exact this c (by omega) hc
      have e : Builtin.Str.reprChar 39 c = [c] := by
        unfold Builtin.Str.reprChar
        have h1 : (c == 39) = false := by simp; omega
        have h2 : (c == 92) = false := by simp; omega
        have h3 : (c == 10) = false := by simp; omega
        have h4 : (c == 13) = false := by simp; omega
        have h5 : (c == 9) = false := by simp; omega
        simp [h1, h2, h3, h4, h5, hp]
      rw [List.foldl_cons, e]
      rw [show acc.toArray ++ [c].toArray = (acc ++ [c]).toArray from by simp, ih _ fun d hd => hr d (by simp [hd])]
      simp
  unfold reprText
  rw [hq]
  have := key l [39] h
  have e2 : (T l).cps.foldl (fun out c => out ++ (Builtin.Str.reprChar 39 c).toArray) #[39] = ([39] ++ l).toArray := by
    rw [← Array.foldl_toList]
    exact this
  rw [e2]
  show Str.mk _ = Str.mk _
  simp
end Mine
namespace Mine
section
variable {prog : Program} {w : World} {A : Around} {E : Value → Shared → Prop} {s s₁ : Shared} {L l : Addr} {b : List (Str × Value)} {H : List Ent} {Q : Value → Shared → Prop} {vs : List Value} {ns : List Int}
theorem int_getD (h : IntsAre vs ns) {i : Nat} {v : Value} (hv : vs[i]? = some v) : ∃ u, v = .int (ns.getD i 0) u := by
  obtain ⟨n, u, rfl, hn⟩ := h.at i v hv
  exact ⟨u, by simp [List.getD, hn]⟩
theorem c_minI (S : St s₁ L b H s) (hl : IsAt s₁ H l vs) (hI : IntsAre vs ns) (hne : ns ≠ []) (hh : A.handled = none) (h : ∀ s' (n : Int) u, n ∈ ns → (∀ k ∈ ns, n ≤ k) → St s₁ L b H s' → Q (.int n u) s') :
    wpAny (model prog w) A (call (.builtin "min") [.ref l]) Q E s := by
  have hlen : vs.length = ns.length := hI.length
  have hpos : 0 < ns.length := List.length_pos_iff.mpr hne
  refine call_min_walk ?_
  have hli := hl.isList S
  have hlt : l < s.heap.objs.size := let ⟨o, ho, _⟩ := hli; Heap.lt_size ho
  refine wpAny_pyIter_list hli ?_
  refine ⟨_, _, _, _, _, _, fun i j => decide (ns.getD i 0 < ns.getD j 0), rfl, Walks.list (A := A.in1) hh s.heap.objs.size l (Nat.ne_of_lt hlt) vs.toArray, ⟨⟨_, Heap.get?_push_size _ rfl, rfl, rfl⟩, hli.push _⟩, ?_, by simp; omega, ?_, ?_⟩
  · intro c hc
    show c < (s.heap.push _).objs.size
    rw [Heap.size_push]
    simp at hc
    rcases hc with rfl | rfl
    · exact Nat.lt_succ_self _
    · exact Nat.lt_succ_of_lt hlt
  · intro i j vi vj s' Q' E' hi hj hq
    obtain ⟨u, rfl⟩ := int_getD hI (by simpa using hi)
    obtain ⟨u', rfl⟩ := int_getD hI (by simpa using hj)
    exact PyProof.Rows.lt_int (by simpa using hq)
  · intro v h' tk hP hk
    obtain ⟨b1, b2⟩ := argBest_best (fun a c : Int => a < c) (fun a b c h1 h2 => Int.lt_trans h1 h2) (fun a => Int.lt_irrefl a) (fun i => ns.getD i 0) (vs.toArray.size - 1)
    generalize argBest (fun i j => decide (ns.getD i 0 < ns.getD j 0)) (vs.toArray.size - 1) = k at hP b1 b2
    obtain ⟨u, rfl⟩ := int_getD hI (by simpa using hP)
    rw [List.size_toArray] at b1 b2
    have hk' : k < ns.length := by omega
    refine h _ _ u ?_ ?_ (S.ext tk fun c o e => hk c o (by simp; exact Nat.ne_of_lt (Heap.lt_size e)) (Heap.get?_push_of_some _ e))
    · simp [List.getD, hk']
    · intro x hx
      obtain ⟨j, hj, rfl⟩ := List.mem_iff_getElem.mp hx
      have := b2 j (by omega)
      simp [List.getD, hj, hk'] at this ⊢
      omega
theorem c_maxI (S : St s₁ L b H s) (hl : IsAt s₁ H l vs) (hI : IntsAre vs ns) (hne : ns ≠ []) (hh : A.handled = none) (h : ∀ s' (n : Int) u, n ∈ ns → (∀ k ∈ ns, k ≤ n) → St s₁ L b H s' → Q (.int n u) s') :
    wpAny (model prog w) A (call (.builtin "max") [.ref l]) Q E s := by
  have hlen : vs.length = ns.length := hI.length
  have hpos : 0 < ns.length := List.length_pos_iff.mpr hne
  refine call_max_walk ?_
  have hli := hl.isList S
  have hlt : l < s.heap.objs.size := let ⟨o, ho, _⟩ := hli; Heap.lt_size ho
  refine wpAny_pyIter_list hli ?_
  refine ⟨_, _, _, _, _, _, fun i j => decide (ns.getD j 0 < ns.getD i 0), rfl, Walks.list (A := A.in1) hh s.heap.objs.size l (Nat.ne_of_lt hlt) vs.toArray, ⟨⟨_, Heap.get?_push_size _ rfl, rfl, rfl⟩, hli.push _⟩, ?_, by simp; omega, ?_, ?_⟩
  · intro c hc
    show c < (s.heap.push _).objs.size
    rw [Heap.size_push]
    simp at hc
    rcases hc with rfl | rfl
    · exact Nat.lt_succ_self _
    · exact Nat.lt_succ_of_lt hlt
  · intro i j vi vj s' Q' E' hi hj hq
    obtain ⟨u, rfl⟩ := int_getD hI (by simpa using hi)
    obtain ⟨u', rfl⟩ := int_getD hI (by simpa using hj)
    exact PyProof.Rows.gt_int (by simpa using hq)
  · intro v h' tk hP hk
    obtain ⟨b1, b2⟩ := argBest_best (fun a c : Int => c < a) (fun a b c h1 h2 => Int.lt_trans h2 h1) (fun a => Int.lt_irrefl a) (fun i => ns.getD i 0) (vs.toArray.size - 1)
    generalize argBest (fun i j => decide (ns.getD j 0 < ns.getD i 0)) (vs.toArray.size - 1) = k at hP b1 b2
    obtain ⟨u, rfl⟩ := int_getD hI (by simpa using hP)
    rw [List.size_toArray] at b1 b2
    have hk' : k < ns.length := by omega
    refine h _ _ u ?_ ?_ (S.ext tk fun c o e => hk c o (by simp; exact Nat.ne_of_lt (Heap.lt_size e)) (Heap.get?_push_of_some _ e))
    · simp [List.getD, hk']
    · intro x hx
      obtain ⟨j, hj, rfl⟩ := List.mem_iff_getElem.mp hx
      have := b2 j (by omega)
      simp [List.getD, hj, hk'] at this ⊢
      omega
end
/-! ### what all share, found place by place -/
def AllAt (ws : List (List Nat)) (k : Nat) : Prop := ∀ l ∈ ws, l[k]? = (ws.headD [])[k]?
/-- the law's own search ends at the length of what all share -/
theorem pre_of_search {ws : List (List Nat)} {k : Nat} (hne : ws ≠ []) (hk : ∀ j, j < k → AllAt ws j) (hmin : ∀ l ∈ ws, k ≤ l.length) (hstop : (∃ l ∈ ws, l.length = k) ∨ ∃ l ∈ ws, l[k]? ≠ (ws.headD [])[k]?) :
    Pre ws ((ws.headD []).take k) := by
  obtain ⟨h0, r, rfl⟩ := List.exists_cons_of_ne_nil hne
  have hm0 : h0 ∈ h0 :: r := List.mem_cons_self ..
  have hl0 := hmin h0 hm0
  have eq : ∀ l ∈ h0 :: r, l.take k = h0.take k := fun l hl => by
    refine List.ext_getElem? fun i => ?_
    rw [List.getElem?_take, List.getElem?_take]
    by_cases hi : i < k
    · rw [if_pos hi, if_pos hi]; exact hk i hi l hl
    · rw [if_neg hi, if_neg hi]
  have len : (h0.take k).length = k := by rw [List.length_take]; omega
  refine ⟨fun l hl => by simp only [List.headD_cons]; rw [len]; exact eq l hl, ?_⟩
  simp only [List.headD_cons] at hstop ⊢
  rw [len]
  rcases hstop with ⟨l, hl, e⟩ | ⟨l, hl, e⟩
  · refine Or.inl ?_
    have := eq l hl
    rw [List.take_of_length_le (by omega)] at this
    rw [← this]; exact hl
  · exact Or.inr ⟨l, hl, h0, hm0, e⟩
theorem pre_unique {ws : List (List Nat)} {r r' : List Nat} (hne : ws ≠ []) (h : Pre ws r) (h' : Pre ws r') : r = r' := by
  have key : ∀ {r r' : List Nat}, Pre ws r → Pre ws r' → r.length ≤ r'.length := by
    intro r r' h h'
    rcases Nat.lt_or_ge r'.length r.length with hlt | hge
    · exfalso
      rcases h'.2 with hm | ⟨a, ha, c, hc, hd⟩
      · have e := congrArg List.length (h.1 r' hm)
        rw [List.length_take] at e
        omega
      · have e1 := congrArg (fun z : List Nat => z[r'.length]?) (h.1 a ha)
        have e2 := congrArg (fun z : List Nat => z[r'.length]?) (h.1 c hc)
        simp only [List.getElem?_take, if_pos hlt] at e1 e2
        exact hd (e1.trans e2.symm)
    · exact hge
  have e : r.length = r'.length := Nat.le_antisymm (key h h') (key h' h)
  obtain ⟨l, hl⟩ := List.exists_mem_of_ne_nil ws hne
  rw [← h.1 l hl, ← h'.1 l hl, e]
end Mine
namespace Mine
/-- what _common_shorten_repr makes of one text -/
def csr1 (r : List Nat) (M : Nat) (l : List Nat) : List Nat :=
  if M ≤ 80 then l
  else if 5 < 80 - ((M : Int) - r.length + 5 + 12) then shorten r 5 (80 - ((M : Int) - r.length + 5 + 12)) ++ l.drop r.length
  else shorten r 5 5 ++ shorten (l.drop r.length) 41 5
section
variable {ws : List (List Nat)} {r : List Nat} {M : Nat}
end
end Mine
namespace Mine
section
variable {prog : Program} {w : World} {A : Around} {E : Value → Shared → Prop} {s s₁ : Shared} {L l a c : Addr} {b : List (Str × Value)} {H : List Ent} {env : Env}
/-- for a, b in a list of pairs -/
theorem for_listP {xi xc : Str} {pk pv pt : Pos} {x1 : Nat} {body : List Stmt} {Q : Flow → Shared → Prop} {vs : List Value} (J : Nat → List (Str × Value) → List Ent → Prop) (S : St s₁ L b H s) (h0 : J 0 b H)
    (hJ : ∀ i b H, J i b H → (l, Lst vs) ∈ H) (hP : ∀ i v b H, vs[i]? = some v → J i b H → ∃ T v0 v1, v = .ref T ∧ (T, Tup [v0, v1]) ∈ H)
    (hh : A.handled = none) (hxi : env.kindOf xi = some .local) (hxc : env.kindOf xc = some .local) (hL : env.locals = L) (hk : env.scope.kind = .function)
    (turn : ∀ I i T v0 v1 b' H' s', vs[i]? = some (.ref T) → (T, Tup [v0, v1]) ∈ H' → J i b' H' → St s₁ L (up xc v1 (up xi v0 b')) ((I, LI l (i + 1)) :: H') s' → wpAny (model prog w) A (execs body env) (TurnEnd s₁ L I (LI l (i + 1)) (J (i + 1)) Q) (fun _ _ => False) s')
    (done : ∀ b' H' s', J vs.length b' H' → St s₁ L b' H' s' → Q .next s') : ForAt prog w A (.Tuple [.Name xi pk, .Name xc pv] x1 pt) body env Q E (.ref l) s := by
  refine it_list S (Or.inl (hJ _ _ _ h0)) fun s' I hne S' => ?_
  have W := Itr.list (prog := prog) (w := w) (A := A) vs hh hne
  refine codeAny_forLoop_any (fun k s' => ∃ b' H' i, St s₁ L b' ((I, LI l i) :: H') s' ∧ J i b' H' ∧ i ≤ vs.length ∧ k = vs.length + 1 - i) ?_ (vs.length + 1) ⟨b, H, 0, S', h0, Nat.zero_le _, rfl⟩
  clear S S'
  rintro k s' ⟨b', H', i, S', hj, hi, rfl⟩
  have hR : s'.heap.IsList l vs.toArray := Lst.isList (S'.get (List.mem_cons_of_mem _ (hJ _ _ _ hj)))
  by_cases hlt : i < vs.length
  · refine W.item i _ _ _ hlt (getHead S') hR fun v h₁ tk₁ hV hP₁ hk₁ => ?_
    have S₁ := S'.step tk₁ hP₁ hk₁
    obtain ⟨T, v0, v1, rfl, hT⟩ := hP i v b' H' hV hj
    obtain ⟨o, ho, hi1, hi2⟩ := hP₁
    refine wpAny_letOwnedTupleGo_listiter (l := l) (i := i + 1) ⟨o, ho, hi1, hi2⟩ ?_
    have hT₂ : h₁.IsTuple T #[v0, v1] := Tup.isTup (S₁.get (List.mem_cons_of_mem _ hT))
    refine assign_Tuple_tuple (s := { s' with heap := h₁, toks := tk₁ }) hh hT₂ (by rfl) (by rfl) fun h₃ hx₃ => ?_
    have S₃ := S₁.ext tk₁ fun c o e => hx₃ c o (Nat.ne_of_lt (Heap.lt_size e)) e
    show wpAny _ _ (assignInOrder [assign (.Name xi pk) env, assign (.Name xc pv) env] [v0, v1]) _ _ _
    unfold assignInOrder
    refine wpAny_bind (wpAny_holding ?_)
    refine wpAny_assign_Name (st_L S₃ hxi (fun s₄ S₄ => ?_) hL hk)
    unfold assignInOrder
    refine wpAny_bind (wpAny_holding ?_)
    refine wpAny_assign_Name (st_L S₄ hxc (fun s₅ S₅ => ?_) hL hk)
    unfold assignInOrder
    refine wpAny_pure ?_
    refine wpAny_mono (turn I i T v0 v1 b' H' s₅ hV hT hj S₅) (fun f s₆ h₆ => ?_) fun _ _ e => e.elim
    cases f with
    | next => obtain ⟨b'', H'', S₆, hJ₆⟩ := h₆; exact ⟨vs.length + 1 - (i + 1), by omega, b'', H'', i + 1, S₆, hJ₆, hlt, rfl⟩
    | cont => obtain ⟨b'', H'', S₆, hJ₆⟩ := h₆; exact ⟨vs.length + 1 - (i + 1), by omega, b'', H'', i + 1, S₆, hJ₆, hlt, rfl⟩
    | brk => exact h₆
    | ret v => exact h₆
  · have hin : i = vs.length := by omega
    subst hin
    exact W.done _ _ _ (getHead S') hR fun h₁ tk₁ hk₁ => wpAny_execs_nil (done b' H' _ hj (S'.gone tk₁ hk₁))
theorem rc_tuples {e : Value → Value → Bool} {vs us : List Value} (ha : IsTup s.heap a vs.toArray) (hc : IsTup s.heap c us.toArray) (hu : A.units < cLine) (he : ∀ x ∈ vs, ∀ y ∈ us, EqAt A.in1 s x y (e x y)) :
    RcAt A s (.ref a) (.ref c) (lEq e vs us) := by
  have key := RcAt.tuples (e := fun j => e (vs[j]?.getD .none) (us[j]?.getD .none)) ha hc hu fun j h1 h2 => by
    have h1' : j < vs.length := by simpa using h1
    have h2' : j < us.length := by simpa using h2
    have := he vs[j] (List.getElem_mem h1') us[j] (List.getElem_mem h2')
    simpa [h1', h2'] using this
  have e2 : ((List.range (min vs.toArray.size us.toArray.size)).all (fun j => e (vs[j]?.getD .none) (us[j]?.getD .none)) && vs.toArray.size == us.toArray.size) = lEq e vs us := by
    by_cases hl : vs.length = us.length
    · rw [← all_range_lEq hl]
      simp [hl]
    · have : lEq e vs us = false := by
        cases h : lEq e vs us with
        | false => rfl
        | true => exact absurd (lEq_len h) hl
      rw [this]; simp [hl]
  rw [← e2]; exact key
theorem u_eqTx {vs us : List Value} {ls ms : List (List Nat)} {Q : Value → Shared → Prop} (S : St s₁ L b H s) (ha : (a, Tup vs) ∈ H) (hc : (c, Tup us) ∈ H) (hv : TxAre vs ls) (hw : TxAre us ms) (hu : A.units < cLine) (h : Q (.bool (decide (ls = ms))) s) :
    wpAny (model prog w) A (compareOp .Eq (.ref a) (.ref c)) Q E s := rc_tuples (Tup.isTup (S.get ha)) (Tup.isTup (S.get hc)) hu (hv.eqAt hw) prog w E Q (by rw [lEq_tx hv hw]; exact h)
end
theorem law_start2 {s₁ : Shared} {L c1 c2 : Addr} {h : Heap} {m : Str → Option Value} {b : List (Str × Value)} {o1 o2 : Obj} {v1 v2 : Option Value} (tk : Nat) (F : Fr s₁.heap L h m) (N : News s₁.heap L h [(c1, o1), (c2, o2)]) (h1 : o1.data = .cell v1) (h2 : o2.data = .cell v2)
    (hn2 : c2 < c1) (hb : ∀ x v, lk b x = some v → m x = some v) : St s₁ L b [(c2, Cel v2), (c1, Cel v1)] { s₁ with heap := h, toks := tk } where
  ns := Frm.of_Ns F.ns hb
  keep := F.keep
  fr := Heap.get?_none_of_le F.above
  nw := fun p hp => by
    simp only [List.mem_cons, List.mem_nil_iff, or_false] at hp
    rcases hp with rfl | rfl
    · exact ⟨o2, (N (c2, o2) (by simp)).1, h2⟩
    · exact ⟨o1, (N (c1, o1) (by simp)).1, h1⟩
  fresh := fun p hp => by
    simp only [List.mem_cons, List.mem_nil_iff, or_false] at hp
    rcases hp with rfl | rfl
    · exact (N (c2, o2) (by simp)).2
    · exact (N (c1, o1) (by simp)).2
  nd := by
    simp only [List.map_cons, List.map_nil, List.nodup_cons, List.mem_cons, List.mem_nil_iff, or_false, not_or, not_false_eq_true, List.nodup_nil, and_true]
    exact Nat.ne_of_lt hn2
  eq := ⟨h, tk, rfl⟩
theorem pre_append {es : List (List Nat)} {r hd : List Nat} (h : Pre es r) : Pre (es.map (hd ++ ·)) (hd ++ r) := by
  refine ⟨fun l hl => ?_, ?_⟩
  · obtain ⟨e, he, rfl⟩ := List.mem_map.mp hl
    have := h.1 e he
    rw [List.length_append, List.take_length_add_append, this]
  · rcases h.2 with hm | ⟨a, ha, c, hc, hd'⟩
    · exact Or.inl (List.mem_map.mpr ⟨r, hm, rfl⟩)
    · refine Or.inr ⟨_, List.mem_map.mpr ⟨a, ha, rfl⟩, _, List.mem_map.mpr ⟨c, hc, rfl⟩, ?_⟩
      have e : ∀ x : List Nat, (hd ++ x)[(hd ++ r).length]? = x[r.length]? := fun x => by
        rw [List.getElem?_append_right (by simp), List.length_append]; congr 1; omega
      rw [e, e]; exact hd'
end Mine
namespace Mine
/-- the law's own writing without the runs -/
def woS (l : List Nat) (tp : List Nat × Int) (ab : Int × Int) : List Nat × Int :=
  if 12 < ab.2 - ab.1 then (tp.1 ++ (cut l (some tp.2) (some ab.1) ++ [91] ++ dig (ab.2 - ab.1) ++ chars), ab.2) else tp
def wo (l : List Nat) (runs : List (Int × Int)) : List Nat := (runs.foldl (woS l) ([], 0)).1 ++ cut l (some (runs.foldl (woS l) ([], 0)).2) none
def runsOf (M sh n : Nat) : List (Int × Int) :=
  if 80 < M ∧ 5 < (sh : Int) - ((M : Int) - 63) then [(5, (M : Int) - 63)] else if 80 < M then [(5, (sh : Int) - 5), ((sh : Int) + 41, (n : Int) - 5)] else []
theorem wo_csr1 {r d : List Nat} {M : Nat} (hM : (r ++ d).length ≤ M) : wo (r ++ d) (runsOf M r.length (r ++ d).length) = csr1 r M (r ++ d) := by
  have dl : (r ++ d).drop r.length = d := List.drop_left
  have c5 : ((5 : Nat) : Int) = 5 := rfl
  have c41 : ((41 : Nat) : Int) = 41 := rfl
  rw [List.length_append] at hM ⊢
  unfold csr1 runsOf
  rw [dl]
  by_cases h1 : M ≤ 80
  · rw [if_pos h1, if_neg (by omega), if_neg (by omega)]
    show [] ++ cut (r ++ d) (some 0) none = _
    rw [cut_from _ (by decide)]; simp
  · rw [if_neg h1]
    by_cases h2 : 5 < 80 - ((M : Int) - r.length + 5 + 12)
    · rw [if_pos h2, if_pos (by omega)]
      obtain ⟨c, hc⟩ : ∃ c : Nat, (80 - ((M : Int) - r.length + 5 + 12)) = (c : Int) := ⟨_, (Int.toNat_of_nonneg (by omega)).symm⟩
      have es := shorten_eq (l := r) (i := 5) (j := c) (by omega)
      rw [c5] at es
      rw [hc, es]
      unfold wo
      simp only [List.foldl_cons, List.foldl_nil]
      unfold woS
      rw [if_pos (by simp only; omega)]
      simp only [List.nil_append]
      rw [cut_mid _ (by decide) (by decide), cut_from _ (by omega)]
      unfold ended
      have e1 : ((M : Int) - 63).toNat = r.length - c := by omega
      have e2 : (r.length : Int) - 5 - c = (M : Int) - 63 - 5 := by omega
      rw [e1, e2, List.drop_append_of_le_length (by omega)]
      have e3 : (List.take (Int.toNat 5) (r ++ d)).drop (Int.toNat 0) = r.take 5 := by
        rw [show Int.toNat 5 = 5 from rfl, show Int.toNat 0 = 0 from rfl, List.drop_zero, List.take_append_of_le_length (by omega)]
      rw [e3]
      simp only [List.append_assoc]
    · rw [if_neg h2, if_neg (by omega), if_pos (by omega)]
      -- the two runs
      have first : ∃ t1 p1, woS (r ++ d) ([], 0) (5, (r.length : Int) - 5) = (t1, ((p1 : Nat) : Int)) ∧ p1 ≤ r.length ∧ t1 ++ r.drop p1 = shorten r 5 5 := by
        by_cases h3 : 12 < (r.length : Int) - 5 - 5
        · have es := shorten_eq (l := r) (i := 5) (j := 5) (by omega)
          rw [c5] at es
          refine ⟨[] ++ (cut (r ++ d) (some 0) (some 5) ++ [91] ++ dig ((r.length : Int) - 5 - 5) ++ chars), r.length - 5, ?_, by omega, ?_⟩
          · unfold woS
            rw [if_pos h3]
            exact Prod.ext rfl (by simp only; omega)
          · rw [es]
            unfold ended
            rw [cut_mid _ (by decide) (by decide)]
            have e3 : (List.take (Int.toNat 5) (r ++ d)).drop (Int.toNat 0) = r.take 5 := by
              rw [show Int.toNat 5 = 5 from rfl, show Int.toNat 0 = 0 from rfl, List.drop_zero, List.take_append_of_le_length (by omega)]
            rw [e3]
            simp only [List.nil_append]
        · refine ⟨[], 0, ?_, by omega, ?_⟩
          · unfold woS; rw [if_neg h3]; rfl
          · rw [shorten_stays (by omega)]; rfl
      obtain ⟨t1, p1, w1, hp1, s1⟩ := first
      have hfold : wo (r ++ d) [(5, (r.length : Int) - 5), ((r.length : Int) + 41, ((r.length + d.length : Nat) : Int) - 5)] = (woS (r ++ d) (t1, ((p1 : Nat) : Int)) ((r.length : Int) + 41, ((r.length + d.length : Nat) : Int) - 5)).1 ++ cut (r ++ d) (some (woS (r ++ d) (t1, ((p1 : Nat) : Int)) ((r.length : Int) + 41, ((r.length + d.length : Nat) : Int) - 5)).2) none := by
        unfold wo
        simp only [List.foldl_cons, List.foldl_nil, w1]
      rw [hfold, ← s1]
      unfold woS
      by_cases h4 : 12 < ((r.length + d.length : Nat) : Int) - 5 - ((r.length : Int) + 41)
      · have es := shorten_eq (l := d) (i := 41) (j := 5) (by omega)
        rw [c41, c5] at es
        rw [if_pos h4, es]
        simp only
        rw [cut_mid _ (by omega) (by omega), cut_from _ (by omega)]
        unfold ended
        have e1 : ((r.length : Int) + 41).toNat = r.length + 41 := by omega
        have e2 : (((r.length + d.length : Nat) : Int) - 5).toNat = r.length + (d.length - 5) := by omega
        have e3 : ((r.length + d.length : Nat) : Int) - 5 - ((r.length : Int) + 41) = (d.length : Int) - 41 - 5 := by omega
        rw [e1, e2, e3, Int.toNat_natCast, List.take_length_add_append, List.drop_append_of_le_length hp1, List.drop_length_add_append]
        simp only [List.append_assoc]
      · rw [if_neg h4, shorten_stays (l := d) (by omega)]
        simp only
        rw [cut_from _ (by omega), Int.toNat_natCast, List.drop_append_of_le_length hp1]
        simp only [List.append_assoc]
end Mine
open PyProof.Rows.TI (gone gone_some gone_none gone_get)
namespace Mine
section
variable {prog : Program} {w : World} {A : Around} {E : Value → Shared → Prop} {s s₁ : Shared} {L t m TA J : Addr} {b : List (Str × Value)} {H : List Ent} {Q : Value → Shared → Prop}
theorem max_loop_empty {R : Result → Shared → Prop} {I : Addr} {fp wr : List Addr} {P : Nat → Value → Prop} {St : Nat → Heap → Prop} (W : Walks prog w A.in1 I fp wr 0 P St) (S : Addr) (hSf : S ∉ fp) (hh : A.handled = none) {s : Shared} {c : Nat} (hst : St 0 s.heap)
    (hS : s.heap.get? S = some { cls := .type "list", dict := none, data := .seq #[] c, slots := #[] })
    (hR : ∀ s0 h' tk e, (∃ h0 tk0, s0 = { s with heap := h0, toks := tk0 } ∧ ∀ b o, b ∉ wr → b ≠ S → s.heap.get? b = some o → h0.get? b = some o) → Heap.NewExc s0.heap h' e "ValueError" → R (.error (.ref e)) { s0 with heap := h', toks := tk }) :
    codeAny (model prog w) A (.builtin "max.loop" ⟨[.ref I, .none, .ref S], []⟩) R s := by
  have hSw : S ∉ wr := fun h => hSf (W.sub _ h)
  refine codeAny_builtin F.entry_max_loop ?_
  rw [Around.under_plainId F.plain_max_loop _]
  show wpAny _ A.in1 (seqItems? (.ref S) >>= _) _ _ s
  refine wpAny_bind (wpAny_seqItems hS rfl ?_)
  show wpAny _ A.in1 (tryCatch (pyNext (.ref I)) _ >>= _) _ _ s
  refine wpAny_bind (wpAny_tryCatch (W.done s _ _ hst fun h' tk hk' => ?_))
  refine wpAny_bind (wpAny_rule ?_)
  refine wpAny_raiseErrorMade ?_ hh (fun h2 tk2 e hx => hR { s with heap := h', toks := tk } h2 tk2 e ⟨h', tk, rfl, fun b o hb _ ho => hk' b o hb ho⟩ hx) ?_
  · exact plainExc_ValueError
  · decide +kernel
theorem c_maxEmpty (S : St s₁ L b ((m, MapO TA (.builtin "len")) :: (TA, One (.ref J)) :: (J, TI t 0) :: H) s) (ht : (t, Tup []) ∈ H) (hh : A.handled = none)
    (h : ∀ s0 h' tk e, St s₁ L b H s0 → Heap.NewExc s0.heap h' e "ValueError" → E (.ref e) { s0 with heap := h', toks := tk }) : wpAny (model prog w) A (call (.builtin "max") [.ref m]) Q E s := by
  obtain ⟨W, h0, hfp, hm, hmJ, hM⟩ := map_walks (prog := prog) (w := w) S ht (A' := A.in1) (P := fun _ _ => True) hh (fun i x s' Q' E' hx hk hq => by simp at hx)
  have hname : (toString "max" ++ toString ".loop" : String) = "max.loop" := by decide
  refine call_function_tree F.kind_max F.plain_max F.entry_max (F.args_max1 _) ?_
  show wpAny _ A.in1 (Builtin.Builtins.bindParams "max" ["key", "default"] 0 ⟨[], []⟩ >>= _) _ _ s
  refine wpAny_bind (wpAny_of_eq (show Builtin.Builtins.bindParams "max" ["key", "default"] 0 ⟨[], []⟩ = pure [none, none] from rfl) ?_)
  refine wpAny_bind (wpAny_pure ?_)
  refine wpAny_bind (W.self 0 _ _ _ h0 ?_)
  refine wpAny_bind (wpAny_newObj_type ?_)
  have hSf : s.heap.objs.size ∉ J :: List.range s.heap.objs.size := fun hq => Nat.lt_irrefl _ (hfp _ hq)
  rw [hname]
  refine wpAny_pure ⟨plainId_quiet F.plain_max_loop _, max_loop_empty W s.heap.objs.size hSf hh (W.frame _ _ _ h0 fun b _ o e => Heap.get?_push_of_some _ e) (Heap.get?_push_size _ rfl) fun s0 h' tk e hs hx => ?_⟩
  obtain ⟨hh0, tk0, rfl, hk0⟩ := hs
  refine h _ h' tk e (St.but (X := [_, _]) S (fun c o hc e => ?_) ⟨hh0, tk0, rfl⟩) hx
  exact hk0 c o (by simpa using hc) (Nat.ne_of_lt (Heap.lt_size e)) (Heap.get?_push_of_some _ e)
end
/-! ### an exception that comes out of a call -/
section
variable {prog : Program} {w : World} {A : Around} {E : Value → Shared → Prop} {s s₁ : Shared} {L f : Addr} {b : List (Str × Value)} {H : List Ent} {env : Env} {fd : FuncData} {body : List Stmt}
theorem tr_noteE {l : List Env} {e : Addr} {X : String} {h' : Heap} {tk : Nat} {Q : Unit → Shared → Prop} (S : St s₁ L b H s) (hx : Heap.NewExc s.heap h' e X) (hfr : A.frames = some (env :: l)) (hF : FrsIn L H (env :: l)) (hf : env.frame = some L)
    (k : ∀ base a0 s', base.get? e = none → Hld s₁ L b H (env :: l) base e X a0 (rawInt L) s' → Q () s') : wpAny (model prog w) A (noteFrame (.ref e) env) Q E { s with heap := h', toks := tk } := by
  obtain ⟨ob, tp, he, hcls, hd⟩ := hx.there
  have S' : St s₁ L b H { s with heap := h', toks := tk } := S.ext tk hx.keeps
  let fs := (env :: l).filterMap (·.frame)
  have hfs : ∀ env' ∈ env :: l, ∀ F, env'.frame = some F → F ∈ fs := fun env' he' F hF' => List.mem_filterMap.mpr ⟨env', he', hF'⟩
  have hinv : ∀ F ∈ fs, F = L ∨ ∃ b, (F, Frm b) ∈ H := fun F hm => by
    obtain ⟨env', he', e'⟩ := List.mem_filterMap.mp hm
    obtain ⟨_, F', e2, hm'⟩ := hF env' he'
    rw [e2] at e'; cases e'; exact hm'
  have hL : ∀ F ∈ fs, s₁.heap.get? F = none := fun F hm => by
    rcases hinv F hm with rfl | ⟨b', hm'⟩
    · exact S.fr
    · exact (S.fresh _ hm').2
  have hst : (gone s.heap fs).StaysIn h' := fun a o ha => hx.keeps a o (gone_some ha).2
  have hen : (gone s.heap fs).get? e = none := by
    cases hq : (gone s.heap fs).get? e with
    | none => rfl
    | some o => have := (gone_some hq).2; rw [hx.new] at this; cases this
  have hFF : h'.FunFrames (gone s.heap fs) (env :: l) := S'.funFrames hF fun env' he' F e' => gone_none (hfs env' he' F e')
  unfold noteFrame
  simp only [hf]
  refine wpAny_bind (wpAny_field he hd (x := .none) rfl ?_)
  rw [if_neg (show ¬ ((Value.none != Value.none) = true) by decide)]
  refine wpAny_entryW (base := gone s.heap fs) hfr hFF hf he hst hen hd (by simp) (a0 := tp) rfl fun h2 hN => ?_
  obtain ⟨k1, k2, k3, k4⟩ := hN
  rw [hcls] at k3
  have H0 : Hld s₁ L b H (env :: l) (gone s.heap fs) e X tp (rawInt L) { s with heap := h2, toks := tk } := by
    have fr : ∀ (a : Addr) (b' : List (Str × Value)), (∃ o, s.heap.get? a = some o ∧ Frm b' o) → ∃ o, h2.get? a = some o ∧ Frm b' o := by
      rintro a b' ⟨o, ho, es, ep, hd, r⟩
      obtain ⟨sl, h3⟩ := k4 a o (hx.keeps _ _ ho) (fun vs q => by rw [hd] at q; cases q)
      exact ⟨_, h3, es, ep, hd, r⟩
    have nw : ∀ p ∈ H, (∃ o, (gone s.heap fs).get? p.1 = some o ∧ p.2 o) ∨ ∃ b', p.2 = Frm b' := fun p hp => by
      by_cases hm : p.1 ∈ fs
      · rcases hinv _ hm with q | ⟨b', hm'⟩
        · exact absurd q (S.fresh p hp).1
        · have := mem_fst_unique S.nd hp hm' rfl
          exact Or.inr ⟨b', by rw [this]⟩
      · obtain ⟨o, ho, h⟩ := S.nw p hp
        exact Or.inl ⟨o, (gone_get hm).trans ho, h⟩
    have kb : ∀ a o, s₁.heap.get? a = some o → (gone s.heap fs).get? a = some o := fun a o ha => (gone_get fun hm => by rw [hL a hm] at ha; cases ha).trans (S.keep a o ha)
    refine ⟨⟨fr _ _ S.ns, fun a o ha => k1 a o (kb a o ha), S.fr, fun p hp => ?_, S.fresh, S.nd, ?_⟩, nw, kb, k1, k2, k3⟩
    · rcases nw p hp with ⟨o, ho, hP⟩ | ⟨b', hb⟩
      · exact ⟨o, k1 _ _ ho, hP⟩
      · have := S.nw p hp
        rw [hb] at this ⊢
        exact fr _ _ this
    · obtain ⟨_, _, e⟩ := S.eq
      exact ⟨h2, tk, by rw [e]⟩
  exact k _ _ _ hen H0


theorem Hld.back {L' : Addr} {b' : List (Str × Value)} {X0 : List Ent} {env' : Env} {l : List Env} {base : Heap} {e : Addr} {X : String} {a0 : Value} (h : Hld s₁ L' b' (X0 ++ (L, Frm b) :: H) (env' :: l) base e X a0 .none s) : Hld s₁ L b H l base e X a0 .none s := by
  refine ⟨(h.S.perm (H' := (L, Frm b) :: (X0 ++ H)) List.perm_middle.symm).back.sub (List.sublist_append_right _ _), fun p hp => h.nw p (by simp [hp]), h.kb, h.st, h.ff.2.2, h.tr⟩
/-- an exception is under way, out of a call -/
def RaisF (s₁ : Shared) (L : Addr) (X : String) (l : List Env) (J : List (Str × Value) → List Ent → Prop) (ev : Value) (s' : Shared) : Prop :=
  ∃ b H base a0 e, ev = .ref e ∧ base.get? e = none ∧ Hld s₁ L b H l base e X a0 .none s' ∧ J b H
/-- a call's frame is left by an exception -/
theorem leave_raise {L' : Addr} {b' : List (Str × Value)} {X0 : List Ent} {l : List Env} {X : String} {J : List (Str × Value) → List Ent → Prop} {A' : Around} {s0 : Shared} {h' : Heap} {tk : Nat} {e : Addr} {E' : Value → Shared → Prop}
    (S : St s₁ L' b' (X0 ++ (L, Frm b) :: H) s0) (hx : Heap.NewExc s0.heap h' e X) (hfr : A'.frames = some (env :: l)) (hF : FrsIn L' (X0 ++ (L, Frm b) :: H) (env :: l)) (hf : env.frame = some L') (hJ : J b H) :
    wpAny (model prog w) A' (leaving env (.ref e)) (fun _ s'' => RaisF s₁ L X l J (.ref e) s'') E' { s0 with heap := h', toks := tk } := by
  unfold leaving
  refine wpAny_bind (tr_noteE S hx hfr hF hf fun base a0 s2 hen K2 => ?_)
  refine K2.flight fun s3 K3 => ?_
  exact ⟨b, H, base, a0, e, rfl, hen, K3.back, hJ⟩
theorem ex_tryF {body suite : List Stmt} {b₀ : Stmt} {t : Expr} {pos hpos : Pos} {X T : String} {l : List Env} {Q : Flow → Shared → Prop} (J : List (Str × Value) → List Ent → Prop)
    (hfr : A.frames = some (env :: l)) (hf : env.frame = some L)
    (hexc : isSubtype (.type T) (.type "BaseException") = pure true) (hnt : isSubtype (.type ((Manifest.find? T).elim "type" fun x => x.metatype)) (.type "tuple") = pure false) (hsub : isSubtype (.type X) (.type T) = pure true)
    (hbody : wpAny (model prog w) A (execs body env) Q (RaisF s₁ L X (env :: l) J) s)
    (hname : ∀ b H s' e E' (Q' : Value → Shared → Prop), St s₁ L b H s' → J b H → Q' (.type T) s' → wpAny (model prog w) (A.mark (some e)) (eval t env) Q' E' s')
    (hsuite : ∀ b H s' e, St s₁ L b H s' → J b H → wpAny (model prog w) (A.mark (some e)) (execs (b₀ :: suite) env) Q (fun _ _ => False) s') :
    wpAny (model prog w) A (exec (.Try body [.ExceptHandler (some t) none (b₀ :: suite) hpos] [] [] pos) env) Q E s := by
  refine wpAny_Try_except (wpAny_mono hbody (fun f s' hq => ?_) fun ev s' hr => ?_)
  · cases f with
    | next => exact wpAny_execs_nil hq
    | _ => exact hq
  · obtain ⟨b', H', base, a0, e, rfl, hen, K0, hJ⟩ := hr
    refine wpAny_noteFrame_onW hfr K0.ff hf K0.tr K0.st hen fun h' hN => ?_
    obtain ⟨k1, k2, k3, k4⟩ := hN
    have K₂ := K0.next s'.toks k1 k2 k3 k4
    refine K₂.flight fun s₃ K₃ => ?_
    refine wpAny_handleBy_builtin (X := X) (T := T) (b := true) hexc hnt hsub ?_
    refine hname b' H' s₃ _ _ _ K₃.S hJ ⟨rfl, K₃.tr.there, ?_⟩
    simp only [if_true]
    refine K₃.flight fun s₄ K₄ => ?_
    exact wpAny_mono (hsuite b' H' s₄ _ K₄.S hJ) (fun _ _ q => q) fun _ _ q => q.elim
end
end Mine
namespace Mine
section
variable {prog : Program} {w : World} {A : Around} {E : Value → Shared → Prop} {s s₁ : Shared} {L f : Addr} {b : List (Str × Value)} {H : List Ent} {env : Env} {fd : FuncData} {body : List Stmt}
/-- what a raising callee leaves -/
def InCal (L : Addr) (b : List (Str × Value)) (J : List (Str × Value) → List Ent → Prop) (_ : List (Str × Value)) (H'' : List Ent) : Prop := ∃ X0 H1, H'' = X0 ++ (L, Frm b) :: H1 ∧ J b H1
theorem leave_call {L' : Addr} {l : List Env} {X : String} {J : List (Str × Value) → List Ent → Prop} {ev : Value} {s' : Shared} {E' : Value → Shared → Prop} {env' : Env} (hfr : A.frames = some l) (hF : ∀ H1, J b H1 → FrsIn L H1 l) (hf : env'.frame = some L') (hk : env'.scope.kind = .function)
    (hr : Rais s₁ L' X (InCal L b J) ev s') : wpAny (model prog w) (A.deeper env') (leaving env' ev) (fun _ s'' => RaisF s₁ L X l J ev s'') E' s' := by
  obtain ⟨b'', H'', s0, h', tk, e, rfl, rfl, S, hx, X0, H1, rfl, hJ⟩ := hr
  refine leave_raise S hx (Around.frames_deeper hfr) ?_ hf hJ
  intro env0 h0
  rcases List.mem_cons.mp h0 with rfl | h0
  · exact ⟨by rw [hk]; decide, L', hf, Or.inl rfl⟩
  · obtain ⟨q1, F, q2, q3⟩ := hF H1 hJ env0 h0
    refine ⟨q1, F, q2, Or.inr ?_⟩
    rcases q3 with rfl | ⟨b0, q3⟩
    · exact ⟨b, by simp⟩
    · exact ⟨b0, by simp [q3]⟩
theorem call_starE {K : Frag} {oc : Value} {od : Option Addr} {osl : Array (Option Value)} {args : List Value} {nm : Str} {l : List Env} {X : String} {Q : Value → Shared → Prop} (J : List (Str × Value) → List Ent → Prop) (ents : Addr → List Ent)
    (hfr : A.frames = some l) (hF : ∀ H1, J b H1 → FrsIn L H1 l)
    (S : St s₁ L b H s) (XK : K.In s₁.heap) (hlim : s₁.heap.NoLimit) (ho : K.lookup f = some ⟨oc, od, .func fd, osl⟩) (hcd : codeIn K fd.code fd.qualname = true) (hroom : A.depth < recursionLimit)
    (hbody : fd.body = .stmts body) (hbind : bindArgs fd ⟨args, []⟩ = (newTuple args >>= fun t => pure [(nm, t)])) (hclo : fd.closure = []) (hnm : fd.scope.names.lookup nm = some .local)
    (cns : List Str) (hcs : ∀ n, (cellsFrom n fd.scope.names []).map (·.1) = cns) (hcn : cns.Nodup)
    (hb : ∀ L' t y v, lk [(nm, t)] y = some v → bindL (callEnvC fd L' f).kindOf [(nm, t)] (fun _ => none) y = some v)
    (he : ∀ L' t, (cellsFrom (L' + 1) fd.scope.names []).map (fun p => (p.2, Cel (bindC (callEnvC fd L' f).kindOf [(nm, t)] (fun _ => none) p.1))) = ents L') (hsz : args.length ≤ sizeLine)
    (h : ∀ s' L' t, L < L' → St s₁ L' [(nm, .ref t)] (ents L' ++ (L, Frm b) :: (t, Tup args) :: H) s' →
      wpAny (model prog w) (A.deeper (callEnvC fd L' f)) (execs body (callEnvC fd L' f)) (fun fl s'' => Q (match fl with | .ret v => v | _ => .none) s'') (Rais s₁ L' X (InCal L b J)) s')
    (hco : fd.scope.isCoroutine = false) (hgen : fd.scope.isGenerator = false) (hk : fd.scope.kind = .function) : wpAny (model prog w) A (call (.ref f) args) Q (RaisF s₁ L X l J) s := by
  have X' := XK.keeps S.keep
  refine wpAny_call (codeAny_call_function hroom (X' _ _ ho) rfl hco hgen hbody (codeRec_of X' hcd) ?_)
  rw [hbind, hclo]
  refine wpAny_bind (new_tuple S hsz fun s₂ t S₂ => wpAny_pure ?_)
  refine wpAny_newFunctionEnv_cells hk (fun x hx => ?_) fun env he' s' x => ?_
  · rw [List.mem_singleton.mp hx]; exact Or.inl hnm
  · subst he'
    have hLlt : L < s₂.heap.objs.size := let ⟨o, ho, _⟩ := S₂.ns; Heap.lt_size ho
    have S₃ := S₂.enterC (b' := [(nm, .ref t)]) x rfl (by rw [show (newEnv fd.scope s₂.heap.objs.size fd.globals (cellsFrom (s₂.heap.objs.size + 1) fd.scope.names []) (fd.qualname ++ ".<locals>.") (some f) fd.code none fd.builtins).cells = cellsFrom (s₂.heap.objs.size + 1) fd.scope.names [] from rfl, hcs]; exact hcn) (hb _ _)
    refine ⟨(hlim.keeps S₂.keep).keeps x.toInCall.keep, codeAny_func ?_⟩
    refine wpAny_mono (h s' s₂.heap.objs.size t hLlt ?_) (fun _ _ q => q) (fun ev s5 hr => ?_)
    · rw [← he s₂.heap.objs.size (.ref t)]
      exact S₃
    · exact leave_call hfr hF rfl hk hr
end
end Mine
namespace Mine
open_top hd03 for PySem.Challenge.rw_dn0232_03
end Mine
local macro_rules | `(tactic| walk_at "size") => `(tactic| first | assumption | (simp only [sizeLine_eq, List.length_append, List.length_cons, List.length_nil]; omega) | (simp only [sizeLine_eq, List.length_append, List.length_cons, List.length_nil] at *; omega))
local macro_rules | `(tactic| walk_at "mem") => `(tactic| (first | assumption | exact List.mem_cons_self .. | (refine List.mem_cons_of_mem _ ?_; walk_at "mem")))
local macro_rules | `(tactic| walk_at "isat") => `(tactic| first | exact Or.inr (by assumption) | exact Or.inl (by walk_at "mem"))
local macro_rules | `(tactic| walk_at "upd") => `(tactic| (first | exact Mine.Upd.head _ | (apply Mine.Upd.tail; walk_at "upd")))
local macro_rules | `(tactic| walk_at "eval Name") => `(tactic| ((rename Mine.St _ _ _ _ _ => wS); first
  | (refine Mine.nm_L wS (by with_unfolding_all rfl) (by with_unfolding_all rfl) ?_ (by with_unfolding_all rfl) (by with_unfolding_all rfl) (by with_unfolding_all decide))
  | (refine Mine.nm_K wS (by assumption) (by assumption) (by with_unfolding_all rfl) (by with_unfolding_all rfl) ?_ (by with_unfolding_all rfl) (by with_unfolding_all rfl) (by with_unfolding_all decide))
  | (refine Mine.nm_B wS (by assumption) (by assumption) (by with_unfolding_all rfl) (by with_unfolding_all rfl) (by first | reg3_boot | boot_fact | boot_fast) ?_ (by with_unfolding_all decide) (by with_unfolding_all rfl) (by with_unfolding_all rfl) (by with_unfolding_all rfl) (by with_unfolding_all decide))
  | (refine Mine.nm_C wS (by with_unfolding_all rfl) (by with_unfolding_all rfl) (by walk_at "mem") ?_ (by with_unfolding_all rfl) (by with_unfolding_all decide))))
local macro_rules | `(tactic| walk_at "loadName") => `(tactic| ((rename Mine.St _ _ _ _ _ => wS); first
  | (refine Mine.ld_L wS (by with_unfolding_all rfl) ?_ (by with_unfolding_all rfl) (by with_unfolding_all rfl) (by with_unfolding_all rfl))
  | (refine Mine.ld_C wS (by with_unfolding_all rfl) (by with_unfolding_all rfl) (by walk_at "mem") ?_ (by with_unfolding_all rfl))))
local macro_rules | `(tactic| walk_at "storeName") => `(tactic| ((rename Mine.St _ _ _ _ _ => wS); first
  | (refine Mine.st_L wS (by with_unfolding_all rfl) ?_ (by with_unfolding_all rfl) (by with_unfolding_all rfl); clear wS; intro _ _)
  | (refine Mine.st_C wS (by with_unfolding_all rfl) (by with_unfolding_all rfl) (by walk_at "upd") ?_ (by with_unfolding_all rfl); clear wS; intro _ _)))
local macro_rules | `(tactic| walk_at "eval Constant int") => `(tactic| ((rename Mine.St _ _ _ _ _ => wS); refine Mine.c_int wS ?_; clear wS; intro _ _ _))
local macro_rules | `(tactic| walk_at "eval Constant str") => `(tactic| ((rename Mine.St _ _ _ _ _ => wS); refine Mine.c_tx wS ?_; clear wS; intro _ _ _))
local macro_rules | `(tactic| walk_at "binaryOp Add int int") => `(tactic| ((rename Mine.St _ _ _ _ _ => wS); refine Mine.i_add wS ?_; clear wS; intro _ _ _))
local macro_rules | `(tactic| walk_at "inplaceOp Add int int") => `(tactic| ((rename Mine.St _ _ _ _ _ => wS); refine Mine.i_iadd wS ?_; clear wS; intro _ _ _))
local macro_rules | `(tactic| walk_at "binaryOp Sub int int") => `(tactic| ((rename Mine.St _ _ _ _ _ => wS); refine Mine.i_sub wS ?_; clear wS; intro _ _ _))
local macro_rules | `(tactic| walk_at "binaryOp Mod int int") => `(tactic| ((rename Mine.St _ _ _ _ _ => wS); refine Mine.i_mod wS (by first | decide | omega) ?_; clear wS; intro _ _ _))
local macro_rules | `(tactic| walk_at "compareOp Gt int int") => `(tactic| (refine Mine.i_gt ?_))
local macro_rules | `(tactic| walk_at "compareOp Lt int int") => `(tactic| (refine Mine.i_lt ?_))
local macro_rules | `(tactic| walk_at "compareOp Eq int int") => `(tactic| (refine Mine.i_eq ?_))
local macro_rules | `(tactic| walk_at "compareOp NotEq int int") => `(tactic| (refine Mine.i_ne ?_))
local macro_rules | `(tactic| walk_at "call builtin:len cons nil") => `(tactic| ((rename Mine.St _ _ _ _ _ => wS); k_dflt first
  | (refine Mine.t_len wS (by walk_at "size") ?_; clear wS; intro _ _ _)
  | (refine Mine.c_lenL wS (by walk_at "isat") (by walk_at "size") ?_; clear wS; intro _ _ _)))
local macro_rules | `(tactic| walk_at "eval Slice") => `(tactic| (refine Mine.ev_slice ?_))
local macro_rules | `(tactic| walk_at "evalPart") => `(tactic| first | (refine Mine.ep_some ?_) | (refine Mine.ep_none ?_))
local macro_rules | `(tactic| walk_at "newTuple") => `(tactic| ((rename Mine.St _ _ _ _ _ => wS); refine Mine.new_tuple wS (by simp [sizeLine_eq]) ?_; clear wS; intro _ _ _))
local macro_rules | `(tactic| walk_at "newList") => `(tactic| ((rename Mine.St _ _ _ _ _ => wS); refine Mine.new_list wS (by simp [sizeLine_eq]) ?_; clear wS; intro _ _ _))
local macro_rules | `(tactic| walk_at "SliceEnd") => `(tactic| ((rename Mine.St _ _ _ _ _ => wS); (first | refine Mine.slice_end wS Mine.slc_ss ?_ | refine Mine.slice_end wS Mine.slc_sn ?_ | refine Mine.slice_end wS Mine.slc_ns ?_ | refine Mine.slice_end wS Mine.slc_nn ?_); clear wS; intro _ _ _))
local macro_rules | `(tactic| walk_at "subscriptTail") => `(tactic| ((with_reducible show wpAny _ _ (subscriptTail _ _ (Value.str _ _) (Value.ref _)) _ _ _); (rename Mine.St _ _ _ _ _ => wS); k_dflt (refine Mine.t_slice wS (by walk_at "size") ?_ (by with_unfolding_all rfl) (by intro _; with_unfolding_all rfl)); clear wS; intro _ _ _))
local macro_rules | `(tactic| walk_at "binaryOp Mod str ref") => `(tactic| ((rename Mine.St _ _ _ _ _ => wS); k_dflt (refine Mine.t_fmt wS (by decide +kernel) (by omega) (by omega) (by omega) (by omega) ?_); clear wS; intro _ _ _))
local macro_rules | `(tactic| walk_at "eval ListComp") => `(tactic| ((with_reducible show wpAny _ _ (eval (PySem.Expr.ListComp _ [_] _ _) _) _ _ _); refine Mine.ev_comp (by first | exact closureFor_none (by with_unfolding_all decide) | with_unfolding_all rfl) (by with_unfolding_all rfl) (by with_unfolding_all decide) ?_ (by intro _; with_unfolding_all rfl)))
local macro_rules | `(tactic| walk_at "exec Assign cons ListComp") => `(tactic| (refine Mine.ex_comp (by with_unfolding_all rfl) (by first | exact closureFor_none (by with_unfolding_all decide) | with_unfolding_all rfl) (by with_unfolding_all rfl) (by with_unfolding_all decide) ?_ (by intro _; with_unfolding_all rfl)))
local macro_rules | `(tactic| walk_at "exec For") => `(tactic| (refine Mine.ex_for ?_ (by intro _; with_unfolding_all rfl)))
local macro_rules | `(tactic| walk_at "binaryOp FloorDiv int int") => `(tactic| ((rename Mine.St _ _ _ _ _ => wS); refine Mine.i_fdiv wS (by first | decide | omega) (by first | decide | omega) ?_; clear wS; intro _ _ _))
local macro_rules | `(tactic| walk_at "binaryOp Mult int int") => `(tactic| ((rename Mine.St _ _ _ _ _ => wS); first | (refine Mine.i_mulR wS (by decide +kernel) ?_; clear wS; intro _ _ _) | (refine Mine.i_mulL wS (by decide +kernel) ?_; clear wS; intro _ _ _)))
local macro_rules | `(tactic| walk_at "unaryOp USub int") => `(tactic| ((rename Mine.St _ _ _ _ _ => wS); refine Mine.i_neg wS ?_; clear wS; intro _ _ _))
local macro_rules | `(tactic| walk_at "compareOp LtE int int") => `(tactic| (refine Mine.i_le ?_))
local macro_rules | `(tactic| walk_at "compareOp GtE int int") => `(tactic| (refine Mine.i_ge ?_))
local macro_rules | `(tactic| walk_at "compareOp Eq str str") => `(tactic| (refine Mine.t_eq ?_))
local macro_rules | `(tactic| walk_at "compareOp NotEq str str") => `(tactic| (refine Mine.t_ne ?_))
local macro_rules | `(tactic| walk_at "binaryOp Add str str") => `(tactic| ((rename Mine.St _ _ _ _ _ => wS); refine Mine.t_add wS (by walk_at "size") ?_; clear wS; intro _ _ _))
local macro_rules | `(tactic| walk_at "inplaceOp Add str str") => `(tactic| ((rename Mine.St _ _ _ _ _ => wS); refine Mine.t_iadd wS (by walk_at "size") ?_; clear wS; intro _ _ _))
local macro_rules | `(tactic| walk_at "call builtin:chr") => `(tactic| ((rename Mine.St _ _ _ _ _ => wS); refine Mine.c_chr wS (by omega) (by omega) ?_; clear wS; intro _ _ _))
local macro_rules | `(tactic| walk_at "call builtin:sum") => `(tactic| ((rename Mine.St _ _ _ _ _ => wS); refine Mine.c_sum wS (by assumption) (by walk_at "isat") (by assumption) ?_; clear wS; intro _ _ _))
local macro_rules | `(tactic| walk_at "call builtin:str.join") => `(tactic| ((rename Mine.St _ _ _ _ _ => wS); refine Mine.c_join wS (by walk_at "isat") (by assumption) (by with_unfolding_all rfl) (by walk_at "size") ?_; clear wS; intro _ _ _))
local macro_rules | `(tactic| walk_at "unpackItems ref") => `(tactic| ((rename Mine.St _ _ _ _ _ => wS); refine Mine.unpack_tup wS (by assumption) (by with_unfolding_all rfl) ?_; clear wS; intro _ _))
local macro_rules | `(tactic| walk_at "call builtin:list.append") => `(tactic| ((rename Mine.St _ _ _ _ _ => wS); k_dflt (refine Mine.l_append wS (by walk_at "upd") (by walk_at "size") ?_); clear wS; intro _ _))
local macro_rules | `(tactic| walk_at "Ready") => `(tactic| ((rename Mine.St _ _ _ _ _ => wS); refine Mine.Ready.mk' (by assumption) wS ?_))
local macro_rules | `(tactic| walk_at "callWith ref") => `(tactic| (refine Mine.callWith_fn (by assumption) (by with_unfolding_all rfl) ?_ (by with_unfolding_all rfl) (by with_unfolding_all rfl)))
local macro_rules | `(tactic| walk_at "call type:range") => `(tactic| ((rename Mine.St _ _ _ _ _ => wS); (first | refine Mine.c_range1 wS ?_ | refine Mine.c_range2 wS ?_); clear wS; intro _ _ _))
local macro_rules | `(tactic| walk_at "assign Tuple") => `(tactic| ((rename Mine.St _ _ _ _ _ => wS); refine Mine.as_tup wS (by walk_at "mem") (by assumption) (by with_unfolding_all rfl) (by with_unfolding_all rfl) ?_; clear wS; intro _ _))
local macro_rules | `(tactic| walk_at "compareOp NotEq ref ref") => `(tactic| ((rename Mine.St _ _ _ _ _ => wS); first
  | (refine Mine.l_neInts wS (by walk_at "isat") (by walk_at "isat") (by first | assumption | exact PyProof.Rows.IntsAre.nil) (by first | assumption | exact PyProof.Rows.IntsAre.nil) (by first | assumption | (simp only [units_deeper]; omega)) ?_)
  | (refine Mine.l_neTx wS (by walk_at "isat") (by walk_at "isat") (by first | assumption | exact Mine.TxAre.nil) (by first | assumption | exact Mine.TxAre.nil) (by first | omega | (simp only [units_deeper]; omega)) ?_)))
local macro_rules | `(tactic| walk_at "compareOp Eq ref ref") => `(tactic| ((rename Mine.St _ _ _ _ _ => wS); first
  | (refine Mine.l_eqInts wS (by walk_at "isat") (by walk_at "isat") (by first | assumption | exact PyProof.Rows.IntsAre.nil) (by first | assumption | exact PyProof.Rows.IntsAre.nil) (by first | assumption | (simp only [units_deeper]; omega)) ?_)
  | (refine Mine.l_eqTx wS (by walk_at "isat") (by walk_at "isat") (by first | assumption | exact Mine.TxAre.nil) (by first | assumption | exact Mine.TxAre.nil) (by first | omega | (simp only [units_deeper]; omega)) ?_)))
local macro_rules | `(tactic| walk_at "call type:str") => `(tactic| ((rename Mine.St _ _ _ _ _ => wS); refine Mine.c_strInt wS (by first | assumption | exact Mine.log2_small (by omega)) ?_; clear wS; intro _ _ _))
local macro_rules | `(tactic| walk_at "call builtin:max cons cons") => `(tactic| ((rename Mine.St _ _ _ _ _ => wS); refine Mine.c_max2 wS (by assumption) ?_; clear wS; intro _ _ _))
local macro_rules | `(tactic| walk_at "call builtin:max") => `(tactic| ((rename Mine.St _ _ _ _ _ => wS); refine Mine.c_max2 wS (by assumption) ?_; clear wS; intro _ _ _))
local macro_rules | `(tactic| walk_at "call builtin:min") => `(tactic| ((rename Mine.St _ _ _ _ _ => wS); refine Mine.c_min2 wS (by assumption) ?_; clear wS; intro _ _ _))
local macro_rules | `(tactic| walk_at "binaryOp Add ref ref") => `(tactic| ((rename Mine.St _ _ _ _ _ => wS); refine Mine.l_add wS (by walk_at "mem") (by walk_at "mem") (by walk_at "size") ?_; clear wS; intro _ _ _))
local macro_rules | `(tactic| walk_at "subscriptTail") => `(tactic| ((with_reducible show wpAny _ _ (subscriptTail _ _ (Value.ref _) (Value.ref _)) _ _ _); (rename Mine.St _ _ _ _ _ => wS); k_dflt (refine Mine.l_slice wS (by walk_at "isat") (by walk_at "size") ?_ (by with_unfolding_all rfl)); clear wS; intro _ _ _))
local macro_rules | `(tactic| walk_at "tree") => `(tactic| first | (with_reducible show wpAny _ _ _ _ _ _) | (with_reducible show Mine.SliceEnd _ _ _ _) | (with_reducible show Mine.Ready _ _ _) | (with_reducible show @ite Prop _ _ _ _))
local macro_rules | `(tactic| walk_at "go") => `(tactic| repeat' ((try dsimp only); walk_at "tree"; walk1))
local macro_rules | `(tactic| walk_at "in") => `(tactic| repeat' ((try dsimp only); walk_at "tree"; (fail_if_success (with_reducible show wpAny _ _ (execs _ _) _ _ _)); walk1))
local macro_rules | `(tactic| walk_at "one") => `(tactic| ((try dsimp only); refine wpAny_execs_cons ?_; walk_at "in"))
local macro_rules | `(tactic| walk_at "sub") => `(tactic| first | exact List.Sublist.refl _ | exact List.Sublist.slnil | exact List.nil_sublist _ | (apply List.Sublist.cons_cons; walk_at "sub") | (apply List.Sublist.cons; walk_at "sub"))
local macro_rules | `(tactic| walk_at "bind") => `(tactic| first | exact Mine.Sub.nil _ | (refine Mine.Sub.cons (by with_unfolding_all rfl) ?_; walk_at "bind"))
local macro_rules | `(tactic| walk_at "subscriptTail") => `(tactic| ((with_reducible show wpAny _ _ (subscriptTail _ _ (Value.ref _) (Value.int _ _)) _ _ _); (rename Mine.St _ _ _ _ _ => wS); k_dflt first
  | (refine Mine.l_item wS (by walk_at "isat") (by omega) (by omega) (by assumption) ?_ (by with_unfolding_all rfl))
  | (refine Mine.l_last wS (by walk_at "isat") (by omega) (by omega) (by walk_at "size") (by assumption) ?_ (by with_unfolding_all rfl))))
local macro_rules | `(tactic| walk_at "subscriptTail") => `(tactic| ((with_reducible show wpAny _ _ (subscriptTail _ _ (Value.str _ _) (Value.int _ _)) _ _ _); (rename Mine.St _ _ _ _ _ => wS); k_dflt (refine Mine.t_item wS (by omega) (by omega) (by assumption) ?_ (by with_unfolding_all rfl)); clear wS; intro _ _ _))
local macro_rules | `(tactic| walk_at "truthy ref") => `(tactic| ((rename Mine.St _ _ _ _ _ => wS); k_dflt (refine Mine.l_truth wS (by walk_at "isat") (by walk_at "size") ?_); clear wS; intro _ _))
local macro_rules | `(tactic| walk_at "call builtin:list.pop") => `(tactic| ((rename Mine.St _ _ _ _ _ => wS); k_dflt (refine Mine.l_pop wS (by walk_at "upd") (by walk_at "size") ?_); clear wS; intro _ _))
local macro_rules | `(tactic| walk_at "call builtin:list.extend") => `(tactic| ((rename Mine.St _ _ _ _ _ => wS); k_dflt (refine Mine.l_extend wS (by walk_at "mem") (by walk_at "upd") (by walk_at "size") ?_); clear wS; intro _ _))
local macro_rules | `(tactic| walk_at "getMethod ref") => `(tactic| ((rename Mine.St _ _ _ _ _ => wS); first
  | ((with_reducible show wpAny _ _ (getMethod _ (Str.ofString "append") _) _ _ _); k_dflt (refine Mine.m_append wS (by walk_at "mem") ?_))
  | ((with_reducible show wpAny _ _ (getMethod _ (Str.ofString "pop") _) _ _ _); k_dflt (refine Mine.m_list (name := "pop") wS (by walk_at "isat") PySem.F.slot_list_pop PySem.F.type_list_pop (by walk_at "mem") ?_))
  | ((with_reducible show wpAny _ _ (getMethod _ (Str.ofString "remove") _) _ _ _); k_dflt (refine Mine.m_list (name := "remove") wS (by walk_at "isat") PySem.F.slot_list_remove PySem.F.type_list_remove (by walk_at "mem") ?_))
  | ((with_reducible show wpAny _ _ (getMethod _ (Str.ofString "extend") _) _ _ _); k_dflt (refine Mine.m_list (name := "extend") wS (by walk_at "isat") PySem.F.slot_list_extend PySem.F.type_list_extend (by walk_at "mem") ?_))
  | ((with_reducible show wpAny _ _ (getMethod _ (Str.ofString "count") _) _ _ _); k_dflt (refine Mine.m_list (name := "count") wS (by walk_at "isat") PySem.F.slot_list_count PySem.F.type_list_count (by walk_at "mem") ?_))))
local macro_rules | `(tactic| walk_at "binaryOp Mult ref int") => `(tactic| ((rename Mine.St _ _ _ _ _ => wS); refine Mine.l_mul wS (by walk_at "mem") (by omega) (by omega) (by simp only [List.length_cons, List.length_nil]; omega) ?_; clear wS; intro _ _ _))
local macro_rules | `(tactic| walk_at "call type:range") => `(tactic| ((rename Mine.St _ _ _ _ _ => wS); (first | refine Mine.c_range1 wS ?_ | refine Mine.c_range2 wS ?_ | refine Mine.c_rangeD wS (by omega) (by omega) (by omega) (by omega) ?_); clear wS; intro _ _ _))
namespace Mine
/-- repr(v) gives this text, out of any later state -/
def Reps (prog : Program) (w : World) (v : Value) (l : List Nat) (HR : List Ent) : Prop :=
  ∀ (A : Around) (s : Shared) (Q : Value → Shared → Prop) (E : Value → Shared → Prop), A.handled = none → A.guards = some [] → A.units + 40 < cLine → A.depth + 4 < recursionLimit → (∀ p ∈ HR, ∃ o, s.heap.get? p.1 = some o ∧ p.2 o) →
    (∀ t h' tk, (∀ b o, s.heap.get? b = some o → h'.get? b = some o) → Q (.str (T l) t) { s with heap := h', toks := tk }) → wpAny (model prog w) A (call (.builtin "repr") [v]) Q E s
section
variable {w : World} {p : Program} {loose : List Str} {mg mb : Str → Option Value} {A : Around} {E : Value → Shared → Prop} {s s₁ : Shared} {L : Addr} {b : List (Str × Value)} {H : List Ent} {Q : Value → Shared → Prop}
abbrev progC := PySem.Challenge.rw_dn0232_03.row.prog
theorem safe_spec {v : Value} {l : List Nat} {HR : List Ent} (X : (hd03.heap_39 w.params).In s.heap) (TR : TopRead p loose mg mb s.heap) (hroom : A.depth + 6 < recursionLimit) (hh : A.handled = none) (hgu : A.guards = some []) (hu : A.units + 60 < cLine)
    (hr : Reps progC w v l HR) (hk : ∀ p ∈ HR, ∃ o, s.heap.get? p.1 = some o ∧ p.2 o)
    (h : ∀ t h' tk, (∀ b o, s.heap.get? b = some o → h'.get? b = some o) → Q (.str (T l) t) { s with heap := h', toks := tk }) :
    wpAny (model progC w) A (call (.ref 69) [v]) Q E s := by
  refine call_fn0 X TR.nolimit (by rfl) (by rfl) (by omega) (by rfl) (BindsTo.of_defaults (by rfl) (X _ _ (by rfl)) (by rfl) (by rfl) (by rfl)) (by decide) (b' := [(Str.ofString "short", .bool false), (Str.ofString "obj", v)]) (locs (by rfl)) (by rfl) ?_ (by rfl) (by rfl) (by rfl)
  intro s' L' S
  refine wpAny_execs_cons (ex_try0 ?_)
  walk_at "go"
  rename St _ _ _ _ _ => S
  refine hr _ _ _ _ hh hgu (by simp only [units_deeper]; omega) (by simp only [depth_deeper]; omega) (fun p hp => let ⟨o, ho, hq⟩ := hk p hp; ⟨o, S.keep _ _ ho, hq⟩) fun t h' tk hk' => ?_
  have S2 := S.ext tk hk'
  clear S
  walk_at "go"
  rename St _ _ _ _ _ => S
  obtain ⟨h'', tk'', e, hk''⟩ := S.pure
  rw [e]
  exact h _ _ _ hk''
end
end Mine
local macro_rules | `(tactic| walk_at "truthy str") => `(tactic| ((rename Mine.St _ _ _ _ _ => wS); k_dflt (refine Mine.t_truth wS (by walk_at "size") ?_); clear wS; intro _ _))
local macro_rules | `(tactic| walk_at "call type:enumerate") => `(tactic| ((rename Mine.St _ _ _ _ _ => wS); k_dflt (refine Mine.c_enum wS ?_); clear wS; intro _ _ _ _ _))
namespace Mine
section
variable {w : World} {p : Program} {loose : List Str} {mg mb : Str → Option Value} {A : Around} {E : Value → Shared → Prop} {s s₁ : Shared} {L : Addr} {b : List (Str × Value)} {H : List Ent} {Q : Value → Shared → Prop}
theorem kind_spec {nm : Value} {l : List Nat} {t : Tok} (X : (hd03.heap_39 w.params).In s₁.heap) (TR : TopRead p loose mg mb s₁.heap) (S : St s₁ L b H s) (hroom : A.depth < recursionLimit)
    (h : ∀ s' t', St s₁ L b H s' → Q (.str (T []) t') s') :
    wpAny (model progC w) A (call (.ref 35) [nm, .str (T l) t]) Q E s := by
  refine call_fn S X TR.nolimit (by rfl) (by rfl) hroom (by rfl) (BindsTo.of_eq (by rfl)) (by decide) (b' := [(Str.ofString "x", .str (T l) t), (Str.ofString "name", nm)]) (locs (by rfl)) (by rfl) ?_ (by rfl) (by rfl) (by rfl)
  clear S
  intro s' L' S
  walk_at "go"
  rename St _ _ _ _ _ => S
  exact h _ _ S.back
theorem fspath_spec {nm : Value} {l : List Nat} {t : Tok} (X : (hd03.heap_39 w.params).In s₁.heap) (TR : TopRead p loose mg mb s₁.heap) (S : St s₁ L b H s) (hroom : A.depth + 1 < recursionLimit)
    (h : ∀ s', St s₁ L b H s' → Q (.str (T l) t) s') :
    wpAny (model progC w) A (call (.ref 42) [nm, .str (T l) t]) Q E s := by
  refine call_fn S X TR.nolimit (by rfl) (by rfl) (by omega) (by rfl) (BindsTo.of_eq (by rfl)) (by decide) (b' := [(Str.ofString "x", .str (T l) t), (Str.ofString "name", nm)]) (locs (by rfl)) (by rfl) ?_ (by rfl) (by rfl) (by rfl)
  clear S
  intro s' L' S
  walk_at "go"
  rename St _ _ _ _ _ => S
  refine kind_spec X TR S (by simp only [depth_deeper]; omega) ?_
  clear S
  intro _ _ S
  walk_at "go"
  rename St _ _ _ _ _ => S
  exact h _ S.back
theorem prefix_spec {m : Addr} {vs : List Value} {ls : List (List Nat)} (X : (hd03.heap_39 w.params).In s₁.heap) (TR : TopRead p loose mg mb s₁.heap) (S : St s₁ L b H s) (hroom : A.depth < recursionLimit) (hh : A.handled = none)
    (hm : (m, Tup vs) ∈ H) (htx : TxAre vs ls) (hne : ls ≠ []) (hsz : ∀ l ∈ ls, l.length ≤ sizeLine)
    (h : ∀ s' r u, Pre ls r → St s₁ L b H s' → Q (.str (T r) u) s') :
    wpAny (model progC w) A (call (.ref 49) [.ref m]) Q E s := by
  refine call_fn S X TR.nolimit (by rfl) (by rfl) hroom (by rfl) (BindsTo.of_eq (by rfl)) (by decide) (b' := [(Str.ofString "m", .ref m)]) (locs (by rfl)) (by rfl) ?_ (by rfl) (by rfl) (by rfl)
  clear S
  intro s' L' S
  have hm' : (m, Tup vs) ∈ (L, Frm b) :: H := List.mem_cons_of_mem _ hm
  walk_at "one"
  rename St _ _ _ _ _ => S
  refine c_minT S hm' htx hne hh ?_
  clear S
  intro _ l1 u1 m1 h1 S
  walk_at "in"
  walk_at "one"
  rename St _ _ _ _ _ => S
  refine c_maxT S hm' htx hne hh ?_
  clear S
  intro _ l2 u2 m2 h2 S
  have z1 := hsz l1 m1
  have z2 := hsz l2 m2
  rw [sizeLine_eq] at z1 z2
  have z1' : l1.length ≤ sizeLine := by rw [sizeLine_eq]; exact z1
  have z2' : l2.length ≤ sizeLine := by rw [sizeLine_eq]; exact z2
  walk_at "in"
  walk_at "one"
  rename St _ _ _ _ _ => S
  rename _ ≠ _ => hei
  refine for_enum (fun i b' H' => b' = [(Str.ofString "s2", .str (T l2) u2), (Str.ofString "s1", .str (T l1) u1)] ∧ H' = (L, Frm b) :: H ∧ l1.take i = l2.take i) (S.bind (by walk_at "bind")) hei ⟨rfl, rfl, by simp⟩ hh (by with_unfolding_all rfl) (by with_unfolding_all rfl) (by with_unfolding_all rfl) (by with_unfolding_all rfl) ?_ ?_
  · clear S hei hne
    rintro i c ti tc XX b' H' s' hc ⟨rfl, rfl, ht⟩ S
    obtain ⟨hi, rfl⟩ := List.getElem?_eq_some_iff.mp hc
    have hi2 : i < l2.length := len_of_min (h1 l2 m2) ht hi
    have hx : l2[((i : Nat) : Int).toNat]? = some l2[i] := by simp [hi2]
    walk_at "go"
    · rename St _ _ _ _ _ => S
      rename (_ != _) = true => hne'
      have hne2 : l1[i] ≠ l2[i] := by simpa using hne'
      rw [cut_to _ (by omega), Int.toNat_natCast]
      refine h _ _ _ (pre_ret m1 m2 h1 h2 ht hi ?_) ?_
      · rw [List.getElem?_eq_getElem hi, List.getElem?_eq_getElem hi2]; intro q; injection q with q; exact hne2 q
      · exact (S.perm (List.perm_middle (l₁ := XX)).symm).back.sub (List.sublist_append_right _ _)
    · rename St _ _ _ _ _ => S
      rename_i hne'
      refine ⟨_, _, S.bind (by walk_at "bind"), rfl, rfl, ?_⟩
      refine take_succ_eq ht hi hi2 ?_
      simpa using hne'
  · clear S
    rintro b' H' s' ⟨rfl, rfl, ht⟩ S
    walk_at "go"
    rename St _ _ _ _ _ => S
    exact h _ _ _ (pre_all m1 h1 h2 ht) S.back
end
end Mine
local macro_rules | `(tactic| walk_at "call type:type") => `(tactic| ((with_reducible show wpAny _ _ (call (Value.type _) [Value.ref _]) _ _ _); (rename Mine.St _ _ _ _ _ => wS); k_dflt (first | (refine Mine.c_typeT wS (by walk_at "mem") ?_) | (refine Mine.c_typeL wS (by walk_at "mem") ?_))))
local macro_rules | `(tactic| walk_at "truthy ref") => `(tactic| ((rename Mine.St _ _ _ _ _ => wS); k_dflt (first | (refine Mine.c_truthT wS (by walk_at "mem") (by walk_at "size") ?_) | (refine Mine.l_truth wS (by walk_at "isat") (by walk_at "size") ?_)); clear wS; intro _ _))
local macro_rules | `(tactic| walk_at "subscriptTail") => `(tactic| ((with_reducible show wpAny _ _ (subscriptTail _ _ (Value.ref _) (Value.int _ _)) _ _ _); (rename Mine.St _ _ _ _ _ => wS); k_dflt first
  | (refine Mine.tupitem wS (by walk_at "mem") (by omega) (by omega) (by assumption) ?_ (by with_unfolding_all rfl))
  | (refine Mine.l_item wS (by walk_at "isat") (by omega) (by omega) (by assumption) ?_ (by with_unfolding_all rfl))
  | (refine Mine.l_last wS (by walk_at "isat") (by omega) (by omega) (by walk_at "size") (by assumption) ?_ (by with_unfolding_all rfl))))
local macro_rules | `(tactic| walk_at "call type:tuple") => `(tactic| ((rename Mine.St _ _ _ _ _ => wS); k_dflt (refine Mine.c_tupL wS (by walk_at "mem") (by walk_at "size") ?_); clear wS; intro _ _ _))
namespace Mine
section
variable {w : World} {p : Program} {loose : List Str} {mg mb : Str → Option Value} {A : Around} {E : Value → Shared → Prop} {s s₁ : Shared} {L : Addr} {b : List (Str × Value)} {H : List Ent} {Q : Value → Shared → Prop}
theorem common_spec {m : Addr} {vs : List Value} {ls : List (List Nat)} (X : (hd03.heap_39 w.params).In s₁.heap) (TR : TopRead p loose mg mb s₁.heap) (S : St s₁ L b H s) (hroom : A.depth + 3 < recursionLimit) (hh : A.handled = none)
    (hm : (m, Tup vs) ∈ H) (htx : TxAre vs ls) (hne : ls ≠ []) (hsz : ∀ l ∈ ls, l.length ≤ sizeLine) (hn : ls.length ≤ 1000)
    (h : ∀ s' r u, Pre ls r → St s₁ L b H s' → Q (.str (T r) u) s') :
    wpAny (model progC w) A (call (.ref 54) [.ref m]) Q E s := by
  refine call_fn S X TR.nolimit (by rfl) (by rfl) (by omega) (by rfl) (BindsTo.of_eq (by rfl)) (by decide) (b' := [(Str.ofString "m", .ref m)]) (locs (by rfl)) (by rfl) ?_ (by rfl) (by rfl) (by rfl)
  clear S
  intro s' L' S
  have hm' : (m, Tup vs) ∈ (L, Frm b) :: H := List.mem_cons_of_mem _ hm
  obtain ⟨v0, vs', rfl⟩ : ∃ v0 vs', vs = v0 :: vs' := by
    cases vs with
    | nil => cases htx; exact absurd rfl hne
    | cons v0 vs' => exact ⟨v0, vs', rfl⟩
  have hlen : (v0 :: vs').length = ls.length := htx.length
  have hz : (v0 :: vs').length ≤ sizeLine := by rw [sizeLine_eq]; omega
  obtain ⟨l0, u0, hv0, _⟩ := htx.at 0 v0 rfl
  have hx0 : (v0 :: vs')[(0 : Int).toNat]? = some (.str (T l0) u0) := by rw [← hv0]; rfl
  generalize hvs : v0 :: vs' = vs at *
  have hem : vs.isEmpty = false := by rw [← hvs]; rfl
  clear hvs
  walk_at "go"
  rename St _ _ _ _ _ => S
  refine for_tuple (vs := vs) (fun i b' H' => b' = [(Str.ofString "m", .ref m)] ∧ H' = (L, Frm b) :: H) (S.bind (by walk_at "bind")) ⟨rfl, rfl⟩ hm' (by rintro i b' H' ⟨_, rfl⟩; exact hm') hh (by with_unfolding_all rfl) (by with_unfolding_all rfl) (by with_unfolding_all rfl) ?_ ?_
  · clear S
    rintro I i v b' H' s' hv ⟨rfl, rfl⟩ S
    obtain ⟨l, u, rfl, hl⟩ := htx.at i v hv
    walk_at "go"
    rename St _ _ _ _ _ => S
    refine kind_spec X TR S (by simp only [depth_deeper]; omega) ?_
    clear S
    intro _ _ S
    walk_at "go"
    rename St _ _ _ _ _ => S
    exact ⟨_, _, S.bind (by walk_at "bind"), rfl, rfl⟩
  clear S
  rintro b' H' s' ⟨rfl, rfl⟩ S
  walk_at "go"
  rename St _ _ _ _ _ => S
  refine comp_tuple (vs := vs) (fun i ys H' => TxAre ys (ls.take i) ∧ H' = (L, Frm b) :: H) S ⟨.nil, rfl⟩ hz hm' (by rintro i ys H' ⟨_, rfl⟩; exact hm') hh (by decide) (by rfl) (by rfl) ?_ ?_
  · clear S
    rintro C D I i v ys H' s' hv ⟨hys, rfl⟩ S
    obtain ⟨l, u, rfl, hl⟩ := htx.at i v hv
    refine tests_nil (ifT ?_)
    walk_at "go"
    rename St _ _ _ _ _ => S
    refine fspath_spec X TR S (by simp only [depth_deeper]; omega) ?_
    clear S
    intro _ S
    refine ⟨_, _, S, ?_, rfl⟩
    obtain ⟨hi, rfl⟩ := List.getElem?_eq_some_iff.mp hl
    rw [List.take_succ_eq_append_getElem hi]
    exact hys.snoc _ _
  clear S
  rintro C D ys H' s' ⟨hys, rfl⟩ S
  clear S
  intro s'' S
  rw [hlen, List.take_length] at hys
  have hyz : ys.length ≤ sizeLine := by rw [hys.length, ← hlen]; exact hz
  walk_at "go"
  rename St _ _ _ _ _ => S
  refine prefix_spec X TR S (by simp only [depth_deeper]; omega) hh (by walk_at "mem") hys hne hsz ?_
  clear S
  intro _ r u hr S
  exact h _ _ _ hr (((S.perm (List.perm_middle (l₁ := [_, _])).symm).back).sub (.cons _ (.cons _ (.refl _))))
end
end Mine
namespace Mine
section
variable {w : World} {p : Program} {loose : List Str} {mg mb : Str → Option Value} {A : Around} {E : Value → Shared → Prop} {s s₁ : Shared} {L : Addr} {b : List (Str × Value)} {H : List Ent} {Q : Value → Shared → Prop}
theorem short0 {l : List Nat} {i j : Int} {t ti tj : Tok} (X : (hd03.heap_39 w.params).In s.heap) (TR : TopRead p loose mg mb s.heap) (hroom : A.depth < recursionLimit)
    (hl : l.length ≤ 100000) (hi : 0 ≤ i) (hj : 0 ≤ j) (h : ∀ s' t', Keeps s s' → Q (.str (T (shorten l i j)) t') s') :
    wpAny (model progC w) A (call (.ref 28) [.str (T l) t, .int i ti, .int j tj]) Q E s := by
  have hl' : l.length ≤ sizeLine := by rw [sizeLine_eq]; omega
  have hc1 := cut_len_le l none (some i)
  have hc2 := cut_len_le l (some ((l.length : Int) - j)) none
  refine call_fn0 X TR.nolimit (by rfl) (by rfl) hroom (by rfl) (BindsTo.of_eq (by rfl)) (by decide) (b' := [(Str.ofString "suffixlen", .int j tj), (Str.ofString "prefixlen", .int i ti), (Str.ofString "s", .str (T l) t)]) (locs (by rfl)) (by rfl) ?_ (by rfl) (by rfl) (by rfl)
  intro s' L' S'
  walk_at "go"
  · rename 12 < _ => hc
    have e : shorten l i j = _ := if_pos hc
    rw [← e]
    rename St _ _ _ _ _ => S
    exact h _ _ S.pure
  · rename ¬ (12 < _) => hc
    have e : shorten l i j = l := if_neg hc
    rename St _ _ _ _ _ => S
    have := h _ t S.pure
    rw [e] at this
    exact this
theorem short_spec {l : List Nat} {i j : Int} {t ti tj : Tok} (X : (hd03.heap_39 w.params).In s₁.heap) (TR : TopRead p loose mg mb s₁.heap) (S : St s₁ L b H s) (hroom : A.depth < recursionLimit)
    (hl : l.length ≤ 100000) (hi : 0 ≤ i) (hj : 0 ≤ j) (h : ∀ s' t', St s₁ L b H s' → Q (.str (T (shorten l i j)) t') s') :
    wpAny (model progC w) A (call (.ref 28) [.str (T l) t, .int i ti, .int j tj]) Q E s := by
  refine short0 (X.keeps S.keep) (TR.keeps S.keep) hroom hl hi hj fun s' t' hk => ?_
  obtain ⟨h', tk, rfl, k⟩ := hk
  exact h _ _ (S.ext tk k)
end
end Mine
local macro_rules | `(tactic| walk_at "call type:map") => `(tactic| ((rename Mine.St _ _ _ _ _ => wS); k_dflt (refine Mine.c_map wS (by walk_at "mem") ?_); clear wS; intro _ _ _ _ _))
local macro_rules | `(tactic| walk_at "eval Name") => `(tactic| ((rename Keeps _ _ => kP); (rename Heap.Ns _ _ _ => kN); (rename Frag.In _ _ => kX); (rename TopRead _ _ _ _ _ => kT); k_dflt first
  | (refine Mine.pu_L kP kN (by with_unfolding_all rfl) (by assumption) ?_ (by with_unfolding_all rfl) (by with_unfolding_all rfl))
  | (refine Mine.pu_F kP (by with_unfolding_all rfl) (by with_unfolding_all rfl) (by assumption) ?_ (by with_unfolding_all rfl) (by with_unfolding_all rfl) (by with_unfolding_all rfl))
  | (refine Mine.pu_K kP kX kT (by with_unfolding_all rfl) (by with_unfolding_all rfl) ?_ (by with_unfolding_all rfl) (by with_unfolding_all rfl) (by with_unfolding_all rfl))))
local macro_rules | `(tactic| walk_at "SliceEnd") => `(tactic| ((rename Keeps _ _ => kP); k_dflt (refine Mine.pu_sliceEnd kP Mine.slc_sn ?_); clear kP; intro _ _ _ _))
local macro_rules | `(tactic| walk_at "subscriptTail") => `(tactic| ((rename Keeps _ _ => kP); k_dflt (refine Mine.pu_slice kP (by assumption) (by walk_at "size") ?_ (by with_unfolding_all rfl) (by intro _; with_unfolding_all rfl)); clear kP; intro _ _ _))
local macro_rules | `(tactic| walk_at "binaryOp Add str str") => `(tactic| ((rename Keeps _ _ => kP); k_dflt (refine Mine.pu_add kP (by walk_at "size") ?_); clear kP; intro _ _ _))
local macro_rules | `(tactic| walk_at "callWith ref") => `(tactic| ((rename Keeps _ _ => kP); (rename Frag.In _ _ => kX); k_dflt (refine Mine.pu_callWith kP kX (by with_unfolding_all rfl) ?_ (by rfl) (by rfl))))
local macro_rules | `(tactic| walk_at "Ready") => `(tactic| ((rename Keeps _ _ => kP); (rename Frag.In _ _ => kX); refine Mine.pu_ready kP kX ?_))
local macro_rules | `(tactic| walk_at "call type:tuple") => `(tactic| fail "by hand")
namespace Mine
/-- what _common_shorten_repr makes of texts that begin alike with r, the longest M long -/
def csr (ws : List (List Nat)) (r : List Nat) (M : Nat) : List (List Nat) :=
  if M ≤ 80 then ws
  else if 5 < 80 - ((M : Int) - r.length + 5 + 12) then ws.map fun l => shorten r 5 (80 - ((M : Int) - r.length + 5 + 12)) ++ cut l (some (r.length : Int)) none
  else ws.map fun l => shorten r 5 5 ++ shorten (cut l (some (r.length : Int)) none) 41 5
/-- a later base: the table of one code object has grown, generators have run -/
structure Later (K : Frag) (p : Program) (loose : List Str) (mg mb : Str → Option Value) (s₁ s₁' : Shared) : Prop where
  X : K.In s₁'.heap
  TR : TopRead p loose mg mb s₁'.heap
  old : OldK s₁.heap s₁'.heap
  os : s₁'.os = s₁.os
  gens : AllBare s₁'.gens
theorem tx_of : ∀ {ys : List Value} {ws : List (List Nat)}, ys.length = ws.length → (∀ (i : Nat) y, ys[i]? = some y → ∃ l u, ws[i]? = some l ∧ y = .str (T l) u) → TxAre ys ws
  | [], [], _, _ => .nil
  | [], _ :: _, h, _ => by simp at h
  | _ :: _, [], h, _ => by simp at h
  | y :: ys, l :: ws, h, hy => by
    obtain ⟨l', u, h1, rfl⟩ := hy 0 y rfl
    have e : l = l' := by simpa using h1
    subst e
    exact .cons l u (tx_of (by simpa using h) fun i y h2 => by simpa using hy (i + 1) y (by simpa using h2))
theorem St.bare {s₁ s : Shared} {L : Addr} {b : List (Str × Value)} {H : List Ent} (S : St s₁ L b H s) (G : AllBare s₁.gens) : AllBare s.gens := by
  obtain ⟨_, _, e⟩ := S.eq
  rw [e]; exact G
theorem St.cell {s₁ s t' : Shared} {L P a : Addr} {b : List (Str × Value)} {H : List Ent} {v : Option Value} (S : St s₁ L b H s) (ha : (a, Cel v) ∈ H) (hk : ∀ b o, b ≠ P → s.heap.get? b = some o → t'.heap.get? b = some o) (hP : ∃ o, s₁.heap.get? P = some o) : t'.heap.IsCell a v := by
  obtain ⟨o, ho, hc⟩ := S.nw _ ha
  obtain ⟨oP, hoP⟩ := hP
  exact ⟨o, hk _ _ (fun e => by have := (S.fresh _ ha).2; rw [e, hoP] at this; cases this) ho, hc⟩
theorem tx_gen {f : List Nat → List Nat} {n : Nat} {ys2 : List Value} {ws : List (List Nat)} (hl : ys2.length = ws.length) (hys : ∀ (j : Nat) (y : Value), ys2[j]? = some y → ∃ i, (passing (fun _ => true) n 0)[j]? = some i ∧ ∃ l u, ws[i]? = some l ∧ y = .str (T (f l)) u) : TxAre ys2 (ws.map f) :=
  tx_of (by simpa using hl) fun j y h => by
    obtain ⟨i, h1, l, u, h2, rfl⟩ := hys j y h
    rw [passing_all] at h1
    have e : j = i := by
      obtain ⟨hj, e⟩ := List.getElem?_eq_some_iff.mp h1
      simpa using e
    subst e
    exact ⟨f l, u, by rw [List.getElem?_map, h2]; rfl, rfl⟩
theorem later_of {K : Frag} {p : Program} {loose : List Str} {mg mb : Str → Option Value} {s₁ s₁' s₁'' s : Shared} {c P L : Addr} {ps ps' : Array Value} {b : List (Str × Value)} {H : List Ent} (X : K.In s₁.heap) (TR : TopRead p loose mg mb s₁.heap) (B : Based s₁.heap s₁.heap c P ps) (B' : Based s₁.heap s₁'.heap c P ps')
    (hbase : s₁'.heap = regrown s₁.heap P ps') (e1 : s₁''.heap = s₁'.heap) (G : AllBare s₁''.gens) (os : s₁''.os = s₁.os) (hK : kb_classed K = true) (S : St s₁'' L b H s) (hab : s₁.heap.objs.size ≤ L) : Later K p loose mg mb s₁ s₁'' := by
  obtain ⟨m, hm, _⟩ := S.Ns
  have F : Fr s₁''.heap L s.heap m := ⟨hm, S.keep, by rw [e1, B'.same.1]; exact hab⟩
  rw [e1, hbase] at F
  exact ⟨by rw [e1, hbase]; exact kb_in_regrown B X TR.g hK, by rw [e1, hbase]; exact LGe.top_regrown F TR B, by rw [e1]; exact B'.old, os, G⟩
section
variable {w : World} {p : Program} {loose : List Str} {mg mb : Str → Option Value} {A : Around} {E : Value → Shared → Prop} {s s₁ : Shared} {L : Addr} {b : List (Str × Value)} {H : List Ent} {Q : Value → Shared → Prop}
theorem csr_spec {vs : List Value} {ws : List (List Nat)} {P bm : Addr} {ob : Obj} (X : (hd03.heap_39 w.params).In s₁.heap) (TR : TopRead p loose mg mb s₁.heap) (B : Based s₁.heap s₁.heap 60 P #[]) (M : BMod s₁.heap mainGlobals mg bm ob) (G : AllBare s₁.gens)
    (S : St s₁ L b H s) (hab : s₁.heap.objs.size ≤ L) (hroom : A.depth + 12 < recursionLimit) (hh : A.handled = none) (hgu : A.guards = some []) (hu : A.units + 100 < cLine)
    (hlen : vs.length = ws.length) (hne : ws ≠ []) (hn : ws.length ≤ 1000) (hsz : ∀ l ∈ ws, l.length ≤ 90000) (hr : ∀ (i : Nat) v l, vs[i]? = some v → ws[i]? = some l → Reps progC w v l H)
    (h : ∀ s₁' s' t ys r Mx, Later (hd03.heap_39 w.params) p loose mg mb s₁ s₁' → TxAre ys (csr ws r Mx) → (80 < Mx → Pre ws r) → Mx ∈ ws.map List.length → (∀ l ∈ ws, l.length ≤ Mx) → St s₁' L b ((t, Tup ys) :: H) s' → Q (.ref t) s') :
    wpAny (model progC w) A (call (.ref 61) vs) Q E s := by
  have hz : vs.length ≤ sizeLine := by rw [sizeLine_eq]; omega
  refine call_star (fun L' => [(L' + 1 + 1, Cel none), (L' + 1, Cel none)]) S X TR.nolimit (by rfl) (by rfl) (by omega) (by rfl) (nm := Str.ofString "args") (by clear hr hlen h hz; cases vs <;> rfl) (by rfl) (by rfl) [Str.ofString "prefixlen", Str.ofString "prefix"] (fun n => by with_unfolding_all rfl) (by decide) (fun L' t y v e => ?_) (fun L' t => by with_unfolding_all rfl) hz ?_ (by rfl) (by rfl) (by rfl)
  · simp only [lk] at e
    by_cases hy : Str.ofString "args" = y
    · subst hy; simp at e; subst e; rfl
    · simp [hy] at e
  intro s2 L' t hLL S2
  simp only [List.cons_append, List.nil_append] at S2
  walk_at "one"
  rename St _ _ _ _ _ => S3
  refine t_tupmap S3 (by walk_at "mem") (fun i v => ∃ l u, ws[i]? = some l ∧ v = .str (T l) u) hh hz (fun i x s' Q' E' hx hk hq => ?_) ?_
  · have hi : i < ws.length := by rw [← hlen]; exact (List.getElem?_eq_some_iff.mp hx).1
    have hS3 : ∀ c o, s₁.heap.get? c = some o → s'.heap.get? c = some o := fun c o e => hk c o (fun q => by
      have := (S3.fresh _ (List.mem_cons_of_mem _ (List.mem_cons_of_mem _ (List.mem_cons_self ..)))).2
      simp only at this
      rw [q, this] at e; cases e) (S3.keep c o e)
    refine safe_spec (HR := H) (X.keeps hS3) (TR.keeps hS3) (by simp only [depth_deeper]; omega) hh hgu (by simp; omega) (hr i x _ hx (List.getElem?_eq_getElem hi)) ?_ ?_
    · intro p hp
      obtain ⟨o, ho, hq'⟩ := S3.nw p (by simp [hp])
      refine ⟨o, hk _ _ (fun q => ?_) ho, hq'⟩
      have hnd := S3.nd
      simp only [List.map_cons, List.nodup_cons] at hnd
      refine hnd.2.2.1 ?_
      rw [← q]
      simp only [List.mem_cons]
      exact Or.inr (Or.inr (Or.inr (Or.inr (List.mem_map.mpr ⟨p, hp, rfl⟩))))
    · intro u h' tk hk'
      exact hq _ _ _ ⟨_, u, List.getElem?_eq_getElem hi, rfl⟩ hk'
  clear S3
  intro _ D ys hyl hy S3
  have htx : TxAre ys ws := tx_of (by rw [hyl, hlen]) hy
  have hsz' : ∀ l ∈ ws, l.length ≤ sizeLine := fun l hl => by have := hsz l hl; rw [sizeLine_eq]; omega
  walk_at "in"
  rename St _ _ _ _ _ => S4
  have S5 : St s₁ L' [(Str.ofString "args", .ref D)] ((D, Tup ys) :: (L' + 1 + 1, Cel none) :: (L' + 1, Cel none) :: (L, Frm b) :: H) _ := (S4.bind (by walk_at "bind")).sub (.cons_cons _ (.cons_cons _ (.cons_cons _ (.cons_cons _ (.cons _ (.refl _))))))
  clear S4
  walk_at "one"
  rename St _ _ _ _ _ => S6
  refine c_maxLen S6 (by walk_at "mem") htx hne hh hsz' ?_
  clear S6
  intro _ Mx uM hM1 hM2 S7
  walk_at "in"
  walk_at "go"
  · rename St _ _ _ _ _ => S8
    rename (_ : Int) ≤ _ => hc
    refine h s₁ _ D ys [] Mx ⟨X, TR, OldK.refl _, rfl, G⟩ (by rw [csr, if_pos (by omega)]; exact htx) (fun hc' => absurd hc' (by omega)) hM1 hM2 ?_
    exact ((S8.perm (List.perm_middle (l₁ := [_, _, _]) (a := (L, Frm b))).symm).back).sub (by walk_at "sub")
  rename St _ _ _ _ _ => S8
  refine common_spec X TR S8 (by simp only [depth_deeper]; omega) hh (by walk_at "mem") htx hne hsz' hn ?_
  clear S8
  intro _ r u hpre S9
  have hrl : ∀ l ∈ ws, r.length ≤ l.length := fun l hl => by have e := congrArg List.length (hpre.1 l hl); rw [List.length_take] at e; omega
  have hrM : r.length ≤ Mx ∧ r.length ≤ 90000 ∧ Mx ≤ 90000 := by
    obtain ⟨l, hl, e⟩ := List.mem_map.mp hM1
    have h1 := hrl l hl
    have h2 := hsz l hl
    omega
  have hrz : r.length ≤ sizeLine := by rw [sizeLine_eq]; omega
  walk_at "in"
  walk_at "one"
  walk_at "go"
  · refine ⟨by rw [decide_eq_true_iff]; omega, ?_⟩
    walk_at "go"
    rename St _ _ _ _ _ => S10
    refine short_spec X TR S10 (by simp only [depth_deeper]; omega) (by omega) (by omega) (by omega) ?_
    clear S10
    intro _ u2 S11
    walk_at "in"
    walk_at "go"
    rename St _ _ _ _ _ => S12
    have G12 := S12.bare G
    have hab' := Nat.le_of_lt (Nat.lt_of_le_of_lt hab hLL)
    refine ev_gen (fun i y => ∃ l u, ws[i]? = some l ∧ y = .str (T (shorten r 5 (80 - ((Mx : Int) - r.length + 5 + 12)) ++ cut l (some (r.length : Int)) none)) u) S12 hab' B M G12 TR.nolimit (by rfl) (by rfl) hh (by rfl)
      (cl := [(Str.ofString "prefixlen", L' + 1 + 1), (Str.ofString "prefix", L' + 1)]) (by with_unfolding_all rfl) (by decide) (by rfl) (by rfl) (by rfl) (by simp only [depth_deeper]; omega) (fun _ => by rfl) (t := D) (vs := ys) (by walk_at "mem") (fun Q' hq => ?_) ?_ ?_
    · walk_at "eval Name"
      exact hq
    · intro c' C A' E' i v t' m₂ hA hD hU hv F hS hk
      obtain ⟨l, u, hl, rfl⟩ := hy i v hv
      have hlz := hsz l (List.mem_of_getElem? hl)
      have c1 := S12.cell (v := some _) (a := L' + 1) (by walk_at "mem") hk ⟨_, B.tab.2⟩
      have c2 := S12.cell (v := some _) (a := L' + 1 + 1) (by walk_at "mem") hk ⟨_, B.tab.2⟩
      have X2 := (kb_in_regrown (ps' := #[] ++ #[rawInt _, rawInt _, .ref c']) B X TR.g (by rfl)).keeps F.keep
      have TR2 := (LGe.top_regrown F TR B).keeps F.keep
      clear S12 X TR
      have hN := F.ns
      have hb1 := shorten_len (l := r) (i := 5) (j := 80 - ((Mx : Int) - r.length + 5 + 12)) (by omega) (by omega) (by omega)
      have hb2 := cut_len_le l (some (r.length : Int)) none
      have hb3 : (shorten r 5 (80 - ((Mx : Int) - r.length + 5 + 12))).length + (cut l (some (r.length : Int)) none).length ≤ sizeLine := by rw [sizeLine_eq]; omega
      have hK := krefl t'
      walk_at "go"
      exact ⟨⟨_, _, hl, rfl⟩, by assumption⟩
    · intro s₁' s₅ ps' a K hbase B' G' hos S13 hK hL' GX
      walk_at "in"
      walk_at "go"
      rename St _ _ _ _ _ => S13
      refine c_tupgen S13 (S13.bare G') hK hL' (fun c o e => ?_) GX (by simpa [passing_all, hyl] using hz) ?_
      · have e4 := Heap.lt_size e
        rw [B'.same.1] at e4
        exact Nat.le_trans (Nat.le_of_lt (Nat.lt_of_lt_of_le e4 hab')) hL'
      clear S13
      intro s₁'' s' D2 ys2 e1 e2 e3 hl2 hys S14
      refine h s₁'' s' D2 ys2 r Mx (later_of X TR B B' hbase e1 e2 (e3.trans hos) (by rfl) S14 hab') (by rw [csr, if_neg (by omega), if_pos (by omega)]; exact tx_gen (by rw [hl2, passing_all]; simp [hyl, hlen]) hys) (fun _ => hpre) hM1 hM2 ?_
      exact ((S14.perm (List.perm_middle (l₁ := [_, _, _, _]) (a := (L, Frm b))).symm).back).sub (by walk_at "sub")
  · rename St _ _ _ _ _ => S10
    refine short_spec X TR S10 (by simp only [depth_deeper]; omega) (by omega) (by omega) (by omega) ?_
    clear S10
    intro _ u2 S11
    walk_at "in"
    walk_at "go"
    rename St _ _ _ _ _ => S12
    have G12 := S12.bare G
    have hab' := Nat.le_of_lt (Nat.lt_of_le_of_lt hab hLL)
    refine ev_gen (fun i y => ∃ l u, ws[i]? = some l ∧ y = .str (T (shorten r 5 5 ++ shorten (cut l (some (r.length : Int)) none) 41 5)) u) S12 hab' B M G12 TR.nolimit (by rfl) (by rfl) hh (by rfl)
      (cl := [(Str.ofString "prefixlen", L' + 1 + 1), (Str.ofString "prefix", L' + 1)]) (by with_unfolding_all rfl) (by decide) (by rfl) (by rfl) (by rfl) (by simp only [depth_deeper]; omega) (fun _ => by rfl) (t := D) (vs := ys) (by walk_at "mem") (fun Q' hq => ?_) ?_ ?_
    · walk_at "eval Name"
      exact hq
    · intro c' C A' E' i v t' m₂ hA hD hU hv F hS hk
      obtain ⟨l, u, hl, rfl⟩ := hy i v hv
      have hlz := hsz l (List.mem_of_getElem? hl)
      have c1 := S12.cell (v := some _) (a := L' + 1) (by walk_at "mem") hk ⟨_, B.tab.2⟩
      have c2 := S12.cell (v := some _) (a := L' + 1 + 1) (by walk_at "mem") hk ⟨_, B.tab.2⟩
      have X2 := (kb_in_regrown (ps' := #[] ++ #[rawInt _, rawInt _, .ref c']) B X TR.g (by rfl)).keeps F.keep
      have TR2 := (LGe.top_regrown F TR B).keeps F.keep
      clear S12 X TR
      have hN := F.ns
      have hb1 := shorten_len (l := r) (i := 5) (j := 5) (by omega) (by omega) (by omega)
      have hb2 := cut_len_le l (some (r.length : Int)) none
      have hb4 := shorten_len (l := cut l (some (r.length : Int)) none) (i := 41) (j := 5) (by omega) (by omega) (by omega)
      have hb3 : (shorten r 5 5).length + (shorten (cut l (some (r.length : Int)) none) 41 5).length ≤ sizeLine := by rw [sizeLine_eq]; omega
      have hK := krefl t'
      walk_at "go"
      rename Keeps _ _ => hK2
      rename Frag.In _ _ => X2
      rename TopRead _ _ _ _ _ => TR2
      refine short0 (X2.keeps (kget hK2)) (TR2.keeps (kget hK2)) (by simp only [depth_deeper] at hD; omega) (by omega) (by omega) (by omega) ?_
      intro _ _ hK3
      have hK4 := ktrans hK2 hK3
      clear hK2 hK3
      walk_at "go"
      exact ⟨⟨_, _, hl, rfl⟩, by assumption⟩
    · intro s₁' s₅ ps' a K hbase B' G' hos S13 hK hL' GX
      walk_at "in"
      walk_at "go"
      rename St _ _ _ _ _ => S13
      refine c_tupgen S13 (S13.bare G') hK hL' (fun c o e => ?_) GX (by simpa [passing_all, hyl] using hz) ?_
      · have e4 := Heap.lt_size e
        rw [B'.same.1] at e4
        exact Nat.le_trans (Nat.le_of_lt (Nat.lt_of_lt_of_le e4 hab')) hL'
      clear S13
      intro s₁'' s' D2 ys2 e1 e2 e3 hl2 hys S14
      refine h s₁'' s' D2 ys2 r Mx (later_of X TR B B' hbase e1 e2 (e3.trans hos) (by rfl) S14 hab') (by rw [csr, if_neg (by omega), if_neg (by omega)]; exact tx_gen (by rw [hl2, passing_all]; simp [hyl, hlen]) hys) (fun _ => hpre) hM1 hM2 ?_
      exact ((S14.perm (List.perm_middle (l₁ := [_, _, _, _]) (a := (L, Frm b))).symm).back).sub (by walk_at "sub")
end
end Mine
namespace Mine
section
variable {prog : Program} {w : World} {HR : List Ent} {a : Addr}
theorem reps_str {l : List Nat} {t : Tok} (h : ∀ c ∈ l, 97 ≤ c ∧ c ≤ 122) (hl : l.length ≤ 100000) : Reps prog w (.str (T l) t) ([39] ++ l ++ [39]) HR := fun A s Q E hh hgu hu hd hk hq =>
  PySem.P.repr_of_str (by
    have := hq s.toks s.heap (s.toks + 1) fun _ _ e => e
    rw [← repr_plain h] at this
    exact this) (by rw [repr_plain h, T_len, sizeLine_eq]; simp; omega)
end
end Mine
namespace Mine
section
variable {w : World} {p : Program} {loose : List Str} {mg mb : Str → Option Value} {A : Around} {E : Value → Shared → Prop} {s s₁ : Shared} {L a : Addr} {b : List (Str × Value)} {H : List Ent} {Q : Value → Shared → Prop}
theorem shared_spec {vs : List Value} {ws : List (List Nat)} (X : (hd03.heap_39 w.params).In s₁.heap) (TR : TopRead p loose mg mb s₁.heap) (S : St s₁ L b H s) (hroom : A.depth < recursionLimit) (hh : A.handled = none) (hu : A.units + 40 < cLine)
    (hl : (a, Lst vs) ∈ H) (htx : TxAre vs ws) (hne : ws ≠ []) (hn : ws.length ≤ 100) (hsz : ∀ l ∈ ws, l.length ≤ 20000)
    (h : ∀ s' (r : List Nat) t, Pre ws r → St s₁ L b H s' → Q (.int (r.length : Nat) t) s') :
    wpAny (model progC w) A (call (.ref 81) [.ref a]) Q E s := by
  have hvl := htx.length
  refine call_fnC (fun L' => [(L' + 1 + 1, Cel none), (L' + 1, Cel (some (.ref a)))]) S X TR.nolimit (by rfl) (by rfl) hroom (by rfl) (by rfl) (by rfl) (fun n => by with_unfolding_all rfl) [Str.ofString "k", Str.ofString "ends"] (fun n => by with_unfolding_all rfl) (by decide) (b' := []) (fun _ _ _ e => by simp [lk] at e) (fun L' => by with_unfolding_all rfl) ?_ (by rfl) (by rfl) (by rfl)
  clear S
  intro s' L' S'
  simp only [List.cons_append, List.nil_append] at S'
  have hl' : (a, Lst vs) ∈ (L' + 1 + 1, Cel none) :: (L' + 1, Cel (some (.ref a))) :: (L, Frm b) :: H := by simp [hl]
  clear hl'
  have hsz' : ∀ l ∈ ws, l.length ≤ sizeLine := fun l hl => by have := hsz l hl; rw [sizeLine_eq]; omega
  walk_at "one"
  rename St _ _ _ _ _ => S
  refine wpAny_execs_cons (ex_while (fun n b' H' => ∃ (k : Nat) (t : Tok), b' = [] ∧ H' = (L' + 1 + 1, Cel (some (.int k t))) :: (L' + 1, Cel (some (.ref a))) :: (L, Frm b) :: H ∧ (∀ j, j < k → AllAt ws j) ∧ (∀ l ∈ ws, k ≤ l.length) ∧ n = 20001 - k) 20001 S ⟨0, _, rfl, rfl, by simp, by simp, rfl⟩ ?_)
  clear S
  rintro n b' H' s' ⟨k, t, rfl, rfl, h1, h2, rfl⟩ S
  walk_at "go"
  rename St _ _ _ _ _ => S
  refine comp_list (vs := vs) (fun i ys H => IntsAre ys ((ws.take i).map fun l => (l.length : Int)) ∧ H = _) S ⟨by simpa using IntsAre.nil, rfl⟩ (by rw [sizeLine_eq]; omega) (Or.inl (by walk_at "mem")) (fun _ _ _ h => by rw [h.2]; exact Or.inl (by walk_at "mem")) hh (by decide) (by rfl) (by rfl) ?_ ?_
  · clear S
    rintro C D I i v ys H' s' hv ⟨hy, rfl⟩ S
    obtain ⟨l', tl, rfl, hl'⟩ := htx.at i v hv
    have hz' := hsz' l' (List.mem_of_getElem? hl')
    refine tests_nil (ifT ?_)
    walk_at "go"
    rename St _ _ _ _ _ => S
    refine ⟨_, _, S, ?_, rfl⟩
    rw [List.take_add_one, hl', List.map_append]
    exact hy.append (.cons _ _ .nil)
  clear S
  rintro C D ys H' s' ⟨hy, rfl⟩ S
  clear S
  intro s'' S
  rw [hvl, List.take_length] at hy
  walk_at "go"
  rename St _ _ _ _ _ => S
  refine c_minI S (Or.inl (by walk_at "mem")) hy (by simpa using hne) hh ?_
  clear S
  intro s2 m tm hm1 hm2 S
  obtain ⟨lm, hlm, e⟩ := List.mem_map.mp hm1
  have hm3 : ∀ l ∈ ws, m ≤ l.length := fun l hl => hm2 _ (List.mem_map.mpr ⟨l, hl, rfl⟩)
  obtain ⟨l0, rws, rfl⟩ := List.exists_cons_of_ne_nil hne
  walk_at "go"
  · rename (k : Int) < m => hkm
    rename St _ _ _ _ _ => S
    obtain ⟨t0, hv0⟩ := htx.get 0 l0 rfl
    have hk : ∀ l ∈ l0 :: rws, k < l.length := fun l hl => by have := hm3 l hl; omega
    have h0 := hk l0 (List.mem_cons_self ..)
    have hc0 : l0[((k : Nat) : Int).toNat]? = some l0[k] := List.getElem?_eq_getElem h0
    have hv0' : vs[(0 : Int).toNat]? = some (.str (T l0) t0) := hv0
    have hk20 : k < 20001 := by have := hsz l0 (List.mem_cons_self ..); omega
    generalize hch0 : l0[k] = c0 at hc0
    refine comp_list (vs := vs) (fun i ys H => TxAre ys (((l0 :: rws).take i).filter fun l => decide (l[k]? ≠ some c0)) ∧ H = _) S ⟨by simpa using TxAre.nil, rfl⟩ (by rw [sizeLine_eq]; omega) (Or.inl (by walk_at "mem")) (fun _ _ _ h => by rw [h.2]; exact Or.inl (by walk_at "mem")) hh (by decide) (by rfl) (by rfl) ?_ ?_
    · clear S
      rintro C D I i v ys H' s' hv ⟨hy, rfl⟩ S
      obtain ⟨l', tl, rfl, hl'⟩ := htx.at i v hv
      have hz' := hk l' (List.mem_of_getElem? hl')
      have hc' : l'[((k : Nat) : Int).toNat]? = some l'[k] := List.getElem?_eq_getElem hz'
      have hc2 : l'[k]? = some l'[k] := List.getElem?_eq_getElem hz'
      generalize l'[k] = c' at hc' hc2
      refine tests_one ?_
      have et : (l0 :: rws).take (i + 1) = (l0 :: rws).take i ++ [l'] := by rw [List.take_add_one, hl']; rfl
      walk_at "go"
      · rename St _ _ _ _ _ => S
        rename ([c'] != [c0]) = true => hc
        have hc3 : c' ≠ c0 := by simpa using hc
        refine ⟨_, _, S, ?_, rfl⟩
        rw [et, List.filter_append, List.filter_cons_of_pos (by rw [hc2]; simpa using hc3)]
        exact hy.snoc _ _
      · rename St _ _ _ _ _ => S
        rename ([c'] != [c0]) = false => hc
        have hc3 : c' = c0 := by simpa using hc
        refine ⟨_, _, S, ?_, rfl⟩
        rw [et, List.filter_append, List.filter_cons_of_neg (by rw [hc2]; simpa using hc3)]
        simpa using hy
    clear S
    rintro C D2 ys2 H' s' ⟨hy2, rfl⟩ S
    clear S
    intro s'' S
    rw [hvl, List.take_length] at hy2
    have hc00 : l0[k]? = some c0 := hc0
    walk_at "go"
    · rename St _ _ _ _ _ => S
      rename decide _ = true => hc
      have hc' := of_decide_eq_true hc
      rw [List.filter_eq_nil_iff] at hc'
      refine ⟨_, _, _, ?_, S.sub (.cons _ (.cons _ (.cons _ (.refl _)))), k + 1, _, rfl, rfl, ?_, fun l hl => hk l hl, rfl⟩
      · omega
      · intro j hj l hl
        by_cases e2 : j = k
        · subst e2
          have := hc' l hl
          simp only [decide_eq_true_eq, ne_eq, Classical.not_not] at this
          simp only [List.headD_cons]
          rw [this, hc00]
        · exact h1 j (by omega) l hl
    · rename St _ _ _ _ _ => S
      rename decide _ = false => hc
      have hc' := of_decide_eq_false hc
      have hp := pre_of_search (k := k) hne h1 h2 (Or.inr (by
        refine Classical.byContradiction fun hno => hc' ?_
        rw [List.filter_eq_nil_iff]
        intro l hl hd
        refine hno ⟨l, hl, ?_⟩
        simp only [List.headD_cons]
        rw [hc00]
        simpa using hd))
      have hq := h _ _ t hp ((S.perm (List.perm_middle (l₁ := [_, _, _, _, _])).symm).back.sub (.cons _ (.cons _ (.cons _ (.cons _ (.cons _ (.refl _)))))))
      rw [List.length_take, List.headD_cons, Nat.min_eq_left (h2 _ (List.mem_cons_self ..))] at hq
      exact hq
  · rename ¬ ((k : Int) < m) => hkm
    rename St _ _ _ _ _ => S
    have hkl : k = lm.length := by have := h2 lm hlm; omega
    have hp := pre_of_search (k := k) hne h1 h2 (Or.inl ⟨lm, hlm, hkl.symm⟩)
    have hq := h _ _ t hp ((S.perm (List.perm_middle (l₁ := [_, _, _])).symm).back.sub (.cons _ (.cons _ (.cons _ (.refl _)))))
    rw [List.length_take, List.headD_cons, Nat.min_eq_left (h2 _ (List.mem_cons_self ..))] at hq
    exact hq
end
end Mine
local macro_rules | `(tactic| walk_at "binaryOp Mult str int") => `(tactic| ((rename Mine.St _ _ _ _ _ => wS); k_dflt (refine Mine.t_mul wS (by walk_at "size") (by omega) (by omega) ?_); clear wS; intro _ _ _))
local macro_rules | `(tactic| walk_at "binaryOp Mod int int") => `(tactic| ((rename Mine.St _ _ _ _ _ => wS); refine Mine.i_mod wS (by first | decide | omega) ?_; clear wS; intro _ _ _))
namespace Mine
def Low (l : List Nat) : Prop := ∀ c ∈ l, 97 ≤ c ∧ c ≤ 122
theorem Low.cut {l : List Nat} (h : Low l) (lo hi : Option Int) : Low (cut l lo hi) := fun c hc => h c (by unfold Mine.cut at hc; exact List.mem_of_mem_take (List.mem_of_mem_drop hc))
theorem Low.append {l m : List Nat} (h : Low l) (k : Low m) : Low (l ++ m) := fun c hc => (List.mem_append.mp hc).elim (h c) (k c)
section
variable {w : World} {p : Program} {loose : List Str} {mg mb : Str → Option Value} {A : Around} {E : Value → Shared → Prop} {s s₁ : Shared} {L a : Addr} {b : List (Str × Value)} {H : List Ent} {Q : Value → Shared → Prop}
theorem end_spec {x bound : Int} {tx0 ts : Tok} (X : (hd03.heap_39 w.params).In s₁.heap) (TR : TopRead p loose mg mb s₁.heap) (S : St s₁ L b H s) (hroom : A.depth < recursionLimit) (hh : A.handled = none) (hs0 : 0 < bound) (hs1 : bound ≤ 131)
    (h : ∀ s' e t, Low e → e.length ≤ 300 → St s₁ L b H s' → Q (.str (T (e ++ [39])) t) s') :
    wpAny (model progC w) A (call (.ref 76) [.int x tx0, .int bound ts]) Q E s := by
  have g1 : 0 ≤ x * 29 % bound := Int.emod_nonneg _ (by omega)
  have g2 : x * 29 % bound < bound := Int.emod_lt_of_pos _ (by omega)
  refine call_fn S X TR.nolimit (by rfl) (by rfl) hroom (by rfl) (BindsTo.of_eq (by rfl)) (by decide) (b' := [(Str.ofString "bound", .int bound ts), (Str.ofString "x", .int x tx0)]) (locs (by rfl)) (by rfl) ?_ (by rfl) (by rfl) (by rfl)
  clear S
  intro s' L' S'
  have l1 : (tx "abc").length = 3 := by decide +kernel
  have l2 : (tx "x").length = 1 := by decide +kernel
  have l3 : (tx "'").length = 1 := by decide +kernel
  have lowx : Low (tx "x") := by show ∀ c ∈ tx "x", 97 ≤ c ∧ c ≤ 122; decide +kernel
  have m1 : (tx "abc").length * (45 : Int).toNat ≤ sizeLine := by rw [l1, sizeLine_eq]; decide
  have hlow : Low (List.replicate (45 : Int).toNat (tx "abc")).flatten := by
    intro c hc
    obtain ⟨q, hq, hc⟩ := List.mem_flatten.mp hc
    rw [(List.mem_replicate.mp hq).2] at hc
    exact (show ∀ c ∈ tx "abc", 97 ≤ c ∧ c ≤ 122 by decide +kernel) c hc
  have hlen : (List.replicate (45 : Int).toNat (tx "abc")).flatten.length = 135 := by rw [List.length_flatten, List.map_replicate, List.sum_replicate_nat, l1]; rfl
  generalize hab : (List.replicate (45 : Int).toNat (tx "abc")).flatten = abc at hlow hlen
  walk_at "one"
  rename St _ _ _ _ _ => S
  generalize x * 29 % bound = size at g1 g2 S
  have c1 := cut_len_le abc (some (x % 3)) (some (x % 3 + size))
  have w1 := hlow.cut (some (x % 3)) (some (x % 3 + size))
  walk_at "one"
  rename St _ _ _ _ _ => S
  rw [hab] at S
  generalize hcut : cut abc (some (x % 3)) (some (x % 3 + size)) = tt at c1 w1 S
  have q39 : tx "'" = [39] := by decide +kernel
  have d1 := cut_len_le tt none (some (x / 3 % 131))
  have d2 := cut_len_le tt (some (x / 3 % 131 + 1)) none
  walk_at "go"
  · rename St _ _ _ _ _ => S
    rw [q39]
    exact h _ _ _ (((w1.cut _ _).append lowx).append (w1.cut _ _)) (by simp only [List.length_append]; omega) S.back
  · rename St _ _ _ _ _ => S
    rw [q39]
    exact h _ _ _ w1 (by omega) S.back
/-- the runs, as they lie in memory -/
def PairsAt (H : List Ent) : List Value → List (Int × Int) → Prop
  | [], [] => True
  | v :: vs, p :: ps => (∃ t ta tb, v = .ref t ∧ (t, Tup [.int p.1 ta, .int p.2 tb]) ∈ H) ∧ PairsAt H vs ps
  | _, _ => False
theorem PairsAt.get {H : List Ent} : ∀ {vs : List Value} {ps : List (Int × Int)}, PairsAt H vs ps → vs.length = ps.length ∧ ∀ (i : Nat) v, vs[i]? = some v → ∃ p t ta tb, ps[i]? = some p ∧ v = .ref t ∧ (t, Tup [.int p.1 ta, .int p.2 tb]) ∈ H
  | [], [], _ => ⟨rfl, fun i v h => by simp at h⟩
  | [], _ :: _, h => h.elim
  | _ :: _, [], h => h.elim
  | v :: vs, p :: ps, h => by
    obtain ⟨e, hg⟩ := PairsAt.get h.2
    refine ⟨by simp [e], fun i v' hv => ?_⟩
    cases i with
    | zero =>
      obtain ⟨t, ta, tb, h1, h2⟩ := h.1
      simp at hv; subst hv
      exact ⟨p, t, ta, tb, rfl, h1, h2⟩
    | succ i => simpa using hg i v' (by simpa using hv)
theorem woS_ok {l : List Nat} {tp : List Nat × Int} {ab : Int × Int} (h1 : tp.1.length ≤ 40000) (h2 : -40000 ≤ tp.2 ∧ tp.2 ≤ 40000) (hl : l.length ≤ 20000) (ha : -40000 ≤ ab.1 ∧ ab.1 ≤ 40000) (hb : -40000 ≤ ab.2 ∧ ab.2 ≤ 40000) : (woS l tp ab).1.length ≤ tp.1.length + 20030 ∧ -40000 ≤ (woS l tp ab).2 ∧ (woS l tp ab).2 ≤ 40000 := by
  unfold woS
  split
  · rename_i h
    have c := cut_len_le l (some tp.2) (some ab.1)
    have d : (dig (ab.2 - ab.1)).length ≤ 6 := dig_le (by omega) (by decide) (by omega)
    have e : chars.length = 7 := rfl
    refine ⟨?_, hb⟩
    simp only [List.length_append, List.length_cons, List.length_nil]
    omega
  · exact ⟨by omega, h2⟩
theorem without_spec {l : List Nat} {vs : List Value} {ps : List (Int × Int)} {tl : Tok} (X : (hd03.heap_39 w.params).In s₁.heap) (TR : TopRead p loose mg mb s₁.heap) (S : St s₁ L b H s) (hroom : A.depth < recursionLimit) (hh : A.handled = none)
    (hl : l.length ≤ 20000) (ha : (a, Lst vs) ∈ H) (hp : PairsAt H vs ps) (hps : ps.length ≤ 2) (hb : ∀ p ∈ ps, (-40000 ≤ p.1 ∧ p.1 ≤ 40000) ∧ (-40000 ≤ p.2 ∧ p.2 ≤ 40000))
    (h : ∀ s' t, St s₁ L b H s' → Q (.str (T (wo l ps)) t) s') :
    wpAny (model progC w) A (call (.ref 88) [.str (T l) tl, .ref a]) Q E s := by
  obtain ⟨hvl, hget⟩ := hp.get
  refine call_fn S X TR.nolimit (by rfl) (by rfl) hroom (by rfl) (BindsTo.of_eq (by rfl)) (by decide) (b' := [(Str.ofString "runs", .ref a), (Str.ofString "written", .str (T l) tl)]) (locs (by rfl)) (by rfl) ?_ (by rfl) (by rfl) (by rfl)
  clear S
  intro s' L' S'
  have l1 : (tx "[").length = 1 := by decide +kernel
  have l2 : (tx " chars]").length = 7 := by decide +kernel
  walk_at "one"
  walk_at "go"
  rename St _ _ _ _ _ => S
  have S0 : St s₁ L' [(Str.ofString "runs", .ref a), (Str.ofString "written", .str (T l) tl), (Str.ofString "text", .str (T []) _), (Str.ofString "place", .int 0 _)] ((L, Frm b) :: H) _ := (S.bind (by walk_at "bind")).sub (.cons _ (.refl _))
  clear S
  refine for_listP (vs := vs) (fun i b' H' => ∃ tt tp, b' = [(Str.ofString "runs", .ref a), (Str.ofString "written", .str (T l) tl), (Str.ofString "text", .str (T ((ps.take i).foldl (woS l) ([], 0)).1) tt), (Str.ofString "place", .int ((ps.take i).foldl (woS l) ([], 0)).2 tp)] ∧ H' = (L, Frm b) :: H ∧ ((ps.take i).foldl (woS l) ([], 0)).1.length ≤ 20030 * i ∧ -40000 ≤ ((ps.take i).foldl (woS l) ([], 0)).2 ∧ ((ps.take i).foldl (woS l) ([], 0)).2 ≤ 40000) S0 ⟨_, _, rfl, rfl, by simp, by simp, by simp⟩ (fun i b H h => by obtain ⟨_, _, _, rfl, _⟩ := h; simp [ha]) (fun i v b H hv h => ?_) hh (by rfl) (by rfl) (by rfl) (by rfl) ?_ ?_
  · obtain ⟨_, _, _, rfl, _⟩ := h
    obtain ⟨p, t, ta, tb, _, e, hm⟩ := hget i v hv
    exact ⟨t, _, _, e, List.mem_cons_of_mem _ hm⟩
  · clear S0
    rintro I i T0 v0 v1 b' H' s' hv hm ⟨tt, tp, rfl, rfl, k1, k2, k3⟩ S
    obtain ⟨p, t, ta, tb, hpi, e, hm2⟩ := hget i _ hv
    injection e with e
    subst e
    have hpm := hb p (List.mem_of_getElem? hpi)
    have hi2 : i < ps.length := (List.getElem?_eq_some_iff.mp hpi).1
    have hv01 : v0 = .int p.1 ta ∧ v1 = .int p.2 tb := by
      have q := mem_fst_unique S.nd (List.mem_cons_of_mem _ hm) (List.mem_cons_of_mem _ (List.mem_cons_of_mem _ hm2)) rfl
      have q2 : Tup [v0, v1] = Tup [.int p.1 ta, .int p.2 tb] := congrArg Prod.snd q
      obtain ⟨o, ho, h1⟩ := S.get (List.mem_cons_of_mem _ hm)
      obtain ⟨_, _, _, n1, d1⟩ := h1
      obtain ⟨o2, ho2, h2⟩ := S.get (List.mem_cons_of_mem _ (List.mem_cons_of_mem _ hm2))
      obtain ⟨_, _, _, n2, d2⟩ := h2
      have ho' : s'.heap.get? T0 = some o := ho
      have ho2' : s'.heap.get? T0 = some o2 := ho2
      rw [ho'] at ho2'
      cases ho2'
      rw [d1] at d2
      injection d2 with d3 _
      have := congrArg Array.toList d3
      simpa using this
    obtain ⟨rfl, rfl⟩ := hv01
    have et : ps.take (i + 1) = ps.take i ++ [p] := by rw [List.take_add_one, hpi]; rfl
    have ef : (ps.take (i + 1)).foldl (woS l) ([], 0) = woS l ((ps.take i).foldl (woS l) ([], 0)) p := by rw [et, List.foldl_append]; rfl
    rw [ef]
    generalize (ps.take i).foldl (woS l) ([], 0) = st at k1 k2 k3 S
    obtain ⟨p1, p2⟩ := p
    obtain ⟨x1, x2⟩ := st
    simp only at k1 k2 k3 S hpm
    have hok := woS_ok (l := l) (tp := (x1, x2)) (ab := (p1, p2)) (by simp only; omega) (by simp only; omega) hl hpm.1 hpm.2
    simp only at hok
    have cc := cut_len_le l (some x2) (some p1)
    have dd : (dig (p2 - p1)).length ≤ 6 ∨ p2 - p1 ≤ 12 := by
      by_cases hc : p2 - p1 ≤ 12
      · exact Or.inr hc
      · exact Or.inl (dig_le (by omega) (by decide) (by omega))
    have q1 : tx "[" = [91] := by decide +kernel
    have q2 : tx " chars]" = chars := by decide +kernel
    walk_at "go"
    · rename St _ _ _ _ _ => S
      rename 12 < _ => hc
      have ew : woS l (x1, x2) (p1, p2) = (x1 ++ (cut l (some x2) (some p1) ++ tx "[" ++ dig (p2 - p1) ++ tx " chars]"), p2) := by unfold woS; rw [if_pos hc, q1, q2]
      rw [ew] at hok ⊢
      exact ⟨_, _, S.bind (by walk_at "bind"), _, _, rfl, rfl, by simp only at hok ⊢; omega, hok.2.1, hok.2.2⟩
    · rename St _ _ _ _ _ => S
      rename ¬ (12 < _) => hc
      have ew : woS l (x1, x2) (p1, p2) = (x1, x2) := by unfold woS; rw [if_neg hc]
      rw [ew] at hok ⊢
      exact ⟨_, _, S.bind (by walk_at "bind"), _, _, rfl, rfl, by simp only at hok ⊢; omega, hok.2.1, hok.2.2⟩
  · clear S0
    rintro b' H' s' ⟨tt, tp, rfl, rfl, k1, k2, k3⟩ S
    rw [hvl, List.take_length] at k1 k2 k3 S
    have cc := cut_len_le l (some (ps.foldl (woS l) ([], 0)).2) none
    walk_at "go"
    rename St _ _ _ _ _ => S
    exact h _ _ S.back
end
end Mine
local macro_rules | `(tactic| walk_at "call ref") => `(tactic| ((with_reducible show wpAny _ _ (call (Value.ref 76) _) _ _ _); (rename Mine.St _ _ _ _ _ => wS); (rename Frag.In _ _ => kX); (rename TopRead _ _ _ _ _ => kT); k_dflt (refine Mine.end_spec kX kT wS (by first | omega | (simp only [depth_deeper]; omega)) (by assumption) (by omega) (by omega) ?_); clear wS; intro _ _ _ _ _ _))
local macro_rules | `(tactic| walk_at "exec Try") => `(tactic| fail "by hand")
local macro_rules | `(tactic| walk_at "binaryOp Mult int int") => `(tactic| ((rename Mine.St _ _ _ _ _ => wS); (refine Mine.i_mulL wS (by first | assumption | decide +kernel) ?_; clear wS; intro _ _ _)))
namespace Mine
def hch (k : Nat) : Nat := (97 + ((k : Int) * k + (k : Int) / 23) % 26).toNat
theorem hch_low (k : Nat) : 97 ≤ hch k ∧ hch k ≤ 122 := by
  unfold hch
  generalize (k : Int) * k + (k : Int) / 23 = z
  omega
theorem intBits_small {x : Int} (h0 : 0 ≤ x) (h1 : x < 100000) : Builtin.Int.intBits x ≤ 64 := by
  unfold Builtin.Int.intBits
  split
  · omega
  · rename_i h
    have h2 : x ≠ 0 := by simpa using h
    have : x.natAbs.log2 < 63 := (Nat.log2_lt (by omega)).mpr (by omega)
    omega
noncomputable abbrev fd03 (w : World) := fdAt (hd03.heap_39 w.params) 93
noncomputable abbrev env03 (w : World) (L fa : Addr) (cd : Value) := envOfC (fd03 w).name (fd03 w).scope L fa cd
section
variable {w : World} {p : Program} {loose : List Str} {mg mb : Str → Option Value} {A : Around} {s s₁ : Shared} {L l fa : Addr} {cd : Value} {vs : List Value} {ns : List Int} {Q : Flow → Shared → Prop}
theorem part03A (X : (hd03.heap_39 w.params).In s₁.heap) (TR : TopRead p loose mg mb s₁.heap) (hL : s₁.heap.IsList l vs.toArray) (hI : IntsAre vs ns) (hlen : ns.length ≤ 63) (hne : ns ≠ [])
    (hh : A.handled = none) (hd : A.depth + 20 < recursionLimit) (hu : A.units + 200 < cLine) (S : St s₁ L [] [(L + 1, Cel (some (.ref l))), (L + 1 + 1, Cel none)] s)
    (h : ∀ s' hd th D evs es, Low hd → hd.length ≤ 12100 → TxAre evs (es.map (· ++ [39])) → es ≠ [] → es.length ≤ 63 → (∀ e ∈ es, Low e ∧ e.length ≤ 300) → St s₁ L [(Str.ofString "ends", .ref D)] [(D, Lst evs), (L + 1 + 1, Cel (some (.str (T ([39] ++ hd)) th)))] s' → wpAny (model progC w) A (execs ((bodyAt (fd03 w)).drop 4) (env03 w L fa cd)) Q (fun _ _ => False) s') :
    wpAny (model progC w) A (execs (bodyAt (fd03 w)) (env03 w L fa cd)) Q (fun _ _ => False) s := by
  have hvl : vs.length = ns.length := hI.length
  have hu64 : A.units + 64 < cLine := by omega
  have hpos : 0 < ns.length := List.length_pos_iff.mpr hne
  walk_at "one"
  walk1
  refine ex_post (fun s' => ∃ bd tb, 0 < bd ∧ bd ≤ 12007 ∧ St s₁ L [(Str.ofString "bound", .int bd tb)] [(L + 1, Cel (some (.ref l))), (L + 1 + 1, Cel none)] s') ?_ ?_
  · walk_at "in"
    all_goals
      rename St _ _ _ _ _ => S
      exact ⟨by trivial, _, _, by omega, by omega, S.drop⟩
  rename St _ _ _ _ _ => S
  clear S
  rintro s2 ⟨bd, tb, hb0, hb1, S⟩
  obtain ⟨t0, hv0⟩ := hI.get 0 ns[0] (List.getElem?_eq_getElem hpos)
  have hv0' : vs[(0 : Int).toNat]? = some (.int ns[0] t0) := hv0
  generalize ns[0] = n0 at hv0'
  have hg0 : 0 ≤ n0 * 53 % bd := Int.emod_nonneg _ (by omega)
  have hg1 : n0 * 53 % bd < bd := Int.emod_lt_of_pos _ (by omega)
  walk_at "go"
  rename St _ _ _ _ _ => S
  generalize n0 * 53 % bd = m at hg0 hg1 S
  refine comp_range1 (fun i ys H => TxAre ys ((List.range i).map fun k => [hch k]) ∧ H = _) S ⟨by simpa using TxAre.nil, rfl⟩ (by rw [sizeLine_eq]; omega) (by omega) (by omega) (by omega) (by omega) hh (by decide) (by rfl) (by rfl) ?_ ?_
  · clear S
    rintro C D2 I2 P j t ys H' s' hj ⟨hys, rfl⟩ S
    have hbits : Builtin.Int.intBits (0 + (j : Int)) ≤ 64 := intBits_small (by omega) (by omega)
    refine tests_nil (ifT ?_)
    walk_at "go"
    rename St _ _ _ _ _ => S
    refine ⟨_, _, S, ?_, rfl⟩
    rw [List.range_succ, List.map_append, Int.zero_add]
    exact hys.snoc [hch j] _
  clear S
  rintro C D2 ys H' s' ⟨hys, rfl⟩ S
  clear S
  intro s'' S
  rw [Int.sub_zero] at hys
  have hsum : (((List.range m.toNat).map fun k => [hch k]).map List.length).sum = m.toNat := by
    rw [List.map_map]
    have : (List.length ∘ fun k => [hch k]) = fun _ => 1 := rfl
    rw [this, List.map_const', List.length_range, List.sum_replicate_nat]; omega
  have hsum' : (((List.range m.toNat).map fun k => [hch k]).map List.length).sum ≤ sizeLine := by rw [hsum, sizeLine_eq]; omega
  have hfl : ((List.range m.toNat).map fun k => [hch k]).flatten.length = m.toNat := by rw [List.length_flatten, hsum]
  have hlow : Low ((List.range m.toNat).map fun k => [hch k]).flatten := by
    intro c hc
    obtain ⟨q, hq, hc⟩ := List.mem_flatten.mp hc
    obtain ⟨k, _, rfl⟩ := List.mem_map.mp hq
    rw [List.mem_singleton.mp hc]
    exact hch_low k
  have l1 : (tx "'").length = 1 := by decide +kernel
  have q39 : tx "'" = [39] := by decide +kernel
  walk_at "go"
  rename St _ _ _ _ _ => S
  rw [q39] at S
  generalize ((List.range m.toNat).map fun k => [hch k]).flatten = hd0 at hlow hfl S
  have hlast : ns.length - 1 < ns.length := by omega
  obtain ⟨tL, hvL⟩ := hI.get (ns.length - 1) _ (List.getElem?_eq_getElem hlast)
  have hvL' : vs[(-1 + (vs.length : Int)).toNat]? = some (.int ns[ns.length - 1] tL) := by
    rw [show (-1 + (vs.length : Int)).toNat = ns.length - 1 by omega]; exact hvL
  generalize ns[ns.length - 1] = nl at hvL'
  have hzv : vs.length ≤ sizeLine := by rw [sizeLine_eq]; omega
  have hk0 : 0 ≤ nl * 17 % 131 := Int.emod_nonneg _ (by decide)
  have hk1 : nl * 17 % 131 < 131 := Int.emod_lt_of_pos _ (by decide)
  refine comp_list (vs := vs) (fun i ys H => ∃ es, es.length = i ∧ TxAre ys (es.map (· ++ [39])) ∧ (∀ e ∈ es, Low e ∧ e.length ≤ 300) ∧ H = _) S ⟨[], rfl, .nil, by simp, rfl⟩ hzv (Or.inr hL) (fun _ _ _ _ => Or.inr hL) hh (by decide) (by rfl) (by rfl) ?_ ?_
  · clear S
    rintro C D I i v ys H' s' hv ⟨es, hel, hy, hes, rfl⟩ S
    obtain ⟨x, tx0, rfl, hx⟩ := hI.at i v hv
    refine tests_nil (ifT ?_)
    walk_at "go"
    rename St _ _ _ _ _ => S
    rename Low _ => hlw
    rename List.length _ ≤ 300 => hll
    rename_i s9 e9 t9
    refine ⟨_, _, S, es ++ [e9], by simp [hel], ?_, ?_, rfl⟩
    · rw [List.map_append]
      exact hy.snoc _ _
    · intro e he
      rcases List.mem_append.mp he with h | h
      · exact hes e h
      · rw [List.mem_singleton.mp h]; exact ⟨hlw, hll⟩
  clear S
  rintro C D ys3 H' s' ⟨es, hel, hy, hes, rfl⟩ S
  refine comp_use S (by with_unfolding_all rfl) (by with_unfolding_all rfl) (by with_unfolding_all rfl) ?_
  clear S
  intro s3 S
  exact h _ hd0 _ D ys3 es hlow (by omega) hy (by intro e; rw [e] at hel; simp at hel; omega) (by omega) hes ((S.bind (by walk_at "bind")).sub (by walk_at "sub"))
end
end Mine
local macro_rules | `(tactic| walk_at "call builtin:max") => `(tactic| fail "by hand")
namespace Mine
abbrev B03 (sh lo : Int) (ts tl : Tok) (wr du : Addr) : List (Str × Value) := [(Str.ofString "written", .ref wr), (Str.ofString "longest", .int lo tl), (Str.ofString "shared", .int sh ts), (Str.ofString "due", .ref du)]
section
variable {w : World} {p : Program} {loose : List Str} {mg mb : Str → Option Value} {A : Around} {s s₁ : Shared} {L l fa : Addr} {cd : Value} {Q : Flow → Shared → Prop}
theorem part03B {hd0 : List Nat} {th : Tok} {D : Addr} {evs : List Value} {fs : List (List Nat)} (X : (hd03.heap_39 w.params).In s₁.heap) (TR : TopRead p loose mg mb s₁.heap)
    (hh : A.handled = none) (hd : A.depth + 20 < recursionLimit) (hu : A.units + 200 < cLine) (hhl : hd0.length ≤ 12101) (hev : TxAre evs fs) (hne : fs ≠ []) (hfl : fs.length ≤ 63) (hfs : ∀ f ∈ fs, f.length ≤ 301)
    (S : St s₁ L [(Str.ofString "ends", .ref D)] [(D, Lst evs), (L + 1 + 1, Cel (some (.str (T hd0) th)))] s)
    (h : ∀ s' wr du wvs r (lo : Nat) ts tl, TxAre wvs (fs.map (hd0 ++ ·)) → Pre (fs.map (hd0 ++ ·)) r → (∀ l ∈ fs.map (hd0 ++ ·), l.length ≤ lo) → lo ∈ (fs.map (hd0 ++ ·)).map List.length → St s₁ L (B03 (r.length : Nat) (lo : Nat) ts tl wr du) [(du, Lst []), (wr, Lst wvs)] s' → wpAny (model progC w) A (execs ((bodyAt (fd03 w)).drop 8) (env03 w L fa cd)) Q (fun _ _ => False) s') :
    wpAny (model progC w) A (execs ((bodyAt (fd03 w)).drop 4) (env03 w L fa cd)) Q (fun _ _ => False) s := by
  have hel := hev.length
  have hwl : (fs.map (hd0 ++ ·)).length ≤ 63 := by rw [List.length_map]; exact hfl
  have hwne : fs.map (hd0 ++ ·) ≠ [] := by simpa using hne
  have hws : ∀ l ∈ fs.map (hd0 ++ ·), l.length ≤ 12402 := fun l hl => by
    obtain ⟨f, hf, rfl⟩ := List.mem_map.mp hl
    have := hfs f hf
    rw [List.length_append]; omega
  walk_at "go"
  rename St _ _ _ _ _ => S
  refine comp_list (vs := evs) (fun i ys H => TxAre ys ((fs.take i).map (hd0 ++ ·)) ∧ H = _) S ⟨by simpa using TxAre.nil, rfl⟩ (by rw [sizeLine_eq]; omega) (Or.inl (by walk_at "mem")) (fun _ _ _ h => by rw [h.2]; exact Or.inl (by walk_at "mem")) hh (by decide) (by rfl) (by rfl) ?_ ?_
  · clear S
    rintro C D I i v ys H' s' hv ⟨hy, rfl⟩ S
    obtain ⟨f, tf, rfl, hf⟩ := hev.at i v hv
    have hz' := hfs f (List.mem_of_getElem? hf)
    refine tests_nil (ifT ?_)
    walk_at "go"
    rename St _ _ _ _ _ => S
    refine ⟨_, _, S, ?_, rfl⟩
    rw [List.take_add_one, hf, List.map_append]
    exact hy.snoc _ _
  clear S
  rintro C wr wvs H' s' ⟨hwv, rfl⟩ S
  rw [hel, List.take_length] at hwv
  refine comp_use S (by with_unfolding_all rfl) (by with_unfolding_all rfl) (by with_unfolding_all rfl) ?_
  clear S
  intro s3 S
  have hwvl := hwv.length
  walk_at "go"
  rename St _ _ _ _ _ => S
  refine comp_list (vs := wvs) (fun i ys H => IntsAre ys (((fs.map (hd0 ++ ·)).take i).map fun l => (l.length : Int)) ∧ H = _) S ⟨by simpa using IntsAre.nil, rfl⟩ (by rw [sizeLine_eq]; omega) (Or.inl (by walk_at "mem")) (fun _ _ _ h => by rw [h.2]; exact Or.inl (by walk_at "mem")) hh (by decide) (by rfl) (by rfl) ?_ ?_
  · clear S
    rintro C D I i v ys H' s' hv ⟨hy, rfl⟩ S
    obtain ⟨l', tl, rfl, hl'⟩ := hwv.at i v hv
    have hz' := hws l' (List.mem_of_getElem? hl')
    refine tests_nil (ifT ?_)
    walk_at "go"
    rename St _ _ _ _ _ => S
    refine ⟨_, _, S, ?_, rfl⟩
    rw [List.take_add_one, hl', List.map_append]
    exact hy.append (.cons _ _ .nil)
  clear S
  rintro C D2 ys H' s' ⟨hy, rfl⟩ S
  clear S
  intro s'' S
  rw [hwvl, List.take_length] at hy
  walk_at "go"
  rename St _ _ _ _ _ => S
  refine c_maxI S (Or.inl (by walk_at "mem")) hy (by simpa using hne) hh ?_
  clear S
  intro s2 m tm hm1 hm2 S
  obtain ⟨lm, hlm, e⟩ := List.mem_map.mp hm1
  subst e
  have hm3 : ∀ l ∈ fs.map (hd0 ++ ·), l.length ≤ lm.length := fun l hl => by have := hm2 _ (List.mem_map.mpr ⟨l, hl, rfl⟩); omega
  walk_at "go"
  rename St _ _ _ _ _ => S
  refine shared_spec X TR S (by omega) hh (by omega) (by walk_at "mem") hev hne (by omega) (fun l hl => by have := hfs l hl; omega) ?_
  clear S
  intro s4 r tr hpr S
  walk_at "in"
  walk_at "one"
  rename St _ _ _ _ _ => S
  have hp2 := pre_append (hd := hd0) hpr
  have e2 : ((hd0.length : Int) + (r.length : Int)) = ((hd0 ++ r).length : Nat) := by rw [List.length_append]; omega
  rw [e2] at S
  exact h _ _ _ _ _ lm.length _ _ hwv hp2 hm3 (List.mem_map.mpr ⟨lm, hlm, rfl⟩) ((S.bind (by walk_at "bind")).sub (by walk_at "sub"))
end
end Mine
namespace Mine
theorem csr_map {ws : List (List Nat)} {r : List Nat} {M : Nat} : csr ws r M = ws.map (csr1 r M) := by
  unfold csr csr1
  have e : ∀ l : List Nat, cut l (some (r.length : Int)) none = l.drop r.length := fun l => by rw [cut_from l (by simp)]; simp
  simp only [e]
  split
  · simp
  · split <;> rfl
theorem wo_of {ws : List (List Nat)} {r : List Nat} {lo : Nat} (hpr : ∀ l ∈ ws, l.take r.length = r) {l : List Nat} (hl : l ∈ ws) (hlo : l.length ≤ lo) : wo l (runsOf lo r.length l.length) = csr1 r lo l := by
  have e : l = r ++ l.drop r.length := by conv => lhs; rw [← List.take_append_drop r.length l, hpr l hl]
  rw [e]
  exact wo_csr1 (by rw [← e]; exact hlo)
theorem PairsAt.mono {H H' : List Ent} (hs : ∀ p ∈ H, p ∈ H') : ∀ {vs : List Value} {ps : List (Int × Int)}, PairsAt H vs ps → PairsAt H' vs ps
  | [], [], _ => trivial
  | [], _ :: _, h => h.elim
  | _ :: _, [], h => h.elim
  | _ :: _, _ :: _, h => ⟨let ⟨t, ta, tb, h1, h2⟩ := h.1; ⟨t, ta, tb, h1, hs _ h2⟩, h.2.mono hs⟩
theorem PairsAt.one {H : List Ent} {t : Addr} {a b : Int} {ta tb : Tok} (h : (t, Tup [.int a ta, .int b tb]) ∈ H) : PairsAt H [.ref t] [(a, b)] := ⟨⟨t, ta, tb, rfl, h⟩, trivial⟩
theorem PairsAt.two {H : List Ent} {t t' : Addr} {a b a' b' : Int} {ta tb ta' tb' : Tok} (h : (t, Tup [.int a ta, .int b tb]) ∈ H) (h' : (t', Tup [.int a' ta', .int b' tb']) ∈ H) : PairsAt H [.ref t, .ref t'] [(a, b), (a', b')] := ⟨⟨t, ta, tb, rfl, h⟩, ⟨t', ta', tb', rfl, h'⟩, trivial⟩
section
variable {w : World} {p : Program} {loose : List Str} {mg mb : Str → Option Value} {A : Around} {s s₁ : Shared} {L l fa : Addr} {cd : Value} {Q : Flow → Shared → Prop}
theorem part03C {wr du : Addr} {wvs : List Value} {ws : List (List Nat)} {r : List Nat} {lo : Nat} {ts tl : Tok} (X : (hd03.heap_39 w.params).In s₁.heap) (TR : TopRead p loose mg mb s₁.heap)
    (hh : A.handled = none) (hd : A.depth + 20 < recursionLimit) (hu : A.units + 200 < cLine) (hwv : TxAre wvs ws) (hpr : ∀ l ∈ ws, l.take r.length = r) (hn : ws.length ≤ 63) (hne : ws ≠ []) (hlo : ∀ l ∈ ws, l.length ≤ lo) (hlo2 : lo ≤ 12402)
    (S : St s₁ L (B03 (r.length : Nat) (lo : Nat) ts tl wr du) [(du, Lst []), (wr, Lst wvs)] s)
    (h : ∀ s' dvs, TxAre dvs (ws.map (csr1 r lo)) → St s₁ L (B03 (r.length : Nat) (lo : Nat) ts tl wr du) [(du, Lst dvs), (wr, Lst wvs)] s' → wpAny (model progC w) A (execs ((bodyAt (fd03 w)).drop 9) (env03 w L fa cd)) Q (fun _ _ => False) s') :
    wpAny (model progC w) A (execs ((bodyAt (fd03 w)).drop 8) (env03 w L fa cd)) Q (fun _ _ => False) s := by
  have hwl := hwv.length
  have hrl : r.length ≤ lo := by
    obtain ⟨l', hl'⟩ := List.exists_mem_of_ne_nil _ hne
    have e := congrArg List.length (hpr l' hl')
    rw [List.length_take] at e
    have := hlo l' hl'
    omega
  walk_at "go"
  rename St _ _ _ _ _ => S
  refine for_list (vs := wvs) (fun i b H => ∃ dvs, b = B03 (r.length : Nat) (lo : Nat) ts tl wr du ∧ H = [(du, Lst dvs), (wr, Lst wvs)] ∧ TxAre dvs ((ws.take i).map (csr1 r lo))) S ⟨[], rfl, rfl, by simpa using TxAre.nil⟩ (Or.inl (by walk_at "mem")) (fun _ _ _ h => by obtain ⟨_, _, rfl, _⟩ := h; exact Or.inl (by walk_at "mem")) hh (by rfl) (by rfl) (by rfl) ?_ ?_
  · clear S
    rintro I i v b' H' s' hv ⟨dvs, rfl, rfl, hdv⟩ S
    obtain ⟨l', tl', rfl, hl'⟩ := hwv.at i v hv
    have hm := List.mem_of_getElem? hl'
    have hz1 := hlo l' hm
    have hdl := hdv.length
    rw [List.length_map, List.length_take] at hdl
    walk_at "one"
    refine ex_post (fun s' => ∃ ra rvs K, PairsAt K rvs (runsOf lo r.length l'.length) ∧ St s₁ L (up (Str.ofString "runs") (.ref ra) (up (Str.ofString "one") (.str (T l') tl') (B03 (r.length : Nat) (lo : Nat) ts tl wr du))) ((ra, Lst rvs) :: ((I, LI wr (i + 1)) :: (du, Lst dvs) :: (wr, Lst wvs) :: K)) s') ?_ ?_
    · walk_at "in"
      all_goals (try walk_at "go")
      · rename St _ _ _ _ _ => S
        rw [show runsOf lo r.length l'.length = [(5, (lo : Int) - 63)] from if_pos ⟨by omega, by omega⟩]
        have S2 := (S.bind (b' := up (Str.ofString "runs") _ (up (Str.ofString "one") (.str (T l') tl') (B03 (r.length : Nat) (lo : Nat) ts tl wr du))) (by walk_at "bind")).sub (.cons_cons _ (.cons_cons _ (.cons _ (.refl _))))
        have S3 := S2.perm (.cons _ (List.perm_append_comm (l₁ := [_, _, _]) (l₂ := [_])))
        refine ⟨rfl, _, _, _, ?_, S3⟩
        exact PairsAt.one (List.mem_cons_self ..)
      · rename St _ _ _ _ _ => S
        rw [show runsOf lo r.length l'.length = [(5, (r.length : Int) - 5), ((r.length : Int) + 41, (l'.length : Int) - 5)] from (if_neg (by omega)).trans (if_pos (by omega))]
        have S2 := (S.bind (b' := up (Str.ofString "runs") _ (up (Str.ofString "one") (.str (T l') tl') (B03 (r.length : Nat) (lo : Nat) ts tl wr du))) (by walk_at "bind")).sub (.cons_cons _ (.cons_cons _ (.cons_cons _ (.cons _ (.refl _)))))
        have S3 := S2.perm (.cons _ (List.perm_append_comm (l₁ := [_, _, _]) (l₂ := [_, _])))
        refine ⟨rfl, _, _, _, ?_, S3⟩
        exact PairsAt.two (List.mem_cons_of_mem _ (List.mem_cons_self ..)) (List.mem_cons_self ..)
      · rename St _ _ _ _ _ => S
        rw [show runsOf lo r.length l'.length = [] from (if_neg (by omega)).trans (if_neg (by omega))]
        exact ⟨rfl, _, [], [], trivial, S⟩
    rename St _ _ _ _ _ => S
    clear S
    rintro s3 ⟨ra, rvs, K, hK, S⟩
    walk_at "go"
    rename Frag.In _ _ => X
    rename St _ _ _ _ _ => S
    have hK2 := hK.mono (H' := (ra, Lst rvs) :: (I, LI wr (i + 1)) :: (du, Lst dvs) :: (wr, Lst wvs) :: K) (fun p hp => by simp [hp])
    refine without_spec X TR S (by omega) hh (by omega) (List.mem_cons_self ..) hK2 ?_ ?_ ?_
    · unfold runsOf; split
      · simp
      · split <;> simp
    · intro q hq
      unfold runsOf at hq
      split at hq
      · simp at hq; subst hq; simp only; omega
      · split at hq
        · simp only [List.mem_cons, List.not_mem_nil, or_false] at hq
          rcases hq with rfl | rfl <;> simp only <;> omega
        · simp at hq
    clear S
    intro s4 t4 S
    rw [wo_of hpr hm hz1] at *
    walk_at "go"
    rename St _ _ _ _ _ => S
    refine ⟨_, [(du, Lst _), (wr, Lst wvs)], ((S.bind (by walk_at "bind")).sub (.cons _ (.cons_cons _ (.cons_cons _ (.cons_cons _ (List.nil_sublist _)))))), _, rfl, rfl, ?_⟩
    rw [List.take_add_one, hl', List.map_append]
    exact hdv.snoc _ _
  · clear S
    rintro b' H' s' ⟨dvs, rfl, rfl, hdv⟩ S
    rw [hwl, List.take_length] at hdv
    exact h _ _ hdv S
end
end Mine
local macro_rules | `(tactic| walk_at "callWith ref") => `(tactic| ((rename Frag.In _ _ => kX); k_dflt (refine callWith_S kX (by with_unfolding_all rfl) ?_)))
local macro_rules | `(tactic| walk_at "call type:tuple") => `(tactic| ((rename Mine.St _ _ _ _ _ => wS); k_dflt (refine Mine.c_tupL wS (by walk_at "mem") (by walk_at "size") ?_); clear wS; intro _ _ _))
local macro_rules | `(tactic| walk_at "compareOp Eq ref ref") => `(tactic| ((rename Mine.St _ _ _ _ _ => wS); k_dflt (refine Mine.u_eqTx wS (by walk_at "mem") (by walk_at "mem") (by assumption) (by assumption) (by omega) ?_)))
namespace Mine
def quo (l : List Nat) : List Nat := [39] ++ l ++ [39]
theorem unquo (u : List Nat) : cut (quo u) (some 1) (some (-1)) = u := by
  unfold cut
  have h1 : hiC (quo u).length (some (-1)) = u.length + 1 := by
    show clip (quo u).length (-1) = _
    unfold clip
    rw [if_pos (by decide)]
    simp [quo]; omega
  have h2 : loC (quo u).length (some 1) = 1 := by
    show clip (quo u).length 1 = _
    rw [clip_nn (by decide)]
    simp [quo]
  rw [h1, h2]
  unfold quo
  simp
section
variable {w : World} {p : Program} {loose : List Str} {mg mb : Str → Option Value} {A : Around} {s s₁ : Shared} {L l fa : Addr} {cd : Value} {Q : Flow → Shared → Prop}
theorem part03D {P bm : Addr} {ob : Obj} {wr du : Addr} {wvs dvs : List Value} {us : List (List Nat)} {r : List Nat} {lo : Nat} {ts tl : Tok} (X : (hd03.heap_39 w.params).In s₁.heap) (TR : TopRead p loose mg mb s₁.heap) (B : Based s₁.heap s₁.heap 60 P #[]) (M : BMod s₁.heap mainGlobals mg bm ob) (G : AllBare s₁.gens) (hab : s₁.heap.objs.size ≤ L)
    (hh : A.handled = none) (hgu : A.guards = some []) (hd : A.depth + 20 < recursionLimit) (hu : A.units + 200 < cLine) (hwv : TxAre wvs (us.map quo)) (hpr : Pre (us.map quo) r) (hn : us.length ≤ 63) (hne : us ≠ []) (hlo : ∀ l ∈ us.map quo, l.length ≤ lo) (hlo2 : lo ≤ 12402) (hlo3 : lo ∈ (us.map quo).map List.length)
    (hus : ∀ u ∈ us, Low u) (hdv : TxAre dvs ((us.map quo).map (csr1 r lo)))
    (S : St s₁ L (B03 (r.length : Nat) (lo : Nat) ts tl wr du) [(du, Lst dvs), (wr, Lst wvs)] s)
    (hQ : ∀ s₁' s' b H, Later (hd03.heap_39 w.params) p loose mg mb s₁ s₁' → St s₁' L b H s' → Q (.ret (.bool true)) s') :
    wpAny (model progC w) A (execs ((bodyAt (fd03 w)).drop 9) (env03 w L fa cd)) Q (fun _ _ => False) s := by
  have hwl := hwv.length
  rw [List.length_map] at hwl
  have hdl := hdv.length
  rw [List.length_map, List.length_map] at hdl
  have hwne : us.map quo ≠ [] := by simpa using hne
  have hul : ∀ u ∈ us, u.length + 2 ≤ 12402 := fun u hu' => by
    have := hlo (quo u) (List.mem_map.mpr ⟨u, hu', rfl⟩)
    simp [quo] at this; omega
  walk_at "go"
  rename St _ _ _ _ _ => S
  refine comp_list (vs := wvs) (fun i ys H => TxAre ys (us.take i) ∧ H = _) S ⟨by simpa using TxAre.nil, rfl⟩ (by rw [sizeLine_eq]; omega) (Or.inl (by walk_at "mem")) (fun _ _ _ h => by rw [h.2]; exact Or.inl (by walk_at "mem")) hh (by decide) (by rfl) (by rfl) ?_ ?_
  · clear S
    rintro C D I i v ys H' s' hv ⟨hy, rfl⟩ S
    obtain ⟨l', tl', rfl, hl'⟩ := hwv.at i v hv
    have hz := hlo l' (List.mem_of_getElem? hl')
    rw [List.getElem?_map] at hl'
    obtain ⟨u, hu', rfl⟩ := Option.map_eq_some_iff.mp hl'
    refine tests_nil (ifT ?_)
    walk_at "go"
    rename St _ _ _ _ _ => S
    refine ⟨_, _, S, ?_, rfl⟩
    rw [unquo, List.take_add_one, hu']
    exact hy.snoc _ _
  clear S
  rintro C D ys H' s' ⟨hy, rfl⟩ S
  clear S
  intro s'' S
  rw [hwl, List.take_length] at hy
  have hyl := hy.length
  rename Frag.In _ _ => X
  refine star_list S (List.mem_cons_self ..) (by rw [sizeLine_eq]; omega) ?_
  clear S
  intro s4 S
  refine ⟨X.keeps S.keep, ?_⟩
  simp only [List.nil_append]
  refine csr_spec (ws := us.map quo) X TR B M G S hab (by omega) hh hgu (by omega) (by rw [List.length_map]; exact hyl) hwne (by rw [List.length_map]; omega) (fun l hl => by have := hlo l hl; omega) (fun i v l h1 h2 => ?_) ?_
  · obtain ⟨u, tu, rfl, hu'⟩ := hy.at i v h1
    rw [List.getElem?_map, hu'] at h2
    have hl2 : quo u = l := by simpa using h2
    rw [← hl2]
    have hm := List.mem_of_getElem? hu'
    have := hul u hm
    exact reps_str (hus u hm) (by omega)
  clear S
  intro s₁' s5 t ys2 r' Mx hL' hys hpre hM1 hM2 S
  have hMx : Mx = lo := by
    obtain ⟨l', hl', e'⟩ := List.mem_map.mp hM1
    obtain ⟨l2, hl2, e2⟩ := List.mem_map.mp hlo3
    have := hlo l' hl'
    have := hM2 l2 hl2
    omega
  subst hMx
  have hcs : csr (us.map quo) r' Mx = (us.map quo).map (csr1 r Mx) := by
    by_cases hc : Mx ≤ 80
    · rw [csr, if_pos hc]
      have : csr1 r Mx = id := by funext l; unfold csr1; rw [if_pos hc]; rfl
      rw [this, List.map_id]
    · rw [pre_unique hwne (hpre (by omega)) hpr, csr_map]
  rw [hcs] at hys
  have X' := hL'.X
  have TR' := hL'.TR
  clear X TR
  walk_at "go"
  rename St _ _ _ _ _ => S
  have := hQ _ _ _ _ hL' S
  simpa using this
theorem law03_some {P bm : Addr} {ob : Obj} {vs : List Value} {ns : List Int} (X : (hd03.heap_39 w.params).In s₁.heap) (TR : TopRead p loose mg mb s₁.heap) (B : Based s₁.heap s₁.heap 60 P #[]) (M : BMod s₁.heap mainGlobals mg bm ob) (G : AllBare s₁.gens) (hab : s₁.heap.objs.size ≤ L) (hL : s₁.heap.IsList l vs.toArray) (hI : IntsAre vs ns) (hlen : ns.length ≤ 63) (hne : ns ≠ [])
    (hh : A.handled = none) (hgu : A.guards = some []) (hd : A.depth + 20 < recursionLimit) (hu : A.units + 200 < cLine) (S : St s₁ L [] [(L + 1, Cel (some (.ref l))), (L + 1 + 1, Cel none)] s)
    (hQ : ∀ s₁' s' b H, Later (hd03.heap_39 w.params) p loose mg mb s₁ s₁' → St s₁' L b H s' → Q (.ret (.bool true)) s') :
    wpAny (model progC w) A (execs (bodyAt (fd03 w)) (env03 w L fa cd)) Q (fun _ _ => False) s := by
  refine part03A X TR hL hI hlen hne hh hd hu S fun s' hd0 th D evs es hlow hhl hev hes hel hE S' => ?_
  refine part03B X TR hh hd hu (hd0 := [39] ++ hd0) (by simp; omega) hev (by simpa using hes) (by rw [List.length_map]; exact hel) (fun f hf => ?_) S' fun s2 wr du wvs r lo ts tl hwv hpr hlo hlo3 S2 => ?_
  · obtain ⟨e, he, rfl⟩ := List.mem_map.mp hf
    have := (hE e he).2
    rw [List.length_append]; simp; omega
  have ew : (es.map (· ++ [39])).map (([39] ++ hd0) ++ ·) = (es.map (hd0 ++ ·)).map quo := by
    rw [List.map_map, List.map_map]
    refine List.map_congr_left fun e _ => ?_
    simp [quo]
  rw [ew] at hwv hpr hlo hlo3
  have hlo2 : lo ≤ 12402 := by
    obtain ⟨l', hl', e'⟩ := List.mem_map.mp hlo3
    obtain ⟨u, hu', rfl⟩ := List.mem_map.mp hl'
    obtain ⟨e, he, rfl⟩ := List.mem_map.mp hu'
    have := (hE e he).2
    simp [quo] at e'; omega
  have hne2 : (es.map (hd0 ++ ·)).map quo ≠ [] := by simpa using hes
  refine part03C X TR hh hd hu hwv hpr.1 (by simpa using hel) hne2 hlo hlo2 S2 fun s3 dvs hdv S3 => ?_
  refine part03D X TR B M G hab hh hgu hd hu hwv hpr (by simpa using hel) (by simpa using hes) hlo hlo2 hlo3 (fun u hu' => ?_) hdv S3 hQ
  obtain ⟨e, he, rfl⟩ := List.mem_map.mp hu'
  exact hlow.append (hE e he).1
end
end Mine
local macro_rules | `(tactic| walk_at "exec Try") => `(tactic| fail "by hand")
local macro_rules | `(tactic| walk_at "call type:map") => `(tactic| ((rename Mine.St _ _ _ _ _ => wS); k_dflt (refine Mine.c_map wS (by walk_at "mem") ?_); clear wS; intro _ _ _ _ _))
local macro_rules | `(tactic| walk_at "call type:tuple") => `(tactic| fail "by hand")
local macro_rules | `(tactic| walk_at "call builtin:max") => `(tactic| fail "by hand")
namespace Mine
section
variable {w : World} {p : Program} {loose : List Str} {mg mb : Str → Option Value} {A : Around} {s s₁ : Shared} {L l fa : Addr} {cd : Value} {Q : Flow → Shared → Prop}
theorem law03_none {vs : List Value} (X : (hd03.heap_39 w.params).In s₁.heap) (TR : TopRead p loose mg mb s₁.heap) (hL : s₁.heap.IsList l vs.toArray) (hI : IntsAre vs [])
    (hh : A.handled = none) (hd : A.depth + 20 < recursionLimit) (hu : A.units + 200 < cLine) (hfr : A.frames = some [env03 w L fa cd]) (S : St s₁ L [] [(L + 1, Cel (some (.ref l))), (L + 1 + 1, Cel none)] s)
    (hQ : ∀ s' b H, St s₁ L b H s' → Q (.ret (.bool true)) s') :
    wpAny (model progC w) A (execs (bodyAt (fd03 w)) (env03 w L fa cd)) Q (fun _ _ => False) s := by
  have hu64 : A.units + 64 < cLine := by omega
  walk_at "go"
  rename St _ _ _ _ _ => S
  refine ex_tryF (s₁ := s₁) (L := L) (X := "ValueError") (T := "ValueError") (l := []) (fun _ _ => True) hfr (by rfl) (by kernel_rfl) (by kernel_rfl) (by kernel_rfl) ?_ ?_ ?_
  · walk_at "go"
    rename St _ _ _ _ _ => S
    refine callWith_K0 (X.keeps S.keep) (by rfl) ?_
    simp only [List.append_nil]
    refine call_starE (nm := Str.ofString "args") (args := []) (fun _ _ => True) (fun L' => [(L' + 1 + 1, Cel none), (L' + 1, Cel none)]) hfr (fun H1 _ env0 h0 => by rw [List.mem_singleton.mp h0]; exact ⟨by show ScopeKind.function ≠ ScopeKind.module; decide, L, rfl, Or.inl rfl⟩) S X TR.nolimit (by rfl) (by rfl) (by omega) (by rfl) (by rfl) (by rfl) (by rfl) [Str.ofString "prefixlen", Str.ofString "prefix"] (fun n => by with_unfolding_all rfl) (by decide) (fun L' t y v e => ?_) (fun L' t => by with_unfolding_all rfl) (by simp [sizeLine_eq]) ?_ (by rfl) (by rfl) (by rfl)
    · simp only [lk] at e
      by_cases hy : Str.ofString "args" = y
      · subst hy; simp at e; subst e; rfl
      · simp [hy] at e
    clear S
    intro s2 L' t hLL S2
    simp only [List.cons_append, List.nil_append] at S2
    walk_at "one"
    rename St _ _ _ _ _ => S3
    refine t_tupmap S3 (by walk_at "mem") (fun i v => False) hh (by simp [sizeLine_eq]) (fun i x s' Q' E' hx hk hq => by simp at hx) ?_
    clear S3
    intro _ D ys hyl hy S3
    have hys : ys = [] := List.eq_nil_of_length_eq_zero (by simpa using hyl)
    subst hys
    walk_at "in"
    walk_at "one"
    rename St _ _ _ _ _ => S6
    refine c_maxEmpty S6 (by walk_at "mem") hh ?_
    clear S6
    intro s0 h' tk e S7 hx
    exact ⟨_, _, s0, h', tk, e, rfl, rfl, S7, hx, _, _, List.append_assoc [_, _, _] [] _, trivial⟩
  · clear S
    intro b H s' e E' Q' S _ hq
    walk_at "eval Name"
    exact hq
  · clear S
    intro b H s' e S _
    walk_at "go"
    rename St _ _ _ _ _ => S
    exact hQ _ _ _ S
theorem law03_body {P bm : Addr} {ob : Obj} {vs : List Value} {ns : List Int} (X : (hd03.heap_39 w.params).In s₁.heap) (TR : TopRead p loose mg mb s₁.heap) (B : Based s₁.heap s₁.heap 60 P #[]) (M : BMod s₁.heap mainGlobals mg bm ob) (G : AllBare s₁.gens) (hab : s₁.heap.objs.size ≤ L) (hL : s₁.heap.IsList l vs.toArray) (hI : IntsAre vs ns) (hlen : ns.length ≤ 63)
    (hh : A.handled = none) (hgu : A.guards = some []) (hd : A.depth + 20 < recursionLimit) (hu : A.units + 200 < cLine) (hfr : A.frames = some [env03 w L fa cd]) (S : St s₁ L [] [(L + 1, Cel (some (.ref l))), (L + 1 + 1, Cel none)] s)
    (hQ : ∀ s₁' s' b H, Later (hd03.heap_39 w.params) p loose mg mb s₁ s₁' → St s₁' L b H s' → Q (.ret (.bool true)) s') :
    wpAny (model progC w) A (execs (bodyAt (fd03 w)) (env03 w L fa cd)) Q (fun _ _ => False) s := by
  by_cases hne : ns = []
  · subst hne
    exact law03_none X TR hL hI hh hd hu hfr S fun s' b H S' => hQ s₁ s' b H ⟨X, TR, OldK.refl _, rfl, G⟩ S'
  · exact law03_some X TR B M G hab hL hI hlen hne hh hgu hd hu S hQ
end
end Mine
open Mine in
theorem PySem.Challenge.cw_dn0232_03_holds : PySem.Challenge.rw_dn0232_03.Holds := by
  refine Mine.hd03 ?_
  lgec_go0
  rename Fr _ _ _ _ => F0
  rename News _ _ _ _ => N0
  rename Top _ _ _ _ _ _ => T0
  rename Frag.In _ _ => KX
  rename Heap.IsList _ _ _ => hL
  rename IntsAre _ _ => hI
  rename ¬ (_ < _) => hlen
  rename Shared.gens _ = _ => hg
  rename BMod _ _ _ _ _ => M0
  obtain ⟨c9, P9, e9, B9⟩ := based_of_top T0 (name := Str.ofString "_common_shorten_repr") rfl (mg_of KX T0.g (by rfl)) (KX 61 _ (by rfl)) rfl
  cases e9
  refine wpAny_mono (law03_body KX (topRead_of T0) B9 M0 (AllBare.of_eq hg) F0.above hL hI (by omega) (by rfl) (by rfl) (by simp only [depth_deeper, depth_caller]; decide) (by simp only [units_deeper, units_caller]; decide) (Around.frames_deeper rfl) (law_start2 _ F0 N0 (by assumption) (by assumption) (Nat.lt_succ_self _) (fun _ _ e => by simp [lk] at e)) (fun s₁' s' b H hl S' => law_endG S' hl.old hl.os hl.gens (by intro _; rfl) (by with_unfolding_all exact postW_of (by rfl) (by exact w_eq_bool (w_res rfl) w_lit) (by rfl)))) (fun _ _ q => q) (fun _ _ q => q.elim)
