import PyProof.Rows.All
import Wide.All
import OpenK.AllK
import Wide.FinOn
import PySem.Challenge.RW_dn0232_11
open PySem PySem.W PySem.Calls PyProof.Rows
set_option Elab.async false
set_option maxRecDepth 100000
set_option maxHeartbeats 4000000
set_option linter.unusedVariables false
set_option linter.unusedSimpArgs false
namespace Mine

/-! ### names known of a frame -/
def lk : List (Str × Value) → Str → Option Value
  | [], _ => none
  | (n, v) :: r, x => if n = x then some v else lk r x
def up (x : Str) (v : Value) : List (Str × Value) → List (Str × Value)
  | [] => [(x, v)]
  | (n, u) :: r => if n = x then (n, v) :: r else (n, u) :: up x v r
theorem lk_up (x y : Str) (v : Value) : ∀ b, lk (up x v b) y = if y = x then some v else lk b y
  | [] => by simp only [up, lk]; by_cases h : x = y <;> simp [h, eq_comm]
  | (n, u) :: r => by
    simp only [up]
    by_cases h : n = x
    · subst h; simp only [if_true, lk]
      by_cases h2 : n = y
      · simp [h2]
      · simp [h2, Ne.symm h2, eq_comm]
    · simp only [if_neg h, lk, lk_up x y v r]
      by_cases h2 : n = y
      · subst h2; simp [h]
      · simp [h2]
/-- all that `b` says, `b'` says -/
def Sub (b' b : List (Str × Value)) : Prop := ∀ x v, lk b x = some v → lk b' x = some v
theorem Sub.nil (b) : Sub b [] := fun _ _ h => by simp [lk] at h
theorem Sub.cons {b' b : List (Str × Value)} {n : Str} {u : Value} (h : lk b' n = some u) (hs : Sub b' b) : Sub b' ((n, u) :: b) := fun x v e => by
  simp only [lk] at e
  by_cases hn : n = x
  · subst hn; simp at e; subst e; exact h
  · simp [hn] at e; exact hs x v e

/-! ### what a made object is -/
abbrev Ent := Addr × (Obj → Prop)
def Frm (b : List (Str × Value)) (o : Obj) : Prop := ∃ es ep, o.data = .dict es ep ∧ StrKeys es ∧ ∀ x v, lk b x = some v → nsFind es x = some v
def Lst (vs : List Value) (o : Obj) : Prop := o.cls = .type "list" ∧ o.dict = none ∧ o.slots = #[] ∧ ∃ n, o.data = .seq vs.toArray n
def Tup (vs : List Value) (o : Obj) : Prop := o.cls = .type "tuple" ∧ o.dict = none ∧ o.slots = #[] ∧ ∃ n, o.data = .seq vs.toArray n
def Cel (v : Option Value) (o : Obj) : Prop := o.data = .cell v
def Yes (_ : Obj) : Prop := True

theorem Frm.weak {b b' : List (Str × Value)} {o : Obj} (h : Frm b' o) (hs : Sub b' b) : Frm b o := let ⟨es, ep, h1, h2, h3⟩ := h; ⟨es, ep, h1, h2, fun x v e => h3 x v (hs x v e)⟩

structure St (s₁ : Shared) (L : Addr) (b : List (Str × Value)) (H : List Ent) (s : Shared) : Prop where
  ns : ∃ o, s.heap.get? L = some o ∧ Frm b o
  keep : ∀ a o, s₁.heap.get? a = some o → s.heap.get? a = some o
  fr : s₁.heap.get? L = none
  nw : ∀ p ∈ H, ∃ o, s.heap.get? p.1 = some o ∧ p.2 o
  fresh : ∀ p ∈ H, p.1 ≠ L ∧ s₁.heap.get? p.1 = none
  nd : (H.map (·.1)).Nodup
  eq : ∃ h tk, s = { s₁ with heap := h, toks := tk }

/-! ### changing one entry -/
inductive Upd (a : Addr) (P P' : Obj → Prop) : List Ent → List Ent → Prop
  | head (r) : Upd a P P' ((a, P) :: r) ((a, P') :: r)
  | tail (p) {r r'} : Upd a P P' r r' → Upd a P P' (p :: r) (p :: r')
  | appL {r r'} (q) : Upd a P P' r r' → Upd a P P' (r ++ q) (r' ++ q)
  | appR (q) {r r'} : Upd a P P' r r' → Upd a P P' (q ++ r) (q ++ r')
theorem Upd.split {a P P' H H'} (U : Upd a P P' H H') : ∃ x y, H = x ++ (a, P) :: y ∧ H' = x ++ (a, P') :: y := by
  induction U with
  | head r => exact ⟨[], r, rfl, rfl⟩
  | tail p _ ih => obtain ⟨x, y, rfl, rfl⟩ := ih; exact ⟨p :: x, y, rfl, rfl⟩
  | appL q _ ih => obtain ⟨x, y, rfl, rfl⟩ := ih; exact ⟨x, y ++ q, by simp, by simp⟩
  | appR q _ ih => obtain ⟨x, y, rfl, rfl⟩ := ih; exact ⟨q ++ x, y, by simp, by simp⟩
theorem Upd.mem {a P P' H H'} (U : Upd a P P' H H') : (a, P) ∈ H := by obtain ⟨x, y, rfl, _⟩ := U.split; simp

section
variable {s₁ s : Shared} {L : Addr} {b : List (Str × Value)} {H H' : List Ent}

theorem St.get (S : St s₁ L b H s) {a : Addr} {P : Obj → Prop} (h : (a, P) ∈ H) : ∃ o, s.heap.get? a = some o ∧ P o := S.nw _ h
theorem St.tok (S : St s₁ L b H s) (k : Nat) : St s₁ L b H { s with toks := k } :=
  ⟨S.ns, S.keep, S.fr, S.nw, S.fresh, S.nd, let ⟨h, tk, e⟩ := S.eq; ⟨h, k, by rw [e]⟩⟩

theorem St.size (S : St s₁ L b H s) : s₁.heap.get? s.heap.objs.size = none ∧ s.heap.objs.size ≠ L ∧ ∀ p ∈ H, p.1 ≠ s.heap.objs.size := by
  refine ⟨?_, ?_, ?_⟩
  · cases h : s₁.heap.get? s.heap.objs.size with
    | none => rfl
    | some o => exact absurd (Heap.lt_size (S.keep _ _ h)) (Nat.lt_irrefl _)
  · obtain ⟨o, ho, _⟩ := S.ns; exact Nat.ne_of_gt (Heap.lt_size ho)
  · intro p hp; obtain ⟨o, ho, _⟩ := S.nw p hp; exact Nat.ne_of_lt (Heap.lt_size ho)

/-- any later heap that keeps all -/
theorem St.ext (S : St s₁ L b H s) {h' : Heap} (k : Nat) (hk : ∀ a o, s.heap.get? a = some o → h'.get? a = some o) : St s₁ L b H { s with heap := h', toks := k } where
  ns := let ⟨o, ho, h⟩ := S.ns; ⟨o, hk _ _ ho, h⟩
  keep := fun a o e => hk _ _ (S.keep a o e)
  fr := S.fr
  nw := fun p hp => let ⟨o, ho, h⟩ := S.nw p hp; ⟨o, hk _ _ ho, h⟩
  fresh := S.fresh
  nd := S.nd
  eq := let ⟨h, tk, e⟩ := S.eq; ⟨h', k, by rw [e]⟩

/-- a new object at a place that was free -/
theorem St.new (S : St s₁ L b H s) {h' : Heap} {a : Addr} {P : Obj → Prop} (k : Nat) (hk : ∀ a o, s.heap.get? a = some o → h'.get? a = some o) (ha : s.heap.get? a = none) (hP : ∃ o, h'.get? a = some o ∧ P o) :
    St s₁ L b ((a, P) :: H) { s with heap := h', toks := k } where
  ns := (S.ext k hk).ns
  keep := (S.ext k hk).keep
  fr := S.fr
  nw := fun p hp => by
    rcases List.mem_cons.mp hp with rfl | hp
    · exact hP
    · exact (S.ext k hk).nw p hp
  fresh := fun p hp => by
    rcases List.mem_cons.mp hp with rfl | hp
    · refine ⟨?_, ?_⟩
      · rintro rfl; obtain ⟨o, ho, _⟩ := S.ns; rw [ha] at ho; cases ho
      · cases e : s₁.heap.get? a with
        | none => rfl
        | some o => have := S.keep _ _ e; rw [ha] at this; cases this
    · exact S.fresh p hp
  nd := by
    refine List.nodup_cons.mpr ⟨fun hm => ?_, S.nd⟩
    obtain ⟨q, hq, e⟩ := List.mem_map.mp hm
    obtain ⟨o, ho, _⟩ := S.nw q hq
    have e' : q.1 = a := e
    rw [e', ha] at ho; cases ho
  eq := (S.ext k hk).eq

theorem get?_size_none (h : Heap) : h.get? h.objs.size = none := by
  cases e : h.get? h.objs.size with
  | none => rfl
  | some o => exact absurd (Heap.lt_size e) (Nat.lt_irrefl _)

theorem St.push (S : St s₁ L b H s) {o : Obj} {P : Obj → Prop} (hP : P o) (k : Nat) (hf : o.isFreed = false := by rfl) : St s₁ L b ((s.heap.objs.size, P) :: H) { s with heap := s.heap.push o, toks := k } :=
  S.new k (fun _ _ e => Heap.get?_push_of_some _ e) (get?_size_none _) ⟨o, Heap.get?_push_size _ hf, hP⟩

/-- one object changed -/
theorem St.upd (S : St s₁ L b H s) {h' : Heap} {a : Addr} {P P' : Obj → Prop} (U : Upd a P P' H H') (k : Nat) (hk : ∀ c o, c ≠ a → s.heap.get? c = some o → h'.get? c = some o) (hP : ∃ o, h'.get? a = some o ∧ P' o) :
    St s₁ L b H' { s with heap := h', toks := k } := by
  obtain ⟨x, y, rfl, rfl⟩ := U.split
  have ha := S.fresh (a, P) (by simp)
  have hnd : ((x ++ (a, P') :: y).map (·.1)).Nodup := by have := S.nd; simpa using this
  have hne : ∀ p ∈ x ++ y, p.1 ≠ a := by
    intro p hp e
    have h1 := S.nd
    simp only [List.map_append, List.map_cons] at h1
    have h2 := (List.nodup_append.mp h1)
    rcases List.mem_append.mp hp with hp | hp
    · exact h2.2.2 p.1 (List.mem_map.mpr ⟨p, hp, rfl⟩) a (by simp) e
    · exact (List.nodup_cons.mp h2.2.1).1 (List.mem_map.mpr ⟨p, hp, e⟩)
  refine ⟨?_, ?_, S.fr, ?_, ?_, hnd, ?_⟩
  · obtain ⟨o, ho, h⟩ := S.ns; exact ⟨o, hk _ _ (Ne.symm ha.1) ho, h⟩
  · intro c o e; exact hk _ _ (by rintro rfl; have := ha.2; simp only at this; rw [this] at e; cases e) (S.keep c o e)
  · intro p hp
    rcases List.mem_append.mp hp with hp | hp
    · obtain ⟨o, ho, h⟩ := S.nw p (by simp [hp]); exact ⟨o, hk _ _ (hne p (by simp [hp])) ho, h⟩
    · rcases List.mem_cons.mp hp with rfl | hp
      · exact hP
      · obtain ⟨o, ho, h⟩ := S.nw p (by simp [hp]); exact ⟨o, hk _ _ (hne p (by simp [hp])) ho, h⟩
  · intro p hp
    rcases List.mem_append.mp hp with hp | hp
    · exact S.fresh p (by simp [hp])
    · rcases List.mem_cons.mp hp with rfl | hp
      · exact ha
      · exact S.fresh p (by simp [hp])
  · obtain ⟨h, tk, e⟩ := S.eq; exact ⟨h', k, by rw [e]⟩

/-- the frame's own names changed -/
theorem St.frame (S : St s₁ L b H s) {h' : Heap} {b' : List (Str × Value)} (k : Nat) (hk : ∀ c o, c ≠ L → s.heap.get? c = some o → h'.get? c = some o) (hP : ∃ o, h'.get? L = some o ∧ Frm b' o) :
    St s₁ L b' H { s with heap := h', toks := k } where
  ns := hP
  keep := fun c o e => hk _ _ (by rintro rfl; rw [S.fr] at e; cases e) (S.keep c o e)
  fr := S.fr
  nw := fun p hp => let ⟨o, ho, h⟩ := S.nw p hp; ⟨o, hk _ _ (S.fresh p hp).1 ho, h⟩
  fresh := S.fresh
  nd := S.nd
  eq := let ⟨h, tk, e⟩ := S.eq; ⟨h', k, by rw [e]⟩

theorem St.bind (S : St s₁ L b H s) {b' : List (Str × Value)} (hb : Sub b b') : St s₁ L b' H s := ⟨let ⟨o, ho, h⟩ := S.ns; ⟨o, ho, h.weak hb⟩, S.keep, S.fr, S.nw, S.fresh, S.nd, S.eq⟩
theorem St.perm (S : St s₁ L b H s) (hp : H'.Perm H) : St s₁ L b H' s :=
  ⟨S.ns, S.keep, S.fr, fun p h => S.nw p (hp.mem_iff.mp h), fun p h => S.fresh p (hp.mem_iff.mp h), (hp.map (·.1)).nodup_iff.mpr S.nd, S.eq⟩
theorem St.sub (S : St s₁ L b H s) (hs : H'.Sublist H) : St s₁ L b H' s :=
  ⟨S.ns, S.keep, S.fr, fun p h => S.nw p (hs.subset h), fun p h => S.fresh p (hs.subset h), List.Nodup.sublist (hs.map (·.1)) S.nd, S.eq⟩
theorem St.drop (S : St s₁ L b (p :: H) s) : St s₁ L b H s := S.sub (List.sublist_cons_self _ _)

theorem St.Ns (S : St s₁ L b H s) : ∃ m, s.heap.Ns L m ∧ ∀ x v, lk b x = some v → m x = some v := by
  obtain ⟨o, ho, es, ep, hd, hk, hf⟩ := S.ns
  exact ⟨nsFind es, ⟨o, es, ep, ho, hd, hk, fun _ => rfl⟩, hf⟩
theorem Frm.of_Ns {h : Heap} {L : Addr} {m : Str → Option Value} {b : List (Str × Value)} (hn : h.Ns L m) (hb : ∀ x v, lk b x = some v → m x = some v) : ∃ o, h.get? L = some o ∧ Frm b o := by
  obtain ⟨o, es, ep, ho, hd, hk, hf⟩ := hn
  exact ⟨o, ho, es, ep, hd, hk, fun x v e => (hf x).trans (hb x v e)⟩
end

/-! ### kinds -/
theorem Lst.isList {h : Heap} {a : Addr} {vs : List Value} (x : ∃ o, h.get? a = some o ∧ Lst vs o) : h.IsList a vs.toArray := let ⟨o, ho, hc, _, _, n, hd⟩ := x; ⟨o, ho, hc, n, hd⟩
theorem Tup.isTup {h : Heap} {a : Addr} {vs : List Value} (x : ∃ o, h.get? a = some o ∧ Tup vs o) : IsTup h a vs.toArray := let ⟨o, ho, hc, _, _, n, hd⟩ := x; ⟨o, ho, hc, n, hd⟩
end Mine
namespace Mine

/-! ### texts as lists of numbers -/
def T (l : List Nat) : Str := ⟨l.toArray⟩
@[simp] theorem T_cps (l : List Nat) : (T l).cps.toList = l := rfl
@[simp] theorem T_len (l : List Nat) : (T l).length = l.length := by simp [T, Str.length]
theorem T_of (x : Str) : T x.cps.toList = x := by cases x; rfl
theorem T_inj {a b : List Nat} (h : T a = T b) : a = b := by have := congrArg (fun x => x.cps.toList) h; simpa using this
@[simp] theorem T_beq (a b : List Nat) : (T a == T b) = (a == b) := by
  rw [Bool.eq_iff_iff]; simp only [beq_iff_eq]; exact ⟨T_inj, fun h => by rw [h]⟩

def clip (n : Nat) (i : Int) : Nat := (max 0 (min (if i < 0 then i + n else i) (n : Int))).toNat
def loC (n : Nat) : Option Int → Nat
  | none => 0
  | some i => clip n i
def hiC (n : Nat) : Option Int → Nat
  | none => n
  | some i => clip n i
/-- `l[lo:hi]` -/
def cut {α : Type} (l : List α) (lo hi : Option Int) : List α := (l.take (hiC l.length hi)).drop (loC l.length lo)
theorem clip_le (n : Nat) (i : Int) : clip n i ≤ n := by unfold clip; omega
theorem hiC_le (n : Nat) (i : Option Int) : hiC n i ≤ n := by cases i <;> simp [hiC, clip_le]
theorem clip_nn {n : Nat} {i : Int} (h : 0 ≤ i) : clip n i = min i.toNat n := by unfold clip; rw [if_neg (by omega)]; omega

theorem picked {α : Type} (l : List α) (a b : Nat) (hb : b ≤ l.length) : ((List.range (b - a)).map (fun k => a + k)).filterMap (l[·]?) = (l.take b).drop a := by
  by_cases h : a ≤ b
  · rw [StrLaws.picks l (b - a) a (by omega), List.drop_take]
  · have : b - a = 0 := by omega
    rw [this]; simp [List.drop_eq_nil_iff]; omega
theorem sliceRange1 (a b : Nat) : sliceRange (a : Int) (b : Int) 1 = (List.range (b - a)).map (fun k => a + k) := by
  unfold sliceRange
  simp only [show ((1 : Int) > 0) = True from by simp, if_true]
  have e : (if (a : Int) < b then ((b : Int) - a + 1 - 1) / 1 else 0).toNat = b - a := by split <;> omega
  rw [e]
  refine List.map_congr_left fun k _ => ?_
  omega
theorem cut_from {α : Type} (l : List α) {k : Int} (h : 0 ≤ k) : cut l (some k) none = l.drop k.toNat := by
  unfold cut
  show List.drop (clip l.length k) (l.take l.length) = _
  rw [clip_nn h, List.take_length]
  by_cases hk : k.toNat ≤ l.length
  · rw [Nat.min_eq_left hk]
  · rw [Nat.min_eq_right (by omega), List.drop_length, List.drop_eq_nil_of_le (by omega)]
/-! ### names -/
section
variable {M : Model} {A : Around} {E : Value → Shared → Prop} {s s₁ : Shared} {env : Env} {L : Addr} {b : List (Str × Value)} {H H' : List Ent} {x : Str} {v : Value} {pos : Pos}
theorem ld_L {Q : Value → Shared → Prop} (S : St s₁ L b H s) (hv : lk b x = some v) (h : Q v s) (hx : env.kindOf x = some .local) (hL : env.locals = L) (hk : env.scope.kind = .function) : wpAny M A (loadName env x) Q E s := by
  subst hL
  obtain ⟨m, hn, hm⟩ := S.Ns
  exact wpAny_loadName_local hk hx hn (hm _ _ hv) h
theorem nm_L {Q : Value → Shared → Prop} (S : St s₁ L b H s) (hx : env.kindOf x = some .local) (hv : lk b x = some v) (h : Q v s) (hL : env.locals = L) (hk : env.scope.kind = .function)
    (hd : (x == ("__debug__" : Str)) = false) : wpAny M A (eval (.Name x pos) env) Q E s := wpAny_Name (ld_L S hv h hx hL hk) hd
theorem ld_C {Q : Value → Shared → Prop} {c : Addr} (S : St s₁ L b H s) (hx : env.kindOf x = some .cell) (hc : env.cells.lookup x = some c) (hm : (c, Cel (some v)) ∈ H) (h : Q v s) (hk : env.scope.kind = .function) :
    wpAny M A (loadName env x) Q E s := by
  obtain ⟨o, ho, hd⟩ := S.get hm
  exact wpAny_loadName_cell hk hx hc ⟨o, ho, hd⟩ h
theorem nm_C {Q : Value → Shared → Prop} {c : Addr} (S : St s₁ L b H s) (hx : env.kindOf x = some .cell) (hc : env.cells.lookup x = some c) (hm : (c, Cel (some v)) ∈ H) (h : Q v s) (hk : env.scope.kind = .function)
    (hd : (x == ("__debug__" : Str)) = false) : wpAny M A (eval (.Name x pos) env) Q E s := wpAny_Name (ld_C S hx hc hm h hk) hd
theorem nm_K {Q : Value → Shared → Prop} {K : Frag} {p : Program} {loose : List Str} {mg mb : Str → Option Value} (S : St s₁ L b H s) (X : K.In s₁.heap) (T : TopRead p loose mg mb s₁.heap) (hx : env.kindOf x = some .globalImplicit) (e : nsIn K mainGlobals x = some (some v)) (h : Q v s)
    (hg : env.globals = mainGlobals) (hk : env.scope.kind = .function) (hd : (x == ("__debug__" : Str)) = false) : wpAny M A (eval (.Name x pos) env) Q E s :=
  Name_function_global hk hx (loadGlobal_global (env := env) (hg ▸ T.g.keeps S.keep) (mg_of X T.g e) h) hd
theorem nm_B {Q : Value → Shared → Prop} {K : Frag} {p : Program} {loose : List Str} {mg mb : Str → Option Value} (S : St s₁ L b H s) (X : K.In s₁.heap) (T : TopRead p loose mg mb s₁.heap) (hx : env.kindOf x = some .globalImplicit) (e : nsIn K mainGlobals x = some none) (hv : bootBuiltins x = some v) (h : Q v s)
    (hn : x ≠ "__name__") (hg : env.globals = mainGlobals) (hb : env.builtins = builtinsNs) (hk : env.scope.kind = .function) (hd : (x == ("__debug__" : Str)) = false) : wpAny M A (eval (.Name x pos) env) Q E s :=
  Name_function_global hk hx (loadGlobal_builtin (env := env) (hg ▸ T.g.keeps S.keep) (mg_none_of X T.g e) (hb ▸ T.b.keeps S.keep) ((T.builtins x hn).trans hv) h) hd

theorem st_L {Q : Unit → Shared → Prop} (S : St s₁ L b H s) (hx : env.kindOf x = some .local) (h : ∀ s', St s₁ L (up x v b) H s' → Q () s') (hL : env.locals = L) (hk : env.scope.kind = .function) :
    wpAny M A (storeName env x v) Q E s := by
  subst hL
  obtain ⟨m, hn, hm⟩ := S.Ns
  refine wpAny_storeName_local hx hn (fun h' hn' hs => h _ (S.frame _ (fun c o hc e => hs.extBut c o hc e) (Frm.of_Ns hn' fun y u hy => ?_))) (by rw [hk]; rfl)
  rw [lk_up] at hy
  by_cases e : y = x
  · simpa [e] using hy
  · simp only [e, if_false] at hy ⊢; exact hm _ _ hy
end

/-! ### ints -/
section
variable {prog : Program} {w : World} {A : Around} {E : Value → Shared → Prop} {s s₁ : Shared} {L : Addr} {b : List (Str × Value)} {H H' : List Ent} {i j : Int} {t u : Tok} {Q : Value → Shared → Prop} {env : Env}
theorem c_int {k : Nat} {pos : Pos} (S : St s₁ L b H s) (h : ∀ s' t', St s₁ L b H s' → Q (.int i t') s') : wpAny (model prog w) A (eval (.Constant (.int i) k pos) env) Q E s := wpAny_Constant_int (h _ _ (S.tok _))
theorem c_str {x : Str} {k : Nat} {pos : Pos} (S : St s₁ L b H s) (h : ∀ s' t', St s₁ L b H s' → Q (.str x t') s') : wpAny (model prog w) A (eval (.Constant (.str x) k pos) env) Q E s := wpAny_Constant_str (h _ _ (S.tok _))
theorem i_iadd (S : St s₁ L b H s) (h : ∀ s' t', St s₁ L b H s' → Q (.int (i + j) t') s') : wpAny (model prog w) A (inplaceOp .Add (.int i t) (.int j u)) Q E s := iadd_int (h _ _ (S.tok _))
theorem i_mul (S : St s₁ L b H s) (hm : IntMulOk i j) (h : ∀ s' t', St s₁ L b H s' → Q (.int (i * j) t') s') : wpAny (model prog w) A (binaryOp .Mult (.int i t) (.int j u)) Q E s := mul_int (h _ _ (S.tok _)) hm
theorem i_mod (S : St s₁ L b H s) (h0 : 0 < j) (h : ∀ s' t', St s₁ L b H s' → Q (.int (i % j) t') s') : wpAny (model prog w) A (binaryOp .Mod (.int i t) (.int j u)) Q E s :=
  mod_int (by omega) (by rw [Int.fmod_eq_emod_of_nonneg _ (by omega)]; exact h _ _ (S.tok _))
theorem i_eq (h : Q (.bool (i == j)) s) : wpAny (model prog w) A (compareOp .Eq (.int i t) (.int j u)) Q E s := eq_int h
theorem i_ne (h : Q (.bool (i != j)) s) : wpAny (model prog w) A (compareOp .NotEq (.int i t) (.int j u)) Q E s := ne_int h
end

/-! ### texts -/
section
variable {prog : Program} {w : World} {A : Around} {E : Value → Shared → Prop} {s s₁ : Shared} {L : Addr} {b : List (Str × Value)} {H H' : List Ent} {l m : List Nat} {t u : Tok} {Q : Value → Shared → Prop} {env : Env}
/-- a slice object -/
def Slc (lo hi : Option Int) (o : Obj) : Prop := ∃ (l u : Option (Int × Tok)), o.cls = .type "slice" ∧ o.data = .fields #[partValue l, partValue u, .none] ∧ l.map (·.1) = lo ∧ u.map (·.1) = hi
theorem slc_sn {i : Int} {ti : Tok} : Slc (some i) none { cls := .type "slice", data := .fields #[.int i ti, .none, .none] } := ⟨some (i, ti), none, rfl, rfl, rfl, rfl⟩
/-- both ends of a slice are known -/
def SliceEnd (Q : Value → Shared → Prop) (l u : Value) (s : Shared) : Prop := Q (.ref s.heap.objs.size) { s with heap := s.heap.push { cls := .type "slice", data := .fields #[l, u, .none] } }
theorem slice_end {v v' : Value} {lo hi : Option Int} (S : St s₁ L b H s) (hP : Slc lo hi { cls := .type "slice", data := .fields #[v, v', .none] }) (h : ∀ s' a, St s₁ L b ((a, Slc lo hi) :: H) s' → Q (.ref a) s') : SliceEnd Q v v' s :=
  h _ _ (S.push hP s.toks)
theorem ev_slice {lower upper : Option Expr} {p : Pos}
    (h : wpAny (model prog w) A (evalPart lower env) (fun l s₁ => wpAny (model prog w) A (evalPart upper env) (fun u s₂ => SliceEnd Q l u s₂) E s₁) E s) : wpAny (model prog w) A (eval (.Slice lower upper none p) env) Q E s :=
  wpAny_Slice (wpAny_mono h (fun _ _ h₁ => wpAny_mono h₁ (fun _ _ h₂ => wpAny_pure h₂) fun _ _ x => x) fun _ _ x => x)
end
end Mine
namespace Mine

/-! ### the written number -/
section
variable {prog : Program} {w : World} {A : Around} {E : Value → Shared → Prop} {s s₁ : Shared} {L : Addr} {b : List (Str × Value)} {H H' : List Ent} {l m : List Nat} {t u : Tok} {Q : Value → Shared → Prop} {env : Env}
/-! ### made lists and tuples -/
theorem new_list {vs : List Value} (S : St s₁ L b H s) (hsz : vs.length ≤ sizeLine) (h : ∀ s' a, St s₁ L b ((a, Lst vs) :: H) s' → Q (.ref a) s') : wpAny (model prog w) A (newList vs) Q E s :=
  wpAny_newObj_type (h _ _ (S.push (P := Lst vs) ⟨rfl, rfl, rfl, _, rfl⟩ s.toks)) (by show vs.toArray.size ≤ sizeLine; rw [List.size_toArray]; exact hsz)
theorem new_tuple {vs : List Value} (S : St s₁ L b H s) (hsz : vs.length ≤ sizeLine) (h : ∀ s' a, St s₁ L b ((a, Tup vs) :: H) s' → Q (.ref a) s') : wpAny (model prog w) A (newTuple vs) Q E s :=
  wpAny_newObj_type (h _ _ (S.push (P := Tup vs) ⟨rfl, rfl, rfl, _, rfl⟩ s.toks)) (by show vs.toArray.size ≤ sizeLine; rw [List.size_toArray]; exact hsz)

/-! ### calls -/
/-- what stands where a call's arguments are ready -/
def Ready (K : Frag) (P : Shared → Prop) (s : Shared) : Prop := K.In s.heap ∧ P s
theorem Ready.mk' {K : Frag} {P : Shared → Prop} (X : K.In s₁.heap) (S : St s₁ L b H s) (h : P s) : Ready K P s := ⟨X.keeps S.keep, h⟩
theorem callWith_fn {K : Frag} {f : Addr} {e : Expr} {rest : List Expr} {pos : Pos} (X : K.In s₁.heap) (hk : keepIn K (.ref f) = true)
    (h : wpAny (model prog w) A (spliced (backTo pos (starEach (e :: rest) env))) (fun vs s₁ => Ready K (fun s => wpAny (model prog w) A (call (.ref f) vs) Q E s) s₁) E s)
    (he : starEach (e :: rest) env = (false, eval e env) :: starEach rest env) (hplain : (backTo pos (starEach rest env)).any (·.1) = false) :
    wpAny (model prog w) A (callWith pos (.ref f) [] (backTo pos (starEach (e :: rest) env)) []) Q E s :=
  callWith_K X hk (wpAny_mono h (fun _ _ h => h) fun _ _ h => h) he hplain

theorem St.enter (S : St s₁ L b H s) {h₀ : Heap} {b' : List (Str × Value)} {m : Str → Option Value} (k : Nat) (hns : h₀.Ns s.heap.objs.size m) (hk : ∀ b o, s.heap.get? b = some o → h₀.get? b = some o) (hm : ∀ x v, lk b' x = some v → m x = some v) :
    St s₁ s.heap.objs.size b' ((L, Frm b) :: H) { s with heap := h₀, toks := k } where
  ns := Frm.of_Ns hns hm
  keep := fun a o e => hk _ _ (S.keep a o e)
  fr := S.size.1
  nw := fun p hp => by
    rcases List.mem_cons.mp hp with rfl | hp
    · obtain ⟨o, ho, h⟩ := S.ns; exact ⟨o, hk _ _ ho, h⟩
    · obtain ⟨o, ho, h⟩ := S.nw p hp; exact ⟨o, hk _ _ ho, h⟩
  fresh := fun p hp => by
    rcases List.mem_cons.mp hp with rfl | hp
    · exact ⟨Ne.symm S.size.2.1, S.fr⟩
    · exact ⟨S.size.2.2 p hp, (S.fresh p hp).2⟩
  nd := List.nodup_cons.mpr ⟨fun hm => by
    obtain ⟨q, hq, e⟩ := List.mem_map.mp hm
    exact (S.fresh q hq).1 e, S.nd⟩
  eq := let ⟨h, tk, e⟩ := S.eq; ⟨h₀, k, by rw [e]⟩

/-- back to the caller's frame -/
theorem St.back {L' : Addr} {b' : List (Str × Value)} (S : St s₁ L' b' ((L, Frm b) :: H) s) : St s₁ L b H s where
  ns := S.nw (L, Frm b) (List.mem_cons_self ..)
  keep := S.keep
  fr := (S.fresh (L, Frm b) (List.mem_cons_self ..)).2
  nw := fun p hp => S.nw p (List.mem_cons_of_mem _ hp)
  fresh := fun p hp => ⟨fun e => (List.nodup_cons.mp S.nd).1 (List.mem_map.mpr ⟨p, hp, e⟩), (S.fresh p (List.mem_cons_of_mem _ hp)).2⟩
  nd := (List.nodup_cons.mp S.nd).2
  eq := S.eq

theorem call_fn {K : Frag} {f : Addr} {oc : Value} {od : Option Addr} {osl : Array (Option Value)} {fd : FuncData} {body : List Stmt} {args : List Value} {binds b' : List (Str × Value)}
    (S : St s₁ L b H s) (X : K.In s₁.heap) (hlim : s₁.heap.NoLimit) (ho : K.lookup f = some ⟨oc, od, .func fd, osl⟩) (hcd : codeIn K fd.code fd.qualname = true) (hroom : A.depth < recursionLimit)
    (hbody : fd.body = .stmts body) (hbind : BindsTo s fd ⟨args, []⟩ binds) (hcell : ∀ x ∈ fd.scope.names, x.2 ≠ .cell) (hloc : ∀ x ∈ binds, fd.scope.names.lookup x.1 = some .local) (hb : b' = binds.reverse)
    (h : ∀ s' L', St s₁ L' b' ((L, Frm b) :: H) s' →
      wpAny (model prog w) (A.deeper (callEnv fd L' f)) (execs body (callEnv fd L' f)) (fun fl s'' => Q (match fl with | .ret v => v | _ => .none) s'') (fun _ _ => False) s')
    (hco : fd.scope.isCoroutine = false) (hgen : fd.scope.isGenerator = false) (hk : fd.scope.kind = .function) : wpAny (model prog w) A (call (.ref f) args) Q E s := by
  have X' := X.keeps S.keep
  refine wpAny_call (codeAny_call_def hroom (X' _ _ ho) rfl (hlim.keeps S.keep) (codeRec_of X' hcd) hbody hbind hcell hloc (fun h₀ hns hk₀ => ?_) hco hgen hk)
  refine wpAny_mono (h _ _ (S.enter (b' := b') (s.toks + binds.length) hns hk₀ fun x v e => ?_)) (fun _ _ q => q) (fun _ _ q => q.elim)
  subst hb
  rw [← e]
  clear h hns hk₀ hloc hbind e
  induction binds.reverse with
  | nil => rfl
  | cons p r ih =>
    obtain ⟨n, u⟩ := p
    simp only [List.lookup_cons, lk, ih]
    by_cases hx : n = x
    · subst hx; simp
    · have : (x == n) = false := by simp [Ne.symm hx]
      simp [this, hx]
end
end Mine
namespace Mine

/-- an iterator at `I`: at turn i its object meets `P i`, it hands out what meets `V i`, while the heap meets `R` -/
structure Itr (prog : Program) (w : World) (A : Around) (I : Addr) (n : Nat) (P : Nat → Obj → Prop) (V : Nat → Value → Prop) (R : Heap → Prop) : Prop where
  item : ∀ i (s : Shared) (Q : Option Value → Shared → Prop) (E : Value → Shared → Prop), i < n → (∃ o, s.heap.get? I = some o ∧ P i o) → R s.heap →
    (∀ v h' tk, V i v → (∃ o, h'.get? I = some o ∧ P (i + 1) o) → (∀ c o, c ≠ I → s.heap.get? c = some o → h'.get? c = some o) → Q (some v) { s with heap := h', toks := tk }) → wpAny (model prog w) A (pyNext (.ref I)) Q E s
  done : ∀ (s : Shared) (Q : Option Value → Shared → Prop) (E : Value → Shared → Prop), (∃ o, s.heap.get? I = some o ∧ P n o) → R s.heap →
    (∀ h' tk, (∀ c o, c ≠ I → s.heap.get? c = some o → h'.get? c = some o) → Q none { s with heap := h', toks := tk }) → wpAny (model prog w) A (pyNext (.ref I)) Q E s
  self : ∀ i (s : Shared) (Q : Value → Shared → Prop) (E : Value → Shared → Prop), (∃ o, s.heap.get? I = some o ∧ P i o) → R s.heap → Q (.ref I) s → wpAny (model prog w) A (pyIter (.ref I)) Q E s

def LI (l : Addr) (i : Nat) (o : Obj) : Prop := o.cls = .type "list_iterator" ∧ o.data = .fields #[.ref l, .int i 0]
def RI (x left step : Int) (o : Obj) : Prop := o = { cls := .type "range_iterator", dict := none, data := .fields #[rawInt x, rawInt left, rawInt step], slots := #[] }

theorem Itr.list {prog : Program} {w : World} {A : Around} {I l : Addr} (vs : List Value) (hh : A.handled = none) (hne : l ≠ I) :
    Itr prog w A I vs.length (LI l) (fun i v => vs[i]? = some v) (fun h => h.IsList l vs.toArray) where
  item := fun i s Q E hi ⟨o, ho, h1, h2⟩ hR hQ => by
    refine (Walks.list (prog := prog) (w := w) hh I l hne vs.toArray).item i s Q E (by simpa using hi) ⟨⟨o, ho, h1, h2⟩, hR⟩ fun v h' tk hv hst hk => ?_
    exact hQ v h' tk (by simpa using hv) (let ⟨o, ho, r⟩ := hst.1; ⟨o, ho, r⟩) fun c o hc e => hk c o (by simpa using hc) e
  done := fun s Q E ⟨o, ho, h1, h2⟩ hR hQ =>
    (Walks.list (prog := prog) (w := w) hh I l hne vs.toArray).done s Q E ⟨⟨o, ho, h1, by rw [List.size_toArray]; exact h2⟩, hR⟩ fun h' tk hk => hQ h' tk fun c o hc e => hk c o (by simpa using hc) e
  self := fun i s Q E ⟨o, ho, h1, h2⟩ hR hQ => wpAny_pyIter_listiter (i := i) ⟨o, ho, h1, h2⟩ hQ
theorem Itr.range {prog : Program} {w : World} {A : Around} {I : Addr} (a c : Int) (n : Nat) (hh : A.handled = none) :
    Itr prog w A I n (fun i => RI (a + i * c) ((n : Int) - i) c) (fun i v => ∃ t, v = .int (a + i * c) t) (fun _ => True) where
  item := fun i s Q E hi ⟨o, ho, h1⟩ hR hQ => by
    subst h1
    refine (Walks.range (prog := prog) (w := w) hh I a c n).item i s Q E hi ho fun v h' tk hv hst hk => ?_
    exact hQ v h' tk hv ⟨_, hst, rfl⟩ fun c o hc e => hk c o (by simpa using hc) e
  done := fun s Q E ⟨o, ho, h1⟩ hR hQ => by
    subst h1
    exact (Walks.range (prog := prog) (w := w) hh I a c n).done s Q E ho fun h' tk hk => hQ h' tk fun c o hc e => hk c o (by simpa using hc) e
  self := fun i s Q E ⟨o, ho, h1⟩ hR hQ => by subst h1; exact wpAny_pyIter_rangeiter ho hQ

section
variable {prog : Program} {w : World} {A : Around} {E : Value → Shared → Prop} {s s₁ : Shared} {L I l : Addr} {b : List (Str × Value)} {H H' : List Ent} {env : Env}

theorem it_list {Q : Value → Shared → Prop} {vs : List Value} (S : St s₁ L b H s) (hl : (l, Lst vs) ∈ H ∨ s₁.heap.IsList l vs.toArray) (h : ∀ s' I, l ≠ I → St s₁ L b ((I, LI l 0) :: H) s' → Q (.ref I) s') : wpAny (model prog w) A (pyIter (.ref l)) Q E s := by
  have hl' : s.heap.IsList l vs.toArray := hl.elim (fun m => Lst.isList (S.get m)) fun ⟨o, ho, r⟩ => ⟨o, S.keep _ _ ho, r⟩
  refine wpAny_pyIter_list hl' (h _ _ ?_ (S.push (P := LI l 0) ⟨rfl, rfl⟩ s.toks))
  obtain ⟨o, ho, _⟩ := hl'; exact Nat.ne_of_lt (Heap.lt_size ho)
/-- a range object -/
def Rng (a c st : Int) (o : Obj) : Prop := ∃ t u v, o = { cls := .type "range", dict := none, data := .fields #[.int a t, .int c u, .int st v], slots := #[] }
theorem c_range1 {Q : Value → Shared → Prop} {n : Int} {t : Tok} (S : St s₁ L b H s) (h : ∀ s' r, St s₁ L b ((r, Rng 0 n 1) :: H) s' → Q (.ref r) s') : wpAny (model prog w) A (call (.type "range") [.int n t]) Q E s :=
  call_range_1 (h _ _ (S.push (P := Rng 0 n 1) ⟨_, _, _, rfl⟩ _))
theorem it_range1 {Q : Value → Shared → Prop} {r : Addr} {a c : Int} (S : St s₁ L b ((r, Rng a c 1) :: H) s) (ha : -(2 ^ 62) ≤ a) (ha' : a < 2 ^ 62) (hc : -(2 ^ 62) ≤ c) (hc' : c < 2 ^ 62)
    (h : ∀ s' I, St s₁ L b ((I, RI (a + ((0 : Nat) : Int) * 1) (((c - a).toNat : Int) - ((0 : Nat) : Int)) 1) :: H) s' → Q (.ref I) s') : wpAny (model prog w) A (pyIter (.ref r)) Q E s := by
  obtain ⟨o, ho, t, u, v, rfl⟩ := S.get (List.mem_cons_self ..)
  refine wpAny_pyIter_range (a := a) (b := c) (c := 1) ho (small_one ha ha' hc hc') (h _ _ (S.drop.push (P := RI _ _ 1) ?_ s.toks))
  show _ = _
  have e : Builtin.Range.rangeSize a c 1 = ((c - a).toNat : Int) - ((0 : Nat) : Int) := by rw [rangeSize_one]; split <;> omega
  rw [e]; simp

/-- an entry at the head passes from one state to the next -/
theorem St.step {P P' : Obj → Prop} (S : St s₁ L b ((I, P) :: H) s) {h' : Heap} (k : Nat) (hP : ∃ o, h'.get? I = some o ∧ P' o) (hk : ∀ c o, c ≠ I → s.heap.get? c = some o → h'.get? c = some o) : St s₁ L b ((I, P') :: H) { s with heap := h', toks := k } :=
  S.upd (.head _) k hk hP
theorem St.gone {P : Obj → Prop} (S : St s₁ L b ((I, P) :: H) s) {h' : Heap} (k : Nat) (hk : ∀ c o, c ≠ I → s.heap.get? c = some o → h'.get? c = some o) : St s₁ L b H { s with heap := h', toks := k } where
  ns := let ⟨o, ho, h⟩ := S.ns; ⟨o, hk _ _ (Ne.symm (S.fresh _ (List.mem_cons_self ..)).1) ho, h⟩
  keep := fun a o e => hk _ _ (by rintro rfl; have := (S.fresh _ (List.mem_cons_self ..)).2; simp only at this; rw [this] at e; cases e) (S.keep a o e)
  fr := S.fr
  nw := fun p hp => let ⟨o, ho, h⟩ := S.nw p (List.mem_cons_of_mem _ hp); ⟨o, hk _ _ (fun e => (List.nodup_cons.mp S.nd).1 (List.mem_map.mpr ⟨p, hp, e⟩)) ho, h⟩
  fresh := fun p hp => S.fresh p (List.mem_cons_of_mem _ hp)
  nd := (List.nodup_cons.mp S.nd).2
  eq := let ⟨h, tk, e⟩ := S.eq; ⟨h', k, by rw [e]⟩

theorem getHead {P : Obj → Prop} (S : St s₁ L b ((I, P) :: H) s) : ∃ o, s.heap.get? I = some o ∧ P o := S.get (List.mem_cons_self ..)

/-- what a turn of a for leaves -/
def TurnEnd (s₁ : Shared) (L I : Addr) (P : Obj → Prop) (J : List (Str × Value) → List Ent → Prop) (Q : Flow → Shared → Prop) (f : Flow) (s : Shared) : Prop :=
  match f with
  | .next | .cont => ∃ b H, St s₁ L b ((I, P) :: H) s ∧ J b H
  | .brk => Q .next s
  | .ret v => Q (.ret v) s

theorem loop_for {n : Nat} {P : Nat → Obj → Prop} {V : Nat → Value → Prop} {R : Heap → Prop} {x : Str} {px : Pos} {body : List Stmt} {Q : Flow → Shared → Prop} {RE : Value → Shared → Prop} (W : Itr prog w A I n P V R) (J : Nat → List (Str × Value) → List Ent → Prop)
    (S : St s₁ L b ((I, P 0) :: H) s) (h0 : J 0 b H) (hR : ∀ i b H s, i ≤ n → J i b H → St s₁ L b ((I, P i) :: H) s → R s.heap) (hx : env.kindOf x = some .local) (hL : env.locals = L) (hk : env.scope.kind = .function)
    (turn : ∀ i v b' H' s', i < n → V i v → J i b' H' → St s₁ L (up x v b') ((I, P (i + 1)) :: H') s' → wpAny (model prog w) A (execs body env) (TurnEnd s₁ L I (P (i + 1)) (J (i + 1)) Q) (fun _ _ => False) s')
    (done : ∀ b' H' s', J n b' H' → St s₁ L b' H' s' → Q .next s') :
    codeAny (model prog w) A (.forLoop (.Name x px) (.ref I) body [] env) (fun r s' => match r with | .ok f => Q f s' | .error e => RE e s') s := by
  refine codeAny_forLoop (fun k s' => ∃ b' H' i, St s₁ L b' ((I, P i) :: H') s' ∧ J i b' H' ∧ i ≤ n ∧ k = n + 1 - i) ?_ (n + 1) ⟨b, H, 0, S, h0, Nat.zero_le _, rfl⟩
  rintro k s' ⟨b', H', i, S', hJ, hi, rfl⟩
  have hR' := hR i b' H' s' hi hJ S'
  by_cases hlt : i < n
  · refine W.item i _ _ _ hlt (getHead S') hR' fun v h₁ tk₁ hV hP₁ hk₁ => ?_
    refine wpAny_assign_Name (st_L (S'.step tk₁ hP₁ hk₁) hx (fun s₂ S₂ => ?_) hL hk)
    refine wpAny_mono (turn i v b' H' s₂ hlt hV hJ S₂) (fun f s₃ h₃ => ?_) fun _ _ e => e.elim
    cases f with
    | next => obtain ⟨b'', H'', S₃, hJ₃⟩ := h₃; exact ⟨n + 1 - (i + 1), by omega, b'', H'', i + 1, S₃, hJ₃, hlt, rfl⟩
    | cont => obtain ⟨b'', H'', S₃, hJ₃⟩ := h₃; exact ⟨n + 1 - (i + 1), by omega, b'', H'', i + 1, S₃, hJ₃, hlt, rfl⟩
    | brk => exact h₃
    | ret v => exact h₃
  · have hin : i = n := by omega
    subst hin
    exact W.done _ _ _ (getHead S') hR' fun h₁ tk₁ hk₁ => wpAny_execs_nil (done b' H' _ hJ (S'.gone tk₁ hk₁))

/-- where the loop's source is known -/
def ForAt (prog : Program) (w : World) (A : Around) (target : Expr) (body : List Stmt) (env : Env) (Q : Flow → Shared → Prop) (E : Value → Shared → Prop) (xv : Value) (s : Shared) : Prop :=
  wpAny (model prog w) A (pyIter xv) (fun it s₂ => codeAny (model prog w) A (.forLoop target it body [] env) (fun r s' => match r with | .ok f => Q f s' | .error e => cameBackBy (model prog w) A env E e s') s₂) E s
theorem ex_for {target iter : Expr} {body : List Stmt} {pos : Pos} {Q : Flow → Shared → Prop} (h : wpAny (model prog w) A (eval iter env) (fun xv s₁ => ForAt prog w A target body env Q E xv s₁) E s)
    (hs : ∀ x, foldedSetIterable iter env x = pure x) : wpAny (model prog w) A (exec (.For target iter body [] pos) env) Q E s := wpAny_For h hs

/-- a for over a list of the call's own or of the caller's -/
theorem for_list {x : Str} {px : Pos} {body : List Stmt} {Q : Flow → Shared → Prop} {vs : List Value} (J : Nat → List (Str × Value) → List Ent → Prop) (S : St s₁ L b H s) (h0 : J 0 b H)
    (hl : (l, Lst vs) ∈ H ∨ s₁.heap.IsList l vs.toArray) (hJ : ∀ i b H, J i b H → (l, Lst vs) ∈ H ∨ s₁.heap.IsList l vs.toArray) (hh : A.handled = none) (hx : env.kindOf x = some .local) (hL : env.locals = L) (hk : env.scope.kind = .function)
    (turn : ∀ I i v b' H' s', vs[i]? = some v → J i b' H' → St s₁ L (up x v b') ((I, LI l (i + 1)) :: H') s' → wpAny (model prog w) A (execs body env) (TurnEnd s₁ L I (LI l (i + 1)) (J (i + 1)) Q) (fun _ _ => False) s')
    (done : ∀ b' H' s', J vs.length b' H' → St s₁ L b' H' s' → Q .next s') : ForAt prog w A (.Name x px) body env Q E (.ref l) s :=
  it_list S hl fun s' I hne S' => loop_for (Itr.list vs hh hne) J S' h0
    (fun i b H s _ h S => (hJ i b H h).elim (fun m => Lst.isList (S.get (List.mem_cons_of_mem _ m))) fun ⟨o, ho, r⟩ => ⟨o, S.keep _ _ ho, r⟩) hx hL hk
    (fun i v b' H' s' _ hV hj S => turn I i v b' H' s' hV hj S) done
theorem for_range1 {x : Str} {px : Pos} {body : List Stmt} {Q : Flow → Shared → Prop} {r : Addr} {a c : Int} (J : Nat → List (Str × Value) → List Ent → Prop) (S : St s₁ L b ((r, Rng a c 1) :: H) s) (h0 : J 0 b H)
    (ha : -(2 ^ 62) ≤ a) (ha' : a < 2 ^ 62) (hc : -(2 ^ 62) ≤ c) (hc' : c < 2 ^ 62) (hh : A.handled = none) (hx : env.kindOf x = some .local) (hL : env.locals = L) (hk : env.scope.kind = .function)
    (turn : ∀ I P i t b' H' s', a + (i : Nat) < c → J i b' H' → St s₁ L (up x (.int (a + (i : Nat)) t) b') ((I, P) :: H') s' → wpAny (model prog w) A (execs body env) (TurnEnd s₁ L I P (J (i + 1)) Q) (fun _ _ => False) s')
    (done : ∀ b' H' s', J (c - a).toNat b' H' → St s₁ L b' H' s' → Q .next s') : ForAt prog w A (.Name x px) body env Q E (.ref r) s :=
  it_range1 S ha ha' hc hc' fun s' I S' => loop_for (Itr.range a 1 (c - a).toNat hh) J S' h0 (fun _ _ _ _ _ _ _ => trivial) hx hL hk
    (fun i v b' H' s' hi ⟨t, hV⟩ hj S => by subst hV; rw [Int.mul_one] at S; exact turn I _ i t b' H' s' (by omega) hj S) done

/-- a while by a measure -/
def WTurn (s₁ : Shared) (L : Addr) (J : Nat → List (Str × Value) → List Ent → Prop) (n : Nat) (Q : Flow → Shared → Prop) (f : Flow) (s : Shared) : Prop :=
  match f with
  | .next | .cont => ∃ m b H, m < n ∧ St s₁ L b H s ∧ J m b H
  | .brk => Q .next s
  | .ret v => Q (.ret v) s
theorem ex_while {test : Expr} {body : List Stmt} {pos : Pos} {Q : Flow → Shared → Prop} (J : Nat → List (Str × Value) → List Ent → Prop) (n : Nat) (S : St s₁ L b H s) (h0 : J n b H)
    (turn : ∀ n b' H' s', J n b' H' → St s₁ L b' H' s' → wpAny (model prog w) A (isTrue test env (eval test env)) (fun c s₂ => if c then wpAny (model prog w) A (execs body env) (WTurn s₁ L J n Q) (fun _ _ => False) s₂ else Q .next s₂) (fun _ _ => False) s') :
    wpAny (model prog w) A (exec (.While test body [] pos) env) Q E s := by
  refine wpAny_While (codeAny_whileLoop (fun n s' => ∃ b' H', St s₁ L b' H' s' ∧ J n b' H') ?_ n ⟨b, H, S, h0⟩)
  rintro n s' ⟨b', H', S', hJ⟩
  refine wpAny_mono (turn n b' H' s' hJ S') (fun c s₂ h₂ => ?_) fun _ _ e => e.elim
  cases c with
  | true =>
    simp only [if_true] at h₂ ⊢
    refine wpAny_mono h₂ (fun f s₃ h₃ => ?_) fun _ _ e => e.elim
    cases f with
    | next => obtain ⟨m, b'', H'', hm, S₃, hJ₃⟩ := h₃; exact ⟨m, hm, b'', H'', S₃, hJ₃⟩
    | cont => obtain ⟨m, b'', H'', hm, S₃, hJ₃⟩ := h₃; exact ⟨m, hm, b'', H'', S₃, hJ₃⟩
    | brk => exact h₃
    | ret v => exact h₃
  | false =>
    simp only [Bool.false_eq_true, if_false] at h₂ ⊢
    exact wpAny_execs_nil h₂
end
end Mine
namespace Mine

section
variable {prog : Program} {w : World} {A : Around} {E : Value → Shared → Prop} {s s₁ : Shared} {L I l D C : Addr} {b : List (Str × Value)} {H H' : List Ent} {env : Env}

/-- a changed list -/
theorem St.mapSeq (S : St s₁ L b H s) {vs : List Value} {f : Array Value → Array Value} {vs' : List Value} (U : Upd l (Lst vs) (Lst vs') H H') (hf : f vs.toArray = vs'.toArray) (k : Nat) :
    St s₁ L b H' { s with heap := s.heap.update l (Obj.mapSeq f), toks := k } := by
  obtain ⟨⟨c, d, dt, sl⟩, ho, hc, hd, hs, n, hdt⟩ := S.get U.mem
  simp only at hc hd hs hdt; subst hc hd hs hdt
  refine S.upd U k (fun c o hc e => (Heap.get?_update_other _ _ (Ne.symm hc)).trans e) ⟨_, Heap.get?_update_self _ ho rfl, rfl, rfl, rfl, ?_⟩
  exact ⟨_, by show Data.seq _ _ = _; rw [hf]⟩

theorem l_append {Q : Value → Shared → Prop} {vs : List Value} {x : Value} (S : St s₁ L b H s) (U : Upd l (Lst vs) (Lst (vs ++ [x])) H H') (hsz : vs.length ≤ sizeLine) (h : ∀ s', St s₁ L b H' s' → Q .none s') :
    wpAny (model prog w) A (call (.builtin "list.append") [.ref l, x]) Q E s := by
  have hl : s.heap.IsList l vs.toArray := Lst.isList (S.get U.mem)
  obtain ⟨o, ho, hc, n, hd⟩ := id hl
  refine wpAny_call_entry slot_list_append hl.typeIs entry_list_append ?_ (args_list_append _ _)
  show wpAny _ _ (updateSeq l (·.push x) >>= fun _ => ret .none) _ _ s
  refine wpAny_bind (wpAny_updateSeq ho hd (wpAny_pure ⟨.none, rfl, h _ (S.mapSeq U (by simp) s.toks)⟩) (by rw [List.size_toArray]; exact hsz))

/-- the tests of a comprehension's clause -/
abbrev tests (ifs : List Expr) (env : Env) : Sem Bool := forIn ifs true fun c r => if r = true then do let ok ← isTrue c env (eval c env); pure (ForInStep.yield ok) else pure (ForInStep.yield r)
theorem tests_nil {Q : Bool → Shared → Prop} (h : Q true s) : wpAny (model prog w) A (tests [] env) Q E s := wpAny_pure h
def CompEnd (s₁ : Shared) (C : Addr) (X : List Ent) (J : List Ent → Prop) (s : Shared) : Prop := ∃ b H, St s₁ C b (X ++ H) s ∧ J H

theorem comp_loop {n : Nat} {P : Nat → Obj → Prop} {V : Nat → Value → Prop} {R : Heap → Prop} {x : Str} {px pos : Pos} {elt iter : Expr} {ifs : List Expr} {scope : Scope} {RR : Result → Shared → Prop} {bC : List (Str × Value)}
    (W : Itr prog w A I n P V R) (J : Nat → List Value → List Ent → Prop)
    (S : St s₁ C bC ((D, Lst []) :: (I, P 0) :: (L, Frm b) :: H) s) (h0 : J 0 [] H) (hn : n ≤ sizeLine) (hR : ∀ i ys H s bC, i ≤ n → J i ys H → St s₁ C bC ((D, Lst ys) :: (I, P i) :: (L, Frm b) :: H) s → R s.heap)
    (hx : env.kindOf x = some .local) (hL : env.locals = C) (hk : env.scope.kind = .function)
    (turn : ∀ i v ys H' s', i < n → V i v → J i ys H' → St s₁ C [(x, v)] ((D, Lst ys) :: (I, P (i + 1)) :: (L, Frm b) :: H') s' →
      wpAny (model prog w) A (tests ifs env) (fun ok s₃ => if ok = true then wpAny (model prog w) A (eval elt env) (fun y s₄ => CompEnd s₁ C [(D, Lst ys), (I, P (i + 1)), (L, Frm b)] (J (i + 1) (ys ++ [y])) s₄) (fun _ _ => False) s₃
        else CompEnd s₁ C [(D, Lst ys), (I, P (i + 1)), (L, Frm b)] (J (i + 1) ys) s₃) (fun _ _ => False) s')
    (done : ∀ ys H' s' bC, J n ys H' → St s₁ C bC ((D, Lst ys) :: (L, Frm b) :: H') s' → RR (.ok .next) s') :
    codeAny (model prog w) A (.compLoop (.ListComp elt [⟨.Name x px, iter, ifs, 0⟩] scope pos) 0 (.ref I) (.ref D) env) RR s := by
  refine codeAny_compLoop_tests (fun k s' => ∃ bC ys H' i, St s₁ C bC ((D, Lst ys) :: (I, P i) :: (L, Frm b) :: H') s' ∧ J i ys H' ∧ i ≤ n ∧ ys.length ≤ i ∧ k = n + 1 - i) ?_ (n + 1) ⟨bC, [], H, 0, S, h0, Nat.zero_le _, Nat.le_refl _, rfl⟩
  rintro k s' ⟨bC', ys, H', i, S', hJ, hi, hlen, rfl⟩
  have hR' := hR i ys H' s' bC' hi hJ S'
  have S₀ := S'.perm (List.Perm.swap (I, P i) (D, Lst ys) ((L, Frm b) :: H')).symm
  by_cases hlt : i < n
  · refine W.item i _ _ _ hlt (getHead S₀) hR' fun v h₁ tk₁ hV hP₁ hk₁ => ?_
    have S₁ := (S₀.step tk₁ hP₁ hk₁).perm (List.Perm.swap (I, P (i + 1)) (D, Lst ys) ((L, Frm b) :: H'))
    refine wpAny_assign_Name (st_L S₁ hx (fun s₂ S₂ => ?_) hL hk)
    have S₃ := S₂.bind (b' := [(x, v)]) (Sub.cons (by rw [lk_up]; simp) (Sub.nil _))
    refine wpAny_mono (turn i v ys H' s₂ hlt hV hJ S₃) (fun ok s₃ h₃ => ?_) fun _ _ e => e.elim
    cases ok with
    | false =>
      obtain ⟨b₃, H₃, S₃, hJ₃⟩ := h₃
      exact ⟨n + 1 - (i + 1), by omega, b₃, ys, H₃, i + 1, S₃, hJ₃, hlt, by omega, rfl⟩
    | true =>
      refine wpAny_mono h₃ (fun y s₄ h₄ => ?_) fun _ _ e => e.elim
      obtain ⟨b₄, H₄, S₄, hJ₄⟩ := h₄
      refine l_append S₄ (.head _) (by omega) fun s₅ S₅ => ?_
      exact ⟨n + 1 - (i + 1), by omega, b₄, ys ++ [y], H₄, i + 1, S₅, hJ₄, hlt, by simp; omega, rfl⟩
  · have hin : i = n := by omega
    subst hin
    refine W.done _ _ _ (getHead S₀) hR' fun h₁ tk₁ hk₁ => ?_
    exact done ys H' _ bC' hJ (S₀.gone tk₁ hk₁)

/-- what stands behind a comprehension -/
def CompDone (prog : Program) (w : World) (A : Around) (use : Option (Value → Sem Unit)) (Q : Value → Shared → Prop) (E : Value → Shared → Prop) (s₁ : Shared) (L : Addr) (b : List (Str × Value)) (C D : Addr) (ys : List Value) (H' : List Ent) (s' : Shared) : Prop :=
  match use with
  | none => ∀ s'', St s₁ L b ((D, Lst ys) :: H') s'' → Q (.ref D) s''
  | some u => wpAny (model prog w) A (u (.ref D)) (fun _ s₂ => ∃ b₂ H₂, St s₁ L b₂ ((C, Frm []) :: H₂) s₂ ∧ ∀ s₃, St s₁ L b₂ H₂ s₃ → Q .none s₃) E s'
/-- where a comprehension's source is known -/
def CompAt (prog : Program) (w : World) (A : Around) (elt : Expr) (x : Str) (px pos : Pos) (iter : Expr) (ifs : List Expr) (scope : Scope) (env : Env) (cl : List (Str × Addr)) (use : Option (Value → Sem Unit)) (Q : Value → Shared → Prop) (E : Value → Shared → Prop) (xv : Value) (s : Shared) : Prop :=
  wpAny (model prog w) A (pyIter xv) (fun it s₂ => wpAny (model prog w) A (newList []) (fun acc s₃ =>
      wpAny (model prog w) A (newFunctionEnv scope env.globals cl [] env.qual none .none (some env)) (fun cenv s₄ =>
        codeAny (model prog w) A (.compStart (.ListComp elt [⟨.Name x px, iter, ifs, 0⟩] scope pos) 0 it acc { cenv with scope := relabel scope env }) (compPost (model prog w) A E use Q acc cenv.locals) s₄) E s₃) E s₂) E s

theorem comp_at {n : Nat} {P : Nat → Obj → Prop} {V : Nat → Value → Prop} {R : Heap → Prop} {x : Str} {px pos : Pos} {elt iter : Expr} {ifs : List Expr} {scope : Scope} {cl : List (Str × Addr)} {use : Option (Value → Sem Unit)} {Q : Value → Shared → Prop}
    (W : Itr prog w A I n P V R) (J : Nat → List Value → List Ent → Prop) (S : St s₁ L b ((I, P 0) :: H) s) (h0 : J 0 [] H) (hn : n ≤ sizeLine)
    (hR : ∀ C D i ys H s bC, i ≤ n → J i ys H → St s₁ C bC ((D, Lst ys) :: (I, P i) :: (L, Frm b) :: H) s → R s.heap) (hR0 : ∀ s b', St s₁ L b' ((I, P 0) :: H) s → R s.heap)
    (hcell : ∀ y ∈ scope.names, y.2 ≠ .cell) (hkind : scope.kind = .function) (hx : scope.names.lookup x = some .local)
    (turn : ∀ C D i v ys H' s', i < n → V i v → J i ys H' → St s₁ C [(x, v)] ((D, Lst ys) :: (I, P (i + 1)) :: (L, Frm b) :: H') s' →
      wpAny (model prog w) A (tests ifs (compEnvC scope cl C env)) (fun ok s₃ => if ok = true then wpAny (model prog w) A (eval elt (compEnvC scope cl C env)) (fun y s₄ => CompEnd s₁ C [(D, Lst ys), (I, P (i + 1)), (L, Frm b)] (J (i + 1) (ys ++ [y])) s₄) (fun _ _ => False) s₃
        else CompEnd s₁ C [(D, Lst ys), (I, P (i + 1)), (L, Frm b)] (J (i + 1) ys) s₃) (fun _ _ => False) s')
    (done : ∀ C D ys H' s', J n ys H' → St s₁ L b ((C, Frm []) :: (D, Lst ys) :: H') s' →
      CompDone prog w A use Q E s₁ L b C D ys H' s') :
    wpAny (model prog w) A (newList []) (fun acc s₃ =>
      wpAny (model prog w) A (newFunctionEnv scope env.globals cl [] env.qual none .none (some env)) (fun cenv s₄ =>
        codeAny (model prog w) A (.compStart (.ListComp elt [⟨.Name x px, iter, ifs, 0⟩] scope pos) 0 (.ref I) acc { cenv with scope := relabel scope env }) (compPost (model prog w) A E use Q acc cenv.locals) s₄) E s₃) E s := by
  refine new_list S (by simp [sizeLine_eq]) fun s₃ D S₃ => ?_
  refine wpAny_newFunctionEnv hcell (by intro y hy; simp at hy) (fun h₁ hns₁ hsb₁ => ?_) hkind
  have S₄ := S₃.enter (b' := []) (s₃.toks + ([] : List (Str × Value)).length) hns₁ (fun c o e => hsb₁.extBut c o (Nat.ne_of_lt (Heap.lt_size e)) (Heap.get?_push_of_some _ e)) (fun x v e => by simp [lk] at e)
  generalize hC : s₃.heap.objs.size = C at S₄ ⊢
  have S₅ : St s₁ C [] ((D, Lst []) :: (I, P 0) :: (L, Frm b) :: H) _ := S₄.perm (by
    refine List.Perm.trans ?_ (List.perm_middle (l₁ := [(D, Lst []), (I, P 0)]) (l₂ := H) (a := (L, Frm b)))
    exact List.Perm.refl _)
  have loop : ∀ s₆, St s₁ C [] ((D, Lst []) :: (I, P 0) :: (L, Frm b) :: H) s₆ → codeAny (model prog w) A (.compLoop (.ListComp elt [⟨.Name x px, iter, ifs, 0⟩] scope pos) 0 (.ref I) (.ref D) (compEnvC scope cl C env)) (compPost (model prog w) A E use Q (.ref D) C) s₆ := by
    intro s₆ S₆
    refine comp_loop (env := compEnvC scope cl C env) W J S₆ h0 hn (fun i ys H s bC hi hJ S => hR C D i ys H s bC hi hJ S) (lookup_relabel_local hx) rfl hkind (fun i v ys H' s' hi hV hJ S => turn C D i v ys H' s' hi hV hJ S) fun ys H' s' bC hJ S' => ?_
    have Sc : St s₁ L b ((C, Frm []) :: (D, Lst ys) :: H') s' := by
      have S0 : St s₁ C bC ((L, Frm b) :: (D, Lst ys) :: H') s' := S'.perm (List.Perm.swap (D, Lst ys) (L, Frm b) H')
      have fC := S0.ns
      have hb := S0.back
      refine ⟨hb.ns, hb.keep, hb.fr, ?_, ?_, ?_, hb.eq⟩
      · intro p hp
        rcases List.mem_cons.mp hp with rfl | hp
        · obtain ⟨o, ho, h⟩ := fC; exact ⟨o, ho, h.weak (Sub.nil _)⟩
        · exact hb.nw p hp
      · intro p hp
        rcases List.mem_cons.mp hp with rfl | hp
        · exact ⟨Ne.symm (S0.fresh (L, Frm b) (List.mem_cons_self ..)).1, S0.fr⟩
        · exact hb.fresh p hp
      · exact List.nodup_cons.mpr ⟨fun hm => by
          obtain ⟨q, hq, e⟩ := List.mem_map.mp hm
          exact (S0.fresh q (List.mem_cons_of_mem _ hq)).1 e, hb.nd⟩
    have fin := done C D ys H' s' hJ Sc
    have nsC : ∀ {b' : List (Str × Value)} {K : List Ent} {s₇ : Shared}, St s₁ L b' ((C, Frm []) :: K) s₇ → ∃ m, s₇.heap.Ns C m ∧ ∀ h', Heap.SameBut C s₇.heap h' → St s₁ L b' K { s₇ with heap := h' } := by
      intro b' K s₇ S₇
      obtain ⟨o, ho, es, ep, hd, hk, hf⟩ := getHead S₇
      exact ⟨nsFind es, ⟨o, es, ep, ho, hd, hk, fun _ => rfl⟩, fun h' hs => S₇.gone s₇.toks fun c o hc e => hs.extBut c o hc e⟩
    cases use with
    | none =>
      obtain ⟨m, hm, hS⟩ := nsC Sc
      exact ⟨m, hm, fun h' hs => fin _ (hS h' hs)⟩
    | some u =>
      refine wpAny_mono fin (fun _ s₂ h₂ => ?_) fun _ _ e => e
      obtain ⟨b₂, H₂, S₂, hq⟩ := h₂
      obtain ⟨m, hm, hS⟩ := nsC S₂
      exact ⟨m, hm, fun h' hs => hq _ (hS h' hs)⟩
  have go := loop _ S₅
  have hRs : R h₁ := hR C D 0 [] H _ [] (Nat.zero_le _) h0 S₅
  exact codeAny_compStart_list go (W.self 0 _ _ _ (getHead (S₅.perm (List.Perm.swap (I, P 0) (D, Lst []) ((L, Frm b) :: H)).symm)) hRs go)

theorem ev_comp {x : Str} {px pos : Pos} {elt iter : Expr} {ifs : List Expr} {scope : Scope} {cl : List (Str × Addr)} {Q : Value → Shared → Prop}
    (hclos : closureFor scope env = pure cl) (hkind : scope.kind = .function) (hnames : ∀ y ∈ scope.names, y.2 = .local → scope.names.lookup y.1 = some .local)
    (h : wpAny (model prog w) A (eval iter env) (fun xv s₁ => CompAt prog w A elt x px pos iter ifs scope env cl none Q E xv s₁) E s) (hs : ∀ x, foldedSetIterable iter env x = pure x) :
    wpAny (model prog w) A (eval (.ListComp elt [⟨.Name x px, iter, ifs, 0⟩] scope pos) env) Q E s := by
  rw [eval_ListComp]
  exact wpAny_comprehension_free (use := none) rfl hs hclos hkind hnames h
/-- over a list -/
theorem comp_list {x : Str} {px pos : Pos} {elt iter : Expr} {ifs : List Expr} {scope : Scope} {cl : List (Str × Addr)} {use : Option (Value → Sem Unit)} {Q : Value → Shared → Prop} {vs : List Value} (J : Nat → List Value → List Ent → Prop)
    (S : St s₁ L b H s) (h0 : J 0 [] H) (hn : vs.length ≤ sizeLine) (hl : (l, Lst vs) ∈ H ∨ s₁.heap.IsList l vs.toArray) (hJ : ∀ i ys H, J i ys H → (l, Lst vs) ∈ H ∨ s₁.heap.IsList l vs.toArray) (hh : A.handled = none)
    (hcell : ∀ y ∈ scope.names, y.2 ≠ .cell) (hkind : scope.kind = .function) (hx : scope.names.lookup x = some .local)
    (turn : ∀ C D I i v ys H' s', vs[i]? = some v → J i ys H' → St s₁ C [(x, v)] ((D, Lst ys) :: (I, LI l (i + 1)) :: (L, Frm b) :: H') s' →
      wpAny (model prog w) A (tests ifs (compEnvC scope cl C env)) (fun ok s₃ => if ok = true then wpAny (model prog w) A (eval elt (compEnvC scope cl C env)) (fun y s₄ => CompEnd s₁ C [(D, Lst ys), (I, LI l (i + 1)), (L, Frm b)] (J (i + 1) (ys ++ [y])) s₄) (fun _ _ => False) s₃
        else CompEnd s₁ C [(D, Lst ys), (I, LI l (i + 1)), (L, Frm b)] (J (i + 1) ys) s₃) (fun _ _ => False) s')
    (done : ∀ C D ys H' s', J vs.length ys H' → St s₁ L b ((C, Frm []) :: (D, Lst ys) :: H') s' →
      CompDone prog w A use Q E s₁ L b C D ys H' s') :
    CompAt prog w A elt x px pos iter ifs scope env cl use Q E (.ref l) s :=
  it_list S hl fun s' I hne S' => comp_at (Itr.list vs hh hne) J S' h0 hn
    (fun C D i ys H s bC _ h S => (hJ i ys H h).elim (fun m => Lst.isList (S.get (List.mem_cons_of_mem _ (List.mem_cons_of_mem _ (List.mem_cons_of_mem _ m))))) fun ⟨o, ho, r⟩ => ⟨o, S.keep _ _ ho, r⟩)
    (fun s b' S => hl.elim (fun m => Lst.isList (S.get (List.mem_cons_of_mem _ m))) fun ⟨o, ho, r⟩ => ⟨o, S.keep _ _ ho, r⟩) hcell hkind hx
    (fun C D i v ys H' s' hi hV hJ S => turn C D I i v ys H' s' hV hJ S) done
end
end Mine
namespace Mine

/-! ### lists of texts -/
def tx (s : String) : List Nat := (Str.ofString s).cps.toList

section
variable {prog : Program} {w : World} {A : Around} {E : Value → Shared → Prop} {s s₁ : Shared} {L l a c : Addr} {b : List (Str × Value)} {H H' : List Ent} {env : Env} {Q : Value → Shared → Prop} {t u : Tok} {i j : Int}

theorem c_tx {x : String} {k : Nat} {pos : Pos} (S : St s₁ L b H s) (h : ∀ s' t', St s₁ L b H s' → Q (.str (T (tx x)) t') s') : wpAny (model prog w) A (eval (.Constant (.str (Str.ofString x)) k pos) env) Q E s :=
  c_str S fun s' t' S' => by have := h s' t' S'; rwa [show T (tx x) = Str.ofString x from T_of _] at this

/-! ### where a list lies -/
def IsAt (s₁ : Shared) (H : List Ent) (l : Addr) (vs : List Value) : Prop := (l, Lst vs) ∈ H ∨ s₁.heap.IsList l vs.toArray
theorem IsAt.isList {vs : List Value} (S : St s₁ L b H s) (h : IsAt s₁ H l vs) : s.heap.IsList l vs.toArray := h.elim (fun m => Lst.isList (S.get m)) fun ⟨o, ho, r⟩ => ⟨o, S.keep _ _ ho, r⟩

theorem i_fdiv (S : St s₁ L b H s) (h0 : 0 < j) (h1 : j < 1073741824) (h : ∀ s' t', St s₁ L b H s' → Q (.int (i / j) t') s') : wpAny (model prog w) A (binaryOp .FloorDiv (.int i t) (.int j u)) Q E s :=
  floordiv_int (by omega) (by rw [Int.fdiv_eq_ediv_of_nonneg _ (by omega)]; exact h _ _ (S.tok _)) (Or.inl (PyProof.noPylong_small (by omega)))
theorem i_mulL (S : St s₁ L b H s) (hj : Builtin.Int.intBits i ≤ 64) (h : ∀ s' t', St s₁ L b H s' → Q (.int (i * j) t') s') : wpAny (model prog w) A (binaryOp .Mult (.int i t) (.int j u)) Q E s := i_mul S (.of_left hj) h
theorem i_neg (S : St s₁ L b H s) (h : ∀ s' t', St s₁ L b H s' → Q (.int (-i) t') s') : wpAny (model prog w) A (unaryOp .USub (.int i t)) Q E s := neg_int (h _ _ (S.tok _))
theorem i_le (h : Q (.bool (decide (i ≤ j))) s) : wpAny (model prog w) A (compareOp .LtE (.int i t) (.int j u)) Q E s := le_int h
theorem c_lenL {vs : List Value} (S : St s₁ L b H s) (hl : IsAt s₁ H l vs) (hsz : vs.length ≤ sizeLine) (h : ∀ s' t', St s₁ L b H s' → Q (.int vs.length t') s') : wpAny (model prog w) A (call (.builtin "len") [.ref l]) Q E s := by
  have h' := h { s with toks := s.toks + 1 + 1 } (s.toks + 1) (S.tok _)
  refine len_list (hl.isList S) (by rw [sizeLine_eq] at hsz; rw [List.size_toArray]; omega) ?_
  rw [List.size_toArray]; exact h'
theorem l_item {value slice : Expr} {vs : List Value} {k : Int} {x : Value} (S : St s₁ L b H s) (hl : IsAt s₁ H l vs) (h0 : 0 ≤ k) (h1 : k < 2 ^ 62) (hx : vs[k.toNat]? = some x) (h : Q x s)
    (hs : subscripted slice false (.ref l) (.int k u) = operate [.ref l, .int k u] (getItem (.ref l) (.int k u))) :
    wpAny (model prog w) A (subscriptTail value slice (.ref l) (.int k u)) Q E s :=
  tail_any (hl.isList S).typeIs slot_list_getitem.lookup (wpAny_getItem_list (hl.isList S) h0 (by omega) (by simpa using hx) h) hs
theorem PlainL {vs : List Value} (S : St s₁ L b H s) (hl : (l, Lst vs) ∈ H) : ∀ c, Value.ref l = .ref c → ∃ o, s.heap.get? c = some o ∧ o.dict = none := fun c e => by
  cases e
  obtain ⟨o, ho, _, hd, _⟩ := S.get hl; exact ⟨o, ho, hd⟩
theorem m_append {vs : List Value} {pl : Sem Bool} {Q : Value × List Value → Shared → Prop} (S : St s₁ L b H s) (hl : (l, Lst vs) ∈ H) (h : Q (.builtin "list.append", [.ref l]) s) : wpAny (model prog w) A (getMethod (.ref l) "append" pl) Q E s := by
  obtain ⟨o, ho, hc, hd, _⟩ := S.get hl
  exact getMethod_list_append ho hc hd h

/-! ### == -/
section
open SeqAt
end
theorem l_eqInts {vs us : List Value} {ns ms : List Int} (S : St s₁ L b H s) (ha : IsAt s₁ H a vs) (hc : IsAt s₁ H c us) (hv : IntsAre vs ns) (hw : IntsAre us ms) (hu : A.units + 64 < cLine) (h : Q (.bool (decide (ns = ms))) s) :
    wpAny (model prog w) A (compareOp .Eq (.ref a) (.ref c)) Q E s := ke_eq_ints (ha.isList S) (hc.isList S) hv hw hu h
theorem l_neInts {vs us : List Value} {ns ms : List Int} (S : St s₁ L b H s) (ha : IsAt s₁ H a vs) (hc : IsAt s₁ H c us) (hv : IntsAre vs ns) (hw : IntsAre us ms) (hu : A.units + 64 < cLine) (h : Q (.bool (!decide (ns = ms))) s) :
    wpAny (model prog w) A (compareOp .NotEq (.ref a) (.ref c)) Q E s := ke_ne_ints (ha.isList S) (hc.isList S) hv hw hu h
end
end Mine
namespace Mine
theorem law_end {c : ClaimW} {cl : Str → Option Addr} {mean : ExcName → Option Value} {args : List WData} {s₁ s' : Shared} {L : Addr} {b : List (Str × Value)} {H : List Ent} (S : St s₁ L b H s') (hg : s₁.gens = #[])
    (hn : ∀ cls, c.raises args cls = false) (hp : c.post args (.bool true) args = true) : GoodW c cl mean args s₁ (.ok (.ret (.bool true))) s' := by
  obtain ⟨h, tk, e⟩ := S.eq
  exact ⟨.inl ⟨.bool true, .bool true, [], rfl, hn, .bool true, hp, unshared_nil⟩, S.keep, by rw [e], by rw [e]; exact hg⟩
/-- the start: the frame that the call has laid -/
theorem law_start0 {s₁ : Shared} {L : Addr} {h : Heap} {m : Str → Option Value} {b : List (Str × Value)} (tk : Nat) (F : Fr s₁.heap L h m) (hb : ∀ x v, lk b x = some v → m x = some v) : St s₁ L b [] { s₁ with heap := h, toks := tk } where
  ns := Frm.of_Ns F.ns hb
  keep := F.keep
  fr := Heap.get?_none_of_le F.above
  nw := fun _ hp => nomatch hp
  fresh := fun _ hp => nomatch hp
  nd := List.nodup_nil
  eq := ⟨h, tk, rfl⟩
theorem lk1 {x : Str} {v : Value} {m : Str → Option Value} (h : m x = some v) : ∀ y u, lk [(x, v)] y = some u → m y = some u := fun y u e => by
  simp only [lk] at e
  by_cases hx : x = y
  · subst hx; simp at e; subst e; exact h
  · simp [hx] at e
end Mine
namespace Mine
def fdAt (K : Frag) (f : Addr) : FuncData := match K.lookup f with
  | some ⟨_, _, .func fd, _⟩ => fd
  | _ => default
def bodyAt (fd : FuncData) : List Stmt := match fd.body with
  | .stmts b => b
  | _ => []
end Mine
namespace Mine
theorem ifT {P Q : Prop} (h : P) : if true = true then P else Q := h
end Mine
namespace Mine
section
variable {prog : Program} {w : World} {A : Around} {E : Value → Shared → Prop} {s s₁ : Shared} {L l a c : Addr} {b : List (Str × Value)} {H H' : List Ent} {env : Env}
theorem as_tup {elts : List Expr} {k : Nat} {pos : Pos} {vs : List Value} {Q : Unit → Shared → Prop} (S : St s₁ L b H s) (hm : (a, Tup vs) ∈ H) (hh : A.handled = none) (hn : (assignEach elts env).length = vs.length) (hstar : (assignEach elts env).findIdx? (·.1) = none)
    (h : ∀ s', St s₁ L b H s' → wpAny (model prog w) A (assignInOrder ((assignEach elts env).map (·.2)) vs) Q E s') : wpAny (model prog w) A (assign (.Tuple elts k pos) env (.ref a)) Q E s :=
  assign_Tuple_tuple hh (Tup.isTup (S.get hm)) (by simpa using hn) hstar fun h' he => by simpa using h _ (S.ext s.toks fun c o e => he c o (Nat.ne_of_lt (Heap.lt_size e)) e)
/-- a statement's own post -/
theorem ex_post {st : Stmt} {rest : List Stmt} {Q : Flow → Shared → Prop} (P : Shared → Prop) (h : wpAny (model prog w) A (exec st env) (fun f s' => f = .next ∧ P s') E s) (k : ∀ s', P s' → wpAny (model prog w) A (execs rest env) Q E s') : wpAny (model prog w) A (execs (st :: rest) env) Q E s :=
  wpAny_execs_cons (wpAny_mono h (fun f s' ⟨e, p⟩ => by subst e; exact k s' p) fun _ _ x => x)
theorem same_next {P : Prop} (h : P) : Flow.next = Flow.next ∧ P := ⟨rfl, h⟩
end
end Mine
namespace Mine
end Mine
namespace Mine
end Mine
namespace Mine
section
variable {prog : Program} {w : World} {A : Around} {E : Value → Shared → Prop} {s s₁ : Shared} {L l a c : Addr} {b : List (Str × Value)} {H H' : List Ent} {env : Env} {Q : Value → Shared → Prop} {t u : Tok} {i j : Int}

theorem slicePick_cut (vs : List Value) (lo hi : Option Int) : slicePick vs.toArray lo hi none = (cut vs lo hi).toArray := by
  have e : sliceBounds lo hi none vs.toArray.size = ((loC vs.length lo : Int), (hiC vs.length hi : Int), 1) := by
    unfold sliceBounds
    rw [List.size_toArray]
    cases lo <;> cases hi <;> simp only [loC, hiC, clip, Option.getD_none, show ((1 : Int) > 0) = True from by simp, if_true] <;> (refine Prod.ext ?_ (Prod.ext ?_ rfl)) <;> simp only <;> omega
  unfold slicePick
  rw [e, sliceRange1]
  have := picked vs (loC vs.length lo) (hiC vs.length hi) (hiC_le _ _)
  congr 1
  simpa [cut] using this
theorem partOf (p : Option (Int × Tok)) : IsPart (partValue p) (p.map (·.1)) := by
  cases p with
  | none => exact .none
  | some x => exact .int _ _
theorem l_slice {value slice : Expr} {vs : List Value} {lo hi : Option Int} (S : St s₁ L b ((a, Slc lo hi) :: H) s) (hl : IsAt s₁ H l vs) (hsz : vs.length ≤ sizeLine) (h : ∀ s' c, St s₁ L b ((c, Lst (cut vs lo hi)) :: H) s' → Q (.ref c) s')
    (hs : subscripted slice false (.ref l) (.ref a) = operate [.ref a, .ref l] (getItem (.ref l) (.ref a))) : wpAny (model prog w) A (subscriptTail value slice (.ref l) (.ref a)) Q E s := by
  obtain ⟨o, ho, lo', hi', hc, hd, rfl, rfl⟩ := S.get (List.mem_cons_self ..)
  have hl' : s.heap.IsList l vs.toArray := hl.isList S.drop
  refine tail_any hl'.typeIs slot_list_getitem.lookup (wpAny_getItem_list_slice (st := none) hl' ⟨o, ho, hc, hd⟩ (partOf lo') (partOf hi') .none (by simp) ?_ (by rw [List.size_toArray]; exact hsz)) hs
  refine h _ _ (S.drop.push (P := Lst _) ⟨rfl, rfl, rfl, 0, ?_⟩ s.toks)
  show Data.seq _ _ = _
  rw [slicePick_cut]
theorem c_max2 (S : St s₁ L b H s) (hh : A.handled = none) (h : ∀ s' t', St s₁ L b H s' → Q (.int (max i j) t') s') : wpAny (model prog w) A (call (.builtin "max") [.int i t, .int j u]) Q E s :=
  max_two_ints hh fun h' tk hk => by
    split
    · rename_i hc; rw [show j = max i j by omega]; exact h _ _ (S.ext tk hk)
    · rename_i hc; rw [show i = max i j by omega]; exact h _ _ (S.ext tk hk)
end
section
variable {prog : Program} {w : World} {A : Around} {E : Value → Shared → Prop} {s s₁ : Shared} {L I l : Addr} {b : List (Str × Value)} {H H' : List Ent} {env : Env}
end
end Mine
namespace Mine
end Mine
open PyProof.Rows.TI (gone gone_some gone_none gone_get)
open PySem.AutoSeq1 (wpAny_loadPart')
open PySem.SeqAt PySem.MeetsSeq PySem.MeetsSeq2 PySem.MeetsSeq3 PySem.SeqRoads2
namespace Mine

theorem eraseP_at (e : Value → Bool) : ∀ vs : List Value, vs.any e = true → ∃ j, ∃ hj : j < vs.length, e vs[j] = true ∧ (∀ m (hm : m < vs.length), m < j → e vs[m] = false) ∧ vs.eraseP e = vs.eraseIdx j
  | [], h => by simp at h
  | v :: vs, h => by
    by_cases hv : e v = true
    · exact ⟨0, by simp, hv, by omega, by simp [hv]⟩
    · have hv' : e v = false := by simpa using hv
      obtain ⟨j, hj, h1, h2, h3⟩ := eraseP_at e vs (by simpa [hv'] using h)
      refine ⟨j + 1, by simpa using hj, by simpa using h1, fun m hm hmj => ?_, by simp [hv', h3]⟩
      cases m with
      | zero => exact hv'
      | succ m => simpa using h2 m (by simpa using hm) (by omega)

section
variable {prog : Program} {w : World} {A : Around} {E : Value → Shared → Prop} {s s₁ : Shared} {L l : Addr} {b : List (Str × Value)} {H H' : List Ent} {env : Env}

theorem lst_get {vs : List Value} (S : St s₁ L b H s) (hl : (l, Lst vs) ∈ H) : ∃ n, s.heap.get? l = some { cls := .type "list", dict := none, data := .seq vs.toArray n, slots := #[] } := by
  obtain ⟨⟨c, d, dt, sl⟩, ho, hc, hd, hs, n, hdt⟩ := S.get hl
  simp only at hc hd hs hdt; subst hc hd hs hdt
  exact ⟨n, ho⟩

theorem l_pop {vs : List Value} {x : Value} {Q : Value → Shared → Prop} (S : St s₁ L b H s) (U : Upd l (Lst (vs ++ [x])) (Lst vs) H H') (hsz : vs.length < sizeLine)
    (h : ∀ s', St s₁ L b H' s' → Q x s') : wpAny (model prog w) A (call (.builtin "list.pop") [.ref l]) Q E s := by
  obtain ⟨n, hl⟩ := lst_get S U.mem
  refine call_meets PySem.F.slot_list_pop ⟨_, hl, rfl⟩ PySem.F.entry_list_pop (PySem.F.args_list_pop_1 _) (list_pop_last l (vs ++ [x]).toArray n x (by simp) (by simp; omega)) ⟨hl, ?_⟩
  refine h _ (S.mapSeq U ?_ s.toks)
  rw [Array.eraseIdxIfInBounds]
  simp [List.eraseIdx_append]

theorem l_truth {vs : List Value} {Q : Bool → Shared → Prop} (S : St s₁ L b H s) (hl : IsAt s₁ H l vs) (hsz : vs.length ≤ sizeLine) (h : ∀ s', St s₁ L b H s' → Q (!vs.isEmpty) s') : wpAny (model prog w) A (truthy (.ref l)) Q E s := by
  refine wpAny_truthy_list (IsAt.isList S hl) (by rw [sizeLine_eq] at hsz; simp; omega) ?_
  have : (!vs.toArray.isEmpty) = !vs.isEmpty := by cases vs <;> simp
  rw [this]; exact h _ (S.tok _)

theorem l_count {vs : List Value} {x : Value} {Q : Value → Shared → Prop} (e : Value → Bool) (S : St s₁ L b H s) (hl : (l, Lst vs) ∈ H) (he : ∀ y ∈ vs, EqAt A.in1 s y x (e y))
    (h : ∀ s' t', St s₁ L b H s' → Q (.int (vs.countP e : Nat) t') s') : wpAny (model prog w) A (call (.builtin "list.count") [.ref l, x]) Q E s := by
  obtain ⟨n, hl⟩ := lst_get S hl
  refine call_meets PySem.F.slot_list_count ⟨_, hl, rfl⟩ PySem.F.entry_list_count (PySem.F.args_list_count_2 _ _) (list_countAt l vs.toArray n none #[] x e) ⟨hl, fun y hy => he y (by simpa using hy), ?_⟩
  have := h _ s.toks (S.tok (s.toks + 1))
  simpa using this

theorem m_list {vs : List Value} {name : Str} {id : String} {pl : Sem Bool} {Q : Value × List Value → Shared → Prop} (S : St s₁ L b H s) (hl : IsAt s₁ H l vs) (slot : Slot "list" name id) (hty : typeOf (.builtin id) = pure (.type "method_descriptor"))
    (hp : (l, Lst vs) ∈ H) (h : Q (.builtin id, [.ref l]) s) : wpAny (model prog w) A (getMethod (.ref l) name pl) Q E s :=
  getMethod_builtin (IsAt.isList S hl).typeIs PySem.F.plainAttrs_list slot hty (PlainL S hp) h

/-! ### a try -/
def FrsIn (L : Addr) (H : List Ent) (l : List Env) : Prop := ∀ env ∈ l, env.scope.kind ≠ .module ∧ ∃ F, env.frame = some F ∧ (F = L ∨ ∃ b, (F, Frm b) ∈ H)

structure Hld (s₁ : Shared) (L : Addr) (b : List (Str × Value)) (H : List Ent) (l : List Env) (base : Heap) (e : Addr) (X : String) (a0 fl : Value) (s : Shared) : Prop where
  S : St s₁ L b H s
  nw : ∀ p ∈ H, (∃ o, base.get? p.1 = some o ∧ p.2 o) ∨ ∃ b', p.2 = Frm b'
  kb : ∀ a o, s₁.heap.get? a = some o → base.get? a = some o
  st : base.StaysIn s.heap
  ff : s.heap.FunFrames base l
  tr : s.heap.TracedAtW base e (.type X) a0 fl

theorem Hld.next {l : List Env} {base : Heap} {e : Addr} {X : String} {a0 fl fl' : Value} (h : Hld s₁ L b H l base e X a0 fl s) {h' : Heap} (tk : Nat) (st : base.StaysIn h') (ff : h'.FunFrames base l) (tr : h'.TracedAtW base e (.type X) a0 fl')
    (up : s.heap.UpToSlots h') : Hld s₁ L b H l base e X a0 fl' { s with heap := h', toks := tk } := by
  have fr : ∀ (a : Addr) (b' : List (Str × Value)), (∃ o, s.heap.get? a = some o ∧ Frm b' o) → ∃ o, h'.get? a = some o ∧ Frm b' o := by
    rintro a b' ⟨o, ho, es, ep, hd, r⟩
    obtain ⟨sl, h2⟩ := up a o ho (fun vs q => by rw [hd] at q; cases q)
    exact ⟨_, h2, es, ep, hd, r⟩
  refine ⟨⟨fr _ _ h.S.ns, fun a o x => st a o (h.kb a o x), h.S.fr, fun p hp => ?_, h.S.fresh, h.S.nd, ?_⟩, h.nw, h.kb, st, ff, tr⟩
  · rcases h.nw p hp with ⟨o, ho, hP⟩ | ⟨b', hb⟩
    · exact ⟨o, st _ _ ho, hP⟩
    · have := h.S.nw p hp
      rw [hb] at this ⊢
      exact fr _ _ this
  · obtain ⟨_, _, e⟩ := h.S.eq
    exact ⟨h', tk, by rw [e]⟩

theorem Hld.flight {l : List Env} {base : Heap} {e : Addr} {X : String} {a0 fl : Value} {Q : Unit → Shared → Prop} (h : Hld s₁ L b H l base e X a0 fl s) (k : ∀ s', Hld s₁ L b H l base e X a0 .none s' → Q () s') :
    wpAny (model prog w) A (setFlight (.ref e) none) Q E s := by
  refine wpAny_setFlight_noneW h.st h.ff h.tr fun h' k1 k2 k3 k4 => ?_
  exact k _ (h.next s.toks k1 k2 k3.at fun a o ho hn => ⟨o.slots, k4 a o ho hn⟩)

theorem mem_fst_unique {H : List Ent} (nd : (H.map (·.1)).Nodup) {p q : Ent} (hp : p ∈ H) (hq : q ∈ H) (e : p.1 = q.1) : p = q := by
  induction H with
  | nil => simp at hp
  | cons r H ih =>
    simp only [List.map_cons, List.nodup_cons] at nd
    rcases List.mem_cons.mp hp with h1 | h1 <;> rcases List.mem_cons.mp hq with h2 | h2
    · rw [h1, h2]
    · exact absurd (List.mem_map.mpr ⟨q, h2, by rw [← e, h1]⟩) nd.1
    · exact absurd (List.mem_map.mpr ⟨p, h1, by rw [e, h2]⟩) nd.1
    · exact ih nd.2 h1 h2

theorem St.funFrames {base : Heap} (S : St s₁ L b H s) : ∀ {l : List Env}, FrsIn L H l → (∀ env ∈ l, ∀ F, env.frame = some F → base.get? F = none) → s.heap.FunFrames base l
  | [], _, _ => trivial
  | env :: l, hF, hb => by
    obtain ⟨hk, F, hf, hm⟩ := hF env (List.mem_cons_self ..)
    have : ∃ b' o, s.heap.get? F = some o ∧ Frm b' o := by
      rcases hm with rfl | ⟨b', hm⟩
      · obtain ⟨o, ho, h⟩ := S.ns; exact ⟨b, o, ho, h⟩
      · obtain ⟨o, ho, h⟩ := S.get hm; exact ⟨b', o, ho, h⟩
    obtain ⟨b', o, ho, es, ep, hd, _⟩ := this
    exact ⟨hk, ⟨F, o, hf, hb env (List.mem_cons_self ..) F hf, ho, fun vs q => by rw [hd] at q; cases q⟩, S.funFrames (fun e he => hF e (List.mem_cons_of_mem _ he)) fun e he => hb e (List.mem_cons_of_mem _ he)⟩

theorem tr_note {l : List Env} {e : Addr} {X : String} {h' : Heap} {tk : Nat} {Q : Unit → Shared → Prop} (S : St s₁ L b H s) (hx : Heap.NewExc s.heap h' e X) (hfr : A.frames = some (env :: l)) (hF : FrsIn L H (env :: l)) (hf : env.frame = some L)
    (k : ∀ base a0 s', Hld s₁ L b H (env :: l) base e X a0 (rawInt L) s' → Q () s') : wpAny (model prog w) A (noteFrame (.ref e) env) Q E { s with heap := h', toks := tk } := by
  obtain ⟨ob, tp, he, hcls, hd⟩ := hx.there
  have S' : St s₁ L b H { s with heap := h', toks := tk } := S.ext tk hx.keeps
  let fs := (env :: l).filterMap (·.frame)
  have hfs : ∀ env' ∈ env :: l, ∀ F, env'.frame = some F → F ∈ fs := fun env' he' F hF' => List.mem_filterMap.mpr ⟨env', he', hF'⟩
  have hinv : ∀ F ∈ fs, F = L ∨ ∃ b, (F, Frm b) ∈ H := fun F hm => by
    obtain ⟨env', he', e'⟩ := List.mem_filterMap.mp hm
    obtain ⟨_, F', e2, hm'⟩ := hF env' he'
    rw [e2] at e'; cases e'; exact hm'
  have hL : ∀ F ∈ fs, s₁.heap.get? F = none := fun F hm => by
    rcases hinv F hm with rfl | ⟨b', hm'⟩
    · exact S.fr
    · exact (S.fresh _ hm').2
  have hst : (gone s.heap fs).StaysIn h' := fun a o ha => hx.keeps a o (gone_some ha).2
  have hen : (gone s.heap fs).get? e = none := by
    cases hq : (gone s.heap fs).get? e with
    | none => rfl
    | some o => have := (gone_some hq).2; rw [hx.new] at this; cases this
  have hFF : h'.FunFrames (gone s.heap fs) (env :: l) := S'.funFrames hF fun env' he' F e' => gone_none (hfs env' he' F e')
  unfold noteFrame
  simp only [hf]
  refine wpAny_bind (wpAny_field he hd (x := .none) rfl ?_)
  rw [if_neg (show ¬ ((Value.none != Value.none) = true) by decide)]
  refine wpAny_entryW (base := gone s.heap fs) hfr hFF hf he hst hen hd (by simp) (a0 := tp) rfl fun h2 hN => ?_
  obtain ⟨k1, k2, k3, k4⟩ := hN
  rw [hcls] at k3
  have H0 : Hld s₁ L b H (env :: l) (gone s.heap fs) e X tp (rawInt L) { s with heap := h2, toks := tk } := by
    have fr : ∀ (a : Addr) (b' : List (Str × Value)), (∃ o, s.heap.get? a = some o ∧ Frm b' o) → ∃ o, h2.get? a = some o ∧ Frm b' o := by
      rintro a b' ⟨o, ho, es, ep, hd, r⟩
      obtain ⟨sl, h3⟩ := k4 a o (hx.keeps _ _ ho) (fun vs q => by rw [hd] at q; cases q)
      exact ⟨_, h3, es, ep, hd, r⟩
    have nw : ∀ p ∈ H, (∃ o, (gone s.heap fs).get? p.1 = some o ∧ p.2 o) ∨ ∃ b', p.2 = Frm b' := fun p hp => by
      by_cases hm : p.1 ∈ fs
      · rcases hinv _ hm with q | ⟨b', hm'⟩
        · exact absurd q (S.fresh p hp).1
        · have := mem_fst_unique S.nd hp hm' rfl
          exact Or.inr ⟨b', by rw [this]⟩
      · obtain ⟨o, ho, h⟩ := S.nw p hp
        exact Or.inl ⟨o, (gone_get hm).trans ho, h⟩
    have kb : ∀ a o, s₁.heap.get? a = some o → (gone s.heap fs).get? a = some o := fun a o ha => (gone_get fun hm => by rw [hL a hm] at ha; cases ha).trans (S.keep a o ha)
    refine ⟨⟨fr _ _ S.ns, fun a o ha => k1 a o (kb a o ha), S.fr, fun p hp => ?_, S.fresh, S.nd, ?_⟩, nw, kb, k1, k2, k3⟩
    · rcases nw p hp with ⟨o, ho, hP⟩ | ⟨b', hb⟩
      · exact ⟨o, k1 _ _ ho, hP⟩
      · have := S.nw p hp
        rw [hb] at this ⊢
        exact fr _ _ this
    · obtain ⟨_, _, e⟩ := S.eq
      exact ⟨h2, tk, by rw [e]⟩
  exact k _ _ _ H0

/-- the state in which a try's body raised -/
def Rais (s₁ : Shared) (L : Addr) (X : String) (J : List (Str × Value) → List Ent → Prop) (ev : Value) (s' : Shared) : Prop :=
  ∃ b H s h' tk e, ev = .ref e ∧ s' = { s with heap := h', toks := tk } ∧ St s₁ L b H s ∧ Heap.NewExc s.heap h' e X ∧ J b H

theorem ex_try {body suite : List Stmt} {b₀ : Stmt} {t : Expr} {pos hpos : Pos} {X T : String} {l : List Env} {Q : Flow → Shared → Prop} (J : List (Str × Value) → List Ent → Prop)
    (hfr : A.frames = some (env :: l)) (hF : ∀ b H, J b H → FrsIn L H (env :: l)) (hf : env.frame = some L)
    (hexc : isSubtype (.type T) (.type "BaseException") = pure true) (hnt : isSubtype (.type ((Manifest.find? T).elim "type" fun x => x.metatype)) (.type "tuple") = pure false) (hsub : isSubtype (.type X) (.type T) = pure true)
    (hbody : wpAny (model prog w) A (execs body env) Q (Rais s₁ L X J) s)
    (hname : ∀ b H s' e E' (Q' : Value → Shared → Prop), St s₁ L b H s' → J b H → Q' (.type T) s' → wpAny (model prog w) (A.mark (some e)) (eval t env) Q' E' s')
    (hsuite : ∀ b H s' e, St s₁ L b H s' → J b H → wpAny (model prog w) (A.mark (some e)) (execs (b₀ :: suite) env) Q (fun _ _ => False) s') :
    wpAny (model prog w) A (exec (.Try body [.ExceptHandler (some t) none (b₀ :: suite) hpos] [] [] pos) env) Q E s := by
  refine wpAny_Try_except (wpAny_mono hbody (fun f s' hq => ?_) fun ev s' hr => ?_)
  · cases f with
    | next => exact wpAny_execs_nil hq
    | _ => exact hq
  · obtain ⟨b', H', s0, h', tk, e, rfl, rfl, S, hx, hJ⟩ := hr
    refine tr_note S hx hfr (hF _ _ hJ) hf fun base a0 s₂ K₂ => ?_
    refine K₂.flight fun s₃ K₃ => ?_
    refine wpAny_handleBy_builtin (X := X) (T := T) (b := true) hexc hnt hsub ?_
    refine hname b' H' s₃ _ _ _ K₃.S hJ ⟨rfl, K₃.tr.there, ?_⟩
    simp only [if_true]
    refine K₃.flight fun s₄ K₄ => ?_
    exact wpAny_mono (hsuite b' H' s₄ _ K₄.S hJ) (fun _ _ q => q) fun _ _ q => q.elim
end
end Mine
open PySem.SeqAt
namespace Mine
/-! ### the plain law -/
section
variable (num : Value → Int)
def same (y x : Value) : Bool := num y == num x
def cnt (n : Int) (r : List Value) : Nat := r.countP fun y => num y == n
def bump (c : Int → Nat) (n : Int) : Int → Nat := fun m => if m = n then c m + 1 else c m
def aliveR (c : Int → Nat) : List Value → List Value
  | [] => []
  | x :: r => aliveR c r ++ if c (num x) ≤ cnt num (num x) r then [x] else []
theorem aliveB (x : Value) (c : Int → Nat) : ∀ r, cnt num (num x) r ≤ c (num x) → (aliveR num c r).any (fun y => same num y x) = false ∧ aliveR num (bump c (num x)) r = aliveR num c r
  | [], _ => ⟨rfl, rfl⟩
  | y :: r, h => by
    by_cases e : num y = num x
    · have hc : cnt num (num x) (y :: r) = cnt num (num x) r + 1 := by simp [cnt, e]
      rw [hc] at h
      obtain ⟨h1, h2⟩ := aliveB x c r (by omega)
      have n1 : ¬ c (num y) ≤ cnt num (num y) r := by rw [e]; omega
      have n2 : ¬ bump c (num x) (num y) ≤ cnt num (num y) r := by simp only [bump, e, if_true]; omega
      simp only [aliveR, if_neg n1, if_neg n2, List.append_nil]
      exact ⟨h1, h2⟩
    · have hc : cnt num (num x) (y :: r) = cnt num (num x) r := by simp [cnt, e]
      rw [hc] at h
      obtain ⟨h1, h2⟩ := aliveB x c r h
      have hb : bump c (num x) (num y) = c (num y) := by simp [bump, e]
      simp only [aliveR, hb, h2, List.any_append, h1, Bool.false_or, and_true]
      split <;> simp [same, e]
theorem aliveA (x : Value) (c : Int → Nat) : ∀ r, c (num x) < cnt num (num x) r → (aliveR num c r).any (fun y => same num y x) = true ∧ (aliveR num c r).eraseP (fun y => same num y x) = aliveR num (bump c (num x)) r
  | [], h => by simp [cnt] at h
  | y :: r, h => by
    by_cases e : num y = num x
    · have hc : cnt num (num x) (y :: r) = cnt num (num x) r + 1 := by simp [cnt, e]
      rw [hc] at h
      have p1 : c (num y) ≤ cnt num (num y) r := by rw [e]; omega
      by_cases hlt : c (num x) < cnt num (num x) r
      · obtain ⟨h1, h2⟩ := aliveA x c r hlt
        have p2 : bump c (num x) (num y) ≤ cnt num (num y) r := by simp only [bump, e, if_true]; omega
        simp only [aliveR, if_pos p1, if_pos p2, List.any_append, h1, Bool.true_or, true_and]
        obtain ⟨z, hz, hz'⟩ := List.any_eq_true.mp h1
        rw [List.eraseP_append_left (p := fun y => same num y x) hz' _ hz, h2]
      · obtain ⟨h1, h2⟩ := aliveB num x c r (by omega)
        have p2 : ¬ bump c (num x) (num y) ≤ cnt num (num y) r := by simp only [bump, e, if_true]; omega
        have hs : same num y x = true := by simp [same, e]
        simp only [aliveR, if_pos p1, if_neg p2, List.any_append, h1, Bool.false_or]
        refine ⟨by simp [hs], ?_⟩
        rw [List.eraseP_append_right _ (fun z hz => by have := List.any_eq_false.mp h1 z hz; exact this), h2]
        simp [hs]
    · have hc : cnt num (num x) (y :: r) = cnt num (num x) r := by simp [cnt, e]
      rw [hc] at h
      obtain ⟨h1, h2⟩ := aliveA x c r h
      have hb : bump c (num x) (num y) = c (num y) := by simp [bump, e]
      simp only [aliveR, hb, List.any_append, h1, Bool.true_or, true_and]
      obtain ⟨z, hz, hz'⟩ := List.any_eq_true.mp h1
      rw [List.eraseP_append_left (p := fun y => same num y x) hz' _ hz, h2]
end

/-! ### rows that are made one by one -/
section
variable {prog : Program} {w : World} {A : Around} {E : Value → Shared → Prop} {s s₁ : Shared} {L l : Addr} {b : List (Str × Value)} {H H' : List Ent} {env : Env}
end
end Mine
open PySem.SeqAt
namespace Mine
/-- what the def gives for two lists: the first one's end first -/
def uldD (e : Value → Value → Bool) : List Value → List Value → List Value → List Value × List Value
  | [], act, ms => (ms, act)
  | x :: r, act, ms => if act.any (fun y => e y x) then uldD e r (act.eraseP fun y => e y x) ms else uldD e r act (ms ++ [x])
section
variable (num : Value → Int)
def missR (us : List Value) (c : Int → Nat) : List Value → List Value
  | [] => []
  | x :: r => (if cnt num (num x) us ≤ c (num x) then [x] else []) ++ missR us (bump c (num x)) r
def plus (c : Int → Nat) : List Value → Int → Nat
  | [] => c
  | x :: r => plus (bump c (num x)) r
theorem plus_eq : ∀ (r : List Value) (c : Int → Nat) (n : Int), plus num c r n = c n + cnt num n r
  | [], c, n => by simp [plus, cnt]
  | x :: r, c, n => by
    rw [plus, plus_eq r]
    by_cases e : n = num x
    · subst e; simp [bump, cnt]; omega
    · have : (num x == n) = false := by simp [Ne.symm e]
      simp [bump, e, cnt, this]
theorem uldD_due (us : List Value) : ∀ (r : List Value) (c : Int → Nat) (ms : List Value),
    uldD (same num) r (aliveR num c us.reverse) ms = (ms ++ missR num us c r, aliveR num (plus num c r) us.reverse)
  | [], c, ms => by simp [uldD, missR, plus]
  | x :: r, c, ms => by
    have hcnt : cnt num (num x) us.reverse = cnt num (num x) us := by simp [cnt]
    rw [uldD]
    by_cases hlt : c (num x) < cnt num (num x) us.reverse
    · obtain ⟨h1, h2⟩ := aliveA num x c us.reverse hlt
      rw [if_pos h1, h2, uldD_due us r]
      have : ¬ cnt num (num x) us ≤ c (num x) := by omega
      simp [missR, this, plus]
    · obtain ⟨h1, h2⟩ := aliveB num x c us.reverse (by omega)
      rw [if_neg (by simp [h1]), ← h2, uldD_due us r]
      have : cnt num (num x) us ≤ c (num x) := by omega
      simp [missR, this, plus]
end
end Mine
open PySem.AutoSeq1 (wpAny_loadPart')
open PySem.SeqAt PySem.MeetsSeq PySem.MeetsSeq2 PySem.MeetsSeq3 PySem.SeqRoads2
namespace Mine
/-- == in one world -/
def EqW (prog : Program) (w : World) (A : Around) (s : Shared) (y x : Value) (b : Bool) : Prop := ∀ (E : Value → Shared → Prop) (Q : Bool → Shared → Prop), Q b s → wpAny (model prog w) A (eqBool y x) Q E s
theorem remove_loopW {prog : Program} {w : World} (l : Addr) (items : Array Value) (n : Nat) (x : Value) (e : Value → Bool) (j : Nat) (hj : j < items.size) (hit : e items[j] = true) (k : Nat) (hs1 : items.size ≤ sizeLine) :
    ∀ i : Nat, j - i = k → i ≤ j → (∀ m (hm : m < items.size), i ≤ m → m < j → e items[m] = false) → MeetsIn prog w (Builtin.«list.remove.loop» ⟨[.ref l, x, rawInt i], []⟩)
      (fun A R s => s.heap.get? l = some { cls := .type "list", dict := none, data := .seq items n, slots := #[] } ∧ (∀ y, y ∈ items → EqW prog w A.in1 s y x (e y)) ∧ R (.ok (.ret .none)) { s with heap := s.heap.update l (Obj.mapSeq fun xs => xs.eraseIdxIfInBounds j) }) := by
  induction k with
  | zero =>
    intro i hk hij hno A R s h
    obtain ⟨hp, g, d, tk, os⟩ := s; obtain ⟨hl, he, h⟩ := h
    have hij' : i = j := by omega
    subst hij'
    wp_walk using wpAny_loadPart' hl
    have hi : items[((i : Nat) : Int).toNat]? = some items[i] := by simp [hj]
    rw [hi]
    refine wpAny_bind (he _ (Array.getElem_mem hj) _ _ ?_)
    rw [hit]
    have hz' : (items.eraseIdxIfInBounds i).size ≤ sizeLine + 1 := Nat.le_trans (size_erased items _) (Nat.le_succ_of_le hs1)
    wp_walk using (wpAny_updateSeq hl rfl (hz := hs1) (_hz' := hz')), wpAny_loadPart' hl
    simpa using h
  | succ k ih =>
    intro i hk hij hno A R s h
    obtain ⟨hp, g, d, tk, os⟩ := s; obtain ⟨hl, he, h⟩ := h
    have hlt : i < items.size := by omega
    wp_walk using wpAny_loadPart' hl
    have hi : items[((i : Nat) : Int).toNat]? = some items[i] := by simp [hlt]
    have hc : ((i : Int) + 1) = ((i + 1 : Nat) : Int) := by push_cast; rfl
    rw [hi]
    refine wpAny_bind (he _ (Array.getElem_mem hlt) _ _ ?_)
    rw [hno i hlt (Nat.le_refl _) (by omega)]
    wp_walk
    rw [hc]
    exact ⟨plainId_quiet plain_remove_loop _, codeAny_builtin entry_remove_loop (by
      rw [Around.under_plainId plain_remove_loop _]
      exact ih (i + 1) (by omega) (by omega) (fun m hm h1 h2 => hno m hm (by omega) h2) A R _ ⟨hl, he, h⟩)⟩

theorem list_removeW {prog : Program} {w : World} (l : Addr) (items : Array Value) (n : Nat) (x : Value) (e : Value → Bool) (j : Nat) (hj : j < items.size)
    (hit : e items[j] = true) (hno : ∀ m (hm : m < items.size), m < j → e items[m] = false) (hs1 : items.size ≤ sizeLine) :
    MeetsIn prog w (Builtin.«list.remove» ⟨[.ref l, x], []⟩)
      (fun A R s => s.heap.get? l = some { cls := .type "list", dict := none, data := .seq items n, slots := #[] } ∧ (∀ y, y ∈ items → EqW prog w A.in1 s y x (e y)) ∧ R (.ok (.ret .none)) { s with heap := s.heap.update l (Obj.mapSeq fun xs => xs.eraseIdxIfInBounds j) }) := by
  intro A R s h
  obtain ⟨hp, g, d, tk, os⟩ := s; obtain ⟨hl, he, h⟩ := h
  wp_walk using wpAny_loadPart' hl
  exact ⟨plainId_quiet plain_remove_loop _, codeAny_builtin entry_remove_loop (by
    rw [Around.under_plainId plain_remove_loop _]
    exact remove_loopW l items n x e j hj hit _ hs1 0 rfl (Nat.zero_le _) (fun m hm _ h2 => hno m hm h2) A R _ ⟨hl, he, h⟩)⟩

theorem remove_noneW {prog : Program} {w : World} (l : Addr) (items : Array Value) (n : Nat) (x : Value) (e : Value → Bool) (hno : ∀ m (hm : m < items.size), e items[m] = false) (k : Nat) :
    ∀ i : Nat, items.size - i = k → MeetsIn prog w (Builtin.«list.remove.loop» ⟨[.ref l, x, rawInt i], []⟩)
      (fun A R s => s.heap.get? l = some { cls := .type "list", dict := none, data := .seq items n, slots := #[] } ∧ (∀ y, y ∈ items → EqW prog w A.in1 s y x (e y)) ∧ raisesNew "ValueError" A R s) := by
  induction k with
  | zero =>
    intro i hk A R s h
    obtain ⟨hp, g, d, tk, os⟩ := s; obtain ⟨hl, he, h⟩ := h
    wp_walk using wpAny_loadPart' hl
    have hi : items[((i : Nat) : Int).toNat]? = none := by simp; omega
    rw [hi]
    wp_walk
    exact_raiseError plainExc_ValueError h.1 h.2
  | succ k ih =>
    intro i hk A R s h
    obtain ⟨hp, g, d, tk, os⟩ := s; obtain ⟨hl, he, h⟩ := h
    have hlt : i < items.size := by omega
    wp_walk using wpAny_loadPart' hl
    have hi : items[((i : Nat) : Int).toNat]? = some items[i] := by simp [hlt]
    have hc : ((i : Int) + 1) = ((i + 1 : Nat) : Int) := by push_cast; rfl
    rw [hi]
    refine wpAny_bind (he _ (Array.getElem_mem hlt) _ _ ?_)
    rw [hno i hlt]
    wp_walk
    rw [hc]
    exact ⟨plainId_quiet plain_remove_loop _, codeAny_builtin entry_remove_loop (by
      rw [Around.under_plainId plain_remove_loop _]
      exact ih (i + 1) (by omega) A R _ ⟨hl, he, h⟩)⟩

theorem list_removeW_none {prog : Program} {w : World} (l : Addr) (items : Array Value) (n : Nat) (x : Value) (e : Value → Bool) (hno : ∀ m (hm : m < items.size), e items[m] = false) :
    MeetsIn prog w (Builtin.«list.remove» ⟨[.ref l, x], []⟩)
      (fun A R s => s.heap.get? l = some { cls := .type "list", dict := none, data := .seq items n, slots := #[] } ∧ (∀ y, y ∈ items → EqW prog w A.in1 s y x (e y)) ∧ raisesNew "ValueError" A R s) := by
  intro A R s h
  obtain ⟨hp, g, d, tk, os⟩ := s; obtain ⟨hl, he, h⟩ := h
  wp_walk using wpAny_loadPart' hl
  exact ⟨plainId_quiet plain_remove_loop _, codeAny_builtin entry_remove_loop (by
    rw [Around.under_plainId plain_remove_loop _]
    exact remove_noneW l items n x e hno _ 0 rfl A R _ ⟨hl, he, h⟩)⟩


section
variable {prog : Program} {w : World} {A : Around} {E : Value → Shared → Prop} {s s₁ : Shared} {L l : Addr} {b : List (Str × Value)} {H H' : List Ent} {env : Env}
theorem l_removeWY {vs : List Value} {x : Value} {Q : Value → Shared → Prop} (e : Value → Bool) (S : St s₁ L b H s) (U : Upd l (Lst vs) (Lst (vs.eraseP e)) H H') (hsz : vs.length ≤ sizeLine) (he : ∀ y ∈ vs, EqW prog w A.in1 s y x (e y)) (hit : vs.any e = true)
    (h : ∀ s', St s₁ L b H' s' → Q .none s') : wpAny (model prog w) A (call (.builtin "list.remove") [.ref l, x]) Q E s := by
  obtain ⟨n, hl⟩ := lst_get S U.mem
  obtain ⟨j, hj, h1, h2, h3⟩ := eraseP_at e vs hit
  refine call_meetsIn PySem.F.slot_list_remove ⟨_, hl, rfl⟩ PySem.F.entry_list_remove (PySem.F.args_list_remove_2 _ _) (list_removeW l vs.toArray n x e j (by simpa using hj) (by simpa using h1) (fun m hm hmj => by simpa using h2 m (by simpa using hm) hmj) (by simpa using hsz)) ⟨hl, fun y hy => he y (by simpa using hy), ?_⟩
  refine h _ (S.mapSeq U ?_ s.toks)
  rw [h3, Array.eraseIdxIfInBounds]
  simp [hj]
theorem l_removeWN {vs : List Value} {x : Value} {Q : Value → Shared → Prop} (e : Value → Bool) (S : St s₁ L b H s) (hl : (l, Lst vs) ∈ H) (he : ∀ y ∈ vs, EqW prog w A.in1 s y x (e y)) (hno : vs.any e = false) (hh : A.handled = none)
    (h : ∀ h' tk ex, Heap.NewExc s.heap h' ex "ValueError" → E (.ref ex) { s with heap := h', toks := tk }) : wpAny (model prog w) A (call (.builtin "list.remove") [.ref l, x]) Q E s := by
  obtain ⟨n, hl⟩ := lst_get S hl
  refine call_meetsIn PySem.F.slot_list_remove ⟨_, hl, rfl⟩ PySem.F.entry_list_remove (PySem.F.args_list_remove_2 _ _) (list_removeW_none l vs.toArray n x e (fun m hm => ?_)) ⟨hl, fun y hy => he y (by simpa using hy), hh, h⟩
  have := List.any_eq_false.mp hno vs[m] (List.getElem_mem _)
  simpa using this
/-- the dict {"of": n} -/
def DctT (w : World) (n : Int) (o : Obj) : Prop := o.ExactDict ∧ ∃ ep t u, o.data = .dict #[⟨hashStr w (Str.ofString "of"), .str (Str.ofString "of") t, .int n u⟩] ep
theorem DctT.dictOf {a : Addr} {n : Int} (h : ∃ o, s.heap.get? a = some o ∧ DctT w n o) : ∃ u, s.heap.DictOf (PySem.strKind prog w) a [(Str.ofString "of", .int n u)] := by
  obtain ⟨o, ho, hx, ep, t, u, hd⟩ := h
  refine ⟨u, o, _, ep, ho, hx, hd, ?_, ?_, by simp⟩
  · intro e he
    simp at he
    subst he
    exact ⟨Str.ofString "of", by simp [PySem.strKind, Value.isStrOf], rfl⟩
  · exact .cons (by simp [PySem.strKind, Value.isStrOf]) rfl .nil
theorem DctT.of {d : Addr} {n : Int} {u : Tok} {h : Heap} (hd : h.DictOf (PySem.strKind prog w) d [(Str.ofString "of", .int n u)]) : ∃ o, h.get? d = some o ∧ DctT w n o := by
  obtain ⟨o, es, ep, ho, hx, hdt, hk, hp, _⟩ := hd
  refine ⟨o, ho, hx, ep, ?_⟩
  obtain ⟨es⟩ := es
  cases hp with
  | cons h1 h2 h3 =>
    cases h3
    rename_i e
    obtain ⟨k, hk1, hk2⟩ := hk e (by simp)
    obtain ⟨t, ht⟩ := Value.isStrOf_shape hk1
    obtain ⟨t', ht'⟩ := Value.isStrOf_shape h1
    have hkn : k = Str.ofString "of" := (PySem.strKind prog w).inj _ _ _ hk1 h1
    obtain ⟨hh, key, val⟩ := e
    simp only at ht hk2 h2 ht'
    subst hkn h2 ht hk2
    exact ⟨t, u, hdt⟩
theorem eqW_dicts {a c : Addr} {n m : Int} (ha : ∃ o, s.heap.get? a = some o ∧ DctT w n o) (hc : ∃ o, s.heap.get? c = some o ∧ DctT w m o) (hsa : (a == sysModules) = false) (hsc : (c == sysModules) = false) (hu : A.units < cLine) :
    EqW prog w A s (.ref a) (.ref c) (n == m) := fun E Q h => by
  unfold eqBool
  refine wpAny_holding ?_
  refine wpAny_ite_split (fun hab => ?_) (fun _ => ?_)
  · have e : a = c := by have := eq_of_beq hab; injection this
    subst e
    have : n = m := by
      obtain ⟨o, ho, hx, ep, t, u, hd⟩ := ha
      obtain ⟨o', ho', hx', ep', t', u', hd'⟩ := hc
      rw [ho] at ho'; cases ho'
      rw [hd] at hd'
      injection hd' with e1 _
      have e2 := congrArg Array.toList e1
      injection e2 with e3 _
      injection e3 with _ _ e4
      injection e4 with e5 _
    subst this
    rw [beq_self_eq_true] at h
    exact wpAny_bind (wpAny_rule (wpAny_pure h))
  · obtain ⟨u, da⟩ := DctT.dictOf (prog := prog) (w := w) ha
    obtain ⟨v, db⟩ := DctT.dictOf (prog := prog) (w := w) hc
    refine wpAny_bind (keq_eq (r := (n == m)) hsa hsc da db hu (fun _ => ?_) ?_)
    · have := KeqHits.hit (A := A.in1) (s := s) (kb := [(Str.ofString "of", Value.int m v)]) (k := Str.ofString "of") (v := .int n u) (r := []) (y := .int m v) (by simp [valueAt]) (EqAt.int_int n u m v) .nil
      simpa using this
    · exact wpAny_truthy_bool (by simpa using h)
theorem ev_dictT {kx vx : Expr} {pos : Pos} {n : Int} {u : Tok} {Q : Value → Shared → Prop} (S : St s₁ L b H s) (hsys : sysModules < s.heap.objs.size)
    (hk : ∀ s' H' (E' : Value → Shared → Prop) (Q' : Value → Shared → Prop), St s₁ L b H' s' → (∀ s'' t, s''.heap = s'.heap → St s₁ L b H' s'' → Q' (.str (Str.ofString "of") t) s'') → wpAny (model prog w) A (eval kx env) Q' E' s')
    (hv : ∀ s' H' (E' : Value → Shared → Prop) (Q' : Value → Shared → Prop), St s₁ L b H' s' → Q' (.int n u) s' → wpAny (model prog w) A (eval vx env) Q' E' s')
    (h : ∀ s' d, (d == sysModules) = false → St s₁ L b ((d, DctT w n) :: H) s' → Q (.ref d) s') : wpAny (model prog w) A (eval (.Dict [some kx] [vx] pos) env) Q E s := by
  refine wpAny_Dict_pairs (knd := PySem.strKind prog w) (pairs := [(eval kx env, (do let x ← eval vx env; standAt pos; pure x))]) rfl (by simp) (by simp) ?_
  have S1 : St s₁ L b ((s.heap.objs.size, Yes) :: H) { s with heap := s.heap.push { cls := .type "dict", data := .dict #[] } } := S.push (o := { cls := .type "dict", data := .dict #[] }) (P := Yes) trivial s.toks
  refine evalPairs_cons (hk _ _ _ _ S1 (fun s2 t hh S2 => wpAny_bind (hv _ _ _ _ S2 (wpAny_bind (wpAny_standAt (wpAny_pure (evalPairs_nil ?_)))))))
  refine ⟨[(Str.ofString "of", .int n u)], ⟨by simp [PySem.strKind, Value.isStrOf], rfl, trivial⟩, ?_, fun h' hm hs => ?_⟩
  · rw [hh]
    exact ⟨_, #[], 0, Heap.get?_push_size _ rfl, ⟨rfl, rfl, rfl⟩, rfl, fun _ he => by simp at he, .nil, by simp⟩
  · refine h _ _ (beq_eq_false_iff_ne.mpr (Nat.ne_of_gt hsys)) (S2.step (P' := DctT w n) _ ?_ fun c o hc e => (hs.2 c hc).trans e)
    exact DctT.of (u := u) (by simpa [merged, stored] using hm)
theorem d_item {value slice : Expr} {n : Int} {a : Addr} {t : Tok} {Q : Value → Shared → Prop} (S : St s₁ L b H s) (hm : (a, DctT w n) ∈ H) (h : ∀ s' u, St s₁ L b H s' → Q (.int n u) s')
    (hs : subscripted slice false (.ref a) (.str (Str.ofString "of") t) = operate [.ref a, .str (Str.ofString "of") t] (getItem (.ref a) (.str (Str.ofString "of") t))) :
    wpAny (model prog w) A (subscriptTail value slice (.ref a) (.str (Str.ofString "of") t)) Q E s := by
  obtain ⟨u, hd⟩ := DctT.dictOf (prog := prog) (w := w) (S.get hm)
  have hT := hd.typeIs
  exact tail_any hT slot_dict_getitem.lookup (wpAny_getItem_of (knd := PySem.strKind prog w) (k := Str.ofString "of") (v := .int n u) (by simp [PySem.strKind, Value.isStrOf]) hd.mapOf (by simp [valueAt]) (h _ _ (S.tok _))) hs
end
end Mine
open PySem.SeqAt
namespace Mine
inductive KV : List (Int × Value) → List (Int × Int) → Prop
  | nil : KV [] []
  | cons (k m : Int) (t : Tok) {kvs bs} : KV kvs bs → KV ((k, .int m t) :: kvs) ((k, m) :: bs)
def getB (bs : List (Int × Int)) (k : Int) : Option Int := (bs.find? fun p => p.1 = k).map (·.2)
def setB (bs : List (Int × Int)) (k m : Int) : List (Int × Int) := if bs.any (fun p => p.1 = k) then bs.map (fun p => if p.1 = k then (p.1, m) else p) else bs ++ [(k, m)]
theorem KV.get {k : Int} : ∀ {kvs : List (Int × Value)} {bs : List (Int × Int)}, KV kvs bs → (∀ m, getB bs k = some m → ∃ t, valueAt kvs k = some (.int m t)) ∧ (getB bs k = none → valueAt kvs k = none)
  | _, _, .nil => ⟨fun m h => by simp [getB] at h, fun _ => rfl⟩
  | _, _, .cons k' m' t (kvs := kvs) (bs := bs) r => by
    have ih := KV.get (k := k) r
    by_cases e : k' = k
    · subst e
      refine ⟨fun m h => ⟨t, ?_⟩, fun h => ?_⟩
      · simp [getB] at h; subst h; simp [valueAt]
      · simp [getB] at h
    · have h1 : getB ((k', m') :: bs) k = getB bs k := by simp [getB, e]
      have h2 : valueAt ((k', Value.int m' t) :: kvs) k = valueAt kvs k := by simp [valueAt, e]
      rw [h1, h2]; exact ih
theorem KV.any {k : Int} : ∀ {kvs : List (Int × Value)} {bs : List (Int × Int)}, KV kvs bs → kvs.any (fun kv => kv.1 = k) = bs.any (fun p => p.1 = k)
  | _, _, .nil => rfl
  | _, _, .cons k' m' t r => by simp [KV.any (k := k) r]
theorem KV.snoc {k m : Int} {t : Tok} : ∀ {kvs : List (Int × Value)} {bs : List (Int × Int)}, KV kvs bs → KV (kvs ++ [(k, .int m t)]) (bs ++ [(k, m)])
  | _, _, .nil => .cons k m t .nil
  | _, _, .cons k' m' t' r => .cons k' m' t' (KV.snoc r)
theorem KV.upd {k m : Int} {t : Tok} : ∀ {kvs : List (Int × Value)} {bs : List (Int × Int)}, KV kvs bs → KV (kvs.map fun kv => if kv.1 = k then (kv.1, .int m t) else kv) (bs.map fun p => if p.1 = k then (p.1, m) else p)
  | _, _, .nil => .nil
  | _, _, .cons k' m' t' r => by
    have ih := KV.upd (k := k) (m := m) (t := t) r
    simp only [List.map_cons]
    by_cases e : k' = k
    · simp only [e, if_true]; exact .cons _ _ _ ih
    · simp only [e, if_false]; exact .cons _ _ _ ih
theorem KV.stored {k m : Int} {t : Tok} {kvs : List (Int × Value)} {bs : List (Int × Int)} (h : KV kvs bs) : KV (PySem.stored kvs k (.int m t)) (setB bs k m) := by
  unfold PySem.stored setB
  rw [h.any]
  split
  · exact h.upd
  · exact h.snoc
theorem KV.length : ∀ {kvs : List (Int × Value)} {bs : List (Int × Int)}, KV kvs bs → kvs.length = bs.length
  | _, _, .nil => rfl
  | _, _, .cons _ _ _ r => by simp [r.length]
theorem KV.keys : ∀ {kvs : List (Int × Value)} {bs : List (Int × Int)}, KV kvs bs → kvs.map (·.1) = bs.map (·.1)
  | _, _, .nil => rfl
  | _, _, .cons _ _ _ r => by simp [r.keys]
def Bal (prog : Program) (w : World) (bs : List (Int × Int)) (o : Obj) : Prop := ∃ kvs, o.IsDictOf (intKind prog w) kvs ∧ KV kvs bs
section
variable {prog : Program} {w : World} {A : Around} {E : Value → Shared → Prop} {s s₁ : Shared} {L l d : Addr} {b : List (Str × Value)} {H H' : List Ent} {env : Env} {bs : List (Int × Int)}
theorem Bal.dict (h : ∃ o, s.heap.get? d = some o ∧ Bal prog w bs o) : ∃ kvs, s.heap.DictOf (intKind prog w) d kvs ∧ KV kvs bs := by
  obtain ⟨o, ho, kvs, h1, h2⟩ := h
  exact ⟨kvs, Heap.dictOf_iff.mpr ⟨o, ho, h1⟩, h2⟩
theorem Bal.of {h : Heap} {kvs : List (Int × Value)} (hd : h.DictOf (intKind prog w) d kvs) (hk : KV kvs bs) : ∃ o, h.get? d = some o ∧ Bal prog w bs o := by
  obtain ⟨o, ho, hx⟩ := Heap.dictOf_iff.mp hd
  exact ⟨o, ho, kvs, hx, hk⟩
theorem ev_dict0 {pos : Pos} {Q : Value → Shared → Prop} (S : St s₁ L b H s) (hsys : sysModules < s.heap.objs.size)
    (h : ∀ s' d, (d == sysModules) = false → St s₁ L b ((d, Bal prog w []) :: H) s' → Q (.ref d) s') : wpAny (model prog w) A (eval (.Dict [] [] pos) env) Q E s := by
  rw [eval_Dict_empty]
  refine wpAny_bind (wpAny_standAt ?_)
  refine wpAny_newObj_type ?_ (by simp [sizeOk, sizeLine_eq])
  exact h _ _ (beq_eq_false_iff_ne.mpr (Nat.ne_of_gt hsys)) (S.push (o := { cls := .type "dict", data := .dict #[] }) (P := Bal prog w []) ⟨[], ⟨#[], 0, ⟨rfl, rfl, rfl⟩, rfl, fun _ he => by simp at he, .nil, by simp⟩, .nil⟩ s.toks)
theorem m_dget {pl : Sem Bool} {Q : Value × List Value → Shared → Prop} (S : St s₁ L b H s) (hm : (d, Bal prog w bs) ∈ H) (h : Q (.builtin "dict.get", [.ref d]) s) : wpAny (model prog w) A (getMethod (.ref d) "get" pl) Q E s := by
  obtain ⟨kvs, hD, _⟩ := Bal.dict (S.get hm)
  exact getMethod_builtin hD.typeIs PySem.F.plainAttrs_dict PySem.F.slot_dict_get PySem.F.type_dict_get hD.mapOf.noDict h
theorem d_get {k z : Int} {t u : Tok} {Q : Value → Shared → Prop} (S : St s₁ L b H s) (hm : (d, Bal prog w bs) ∈ H) (lo : (d == sysModules) = false) (h : ∀ s' t', St s₁ L b H s' → Q (.int ((getB bs k).getD z) t') s') :
    wpAny (model prog w) A (call (.builtin "dict.get") [.ref d, .int k t, .int z u]) Q E s := by
  obtain ⟨kvs, hD, hkv⟩ := Bal.dict (S.get hm)
  have hg := hkv.get (k := k)
  refine call_meetsIn PySem.F.slot_dict_get hD.typeIs PySem.F.entry_dict_get (PySem.F.args_dict_get_3 _ _ _) (meets_dict_get_default (intKind prog w) d (k := k) (by simp [intKind, Value.isInt]) lo (.int z u)) ⟨_, hD.mapOf, ?_⟩
  cases e : getB bs k with
  | none =>
    rw [hg.2 e]
    have := h { s with toks := s.toks + 1 } u (S.tok _)
    rw [e] at this
    exact this
  | some m =>
    obtain ⟨t', ht⟩ := hg.1 m e
    rw [ht]
    have := h { s with toks := s.toks + 1 } t' (S.tok _)
    rw [e] at this
    exact this
theorem d_set {k m : Int} {t u : Tok} {Q : Unit → Shared → Prop} (S : St s₁ L b H s) (U : Upd d (Bal prog w bs) (Bal prog w (setB bs k m)) H H') (hsz : bs.length ≤ sizeLine) (h : ∀ s', St s₁ L b H' s' → Q () s') :
    wpAny (model prog w) A (setItem (.ref d) (.int k t) (.int m u)) Q E s := by
  obtain ⟨kvs, hD, hkv⟩ := Bal.dict (S.get U.mem)
  refine wpAny_setItem_pairs (knd := intKind prog w) (k := k) (by simp [intKind, Value.isInt]) hD (fun h' hm hs => ?_) (by rw [hkv.length]; exact hsz)
  exact h _ (S.upd U _ (fun c o hc e => (hs.2 c hc).trans e) (Bal.of hm hkv.stored))
theorem d_getI {k m : Int} {t : Tok} {Q : Value → Shared → Prop} (S : St s₁ L b H s) (hm : (d, Bal prog w bs) ∈ H) (hg : getB bs k = some m) (h : ∀ s' t', St s₁ L b H s' → Q (.int m t') s') :
    wpAny (model prog w) A (getItem (.ref d) (.int k t)) Q E s := by
  obtain ⟨kvs, hD, hkv⟩ := Bal.dict (S.get hm)
  obtain ⟨t', ht⟩ := hkv.get.1 m hg
  exact wpAny_getItem_of (knd := intKind prog w) (k := k) (by simp [intKind, Value.isInt]) hD.mapOf ht (h _ _ (S.tok _))
theorem d_sub {value slice : Expr} {k m : Int} {t : Tok} {Q : Value → Shared → Prop} (S : St s₁ L b H s) (hm : (d, Bal prog w bs) ∈ H) (hg : getB bs k = some m) (h : ∀ s' t', St s₁ L b H s' → Q (.int m t') s')
    (hs : subscripted slice false (.ref d) (.int k t) = operate [.ref d, .int k t] (getItem (.ref d) (.int k t))) : wpAny (model prog w) A (subscriptTail value slice (.ref d) (.int k t)) Q E s := by
  obtain ⟨kvs, hD, hkv⟩ := Bal.dict (S.get hm)
  exact tail_any hD.typeIs slot_dict_getitem.lookup (d_getI S hm hg h) hs
/-! ### sorted -/
theorem c_sortedL {vs : List Value} {ns : List Int} {Q : Value → Shared → Prop} (S : St s₁ L b H s) (hl : IsAt s₁ H l vs) (hI : IntsAre vs ns) (h64 : vs.length < 64)
    (h : ∀ s' D vs' ns', IntsAre vs' ns' → ns'.Perm ns → ns'.Pairwise (· ≤ ·) → St s₁ L b ((D, Lst vs') :: H) s' → Q (.ref D) s') : wpAny (model prog w) A (call (.builtin "sorted") [.ref l]) Q E s := by
  refine sorted_ints (hl.isList S) hI h64 fun out ns' a1 a2 a3 => ?_
  obtain ⟨e, he⟩ := sortedAll_at s.heap vs out
  refine h _ _ out.toList ns' a1 a2 a3 (S.new (P := Lst out.toList) s.toks (fun _ _ => sortedAll_old) ?_ ⟨_, he, rfl, rfl, rfl, e, by simp [seqObj]⟩)
  exact Heap.get?_none_of_le (Nat.le_succ _)
theorem keys_ints {kvs : List (Int × Value)} : ∀ {vs : List Value} (i : Nat), vs.length + i = kvs.length → (∀ (j : Nat) (v : Value), vs[j]? = some v → ∃ k x, kvs[i + j]? = some (k, x) ∧ (intKind prog w).is k v = true) → IntsAre vs ((kvs.drop i).map (·.1))
  | [], i, hl, _ => by
    rw [List.drop_eq_nil_of_le (by simp at hl; omega)]; exact .nil
  | v :: vs, i, hl, h => by
    obtain ⟨k, x, hx, hk⟩ := h 0 v rfl
    obtain ⟨t, rfl⟩ := Value.isInt_shape hk
    have hi : i < kvs.length := by simp at hl; omega
    have hxe : kvs[i] = (k, x) := by
      have := hx
      rw [Nat.add_zero] at this
      rw [List.getElem?_eq_getElem hi] at this
      injection this
    rw [List.drop_eq_getElem_cons hi, List.map_cons, hxe]
    refine .cons _ _ (keys_ints (i + 1) (by simp at hl ⊢; omega) fun j v hj => ?_)
    have := h (j + 1) v (by simpa using hj)
    rwa [show i + (j + 1) = i + 1 + j by omega] at this
theorem c_sortedD {Q : Value → Shared → Prop} (S : St s₁ L b H s) (hm : (d, Bal prog w bs) ∈ H) (lo : (d == sysModules) = false) (hh : A.handled = none) (h64 : bs.length < 64)
    (h : ∀ s' D vs' ns', IntsAre vs' ns' → ns'.Perm (bs.map (·.1)) → ns'.Pairwise (· ≤ ·) → St s₁ L b ((D, Lst vs') :: H) s' → Q (.ref D) s') : wpAny (model prog w) A (call (.builtin "sorted") [.ref d]) Q E s := by
  obtain ⟨kvs, hD, hkv⟩ := Bal.dict (S.get hm)
  obtain ⟨ep, hat⟩ := hD.dictAt
  have hlen : kvs.length < 64 := by rw [hkv.length]; exact h64
  refine call_function_entry kind_sorted plain_sorted entry_sorted (args_sorted1 _) ?_
  unfold Builtin.«sorted»
  refine wpAny_bind (m := checkCount "sorted" 1 1 _) (wpAny_pure ?_)
  refine wpAny_bind (kdu_collect (A := A.in1) (kdl_dict (knd := intKind prog w) (kvs := kvs) (ep := ep) lo) hh hat (by rw [sizeLine_eq]; omega) fun h' tk acc hk hacc => ?_)
  have S1 := S.ext tk hk
  have hl : acc.toList.length = kvs.length := by rw [Array.length_toList]; exact hacc.1
  have hI : IntsAre acc.toList ((kvs.drop 0).map (·.1)) := keys_ints (prog := prog) (w := w) 0 (by simpa using hl) fun j v e => by
    rw [Nat.zero_add]; exact hacc.2 j v (by rw [← Array.getElem?_toList]; exact e)
  rw [List.drop_zero] at hI
  refine wpAny_bind (wpAny_newList ?_ (by rw [hl, sizeLine_eq]; omega))
  have S2 : St s₁ L b ((h'.objs.size, Lst acc.toList) :: H) { s with heap := h'.push (seqObj "list" acc.toList.toArray 0), toks := tk } := S1.push (o := seqObj "list" acc.toList.toArray 0) (P := Lst acc.toList) ⟨rfl, rfl, rfl, 0, rfl⟩ tk
  have hoL : (h'.push (seqObj "list" acc.toList.toArray 0)).get? h'.objs.size = some (seqObj "list" acc.toList.toArray 0) := Heap.get?_push_size _ rfl
  refine wpAny_bind (wpAny_holding (wpAny_call_entry slot_list_sort ⟨_, hoL, rfl⟩ entry_list_sort (list_sort_tree (n := 0) hoL hI (by rw [hl]; exact hlen) fun out ns' a1 a2 a3 => ⟨_, rfl, ?_⟩) (args_list_sort _)))
  refine wpAny_pure ⟨_, rfl, ?_⟩
  obtain ⟨e, he⟩ := sortedHeap_at (out := out) hoL
  refine h _ _ out.toList ns' a1 (by rw [← hkv.keys]; exact a2) a3 (S2.step (P' := Lst out.toList) tk ⟨_, he, rfl, rfl, rfl, e, by simp [seqObj]⟩ fun c o hc e' => ?_)
  rw [sortedHeap_old hc (Heap.lt_size e')]; exact e'
end
end Mine
open PySem.SeqAt
namespace Mine
/-! ### a list of two for clauses -/
theorem compTurn2_0 (elt t0 i0 t1 i1 : Expr) (scope : Scope) (pos : Pos) (it acc : Value) (env : Env) :
    compTurn (.ListComp elt [⟨t0, i0, [], 0⟩, ⟨t1, i1, [], 0⟩] scope pos) 0 it acc env = (standAt i0.pos >>= fun _ => pyNext it >>= fun r => match r with
      | none => pure (.done .next)
      | some v => letOwnedTupleGo t0 it v >>= fun _ => assign t0 env v >>= fun _ =>
        eval i1 env >>= fun x => standAt i1.pos >>= fun _ => foldedSetIterable i1 env x >>= fun x => holding [x] (pyIter x) >>= fun it1 =>
          runOwn (.compStart (.ListComp elt [⟨t0, i0, [], 0⟩, ⟨t1, i1, [], 0⟩] scope pos) 1 it1 acc env) env >>= fun _ =>
          again (.compLoop (.ListComp elt [⟨t0, i0, [], 0⟩, ⟨t1, i1, [], 0⟩] scope pos) 0 it acc env)) := by rfl
theorem compTurn2_1 (elt t0 i0 t1 i1 : Expr) (scope : Scope) (pos : Pos) (it acc : Value) (env : Env) :
    compTurn (.ListComp elt [⟨t0, i0, [], 0⟩, ⟨t1, i1, [], 0⟩] scope pos) 1 it acc env = (standAt i1.pos >>= fun _ => pyNext it >>= fun r => match r with
      | none => pure (.done .next)
      | some v => letOwnedTupleGo t1 it v >>= fun _ => assign t1 env v >>= fun _ =>
        (eval elt env >>= fun x => call (.builtin "list.append") [acc, x] >>= fun _ => pure ()) >>= fun _ =>
          again (.compLoop (.ListComp elt [⟨t0, i0, [], 0⟩, ⟨t1, i1, [], 0⟩] scope pos) 1 it acc env)) := by rfl
section
variable {prog : Program} {w : World} {A : Around} {E : Value → Shared → Prop} {R : Result → Shared → Prop} {s s₁ : Shared} {env : Env} {elt t0 i0 t1 i1 : Expr} {scope : Scope} {pos : Pos} {it acc : Value}
theorem code2_0 (I : Nat → Shared → Prop)
    (turn : ∀ n s, I n s → wpAny (model prog w) A (pyNext it) (fun r s₁ => match r with
      | none => R (.ok .next) s₁
      | some v => wpAny (model prog w) A (assign t0 env v) (fun _ s₂ => wpAny (model prog w) A (eval i1 env) (fun x s₃ => wpAny (model prog w) A (pyIter x) (fun it1 s₄ =>
          codeAny (model prog w) A (.compStart (.ListComp elt [⟨t0, i0, [], 0⟩, ⟨t1, i1, [], 0⟩] scope pos) 1 it1 acc env) (fun r s₅ => ∃ f, r = .ok f ∧ ∃ m, m < n ∧ I m s₅) s₄)
          (fun _ _ => False) s₃) (fun _ _ => False) s₂) (fun _ _ => False) s₁) (fun _ _ => False) s)
    (n : Nat) (h : I n s) (ht : ∀ v, letOwnedTupleGo t0 it v = pure ()) (hs : ∀ x, foldedSetIterable i1 env x = pure x) :
    codeAny (model prog w) A (.compLoop (.ListComp elt [⟨t0, i0, [], 0⟩, ⟨t1, i1, [], 0⟩] scope pos) 0 it acc env) R s := by
  refine codeAny_loop rfl I (fun n s hI => ?_) n h
  show wpAny _ _ ((compTurn (.ListComp elt [⟨t0, i0, [], 0⟩, ⟨t1, i1, [], 0⟩] scope pos) 0 it acc env).onRaise (fun x => do noteFrame x env; theTreesLotGoes x)) _ _ s
  refine wpAny_noted ?_
  rw [compTurn2_0]
  refine wpAny_bind (wpAny_standAt (wpAny_bind (wpAny_mono (turn n s hI) (fun r s₁ h₁ => ?_) fun _ _ h' => h'.elim)))
  cases r with
  | none => exact wpAny_pure h₁
  | some v =>
    refine wpAny_bind (wpAny_of_eq (ht v) ?_)
    refine wpAny_bind (wpAny_mono h₁ (fun _ s₂ h₂ => ?_) fun _ _ h' => h'.elim)
    refine wpAny_bind (wpAny_mono h₂ (fun x s₃ h₃ => ?_) fun _ _ h' => h'.elim)
    refine wpAny_bind (wpAny_standAt (wpAny_bind (wpAny_of_eq (hs x) ?_)))
    refine wpAny_bind (wpAny_holding (wpAny_mono h₃ (fun it1 s₄ h₄ => ?_) fun _ _ h' => h'.elim))
    refine wpAny_bind (wpAny_runOwn (codeAny_mono h₄ fun r s₅ h₅ => ?_))
    obtain ⟨f, rfl, h₅⟩ := h₅
    exact wpAny_pure ⟨rfl, h₅⟩
theorem code2_1 (I : Nat → Shared → Prop)
    (turn : ∀ n s, I n s → wpAny (model prog w) A (pyNext it) (fun r s₁ => match r with
      | none => R (.ok .next) s₁
      | some v => wpAny (model prog w) A (assign t1 env v) (fun _ s₂ => wpAny (model prog w) A (eval elt env) (fun x s₃ => wpAny (model prog w) A (call (.builtin "list.append") [acc, x]) (fun _ s₄ => ∃ m, m < n ∧ I m s₄)
          (fun _ _ => False) s₃) (fun _ _ => False) s₂) (fun _ _ => False) s₁) (fun _ _ => False) s)
    (n : Nat) (h : I n s) (ht : ∀ v, letOwnedTupleGo t1 it v = pure ()) :
    codeAny (model prog w) A (.compLoop (.ListComp elt [⟨t0, i0, [], 0⟩, ⟨t1, i1, [], 0⟩] scope pos) 1 it acc env) R s := by
  refine codeAny_loop rfl I (fun n s hI => ?_) n h
  show wpAny _ _ ((compTurn (.ListComp elt [⟨t0, i0, [], 0⟩, ⟨t1, i1, [], 0⟩] scope pos) 1 it acc env).onRaise (fun x => do noteFrame x env; theTreesLotGoes x)) _ _ s
  refine wpAny_noted ?_
  rw [compTurn2_1]
  refine wpAny_bind (wpAny_standAt (wpAny_bind (wpAny_mono (turn n s hI) (fun r s₁ h₁ => ?_) fun _ _ h' => h'.elim)))
  cases r with
  | none => exact wpAny_pure h₁
  | some v =>
    refine wpAny_bind (wpAny_of_eq (ht v) ?_)
    exact wpAny_bind (wpAny_mono h₁ (fun _ s₂ h₂ => wpAny_bind (wpAny_bind (wpAny_mono h₂ (fun x s₃ h₃ => wpAny_bind (wpAny_mono h₃
      (fun _ s₄ h₄ => wpAny_pure (wpAny_pure ⟨rfl, h₄⟩)) fun _ _ h' => h'.elim)) fun _ _ h' => h'.elim))) fun _ _ h' => h'.elim)
theorem start2_1 (h0 : codeAny (model prog w) A (.compLoop (.ListComp elt [⟨t0, i0, [], 0⟩, ⟨t1, i1, [], 0⟩] scope pos) 1 it acc env) R s)
    (h : wpAny (model prog w) A (pyIter it) (fun it' s' => codeAny (model prog w) A (.compLoop (.ListComp elt [⟨t0, i0, [], 0⟩, ⟨t1, i1, [], 0⟩] scope pos) 1 it' acc env) R s') (fun _ _ => False) s) :
    codeAny (model prog w) A (.compStart (.ListComp elt [⟨t0, i0, [], 0⟩, ⟨t1, i1, [], 0⟩] scope pos) 1 it acc env) R s := by
  refine codeAny_of_tree ?_
  show wpAny _ _ ((compStart (.ListComp elt [⟨t0, i0, [], 0⟩, ⟨t1, i1, [], 0⟩] scope pos) 1 it acc env).onRaise (fun x => do noteFrame x env; standAt theWindowsPlace)) _ _ s
  refine wpAny_notedAt ?_
  unfold compStart
  show wpAny _ _ (ask >>= _) _ _ s
  refine wpAny_bind (wpAny_askSetting (wpAny_ite ?_))
  split
  · first
      | exact wpAny_bind (wpAny_pure (wpAny_pure (And.intro rfl h0)))
      | exact wpAny_pure (And.intro rfl h0)
  · first
      | exact wpAny_bind (wpAny_rule (wpAny_bind (wpAny_standAt (wpAny_bind (wpAny_mono h (fun it' s' h' => wpAny_pure (And.intro rfl h')) fun _ _ x => x.elim)))))
      | (refine wpAny_bind (wpAny_rule ?_); show wpAny _ _ (standAt i1.pos >>= _) _ _ s; exact wpAny_bind (wpAny_standAt (wpAny_bind (wpAny_mono h (fun it' s' h' => wpAny_pure (And.intro rfl h')) fun _ _ x => x.elim))))
end
end Mine
open PySem.SeqAt
namespace Mine
section
variable {prog : Program} {w : World} {A : Around} {E : Value → Shared → Prop} {s s₁ : Shared} {L l : Addr} {b : List (Str × Value)} {H H' : List Ent} {env : Env} {x y : Str} {px py pos : Pos} {i0 i1 : Expr} {scope : Scope} {cl : List (Str × Addr)} {Q : Value → Shared → Prop} {px2 : Pos}
/-- where the source of a list of two for clauses is known; its element is the first clause's name -/
def CompAt2 (prog : Program) (w : World) (A : Around) (x : Str) (px2 : Pos) (px pos : Pos) (i0 : Expr) (y : Str) (py : Pos) (i1 : Expr) (scope : Scope) (env : Env) (cl : List (Str × Addr)) (Q : Value → Shared → Prop) (E : Value → Shared → Prop) (xv : Value) (s : Shared) : Prop :=
  wpAny (model prog w) A (pyIter xv) (fun it s₂ => wpAny (model prog w) A (newList []) (fun acc s₃ =>
      wpAny (model prog w) A (newFunctionEnv scope env.globals cl [] env.qual none .none (some env)) (fun cenv s₄ =>
        codeAny (model prog w) A (.compStart (.ListComp (.Name x px2) [⟨.Name x px, i0, [], 0⟩, ⟨.Name y py, i1, [], 0⟩] scope pos) 0 it acc { cenv with scope := relabel scope env }) (compPost (model prog w) A E none Q acc cenv.locals) s₄) E s₃) E s₂) E s
theorem ev_comp2 (hclos : closureFor scope env = pure cl) (hkind : scope.kind = .function) (hnames : ∀ y ∈ scope.names, y.2 = .local → scope.names.lookup y.1 = some .local)
    (h : wpAny (model prog w) A (eval i0 env) (fun xv s₁ => CompAt2 prog w A x px2 px pos i0 y py i1 scope env cl Q E xv s₁) E s) (hs : ∀ x, foldedSetIterable i0 env x = pure x) :
    wpAny (model prog w) A (eval (.ListComp (.Name x px2) [⟨.Name x px, i0, [], 0⟩, ⟨.Name y py, i1, [], 0⟩] scope pos) env) Q E s := by
  rw [eval_ListComp]
  exact wpAny_comprehension_free (use := none) rfl hs hclos hkind hnames h
theorem comp2_list {vs : List Value} (J : Nat → List Value → List Ent → Prop) (S : St s₁ L b H s) (h0 : J 0 [] H) (hl : (l, Lst vs) ∈ H) (hJ : ∀ i ys H, J i ys H → (l, Lst vs) ∈ H) (hh : A.handled = none)
    (hcell : ∀ y ∈ scope.names, y.2 ≠ .cell) (hkind : scope.kind = .function) (hx : scope.names.lookup x = some .local) (hy : scope.names.lookup y = some .local) (hxy : x ≠ y) (hdx : (x == ("__debug__" : Str)) = false)
    (hs1 : ∀ C x, foldedSetIterable i1 (compEnvC scope cl C env) x = pure x)
    (turn : ∀ C D I i v ys H' s', vs[i]? = some v → J i ys H' → St s₁ C [(x, v)] ((D, Lst ys) :: (I, LI l (i + 1)) :: (L, Frm b) :: H') s' →
      wpAny (model prog w) A (eval i1 (compEnvC scope cl C env)) (fun xv s₃ => ∃ r m, xv = .ref r ∧ 0 ≤ m ∧ m < 2 ^ 62 ∧ ys.length + m.toNat ≤ sizeLine ∧ St s₁ C [(x, v)] ((r, Rng 0 m 1) :: (D, Lst ys) :: (I, LI l (i + 1)) :: (L, Frm b) :: H') s₃ ∧
        J (i + 1) (ys ++ List.replicate m.toNat v) H') (fun _ _ => False) s')
    (done : ∀ D ys H' s', J vs.length ys H' → St s₁ L b ((D, Lst ys) :: H') s' → Q (.ref D) s') : CompAt2 prog w A x px2 px pos i0 y py i1 scope env cl Q E (.ref l) s := by
  refine it_list S (Or.inl hl) fun s' I hne S' => ?_
  refine new_list S' (by simp [sizeLine_eq]) fun s₃ D S₃ => ?_
  refine wpAny_newFunctionEnv hcell (by intro y hy; simp at hy) (fun h₁ hns₁ hsb₁ => ?_) hkind
  have S₄ := S₃.enter (b' := []) (s₃.toks + ([] : List (Str × Value)).length) hns₁ (fun c o e => hsb₁.extBut c o (Nat.ne_of_lt (Heap.lt_size e)) (Heap.get?_push_of_some _ e)) (fun x v e => by simp [lk] at e)
  generalize hC : s₃.heap.objs.size = C at S₄ ⊢
  have S₅ : St s₁ C [] ((D, Lst []) :: (I, LI l 0) :: (L, Frm b) :: H) _ := S₄.perm (by
    refine List.Perm.trans ?_ (List.perm_middle (l₁ := [(D, Lst []), (I, LI l 0)]) (l₂ := H) (a := (L, Frm b)))
    exact List.Perm.refl _)
  have W := Itr.list (prog := prog) (w := w) (A := A) (I := I) vs hh hne
  have hR : ∀ {C' : Addr} {bC : List (Str × Value)} {X : List Ent} {i : Nat} {ys : List Value} {H' : List Ent} {s : Shared}, J i ys H' → St s₁ C' bC (X ++ ((I, LI l i) :: (L, Frm b) :: H')) s → s.heap.IsList l vs.toArray := fun hj S => Lst.isList (S.get (by simp [hJ _ _ _ hj]))
  have loop : ∀ s₆, St s₁ C [] ((D, Lst []) :: (I, LI l 0) :: (L, Frm b) :: H) s₆ → codeAny (model prog w) A (.compLoop (.ListComp (.Name x px2) [⟨.Name x px, i0, [], 0⟩, ⟨.Name y py, i1, [], 0⟩] scope pos) 0 (.ref I) (.ref D) (compEnvC scope cl C env)) (compPost (model prog w) A E none Q (.ref D) C) s₆ := by
    intro s₆ S₆
    refine code2_0 (fun k s' => ∃ bC ys H' i, St s₁ C bC ((D, Lst ys) :: (I, LI l i) :: (L, Frm b) :: H') s' ∧ J i ys H' ∧ i ≤ vs.length ∧ k = vs.length + 1 - i) ?_ (vs.length + 1) ⟨[], [], H, 0, S₆, h0, Nat.zero_le _, rfl⟩ (by intro _; rfl) (hs1 C)
    rintro k s' ⟨bC', ys, H', i, S', hj, hi, rfl⟩
    have hR' : s'.heap.IsList l vs.toArray := hR (X := [(D, Lst ys)]) hj S'
    have S₀ := S'.perm (List.Perm.swap (I, LI l i) (D, Lst ys) ((L, Frm b) :: H')).symm
    by_cases hlt : i < vs.length
    · refine W.item i _ _ _ hlt (getHead S₀) hR' fun v h₁ tk₁ hV hP₁ hk₁ => ?_
      have S₁ := (S₀.step tk₁ hP₁ hk₁).perm (List.Perm.swap (I, LI l (i + 1)) (D, Lst ys) ((L, Frm b) :: H'))
      refine wpAny_assign_Name (st_L S₁ (env := compEnvC scope cl C env) (lookup_relabel_local hx) (fun s₂ S₂ => ?_) rfl hkind)
      have S₃ := S₂.bind (b' := [(x, v)]) (Sub.cons (by rw [lk_up]; simp) (Sub.nil _))
      refine wpAny_mono (turn C D I i v ys H' s₂ hV hj S₃) (fun xv s₃ h₃ => ?_) fun _ _ e => e.elim
      obtain ⟨r, m, rfl, hm0, hm1, hms, S₄, hj₄⟩ := h₃
      refine it_range1 S₄ (by decide) (by decide) (by omega) hm1 fun s₅ I2 S₅ => ?_
      have W2 := Itr.range (prog := prog) (w := w) (A := A) (I := I2) 0 1 (m - 0).toNat hh
      have loop2 : ∀ s₆, St s₁ C [(x, v)] ((I2, RI (0 + ((0 : Nat) : Int) * 1) (((m - 0).toNat : Int) - ((0 : Nat) : Int)) 1) :: (D, Lst ys) :: (I, LI l (i + 1)) :: (L, Frm b) :: H') s₆ →
          codeAny (model prog w) A (.compLoop (.ListComp (.Name x px2) [⟨.Name x px, i0, [], 0⟩, ⟨.Name y py, i1, [], 0⟩] scope pos) 1 (.ref I2) (.ref D) (compEnvC scope cl C env)) (fun r s₅ => ∃ f, r = .ok f ∧ ∃ k', k' < vs.length + 1 - i ∧ ∃ bC ys H' i, St s₁ C bC ((D, Lst ys) :: (I, LI l i) :: (L, Frm b) :: H') s₅ ∧ J i ys H' ∧ i ≤ vs.length ∧ k' = vs.length + 1 - i) s₆ := by
        intro s₆ S₆
        refine code2_1 (fun k s' => ∃ (bC : List (Str × Value)) (j : Nat), St s₁ C bC ((I2, RI (0 + (j : Int) * 1) (((m - 0).toNat : Int) - (j : Int)) 1) :: (D, Lst (ys ++ List.replicate j v)) :: (I, LI l (i + 1)) :: (L, Frm b) :: H') s' ∧ lk bC x = some v ∧ j ≤ (m - 0).toNat ∧ k = (m - 0).toNat + 1 - j) ?_ ((m - 0).toNat + 1) ⟨[(x, v)], 0, by simpa using S₆, by simp [lk], Nat.zero_le _, rfl⟩ (by intro _; rfl)
        rintro k s' ⟨bC, j, S', hlk, hj', rfl⟩
        by_cases hlt2 : j < (m - 0).toNat
        · refine W2.item j _ _ _ hlt2 (getHead S') trivial fun v2 h₁ tk₁ hV2 hP₁ hk₁ => ?_
          have S₁ := S'.step tk₁ hP₁ hk₁
          refine wpAny_assign_Name (st_L S₁ (env := compEnvC scope cl C env) (lookup_relabel_local hy) (fun s₂ S₂ => ?_) rfl hkind)
          have hlk2 : lk (up y v2 bC) x = some v := by rw [lk_up, if_neg hxy]; exact hlk
          refine nm_L S₂ (env := compEnvC scope cl C env) (lookup_relabel_local hx) hlk2 ?_ rfl hkind hdx
          refine l_append S₂ (.tail _ (.head _)) (by simp; omega) fun s₅ S₅ => ?_
          refine ⟨(m - 0).toNat + 1 - (j + 1), by omega, _, j + 1, ?_, hlk2, hlt2, rfl⟩
          rw [List.append_assoc, ← List.replicate_succ'] at S₅
          exact S₅
        · have hjn : j = (m - 0).toNat := by omega
          subst hjn
          refine W2.done _ _ _ (getHead S') trivial fun h₁ tk₁ hk₁ => ?_
          have S₁ := S'.gone tk₁ hk₁
          refine ⟨.next, rfl, vs.length + 1 - (i + 1), by omega, bC, ys ++ List.replicate m.toNat v, H', i + 1, ?_, hj₄, hlt, rfl⟩
          simpa using S₁
      exact start2_1 (loop2 _ S₅) (W2.self 0 _ _ _ (getHead S₅) trivial (loop2 _ S₅))
    · have hin : i = vs.length := by omega
      subst hin
      refine W.done _ _ _ (getHead S₀) hR' fun h₁ tk₁ hk₁ => ?_
      have S' := S₀.gone tk₁ hk₁
      have S0 : St s₁ C bC' ((L, Frm b) :: (D, Lst ys) :: H') { s' with heap := h₁, toks := tk₁ } := S'.perm (List.Perm.swap (D, Lst ys) (L, Frm b) H')
      have fC := S0.ns
      have hb := S0.back
      have Sc : St s₁ L b ((C, Frm []) :: (D, Lst ys) :: H') { s' with heap := h₁, toks := tk₁ } := by
        refine ⟨hb.ns, hb.keep, hb.fr, ?_, ?_, ?_, hb.eq⟩
        · intro p hp
          rcases List.mem_cons.mp hp with rfl | hp
          · obtain ⟨o, ho, h⟩ := fC; exact ⟨o, ho, h.weak (Sub.nil _)⟩
          · exact hb.nw p hp
        · intro p hp
          rcases List.mem_cons.mp hp with rfl | hp
          · exact ⟨Ne.symm (S0.fresh (L, Frm b) (List.mem_cons_self ..)).1, S0.fr⟩
          · exact hb.fresh p hp
        · exact List.nodup_cons.mpr ⟨fun hm => by
            obtain ⟨q, hq, e⟩ := List.mem_map.mp hm
            exact (S0.fresh q (List.mem_cons_of_mem _ hq)).1 e, hb.nd⟩
      obtain ⟨o, ho, es, ep, hd, hk, hf⟩ := getHead Sc
      exact ⟨nsFind es, ⟨o, es, ep, ho, hd, hk, fun _ => rfl⟩, fun h' hs => done D ys H' _ hj (Sc.gone _ fun c o hc e => hs.extBut c o hc e)⟩
  have go := loop _ S₅
  exact codeAny_compStart_list go (W.self 0 _ _ _ (getHead (S₅.perm (List.Perm.swap (I, LI l 0) (D, Lst []) ((L, Frm b) :: H)).symm)) (hR (X := [(D, Lst [])]) h0 S₅) go)
end
end Mine
open PySem.SeqAt
namespace Mine
section
variable {prog : Program} {w : World} {A : Around} {E : Value → Shared → Prop} {s s₁ : Shared} {L l f : Addr} {b b' : List (Str × Value)} {H H' : List Ent} {Q : Value → Shared → Prop} {fd : FuncData} {body : List Stmt} {binds : List (Str × Value)}
theorem lookup_of_mem_nodup {cs : List (Str × Addr)} (hn : (cs.map (·.1)).Nodup) {n : Str} {c : Addr} (h : (n, c) ∈ cs) : cs.lookup n = some c := by
  induction cs with
  | nil => simp at h
  | cons p r ih =>
    obtain ⟨n', c'⟩ := p
    simp only [List.map_cons, List.nodup_cons] at hn
    rcases List.mem_cons.mp h with e | h2
    · cases e; simp
    · have hne : n ≠ n' := by rintro rfl; exact hn.1 (List.mem_map.mpr ⟨(n, c), h2, rfl⟩)
      rw [List.lookup_cons]
      have : (n == n') = false := by simp [hne]
      rw [this]; exact ih hn.2 h2
theorem St.enterC (S : St s₁ L b H s) {s' : Shared} {L' : Addr} {m cm : Str → Option Value} {cs : List (Str × Addr)} (x : InCallC s L' m cs cm s') (hL : L' = s.heap.objs.size) (hcn : (cs.map (·.1)).Nodup) (hb : ∀ y v, lk b' y = some v → m y = some v) :
    St s₁ L' b' (cs.map (fun p => (p.2, Cel (cm p.1))) ++ (L, Frm b) :: H) s' where
  ns := Frm.of_Ns x.toInCall.ns hb
  keep := fun a o e => x.toInCall.keep _ _ (S.keep a o e)
  fr := by rw [hL]; exact S.size.1
  nw := fun p hp => by
    rcases List.mem_append.mp hp with hp | hp
    · obtain ⟨⟨n, c⟩, hm, rfl⟩ := List.mem_map.mp hp
      obtain ⟨o, ho, hd⟩ := x.cell n c (lookup_of_mem_nodup hcn hm)
      exact ⟨o, ho, hd⟩
    · rcases List.mem_cons.mp hp with rfl | hp
      · obtain ⟨o, ho, h⟩ := S.ns; exact ⟨o, x.toInCall.keep _ _ ho, h⟩
      · obtain ⟨o, ho, h⟩ := S.nw p hp; exact ⟨o, x.toInCall.keep _ _ ho, h⟩
  fresh := fun p hp => by
    rcases List.mem_append.mp hp with hp | hp
    · obtain ⟨⟨n, c⟩, hm, rfl⟩ := List.mem_map.mp hp
      have := x.above n c hm
      refine ⟨Nat.ne_of_gt this, ?_⟩
      cases e : s₁.heap.get? c with
      | none => rfl
      | some o =>
        have := Heap.lt_size (S.keep _ _ e)
        have h2 := x.above n c hm
        rw [hL] at h2
        exact absurd (Nat.lt_trans this h2) (Nat.lt_irrefl _)
    · rcases List.mem_cons.mp hp with rfl | hp
      · exact ⟨by rw [hL]; exact Ne.symm S.size.2.1, S.fr⟩
      · exact ⟨by rw [hL]; exact S.size.2.2 p hp, (S.fresh p hp).2⟩
  nd := by
    rw [List.map_append, List.map_map]
    refine List.nodup_append.mpr ⟨?_, ?_, ?_⟩
    · have := x.apart
      rw [List.Nodup, List.pairwise_map]
      exact this.imp fun h => h
    · refine List.nodup_cons.mpr ⟨fun hm => ?_, S.nd⟩
      obtain ⟨q, hq, e⟩ := List.mem_map.mp hm
      exact (S.fresh q hq).1 e
    · intro a ha c hc e
      subst e
      obtain ⟨⟨n, c⟩, hm, rfl⟩ := List.mem_map.mp ha
      have h2 := x.above n c hm
      rw [hL] at h2
      simp only [Function.comp] at hc
      rcases List.mem_cons.mp hc with e | hc
      · obtain ⟨o, ho, _⟩ := S.ns
        have := Heap.lt_size ho
        simp only at e
        rw [← e] at this
        exact absurd (Nat.lt_trans this h2) (Nat.lt_irrefl _)
      · obtain ⟨q, hq, e⟩ := List.mem_map.mp hc
        obtain ⟨o, ho, _⟩ := S.nw q hq
        have := Heap.lt_size ho
        rw [e] at this
        exact absurd (Nat.lt_trans this h2) (Nat.lt_irrefl _)
  eq := by
    obtain ⟨h, tk, e⟩ := x.toInCall.same
    obtain ⟨h', tk', e'⟩ := S.eq
    exact ⟨h, tk, by rw [e, e']⟩
theorem call_fnC {K : Frag} {oc : Value} {od : Option Addr} {osl : Array (Option Value)} {args : List Value} (ents : Addr → List Ent)
    (S : St s₁ L b H s) (X : K.In s₁.heap) (hlim : s₁.heap.NoLimit) (ho : K.lookup f = some ⟨oc, od, .func fd, osl⟩) (hcd : codeIn K fd.code fd.qualname = true) (hroom : A.depth < recursionLimit)
    (hbody : fd.body = .stmts body) (hbind : bindArgs fd ⟨args, []⟩ = pure binds) (hclo : fd.closure = [])
    (hkind : ∀ n, (binds.all fun x => decide (fd.scope.names.lookup x.1 = some .local) || (decide (fd.scope.names.lookup x.1 = some .cell) && ((cellsFrom n fd.scope.names []).lookup x.1).isSome)) = true)
    (cns : List Str) (hcs : ∀ n, (cellsFrom n fd.scope.names []).map (·.1) = cns) (hcn : cns.Nodup)
    (hb : ∀ L' y v, lk b' y = some v → bindL (callEnvC fd L' f).kindOf binds (fun _ => none) y = some v)
    (he : ∀ L', (cellsFrom (L' + 1) fd.scope.names []).map (fun p => (p.2, Cel (bindC (callEnvC fd L' f).kindOf binds (fun _ => none) p.1))) = ents L')
    (h : ∀ s' L', St s₁ L' b' (ents L' ++ (L, Frm b) :: H) s' →
      wpAny (model prog w) (A.deeper (callEnvC fd L' f)) (execs body (callEnvC fd L' f)) (fun fl s'' => Q (match fl with | .ret v => v | _ => .none) s'') (fun _ _ => False) s')
    (hco : fd.scope.isCoroutine = false) (hgen : fd.scope.isGenerator = false) (hk : fd.scope.kind = .function) : wpAny (model prog w) A (call (.ref f) args) Q E s := by
  have X' := X.keeps S.keep
  refine wpAny_call (codeAny_call_cells hroom (X' _ _ ho) rfl (hlim.keeps S.keep) (codeRec_of X' hcd) hbody hbind hclo (fun x hx => ?_) (fun s₂ x => ?_) hco hgen hk)
  · have := List.all_eq_true.mp (hkind (s.heap.objs.size + 1)) x hx
    simpa using this
  have S' := S.enterC (b' := b') x rfl (by rw [show (callEnvC fd s.heap.objs.size f).cells = cellsFrom (s.heap.objs.size + 1) fd.scope.names [] from rfl, hcs]; exact hcn) (hb _)
  refine wpAny_mono (h _ _ ?_) (fun _ _ q => q) (fun _ _ q => q.elim)
  rw [← he]
  exact S'
end
end Mine
namespace Mine
def val (bs : List (Int × Int)) (n : Int) : Int := (getB bs n).getD 0
def spread (bs : List (Int × Int)) (sg : Int) (ks : List Int) : List Int := ks.flatMap fun n => List.replicate (max 0 (sg * val bs n)).toNat n
theorem getB_mem {bs : List (Int × Int)} {n : Int} (h : n ∈ bs.map (·.1)) : getB bs n = some (val bs n) := by
  unfold val
  cases e : getB bs n with
  | some m => rfl
  | none =>
    unfold getB at e
    simp only [Option.map_eq_none_iff, List.find?_eq_none] at e
    obtain ⟨p, hp, rfl⟩ := List.mem_map.mp h
    exact absurd (by simp) (e p hp)
theorem val_none {bs : List (Int × Int)} {n : Int} (h : n ∉ bs.map (·.1)) : val bs n = 0 := by
  unfold val getB
  have : bs.find? (fun p => p.1 = n) = none := by
    rw [List.find?_eq_none]
    intro p hp e
    exact h (List.mem_map.mpr ⟨p, hp, by simpa using e⟩)
  rw [this]; rfl
theorem count_flat (f : Int → Nat) (n : Int) : ∀ ks : List Int, ks.Nodup → (ks.flatMap fun k => List.replicate (f k) k).count n = if n ∈ ks then f n else 0
  | [], _ => by simp
  | k :: ks, h => by
    have hk := List.nodup_cons.mp h
    rw [List.flatMap_cons, List.count_append, count_flat f n ks hk.2, List.count_replicate]
    by_cases e : n = k
    · subst e
      simp [hk.1]
    · have : (k == n) = false := by simp [Ne.symm e]
      simp [e, this]
theorem sorted_flat (f : Int → Nat) : ∀ ks : List Int, ks.Pairwise (· ≤ ·) → (ks.flatMap fun k => List.replicate (f k) k).Pairwise (· ≤ ·)
  | [], _ => by simp
  | k :: ks, h => by
    have hk := List.pairwise_cons.mp h
    rw [List.flatMap_cons]
    refine List.pairwise_append.mpr ⟨?_, sorted_flat f ks hk.2, ?_⟩
    · rw [List.pairwise_replicate]; exact Or.inr (Int.le_refl _)
    · intro a ha c hc
      rw [List.eq_of_mem_replicate ha]
      obtain ⟨k', hk', hc'⟩ := List.mem_flatMap.mp hc
      rw [List.eq_of_mem_replicate hc']
      exact hk.1 k' hk'
theorem sorted_spread {bs : List (Int × Int)} {sg : Int} {ks mn ns : List Int} (hn : (bs.map (·.1)).Nodup) (hk : ks.Perm (bs.map (·.1))) (hks : ks.Pairwise (· ≤ ·)) (hp : ns.Perm mn) (hs : ns.Pairwise (· ≤ ·))
    (hc : ∀ n, mn.count n = (max 0 (sg * val bs n)).toNat) : ns = spread bs sg ks := by
  refine List.Perm.eq_of_pairwise (le := (· ≤ ·)) (fun a c _ _ h1 h2 => Int.le_antisymm h1 h2) hs (sorted_flat _ ks hks) ?_
  rw [List.perm_iff_count]
  intro n
  rw [hp.count_eq, hc]
  unfold spread
  rw [count_flat _ _ _ (hk.nodup_iff.mpr hn)]
  by_cases h : n ∈ ks
  · simp [h]
  · have h' : n ∉ bs.map (·.1) := fun q => h (hk.mem_iff.mpr q)
    rw [if_neg h, val_none h']; simp
theorem uldD_mem (e : Value → Value → Bool) : ∀ (r act ms : List Value), (∀ v ∈ (uldD e r act ms).1, v ∈ ms ∨ v ∈ r) ∧ (∀ v ∈ (uldD e r act ms).2, v ∈ act) ∧ (uldD e r act ms).1.length ≤ ms.length + r.length ∧ (uldD e r act ms).2.length ≤ act.length
  | [], act, ms => ⟨fun v h => Or.inl h, fun v h => h, by simp [uldD], Nat.le_refl _⟩
  | x :: r, act, ms => by
    rw [uldD]
    split
    · obtain ⟨h1, h2, h3, h4⟩ := uldD_mem e r (act.eraseP fun y => e y x) ms
      refine ⟨fun v hv => (h1 v hv).imp id (List.mem_cons_of_mem _), fun v hv => List.mem_of_mem_eraseP (h2 v hv), by simp; omega, ?_⟩
      exact Nat.le_trans h4 List.length_eraseP_le
    · obtain ⟨h1, h2, h3, h4⟩ := uldD_mem e r act (ms ++ [x])
      refine ⟨fun v hv => ?_, h2, by simp at h3 ⊢; omega, h4⟩
      rcases h1 v hv with h | h
      · rcases List.mem_append.mp h with h | h
        · exact Or.inl h
        · rw [List.mem_singleton.mp h]; exact Or.inr (List.mem_cons_self ..)
      · exact Or.inr (List.mem_cons_of_mem _ h)
section
variable {prog : Program} {w : World} {s s₁ : Shared} {L d : Addr} {b : List (Str × Value)} {H : List Ent} {bs : List (Int × Int)}
theorem Bal.nodup (h : ∃ o, s.heap.get? d = some o ∧ Bal prog w bs o) : (bs.map (·.1)).Nodup := by
  obtain ⟨kvs, hD, hkv⟩ := Bal.dict h
  obtain ⟨o, es, ep, _, _, _, _, _, hn⟩ := hD
  rw [← hkv.keys]; exact hn
end
end Mine
namespace Mine
abbrev Pr := Addr × Int
def vl (p : Pr) : Value := .ref p.1
def cp (n : Int) (l : List Pr) : Nat := (l.map (·.2)).count n
theorem cp_cons (n : Int) (x : Pr) (l : List Pr) : cp n (x :: l) = cp n l + if x.2 = n then 1 else 0 := by
  unfold cp; rw [List.map_cons, List.count_cons]; by_cases h : x.2 = n <;> simp [h]
theorem cp_append (n : Int) (a c : List Pr) : cp n (a ++ c) = cp n a + cp n c := by unfold cp; rw [List.map_append, List.count_append]
theorem cp_rev (n : Int) (a : List Pr) : cp n a.reverse = cp n a := by unfold cp; rw [List.map_reverse, List.count_reverse]
theorem cp_nil (n : Int) : cp n [] = 0 := rfl
theorem cp_le (n : Int) (a : List Pr) : cp n a ≤ a.length := by unfold cp; have := List.count_le_length (a := n) (l := a.map (·.2)); simpa using this
def aliveP (c : Int → Nat) : List Pr → List Pr
  | [] => []
  | x :: r => aliveP c r ++ if c x.2 ≤ cp x.2 r then [x] else []
def missP (D : List Pr) (c : Int → Nat) : List Pr → List Pr
  | [] => []
  | x :: r => (if cp x.2 D ≤ c x.2 then [x] else []) ++ missP D (bump c x.2) r
section
variable {num : Value → Int}
theorem cnt_cp (n : Int) : ∀ (l : List Pr), (∀ p ∈ l, num (vl p) = p.2) → cnt num n (l.map vl) = cp n l
  | [], _ => rfl
  | x :: l, h => by
    rw [cp_cons, ← cnt_cp n l fun p hp => h p (List.mem_cons_of_mem _ hp)]
    have hx := h x (List.mem_cons_self ..)
    unfold cnt
    rw [List.map_cons, List.countP_cons, hx]
    simp
theorem alive_eq (c : Int → Nat) : ∀ (l : List Pr), (∀ p ∈ l, num (vl p) = p.2) → aliveR num c (l.map vl) = (aliveP c l).map vl
  | [], _ => rfl
  | x :: l, h => by
    have hl : ∀ p ∈ l, num (vl p) = p.2 := fun p hp => h p (List.mem_cons_of_mem _ hp)
    have hx := h x (List.mem_cons_self ..)
    rw [List.map_cons, aliveR, alive_eq c l hl, hx, cnt_cp _ l hl, aliveP, List.map_append]
    split <;> simp
theorem miss_eq (D : List Pr) (hD : ∀ p ∈ D, num (vl p) = p.2) : ∀ (l : List Pr) (c : Int → Nat), (∀ p ∈ l, num (vl p) = p.2) → missR num (D.map vl) c (l.map vl) = (missP D c l).map vl
  | [], c, _ => rfl
  | x :: l, c, h => by
    have hl : ∀ p ∈ l, num (vl p) = p.2 := fun p hp => h p (List.mem_cons_of_mem _ hp)
    have hx := h x (List.mem_cons_self ..)
    rw [List.map_cons, missR, hx, cnt_cp _ D hD, miss_eq D hD l _ hl, missP, List.map_append]
    split <;> simp
theorem plus_cp (c : Int → Nat) (l : List Pr) (h : ∀ p ∈ l, num (vl p) = p.2) : plus num c (l.map vl) = fun n => c n + cp n l := by
  funext n; rw [plus_eq, cnt_cp n l h]
theorem uld_pairs (D os : List Pr) (c : Int → Nat) (hD : ∀ p ∈ D, num (vl p) = p.2) (ho : ∀ p ∈ os, num (vl p) = p.2) :
    uldD (same num) (os.map vl).reverse ((aliveP c D.reverse).map vl) [] = ((missP D c os.reverse).map vl, (aliveP (fun n => c n + cp n os) D.reverse).map vl) := by
  have hDr : ∀ p ∈ D.reverse, num (vl p) = p.2 := fun p hp => hD p (List.mem_reverse.mp hp)
  have hor : ∀ p ∈ os.reverse, num (vl p) = p.2 := fun p hp => ho p (List.mem_reverse.mp hp)
  have := uldD_due num (D.map vl) (os.reverse.map vl) c []
  rw [← alive_eq (num := num) c D.reverse hDr, ← List.map_reverse]
  rw [← List.map_reverse] at this
  rw [this, List.nil_append, miss_eq D hD os.reverse c hor, plus_cp c os.reverse hor]
  have e : (fun n => c n + cp n os.reverse) = fun n => c n + cp n os := by funext n; rw [cp_rev]
  rw [e, alive_eq _ _ hDr]
end
theorem alive_min (c c' : Int → Nat) : ∀ (l : List Pr), (∀ n, min (c n) (cp n l) = min (c' n) (cp n l)) → aliveP c l = aliveP c' l
  | [], _ => rfl
  | x :: l, h => by
    have hl : ∀ n, min (c n) (cp n l) = min (c' n) (cp n l) := fun n => by
      have := h n; rw [cp_cons] at this; split at this <;> omega
    have hx := h x.2
    rw [cp_cons, if_pos rfl] at hx
    rw [aliveP, aliveP, alive_min c c' l hl]
    by_cases h1 : c x.2 ≤ cp x.2 l
    · rw [if_pos h1, if_pos (by omega)]
    · rw [if_neg h1, if_neg (by omega)]
theorem alive_cp (c : Int → Nat) (n : Int) : ∀ (l : List Pr), cp n (aliveP c l) = cp n l - min (c n) (cp n l)
  | [] => by simp [aliveP, cp_nil]
  | x :: l => by
    rw [aliveP, cp_append, alive_cp c n l, cp_cons]
    by_cases e : x.2 = n
    · subst e
      by_cases h : c x.2 ≤ cp x.2 l
      · rw [if_pos h, cp_cons, cp_nil]; simp; omega
      · rw [if_neg h, cp_nil]; simp; omega
    · rw [if_neg e]
      have : cp n (if c x.2 ≤ cp x.2 l then [x] else []) = 0 := by
        split
        · rw [cp_cons, if_neg e, cp_nil]
        · rfl
      rw [this]; simp
theorem miss_cp (D : List Pr) (n : Int) : ∀ (l : List Pr) (c : Int → Nat), cp n (missP D c l) = cp n l - (cp n D - c n)
  | [], c => by simp [missP, cp_nil]
  | x :: l, c => by
    rw [missP, cp_append, miss_cp D n l, cp_cons]
    by_cases e : x.2 = n
    · subst e
      rw [if_pos rfl]
      have hb : bump c x.2 x.2 = c x.2 + 1 := by simp [bump]
      rw [hb]
      by_cases h : cp x.2 D ≤ c x.2
      · rw [if_pos h, cp_cons, cp_nil, if_pos rfl]; omega
      · rw [if_neg h, cp_nil]; omega
    · rw [if_neg e]
      have hb : bump c x.2 n = c n := by simp [bump, Ne.symm e]
      rw [hb]
      have : cp n (if cp x.2 D ≤ c x.2 then [x] else []) = 0 := by
        split
        · rw [cp_cons, if_neg e, cp_nil]
        · rfl
      rw [this]; simp
theorem alive_sub (c : Int → Nat) : ∀ (l : List Pr), (∀ p ∈ aliveP c l, p ∈ l) ∧ (aliveP c l).length ≤ l.length
  | [] => ⟨fun _ h => h, Nat.le_refl _⟩
  | x :: l => by
    obtain ⟨h1, h2⟩ := alive_sub c l
    rw [aliveP]
    split
    · refine ⟨fun p hp => ?_, by simp; exact h2⟩
      rcases List.mem_append.mp hp with h | h
      · exact List.mem_cons_of_mem _ (h1 p h)
      · rw [List.mem_singleton.mp h]; exact List.mem_cons_self ..
    · refine ⟨fun p hp => List.mem_cons_of_mem _ (h1 p (by simpa using hp)), by simp; omega⟩
theorem miss_sub (D : List Pr) : ∀ (l : List Pr) (c : Int → Nat), (∀ p ∈ missP D c l, p ∈ l) ∧ (missP D c l).length ≤ l.length
  | [], c => ⟨fun _ h => h, Nat.le_refl _⟩
  | x :: l, c => by
    obtain ⟨h1, h2⟩ := miss_sub D l (bump c x.2)
    rw [missP]
    split
    · refine ⟨fun p hp => ?_, by simp; exact h2⟩
      rcases List.mem_append.mp hp with h | h
      · rw [List.mem_singleton.mp h]; exact List.mem_cons_self ..
      · exact List.mem_cons_of_mem _ (h1 p h)
    · refine ⟨fun p hp => List.mem_cons_of_mem _ (h1 p (by simpa using hp)), by simp; omega⟩
/-! ### the balance -/
theorem val_setB (bs : List (Int × Int)) (k m n : Int) : val (setB bs k m) n = if n = k then m else val bs n := by
  unfold val setB
  split
  · rename_i h
    have key : ∀ l : List (Int × Int), (l.any fun p => p.1 = k) = true ∨ n ≠ k → (getB (l.map fun p => if p.1 = k then (p.1, m) else p) n).getD 0 = if n = k then m else (getB l n).getD 0 := by
      intro l
      induction l with
      | nil => intro h; rcases h with h | h <;> simp [getB] at h ⊢; exact fun e => absurd e h
      | cons q l ih =>
        intro h
        by_cases hq : q.1 = k
        · by_cases hn : n = k
          · subst hn; simp [getB, hq]
          · have hqn : ¬ q.1 = n := fun e => hn (by rw [← e, hq])
            have := ih (Or.inr hn)
            simp only [hn, if_false] at this ⊢
            have hkn : ¬ k = n := fun e => hn e.symm
            simp only [getB, List.map_cons, hq, if_true, List.find?_cons, hkn, decide_false] at this ⊢
            simpa [hqn, hkn] using this
        · have h' : (l.any fun p => p.1 = k) = true ∨ n ≠ k := by
            rcases h with h | h
            · simp [hq] at h; exact Or.inl (by simpa using h)
            · exact Or.inr h
          have := ih h'
          simp only [getB, List.map_cons, hq, if_false, List.find?_cons] at this ⊢
          by_cases hqn : q.1 = n
          · have hn : n ≠ k := fun e => hq (by rw [hqn, e])
            simp [hqn, hn]
          · simp only [hqn, decide_false]; exact this
    exact key bs (Or.inl h)
  · rename_i h
    have h' : ∀ p ∈ bs, p.1 ≠ k := fun p hp e => h (List.any_eq_true.mpr ⟨p, hp, by simpa using e⟩)
    unfold getB
    rw [List.find?_append]
    by_cases hn : n = k
    · subst hn
      have : bs.find? (fun p => p.1 = n) = none := List.find?_eq_none.mpr fun p hp e => h' p hp (by simpa using e)
      rw [this]; simp
    · have hkn : ¬ k = n := fun e => hn e.symm
      simp [hn, hkn]
theorem keys_setB (bs : List (Int × Int)) (k m : Int) : (∀ n, n ∈ (setB bs k m).map (·.1) ↔ n = k ∨ n ∈ bs.map (·.1)) ∧ (setB bs k m).length ≤ bs.length + 1 := by
  unfold setB
  split
  · rename_i h
    obtain ⟨p, hp, e⟩ := List.any_eq_true.mp h
    have e' : p.1 = k := by simpa using e
    have hm : (bs.map fun p => if p.1 = k then (p.1, m) else p).map (·.1) = bs.map (·.1) := by
      rw [List.map_map]; refine List.map_congr_left fun q _ => ?_
      simp only [Function.comp]; split <;> rfl
    rw [hm]
    refine ⟨fun n => ⟨Or.inr, fun h => ?_⟩, by simp⟩
    rcases h with rfl | h
    · exact List.mem_map.mpr ⟨p, hp, e'⟩
    · exact h
  · refine ⟨fun n => ?_, by simp⟩
    simp only [List.map_append, List.map_cons, List.map_nil, List.mem_append, List.mem_singleton]
    exact Or.comm
theorem len_setB_mem (bs : List (Int × Int)) (k m : Int) (h : k ∈ bs.map (·.1)) : (setB bs k m).length = bs.length := by
  unfold setB
  obtain ⟨p, hp, e⟩ := List.mem_map.mp h
  rw [if_pos (List.any_eq_true.mpr ⟨p, hp, by simpa using e⟩)]
  simp
end Mine
namespace Mine
def eJ : Value → Value → Bool
  | .int a _, .int c _ => a == c
  | _, _ => false
theorem IntsAre.memJ {vs : List Value} {ns : List Int} (h : IntsAre vs ns) : ∀ v ∈ vs, ∃ n t, v = .int n t := fun v hv => by
  obtain ⟨i, _, rfl⟩ := List.mem_iff_getElem.mp hv
  obtain ⟨n, t, e, _⟩ := h.at i _ (List.getElem?_eq_getElem _)
  exact ⟨n, t, e⟩
theorem IntsAre.countJ {n : Int} {t : Tok} : ∀ {vs : List Value} {ns : List Int}, IntsAre vs ns → vs.countP (fun y => eJ y (.int n t)) = ns.count n
  | _, _, .nil => rfl
  | _, _, .cons a u h => by rw [List.countP_cons, List.count_cons, IntsAre.countJ h]; rfl
theorem eqJ {A : Around} {s : Shared} {vs : List Value} {ns : List Int} {n : Int} {t : Tok} (h : IntsAre vs ns) : ∀ y ∈ vs, SeqAt.EqAt A s y (.int n t) (eJ y (.int n t)) := fun y hy => by
  obtain ⟨m, u, rfl⟩ := IntsAre.memJ h y hy
  exact SeqAt.EqAt.int_int _ _ _ _
theorem ints_dropJ : ∀ {vs : List Value} {ns : List Int} (k : Nat), IntsAre vs ns → IntsAre (vs.drop k) (ns.drop k)
  | _, _, 0, h => h
  | _, _, _ + 1, .nil => .nil
  | _, _, k + 1, .cons a u h => ints_dropJ k h
end Mine
namespace Mine
open_top hd11 for PySem.Challenge.rw_dn0232_11
end Mine
local macro_rules | `(tactic| walk_at "size") => `(tactic| first | assumption | (simp only [sizeLine_eq, List.length_append, List.length_cons, List.length_nil]; omega) | (simp only [sizeLine_eq, List.length_append, List.length_cons, List.length_nil] at *; omega))
local macro_rules | `(tactic| walk_at "mem") => `(tactic| (first | assumption | exact List.mem_cons_self .. | (refine List.mem_cons_of_mem _ ?_; walk_at "mem")))
local macro_rules | `(tactic| walk_at "isat") => `(tactic| first | exact Or.inr (by assumption) | exact Or.inl (by walk_at "mem"))
local macro_rules | `(tactic| walk_at "upd") => `(tactic| (first | exact Mine.Upd.head _ | (apply Mine.Upd.tail; walk_at "upd")))
local macro_rules | `(tactic| walk_at "eval Name") => `(tactic| ((rename Mine.St _ _ _ _ _ => wS); first
  | (refine Mine.nm_L wS (by with_unfolding_all rfl) (by with_unfolding_all rfl) ?_ (by with_unfolding_all rfl) (by with_unfolding_all rfl) (by with_unfolding_all decide))
  | (refine Mine.nm_K wS (by assumption) (by assumption) (by with_unfolding_all rfl) (by with_unfolding_all rfl) ?_ (by with_unfolding_all rfl) (by with_unfolding_all rfl) (by with_unfolding_all decide))
  | (refine Mine.nm_B wS (by assumption) (by assumption) (by with_unfolding_all rfl) (by with_unfolding_all rfl) (by first | reg3_boot | boot_fact | boot_fast) ?_ (by with_unfolding_all decide) (by with_unfolding_all rfl) (by with_unfolding_all rfl) (by with_unfolding_all rfl) (by with_unfolding_all decide))
  | (refine Mine.nm_C wS (by with_unfolding_all rfl) (by with_unfolding_all rfl) (by walk_at "mem") ?_ (by with_unfolding_all rfl) (by with_unfolding_all decide))))
local macro_rules | `(tactic| walk_at "loadName") => `(tactic| ((rename Mine.St _ _ _ _ _ => wS); first
  | (refine Mine.ld_L wS (by with_unfolding_all rfl) ?_ (by with_unfolding_all rfl) (by with_unfolding_all rfl) (by with_unfolding_all rfl))
  | (refine Mine.ld_C wS (by with_unfolding_all rfl) (by with_unfolding_all rfl) (by walk_at "mem") ?_ (by with_unfolding_all rfl))))
local macro_rules | `(tactic| walk_at "storeName") => `(tactic| ((rename Mine.St _ _ _ _ _ => wS); first
  | (refine Mine.st_L wS (by with_unfolding_all rfl) ?_ (by with_unfolding_all rfl) (by with_unfolding_all rfl); clear wS; intro _ _)
  | (refine Mine.st_C wS (by with_unfolding_all rfl) (by with_unfolding_all rfl) (by walk_at "upd") ?_ (by with_unfolding_all rfl); clear wS; intro _ _)))
local macro_rules | `(tactic| walk_at "eval Constant int") => `(tactic| ((rename Mine.St _ _ _ _ _ => wS); refine Mine.c_int wS ?_; clear wS; intro _ _ _))
local macro_rules | `(tactic| walk_at "eval Constant str") => `(tactic| ((rename Mine.St _ _ _ _ _ => wS); refine Mine.c_tx wS ?_; clear wS; intro _ _ _))
local macro_rules | `(tactic| walk_at "binaryOp Add int int") => `(tactic| ((rename Mine.St _ _ _ _ _ => wS); refine Mine.i_add wS ?_; clear wS; intro _ _ _))
local macro_rules | `(tactic| walk_at "inplaceOp Add int int") => `(tactic| ((rename Mine.St _ _ _ _ _ => wS); refine Mine.i_iadd wS ?_; clear wS; intro _ _ _))
local macro_rules | `(tactic| walk_at "binaryOp Sub int int") => `(tactic| ((rename Mine.St _ _ _ _ _ => wS); refine Mine.i_sub wS ?_; clear wS; intro _ _ _))
local macro_rules | `(tactic| walk_at "binaryOp Mod int int") => `(tactic| ((rename Mine.St _ _ _ _ _ => wS); refine Mine.i_mod wS (by first | decide | omega) ?_; clear wS; intro _ _ _))
local macro_rules | `(tactic| walk_at "compareOp Gt int int") => `(tactic| (refine Mine.i_gt ?_))
local macro_rules | `(tactic| walk_at "compareOp Lt int int") => `(tactic| (refine Mine.i_lt ?_))
local macro_rules | `(tactic| walk_at "compareOp Eq int int") => `(tactic| (refine Mine.i_eq ?_))
local macro_rules | `(tactic| walk_at "compareOp NotEq int int") => `(tactic| (refine Mine.i_ne ?_))
local macro_rules | `(tactic| walk_at "call builtin:len cons nil") => `(tactic| ((rename Mine.St _ _ _ _ _ => wS); k_dflt first
  | (refine Mine.t_len wS (by walk_at "size") ?_; clear wS; intro _ _ _)
  | (refine Mine.c_lenL wS (by walk_at "isat") (by walk_at "size") ?_; clear wS; intro _ _ _)))
local macro_rules | `(tactic| walk_at "eval Slice") => `(tactic| (refine Mine.ev_slice ?_))
local macro_rules | `(tactic| walk_at "evalPart") => `(tactic| first | (refine Mine.ep_some ?_) | (refine Mine.ep_none ?_))
local macro_rules | `(tactic| walk_at "newTuple") => `(tactic| ((rename Mine.St _ _ _ _ _ => wS); refine Mine.new_tuple wS (by simp [sizeLine_eq]) ?_; clear wS; intro _ _ _))
local macro_rules | `(tactic| walk_at "newList") => `(tactic| ((rename Mine.St _ _ _ _ _ => wS); refine Mine.new_list wS (by simp [sizeLine_eq]) ?_; clear wS; intro _ _ _))
local macro_rules | `(tactic| walk_at "SliceEnd") => `(tactic| ((rename Mine.St _ _ _ _ _ => wS); (first | refine Mine.slice_end wS Mine.slc_ss ?_ | refine Mine.slice_end wS Mine.slc_sn ?_ | refine Mine.slice_end wS Mine.slc_ns ?_ | refine Mine.slice_end wS Mine.slc_nn ?_); clear wS; intro _ _ _))
local macro_rules | `(tactic| walk_at "subscriptTail") => `(tactic| ((with_reducible show wpAny _ _ (subscriptTail _ _ (Value.str _ _) (Value.ref _)) _ _ _); (rename Mine.St _ _ _ _ _ => wS); k_dflt (refine Mine.t_slice wS (by walk_at "size") ?_ (by with_unfolding_all rfl) (by intro _; with_unfolding_all rfl)); clear wS; intro _ _ _))
local macro_rules | `(tactic| walk_at "binaryOp Mod str ref") => `(tactic| ((rename Mine.St _ _ _ _ _ => wS); k_dflt (refine Mine.t_fmt wS (by decide +kernel) (by omega) (by omega) (by omega) (by omega) ?_); clear wS; intro _ _ _))
local macro_rules | `(tactic| walk_at "eval ListComp") => `(tactic| ((with_reducible show wpAny _ _ (eval (PySem.Expr.ListComp _ [_] _ _) _) _ _ _); refine Mine.ev_comp (by first | exact closureFor_none (by with_unfolding_all decide) | with_unfolding_all rfl) (by with_unfolding_all rfl) (by with_unfolding_all decide) ?_ (by intro _; with_unfolding_all rfl)))
local macro_rules | `(tactic| walk_at "exec Assign cons ListComp") => `(tactic| (refine Mine.ex_comp (by with_unfolding_all rfl) (by first | exact closureFor_none (by with_unfolding_all decide) | with_unfolding_all rfl) (by with_unfolding_all rfl) (by with_unfolding_all decide) ?_ (by intro _; with_unfolding_all rfl)))
local macro_rules | `(tactic| walk_at "exec For") => `(tactic| (refine Mine.ex_for ?_ (by intro _; with_unfolding_all rfl)))
local macro_rules | `(tactic| walk_at "binaryOp FloorDiv int int") => `(tactic| ((rename Mine.St _ _ _ _ _ => wS); refine Mine.i_fdiv wS (by first | decide | omega) (by first | decide | omega) ?_; clear wS; intro _ _ _))
local macro_rules | `(tactic| walk_at "binaryOp Mult int int") => `(tactic| ((rename Mine.St _ _ _ _ _ => wS); first | (refine Mine.i_mulR wS (by decide +kernel) ?_; clear wS; intro _ _ _) | (refine Mine.i_mulL wS (by decide +kernel) ?_; clear wS; intro _ _ _)))
local macro_rules | `(tactic| walk_at "unaryOp USub int") => `(tactic| ((rename Mine.St _ _ _ _ _ => wS); refine Mine.i_neg wS ?_; clear wS; intro _ _ _))
local macro_rules | `(tactic| walk_at "compareOp LtE int int") => `(tactic| (refine Mine.i_le ?_))
local macro_rules | `(tactic| walk_at "compareOp GtE int int") => `(tactic| (refine Mine.i_ge ?_))
local macro_rules | `(tactic| walk_at "compareOp Eq str str") => `(tactic| (refine Mine.t_eq ?_))
local macro_rules | `(tactic| walk_at "compareOp NotEq str str") => `(tactic| (refine Mine.t_ne ?_))
local macro_rules | `(tactic| walk_at "binaryOp Add str str") => `(tactic| ((rename Mine.St _ _ _ _ _ => wS); refine Mine.t_add wS (by walk_at "size") ?_; clear wS; intro _ _ _))
local macro_rules | `(tactic| walk_at "inplaceOp Add str str") => `(tactic| ((rename Mine.St _ _ _ _ _ => wS); refine Mine.t_iadd wS (by walk_at "size") ?_; clear wS; intro _ _ _))
local macro_rules | `(tactic| walk_at "call builtin:chr") => `(tactic| ((rename Mine.St _ _ _ _ _ => wS); refine Mine.c_chr wS (by omega) (by omega) ?_; clear wS; intro _ _ _))
local macro_rules | `(tactic| walk_at "call builtin:sum") => `(tactic| ((rename Mine.St _ _ _ _ _ => wS); refine Mine.c_sum wS (by assumption) (by walk_at "isat") (by assumption) ?_; clear wS; intro _ _ _))
local macro_rules | `(tactic| walk_at "call builtin:str.join") => `(tactic| ((rename Mine.St _ _ _ _ _ => wS); refine Mine.c_join wS (by walk_at "isat") (by assumption) (by with_unfolding_all rfl) (by walk_at "size") ?_; clear wS; intro _ _ _))
local macro_rules | `(tactic| walk_at "unpackItems ref") => `(tactic| ((rename Mine.St _ _ _ _ _ => wS); refine Mine.unpack_tup wS (by assumption) (by with_unfolding_all rfl) ?_; clear wS; intro _ _))
local macro_rules | `(tactic| walk_at "call builtin:list.append") => `(tactic| ((rename Mine.St _ _ _ _ _ => wS); k_dflt (refine Mine.l_append wS (by walk_at "upd") (by walk_at "size") ?_); clear wS; intro _ _))
local macro_rules | `(tactic| walk_at "Ready") => `(tactic| ((rename Mine.St _ _ _ _ _ => wS); refine Mine.Ready.mk' (by assumption) wS ?_))
local macro_rules | `(tactic| walk_at "callWith ref") => `(tactic| (refine Mine.callWith_fn (by assumption) (by with_unfolding_all rfl) ?_ (by with_unfolding_all rfl) (by with_unfolding_all rfl)))
local macro_rules | `(tactic| walk_at "call type:range") => `(tactic| ((rename Mine.St _ _ _ _ _ => wS); (first | refine Mine.c_range1 wS ?_ | refine Mine.c_range2 wS ?_); clear wS; intro _ _ _))
local macro_rules | `(tactic| walk_at "assign Tuple") => `(tactic| ((rename Mine.St _ _ _ _ _ => wS); refine Mine.as_tup wS (by walk_at "mem") (by assumption) (by with_unfolding_all rfl) (by with_unfolding_all rfl) ?_; clear wS; intro _ _))
local macro_rules | `(tactic| walk_at "compareOp NotEq ref ref") => `(tactic| ((rename Mine.St _ _ _ _ _ => wS); first
  | (refine Mine.l_neInts wS (by walk_at "isat") (by walk_at "isat") (by first | assumption | exact PyProof.Rows.IntsAre.nil) (by first | assumption | exact PyProof.Rows.IntsAre.nil) (by first | assumption | (simp only [units_deeper]; omega)) ?_)
  | (refine Mine.l_neTx wS (by walk_at "isat") (by walk_at "isat") (by first | assumption | exact Mine.TxAre.nil) (by first | assumption | exact Mine.TxAre.nil) (by first | omega | (simp only [units_deeper]; omega)) ?_)))
local macro_rules | `(tactic| walk_at "compareOp Eq ref ref") => `(tactic| ((rename Mine.St _ _ _ _ _ => wS); first
  | (refine Mine.l_eqInts wS (by walk_at "isat") (by walk_at "isat") (by first | assumption | exact PyProof.Rows.IntsAre.nil) (by first | assumption | exact PyProof.Rows.IntsAre.nil) (by first | assumption | (simp only [units_deeper]; omega)) ?_)
  | (refine Mine.l_eqTx wS (by walk_at "isat") (by walk_at "isat") (by first | assumption | exact Mine.TxAre.nil) (by first | assumption | exact Mine.TxAre.nil) (by first | omega | (simp only [units_deeper]; omega)) ?_)))
local macro_rules | `(tactic| walk_at "call type:str") => `(tactic| ((rename Mine.St _ _ _ _ _ => wS); refine Mine.c_strInt wS (by first | assumption | exact Mine.log2_small (by omega)) ?_; clear wS; intro _ _ _))
local macro_rules | `(tactic| walk_at "call builtin:max cons cons") => `(tactic| ((rename Mine.St _ _ _ _ _ => wS); refine Mine.c_max2 wS (by assumption) ?_; clear wS; intro _ _ _))
local macro_rules | `(tactic| walk_at "call builtin:max") => `(tactic| ((rename Mine.St _ _ _ _ _ => wS); refine Mine.c_max2 wS (by assumption) ?_; clear wS; intro _ _ _))
local macro_rules | `(tactic| walk_at "call builtin:min") => `(tactic| ((rename Mine.St _ _ _ _ _ => wS); refine Mine.c_min2 wS (by assumption) ?_; clear wS; intro _ _ _))
local macro_rules | `(tactic| walk_at "binaryOp Add ref ref") => `(tactic| ((rename Mine.St _ _ _ _ _ => wS); refine Mine.l_add wS (by walk_at "mem") (by walk_at "mem") (by walk_at "size") ?_; clear wS; intro _ _ _))
local macro_rules | `(tactic| walk_at "subscriptTail") => `(tactic| ((with_reducible show wpAny _ _ (subscriptTail _ _ (Value.ref _) (Value.ref _)) _ _ _); (rename Mine.St _ _ _ _ _ => wS); k_dflt (refine Mine.l_slice wS (by walk_at "isat") (by walk_at "size") ?_ (by with_unfolding_all rfl)); clear wS; intro _ _ _))
local macro_rules | `(tactic| walk_at "tree") => `(tactic| first | (with_reducible show wpAny _ _ _ _ _ _) | (with_reducible show Mine.SliceEnd _ _ _ _) | (with_reducible show Mine.Ready _ _ _) | (with_reducible show @ite Prop _ _ _ _))
local macro_rules | `(tactic| walk_at "go") => `(tactic| repeat' ((try dsimp only); walk_at "tree"; walk1))
local macro_rules | `(tactic| walk_at "in") => `(tactic| repeat' ((try dsimp only); walk_at "tree"; (fail_if_success (with_reducible show wpAny _ _ (execs _ _) _ _ _)); walk1))
local macro_rules | `(tactic| walk_at "one") => `(tactic| ((try dsimp only); refine wpAny_execs_cons ?_; walk_at "in"))
local macro_rules | `(tactic| walk_at "sub") => `(tactic| first | exact List.Sublist.refl _ | exact List.Sublist.slnil | exact List.nil_sublist _ | (apply List.Sublist.cons_cons; walk_at "sub") | (apply List.Sublist.cons; walk_at "sub"))
local macro_rules | `(tactic| walk_at "bind") => `(tactic| first | exact Mine.Sub.nil _ | (refine Mine.Sub.cons (by with_unfolding_all rfl) ?_; walk_at "bind"))
local macro_rules | `(tactic| walk_at "subscriptTail") => `(tactic| ((with_reducible show wpAny _ _ (subscriptTail _ _ (Value.ref _) (Value.int _ _)) _ _ _); (rename Mine.St _ _ _ _ _ => wS); k_dflt first
  | (refine Mine.l_item wS (by walk_at "isat") (by omega) (by omega) (by assumption) ?_ (by with_unfolding_all rfl))
  | (refine Mine.l_last wS (by walk_at "isat") (by omega) (by omega) (by walk_at "size") (by assumption) ?_ (by with_unfolding_all rfl))))
local macro_rules | `(tactic| walk_at "subscriptTail") => `(tactic| ((with_reducible show wpAny _ _ (subscriptTail _ _ (Value.str _ _) (Value.int _ _)) _ _ _); (rename Mine.St _ _ _ _ _ => wS); k_dflt (refine Mine.t_item wS (by omega) (by omega) (by assumption) ?_ (by with_unfolding_all rfl)); clear wS; intro _ _ _))
local macro_rules | `(tactic| walk_at "truthy ref") => `(tactic| ((rename Mine.St _ _ _ _ _ => wS); k_dflt (refine Mine.l_truth wS (by walk_at "isat") (by walk_at "size") ?_); clear wS; intro _ _))
local macro_rules | `(tactic| walk_at "call builtin:list.pop") => `(tactic| ((rename Mine.St _ _ _ _ _ => wS); k_dflt (refine Mine.l_pop wS (by walk_at "upd") (by walk_at "size") ?_); clear wS; intro _ _))
local macro_rules | `(tactic| walk_at "call builtin:list.extend") => `(tactic| ((rename Mine.St _ _ _ _ _ => wS); k_dflt (refine Mine.l_extend wS (by walk_at "mem") (by walk_at "upd") (by walk_at "size") ?_); clear wS; intro _ _))
local macro_rules | `(tactic| walk_at "getMethod ref") => `(tactic| ((rename Mine.St _ _ _ _ _ => wS); first
  | ((with_reducible show wpAny _ _ (getMethod _ (Str.ofString "append") _) _ _ _); k_dflt (refine Mine.m_append wS (by walk_at "mem") ?_))
  | ((with_reducible show wpAny _ _ (getMethod _ (Str.ofString "pop") _) _ _ _); k_dflt (refine Mine.m_list (name := "pop") wS (by walk_at "isat") PySem.F.slot_list_pop PySem.F.type_list_pop (by walk_at "mem") ?_))
  | ((with_reducible show wpAny _ _ (getMethod _ (Str.ofString "remove") _) _ _ _); k_dflt (refine Mine.m_list (name := "remove") wS (by walk_at "isat") PySem.F.slot_list_remove PySem.F.type_list_remove (by walk_at "mem") ?_))
  | ((with_reducible show wpAny _ _ (getMethod _ (Str.ofString "extend") _) _ _ _); k_dflt (refine Mine.m_list (name := "extend") wS (by walk_at "isat") PySem.F.slot_list_extend PySem.F.type_list_extend (by walk_at "mem") ?_))
  | ((with_reducible show wpAny _ _ (getMethod _ (Str.ofString "count") _) _ _ _); k_dflt (refine Mine.m_list (name := "count") wS (by walk_at "isat") PySem.F.slot_list_count PySem.F.type_list_count (by walk_at "mem") ?_))))
local macro_rules | `(tactic| walk_at "binaryOp Mult ref int") => `(tactic| ((rename Mine.St _ _ _ _ _ => wS); refine Mine.l_mul wS (by walk_at "mem") (by omega) (by omega) (by simp only [List.length_cons, List.length_nil]; omega) ?_; clear wS; intro _ _ _))
local macro_rules | `(tactic| walk_at "call type:range") => `(tactic| ((rename Mine.St _ _ _ _ _ => wS); (first | refine Mine.c_range1 wS ?_ | refine Mine.c_range2 wS ?_ | refine Mine.c_rangeD wS (by omega) (by omega) (by omega) (by omega) ?_); clear wS; intro _ _ _))
namespace Mine
section
variable {w : World} {p : Program} {loose : List Str} {mg mb : Str → Option Value} {A : Around} {E : Value → Shared → Prop} {s s₁ : Shared} {L l a : Addr} {b : List (Str × Value)} {H : List Ent} {Q : Value → Shared → Prop}
theorem uldD_spec {vs us : List Value} {fs : List Env} (e : Value → Value → Bool) (X : (hd11.heap_39 w.params).In s₁.heap) (TR : TopRead p loose mg mb s₁.heap) (S : St s₁ L b ((l, Lst vs) :: (a, Lst us) :: H) s) (hroom : A.depth < recursionLimit)
    (hh : A.handled = none) (hfr : A.frames = some fs) (hF : ∀ env ∈ fs, env.scope.kind ≠ .module ∧ ∃ F, env.frame = some F ∧ (F = L ∨ ∃ b, (F, Frm b) ∈ H))
    (hl : vs.length ≤ 100000) (hl2 : us.length ≤ 100000) (he : ∀ env s', (∀ p ∈ H, ∃ o, s'.heap.get? p.1 = some o ∧ p.2 o) → ∀ x ∈ vs, ∀ y ∈ us, EqW PySem.Challenge.rw_dn0232_11.row.prog w (A.deeper env).in1 s' y x (e y x))
    (h : ∀ s' t m, St s₁ L b ((t, Tup [.ref m, .ref a]) :: (m, Lst (uldD e vs.reverse us []).1) :: (l, Lst []) :: (a, Lst (uldD e vs.reverse us []).2) :: H) s' → Q (.ref t) s') :
    wpAny (model PySem.Challenge.rw_dn0232_11.row.prog w) A (call (.ref 21) [.ref l, .ref a]) Q E s := by
  refine call_fn S X TR.nolimit (by rfl) (by rfl) hroom (by rfl) (BindsTo.of_eq (by rfl)) (by decide) (b' := [(Str.ofString "actual", .ref a), (Str.ofString "expected", .ref l)]) (locs (by rfl)) (by rfl) ?_ (by rfl) (by rfl) (by rfl)
  clear S
  intro s' L' S'
  walk_at "one"
  rename St _ _ _ _ _ => S
  obtain ⟨m, em, S2⟩ : ∃ m, Value.ref m = Value.ref _ ∧ St s₁ L' [(Str.ofString "missing", .ref m), (Str.ofString "actual", .ref a), (Str.ofString "expected", .ref l)] ((m, Lst []) :: (L, Frm b) :: (l, Lst vs) :: (a, Lst us) :: H) _ := ⟨_, rfl, (S.bind (by walk_at "bind")).sub (by walk_at "sub")⟩
  clear S em
  refine wpAny_execs_cons ?_
  refine ex_while (fun n b' H' => ∃ cur act ms, n = cur.length ∧ cur.length ≤ vs.length ∧ act.length ≤ us.length ∧ cur ⊆ vs ∧ act ⊆ us ∧ b' = [(Str.ofString "missing", .ref m), (Str.ofString "actual", .ref a), (Str.ofString "expected", .ref l)] ∧ H' = (m, Lst ms) :: (L, Frm b) :: (l, Lst cur) :: (a, Lst act) :: H ∧ ms.length + cur.length ≤ vs.length ∧ uldD e cur.reverse act ms = uldD e vs.reverse us []) vs.length S2 ⟨vs, us, [], rfl, Nat.le_refl _, Nat.le_refl _, fun _ h => h, fun _ h => h, rfl, rfl, by simp, rfl⟩ ?_
  clear S2
  rintro n b' H' s2 ⟨cur, act, ms, rfl, hlen, hlena, hsub, hsua, rfl, rfl, hms, hu⟩ S
  have hcs : cur.length ≤ sizeLine := by rw [sizeLine_eq]; omega
  rcases List.eq_nil_or_concat cur with rfl | ⟨cs, x, rfl⟩
  · walk_at "go"
    rename St _ _ _ _ _ => S
    have : uldD e vs.reverse us [] = (ms, act) := by rw [← hu]; rfl
    rw [this] at h
    exact h _ _ m (St.back (S.perm (List.perm_middle (l₁ := [_, _])).symm))
  · simp only [List.concat_eq_append] at *
    walk_at "in"
    · rename_i hc
      simp at hc
    · rename_i hc
      clear hc
      walk_at "one"
      rename St _ _ _ _ _ => S
      have S2 := (S.bind (b' := [(Str.ofString "item", x), (Str.ofString "missing", .ref m), (Str.ofString "actual", .ref a), (Str.ofString "expected", .ref l)]) (by walk_at "bind"))
      clear S
      have hx : x ∈ vs := hsub (by simp)
      have hcs' : cs ⊆ vs := fun y hy => hsub (by simp [hy])
      refine wpAny_execs_cons ?_
      rw [List.reverse_append, List.reverse_singleton, List.singleton_append, uldD] at hu
      refine ex_try (s₁ := s₁) (J := fun b' H' => b' = [(Str.ofString "item", x), (Str.ofString "missing", .ref m), (Str.ofString "actual", .ref a), (Str.ofString "expected", .ref l)] ∧ H' = (m, Lst ms) :: (L, Frm b) :: (l, Lst cs) :: (a, Lst act) :: H ∧ act.any (fun y => e y x) = false) (T := "ValueError") (X := "ValueError") (by exact Around.frames_deeper hfr) ?_ (by rfl) ?_ ?_ ?_ ?_ ?_ ?_
      · rintro b' H' ⟨rfl, rfl, _⟩ env hm
        rcases List.mem_cons.mp hm with rfl | hm
        · exact ⟨by show ScopeKind.function ≠ .module; decide, L', rfl, Or.inl rfl⟩
        · obtain ⟨hk, F, hf, hm⟩ := hF env hm
          refine ⟨hk, F, hf, Or.inr ?_⟩
          rcases hm with rfl | ⟨b'', hm⟩
          · exact ⟨b, by simp⟩
          · exact ⟨b'', by simp [hm]⟩
      · rw [isSubtype_type]; kernel_rfl
      · rw [isSubtype_type]; kernel_rfl
      · rw [isSubtype_type]; kernel_rfl
      · walk_at "go"
        rename St _ _ _ _ _ => S
        have heq : ∀ env, ∀ y ∈ act, EqW PySem.Challenge.rw_dn0232_11.row.prog w (A.deeper env).in1 _ y x (e y x) := fun env y hy => he env _ (fun p hp => S.nw p (by simp [hp])) x hx y (hsua hy)
        by_cases hany : act.any (fun y => e y x) = true
        · refine l_removeWY (fun y => e y x) S (by walk_at "upd") (by rw [sizeLine_eq]; omega) (heq _) hany ?_
          clear S
          intro _ S
          rw [if_pos hany] at hu
          walk_at "go"
          rename St _ _ _ _ _ => S
          have hp := List.length_eraseP_le (p := fun y => e y x) (l := act)
          refine ⟨_, _, _, ?_, S.bind (b' := [(Str.ofString "missing", .ref m), (Str.ofString "actual", .ref a), (Str.ofString "expected", .ref l)]) (by walk_at "bind"), cs, act.eraseP (fun y => e y x), ms, rfl, ?_, ?_, hcs', fun y hy => hsua (List.mem_of_mem_eraseP hy), rfl, rfl, ?_, hu⟩
          · simp
          · simp at hlen; omega
          · omega
          · simp at hms; omega
        · have hany' : act.any (fun y => e y x) = false := by simpa using hany
          refine l_removeWN (fun y => e y x) S (by walk_at "mem") (heq _) hany' hh fun h' tk ex hx' => ?_
          exact ⟨_, _, _, h', tk, ex, rfl, rfl, S, hx', rfl, rfl, hany'⟩
      · rintro b' H' s' ev E' Q' S ⟨rfl, rfl, _⟩ hq
        refine nm_B S (by assumption) (by assumption) (by with_unfolding_all rfl) (by with_unfolding_all rfl) (by first | reg3_boot | boot_fact | boot_fast) ?_ (by with_unfolding_all decide) (by with_unfolding_all rfl) (by with_unfolding_all rfl) (by with_unfolding_all rfl) (by with_unfolding_all decide)
        exact hq
      · rintro b' H' s' ev S ⟨rfl, rfl, hno⟩
        rw [if_neg (by simp [hno])] at hu
        walk_at "go"
        rename St _ _ _ _ _ => S
        refine ⟨_, _, _, ?_, S.bind (b' := [(Str.ofString "missing", .ref m), (Str.ofString "actual", .ref a), (Str.ofString "expected", .ref l)]) (by walk_at "bind"), cs, act, ms ++ [x], rfl, ?_, hlena, hcs', hsua, rfl, rfl, ?_, hu⟩
        · simp
        · simp at hlen; omega
        · simp at hms ⊢; omega
end
end Mine
local macro_rules | `(tactic| walk_at "eval ListComp") => `(tactic| ((with_reducible show wpAny _ _ (eval (PySem.Expr.ListComp _ [_, _] _ _) _) _ _ _); k_dflt (refine Mine.ev_comp2 (by first | exact closureFor_none (by with_unfolding_all decide) | with_unfolding_all rfl) (by with_unfolding_all rfl) (by with_unfolding_all decide) ?_ (by intro _; with_unfolding_all rfl))))
local macro_rules | `(tactic| walk_at "subscriptTail") => `(tactic| ((with_reducible show wpAny _ _ (subscriptTail _ _ (Value.ref _) (Value.int _ _)) _ _ _); (rename Mine.St _ _ _ _ _ => wS); k_dflt (refine Mine.d_sub wS (by walk_at "mem") (by assumption) ?_ (by with_unfolding_all rfl)); clear wS; intro _ _ _))
local macro_rules | `(tactic| walk_at "binaryOp Mult int int") => `(tactic| ((rename Mine.St _ _ _ _ _ => wS); (refine Mine.i_mulL wS (by assumption) ?_; clear wS; intro _ _ _)))
namespace Mine
theorem ints_repl (n : Int) (t : Tok) : ∀ k, IntsAre (List.replicate k (.int n t)) (List.replicate k n)
  | 0 => .nil
  | k + 1 => .cons n t (ints_repl n t k)
section
variable {w : World} {p : Program} {loose : List Str} {mg mb : Str → Option Value} {A : Around} {E : Value → Shared → Prop} {s s₁ : Shared} {L d : Addr} {b : List (Str × Value)} {H : List Ent} {Q : Value → Shared → Prop}
theorem spread_spec {bs : List (Int × Int)} {sg : Int} {tg : Tok} (X : (hd11.heap_39 w.params).In s₁.heap) (TR : TopRead p loose mg mb s₁.heap) (S : St s₁ L b H s) (hroom : A.depth < recursionLimit) (hh : A.handled = none)
    (hd : (d, Bal PySem.Challenge.rw_dn0232_11.row.prog w bs) ∈ H) (lo : (d == sysModules) = false) (hlen : bs.length ≤ 63) (hbig : ∀ n, (val bs n).natAbs ≤ 63) (hsg : sg = 1 ∨ sg = -1)
    (h : ∀ s' D vs ks, ks.Perm (bs.map (·.1)) → ks.Pairwise (· ≤ ·) → IntsAre vs (spread bs sg ks) → St s₁ L b ((D, Lst vs) :: H) s' → Q (.ref D) s') :
    wpAny (model PySem.Challenge.rw_dn0232_11.row.prog w) A (call (.ref 26) [.ref d, .int sg tg]) Q E s := by
  refine call_fnC (fun L' => [(L' + 1 + 1, Cel (some (.int sg tg))), (L' + 1, Cel (some (.ref d)))]) S X TR.nolimit (by rfl) (by rfl) hroom (by rfl) (by rfl) (by rfl) (fun n => by with_unfolding_all rfl) [Str.ofString "sign", Str.ofString "balance"] (fun n => by with_unfolding_all rfl) (by decide) (b' := []) (fun _ _ _ e => by simp [lk] at e) (fun L' => by with_unfolding_all rfl) ?_ (by rfl) (by rfl) (by rfl)
  clear S
  intro s' L' S'
  simp only [List.cons_append, List.nil_append] at S'
  have hbits : Builtin.Int.intBits sg ≤ 64 := by rcases hsg with rfl | rfl <;> decide +kernel
  have hd' : (d, Bal PySem.Challenge.rw_dn0232_11.row.prog w bs) ∈ (L' + 1 + 1, Cel (some (.int sg tg))) :: (L' + 1, Cel (some (.ref d))) :: (L, Frm b) :: H := by simp [hd]
  walk_at "go"
  rename St _ _ _ _ _ => S
  refine c_sortedD S hd' lo hh (by omega) ?_
  clear S
  intro _ D0 vk ks hkI hkP hkS S
  have hkl : ks.length = bs.length := by have := hkP.length_eq; simpa using this
  have hvk : vk.length = ks.length := hkI.length
  refine comp2_list (vs := vk) (fun i ys H' => IntsAre ys (spread bs sg (ks.take i)) ∧ ys.length ≤ 63 * i ∧ H' = (D0, Lst vk) :: (L' + 1 + 1, Cel (some (.int sg tg))) :: (L' + 1, Cel (some (.ref d))) :: (L, Frm b) :: H) S ⟨.nil, by simp, rfl⟩ (by simp) (by rintro i ys H' ⟨_, _, rfl⟩; simp) hh (by decide) (by rfl) (by rfl) (by rfl) (by decide) (by decide) (by intro _ _; rfl) ?_ ?_
  · clear S
    rintro C D I i v ys H' s' hv ⟨hys, hyl, rfl⟩ S
    have hi : i < vk.length := (List.getElem?_eq_some_iff.mp hv).1
    obtain ⟨n, t, rfl, hn⟩ := hkI.at i v hv
    have hmem : n ∈ bs.map (·.1) := hkP.mem_iff.mp (List.mem_of_getElem? hn)
    have hg := getB_mem hmem
    have hdd : (d, Bal PySem.Challenge.rw_dn0232_11.row.prog w bs) ∈ (D, Lst ys) :: (I, LI D0 (i + 1)) :: (L', Frm []) :: (D0, Lst vk) :: (L' + 1 + 1, Cel (some (.int sg tg))) :: (L' + 1, Cel (some (.ref d))) :: (L, Frm b) :: H := by simp [hd]
    walk_at "go"
    rename St _ _ _ _ _ => S
    have hb1 := hbig n
    have hmx : max 0 (sg * val bs n) ≤ 63 := by
      rcases hsg with rfl | rfl <;> omega
    refine ⟨_, max 0 (sg * val bs n), rfl, by omega, by omega, by rw [sizeLine_eq]; omega, S, ?_, by simp; omega, by trivial⟩
    obtain ⟨hi2, rfl⟩ := List.getElem?_eq_some_iff.mp hn
    rw [List.take_succ_eq_append_getElem hi2]
    have e : spread bs sg (ks.take i ++ [ks[i]]) = spread bs sg (ks.take i) ++ List.replicate (max 0 (sg * val bs ks[i])).toNat ks[i] := by unfold spread; rw [List.flatMap_append, List.flatMap_cons, List.flatMap_nil, List.append_nil]
    rw [e]
    exact hys.append (ints_repl _ _ _)
  · clear S
    rintro D ys H' s' ⟨hys, hyl, rfl⟩ S
    rw [hvk, List.take_length] at hys
    have S2 := (S.perm (List.perm_middle (l₁ := [_, _, _, _])).symm).back
    exact h _ D ys ks hkP hkS hys (S2.sub (.cons_cons _ (.cons _ (.cons _ (.cons _ (.refl _))))))
end
end Mine
local macro_rules | `(tactic| walk_at "subscriptTail") => `(tactic| ((with_reducible show wpAny _ _ (subscriptTail _ _ (Value.ref _) (Value.str _ _)) _ _ _); (rename Mine.St _ _ _ _ _ => wS); k_dflt (refine Mine.d_item wS (by walk_at "mem") ?_ (by with_unfolding_all rfl)); clear wS; intro _ _ _))
namespace Mine
section
variable {w : World} {p : Program} {loose : List Str} {mg mb : Str → Option Value} {A : Around} {E : Value → Shared → Prop} {s s₁ : Shared} {L d o sh : Addr} {b : List (Str × Value)} {H : List Ent} {Q : Value → Shared → Prop}
theorem settle_spec {ovs svs : List Value} {bs : List (Int × Int)} {fs : List Env} (num : Value → Int) (X : (hd11.heap_39 w.params).In s₁.heap) (TR : TopRead p loose mg mb s₁.heap) (S : St s₁ L b ((o, Lst ovs) :: (sh, Lst svs) :: H) s)
    (hroom : A.depth + 2 < recursionLimit) (hh : A.handled = none) (hu : A.units + 80 < cLine) (hfr : A.frames = some fs) (hF : ∀ env ∈ fs, env.scope.kind ≠ .module ∧ ∃ F, env.frame = some F ∧ (F = L ∨ ∃ b, (F, Frm b) ∈ H))
    (hval : ∀ v, v ∈ ovs ∨ v ∈ svs → ∃ a, v = .ref a ∧ (a, DctT w (num v)) ∈ H ∧ (a == sysModules) = false)
    (hd : (d, Bal PySem.Challenge.rw_dn0232_11.row.prog w bs) ∈ H) (lo : (d == sysModules) = false) (hlen : bs.length ≤ 63) (hbig : ∀ n, (val bs n).natAbs ≤ 63) (hlo : ovs.length ≤ 63) (hls : svs.length ≤ 63)
    (hcM : ∀ n, ((uldD (same num) ovs.reverse svs []).1.map num).count n = (max 0 (-1 * val bs n)).toNat) (hcS : ∀ n, ((uldD (same num) ovs.reverse svs []).2.map num).count n = (max 0 (1 * val bs n)).toNat)
    (h : ∀ s' t m, St s₁ L b ((t, Tup [.bool true, .ref m]) :: (m, Lst (uldD (same num) ovs.reverse svs []).1) :: (o, Lst []) :: (sh, Lst (uldD (same num) ovs.reverse svs []).2) :: H) s' → Q (.ref t) s') :
    wpAny (model PySem.Challenge.rw_dn0232_11.row.prog w) A (call (.ref 31) [.ref o, .ref sh, .ref d]) Q E s := by
  have hnd : (bs.map (·.1)).Nodup := Bal.nodup (S.get (List.mem_cons_of_mem _ (List.mem_cons_of_mem _ hd)))
  refine call_fn S X TR.nolimit (by rfl) (by rfl) (by omega) (by rfl) (BindsTo.of_eq (by rfl)) (by decide) (b' := [(Str.ofString "balance", .ref d), (Str.ofString "shelf", .ref sh), (Str.ofString "orders", .ref o)]) (locs (by rfl)) (by rfl) ?_ (by rfl) (by rfl) (by rfl)
  clear S
  intro s' L' S'
  obtain ⟨hM1, hM2, hM3, hM4⟩ := uldD_mem (same num) ovs.reverse svs []
  generalize hUe : uldD (same num) ovs.reverse svs [] = U at *
  obtain ⟨M, SH⟩ := U
  simp only at hM1 hM2 hM3 hM4 hcM hcS h
  simp only [List.length_nil, Nat.zero_add, List.length_reverse] at hM3
  walk_at "one"
  rename St _ _ _ _ _ => S
  refine uldD_spec (same num) X TR (S.perm (H' := (o, Lst ovs) :: (sh, Lst svs) :: (L, Frm b) :: H) ?_) (by simp only [depth_deeper]; omega) hh (Around.frames_deeper hfr) ?_ (by omega) (by omega) ?_ ?_
  · exact (List.perm_middle (l₁ := [_, _]) (l₂ := H))
  · intro env hm
    rcases List.mem_cons.mp hm with rfl | hm
    · exact ⟨by show ScopeKind.function ≠ .module; decide, L', rfl, Or.inl rfl⟩
    · obtain ⟨hk, F, hf, hm⟩ := hF env hm
      refine ⟨hk, F, hf, Or.inr ?_⟩
      rcases hm with rfl | ⟨b'', hm⟩
      · exact ⟨b, by simp⟩
      · exact ⟨b'', by simp [hm]⟩
  · intro env s' hp x hx y hy
    obtain ⟨a1, rfl, h1, l1⟩ := hval x (Or.inl hx)
    obtain ⟨a2, rfl, h2, l2⟩ := hval y (Or.inr hy)
    exact eqW_dicts (hp _ (List.mem_cons_of_mem _ h2)) (hp _ (List.mem_cons_of_mem _ h1)) l2 l1 (by simp; omega)
  clear S
  intro _ tl m S
  rw [hUe] at S
  dsimp only at S
  walk_at "in"
  walk_at "one"
  rename St _ _ _ _ _ => S
  refine SeqAt.RcAt.lists (items := SH.toArray) (items2 := SH.toArray) (e := fun _ => true) (Lst.isList (S.get (by walk_at "mem"))) (Lst.isList (S.get (by walk_at "mem"))) rfl (by simp; omega) (fun j k1 k2 => SeqAt.EqAt.same _) _ w _ _ ?_
  rw [List.all_eq_true.mpr (fun _ _ => rfl)]
  walk_at "in"
  rename St _ _ _ _ _ => S
  have S2 : St s₁ L' [(Str.ofString "right", .bool true), (Str.ofString "missing", .ref m), (Str.ofString "balance", .ref d), (Str.ofString "shelf", .ref sh)] ((m, Lst M) :: (o, Lst []) :: (sh, Lst SH) :: (L, Frm b) :: H) _ := (S.bind (by walk_at "bind")).sub (.cons _ (.cons _ (.refl _)))
  clear S
  have okM : ∀ v ∈ M, ∃ a, v = .ref a ∧ (a, DctT w (num v)) ∈ H := fun v hv => by
    rcases hM1 v hv with q | q
    · simp at q
    · obtain ⟨a, e, h1, _⟩ := hval v (Or.inl (List.mem_reverse.mp q)); exact ⟨a, e, h1⟩
  have okS : ∀ v ∈ SH, ∃ a, v = .ref a ∧ (a, DctT w (num v)) ∈ H := fun v hv => by
    obtain ⟨a, e, h1, _⟩ := hval v (Or.inr (hM2 v hv)); exact ⟨a, e, h1⟩
  have hlM : M.length ≤ 63 := by omega
  have hlS : SH.length ≤ 63 := by omega
  -- the numbers of the missing ones
  walk_at "one"
  rename St _ _ _ _ _ => S
  refine comp_list (vs := M) (fun i ys H' => IntsAre ys ((M.take i).map num) ∧ H' = (m, Lst M) :: (o, Lst []) :: (sh, Lst SH) :: (L, Frm b) :: H) S ⟨.nil, rfl⟩ (by rw [sizeLine_eq]; omega) (Or.inl (by simp)) (by rintro i ys H' ⟨_, rfl⟩; exact Or.inl (by simp)) hh (by decide) (by rfl) (by rfl) ?_ ?_
  · clear S
    rintro C D I i v ys H' s' hv ⟨hys, rfl⟩ S
    obtain ⟨hi, hie⟩ := List.getElem?_eq_some_iff.mp hv
    obtain ⟨a, rfl, ha⟩ := okM v (List.mem_of_getElem? hv)
    refine tests_nil (ifT ?_)
    walk_at "go"
    rename St _ _ _ _ _ => S
    refine ⟨_, _, S, ?_, rfl⟩
    rw [List.take_succ_eq_append_getElem hi, List.map_append, hie]
    exact hys.append (.cons _ _ .nil)
  clear S
  rintro C D ys H' s' ⟨hys, rfl⟩ S
  rw [List.take_length] at hys
  clear S
  intro s'' S
  have hyl : ys.length = M.length := by have := hys.length; simpa using this
  walk_at "in"
  rename St _ _ _ _ _ => S
  refine c_sortedL S (by walk_at "isat") hys (by omega) ?_
  clear S
  intro _ D1 vs1 ns1 hI1 hp1 hs1 S
  walk_at "in"
  rename St _ _ _ _ _ => S
  refine spread_spec X TR S (by simp only [depth_deeper]; omega) hh (by simp [hd]) lo hlen hbig (Or.inr rfl) ?_
  clear S
  intro _ D2 vs2 ks hk1 hk2 hI2 S
  have hEq := sorted_spread hnd hk1 hk2 hp1 hs1 hcM
  refine l_neInts S (by walk_at "isat") (by walk_at "isat") hI1 hI2 (by simp; omega) ?_
  rw [show (!decide (ns1 = spread bs (-1) ks)) = false by rw [hEq]; simp]
  walk_at "in"
  rename St _ _ _ _ _ => S
  have S3 : St s₁ L' [(Str.ofString "right", .bool true), (Str.ofString "missing", .ref m), (Str.ofString "balance", .ref d), (Str.ofString "shelf", .ref sh)] ((m, Lst M) :: (o, Lst []) :: (sh, Lst SH) :: (L, Frm b) :: H) _ := (S.bind (by walk_at "bind")).sub (.cons _ (.cons _ (.cons _ (.refl _))))
  clear S hp1 hs1 hI1 hk1 hk2 hI2 hEq hys hyl
  refine wpAny_execs_nil ?_
  walk_at "one"
  rename St _ _ _ _ _ => S
  refine comp_list (vs := SH) (fun i ys H' => IntsAre ys ((SH.take i).map num) ∧ H' = (m, Lst M) :: (o, Lst []) :: (sh, Lst SH) :: (L, Frm b) :: H) S ⟨.nil, rfl⟩ (by rw [sizeLine_eq]; omega) (Or.inl (by simp)) (by rintro i ys H' ⟨_, rfl⟩; exact Or.inl (by simp)) hh (by decide) (by rfl) (by rfl) ?_ ?_
  · clear S
    rintro C D I i v ys H' s' hv ⟨hys, rfl⟩ S
    obtain ⟨hi, hie⟩ := List.getElem?_eq_some_iff.mp hv
    obtain ⟨a, rfl, ha⟩ := okS v (List.mem_of_getElem? hv)
    refine tests_nil (ifT ?_)
    walk_at "go"
    rename St _ _ _ _ _ => S
    refine ⟨_, _, S, ?_, rfl⟩
    rw [List.take_succ_eq_append_getElem hi, List.map_append, hie]
    exact hys.append (.cons _ _ .nil)
  clear S
  rintro C D ys H' s' ⟨hys, rfl⟩ S
  rw [List.take_length] at hys
  clear S
  intro s'' S
  have hyl : ys.length = SH.length := by have := hys.length; simpa using this
  walk_at "in"
  rename St _ _ _ _ _ => S
  refine c_sortedL S (by walk_at "isat") hys (by omega) ?_
  clear S
  intro _ D1 vs1 ns1 hI1 hp1 hs1 S
  walk_at "in"
  rename St _ _ _ _ _ => S
  refine spread_spec X TR S (by simp only [depth_deeper]; omega) hh (by simp [hd]) lo hlen hbig (Or.inl rfl) ?_
  clear S
  intro _ D2 vs2 ks hk1 hk2 hI2 S
  have hEq := sorted_spread hnd hk1 hk2 hp1 hs1 hcS
  refine l_neInts S (by walk_at "isat") (by walk_at "isat") hI1 hI2 (by simp; omega) ?_
  rw [show (!decide (ns1 = spread bs 1 ks)) = false by rw [hEq]; simp]
  walk_at "go"
  rename St _ _ _ _ _ => S
  exact h _ _ m ((S.perm (List.perm_middle (l₁ := [_, _, _, _, _, _, _])).symm).back.sub (.cons_cons _ (.cons _ (.cons _ (.cons _ (.refl _))))))
end
end Mine
local macro_rules | `(tactic| walk_at "getMethod ref") => `(tactic| ((rename Mine.St _ _ _ _ _ => wS); (with_reducible show wpAny _ _ (getMethod _ (Str.ofString "get") _) _ _ _); k_dflt (refine Mine.m_dget wS (by walk_at "mem") ?_)))
local macro_rules | `(tactic| walk_at "call builtin:dict.get") => `(tactic| ((rename Mine.St _ _ _ _ _ => wS); k_dflt (refine Mine.d_get wS (by walk_at "mem") (by assumption) ?_); clear wS; intro _ _ _))
local macro_rules | `(tactic| walk_at "setItem") => `(tactic| ((rename Mine.St _ _ _ _ _ => wS); k_dflt (refine Mine.d_set wS (by walk_at "upd") (by walk_at "size") ?_); clear wS; intro _ _))
local macro_rules | `(tactic| walk_at "getItem") => `(tactic| ((rename Mine.St _ _ _ _ _ => wS); k_dflt (refine Mine.d_getI wS (by walk_at "mem") (by assumption) ?_); clear wS; intro _ _ _))
local macro_rules | `(tactic| walk_at "subscriptTail") => `(tactic| ((with_reducible show wpAny _ _ (subscriptTail _ _ (Value.ref _) (Value.str _ _)) _ _ _); (rename Mine.St _ _ _ _ _ => wS); k_dflt (refine Mine.d_item wS (by walk_at "mem") ?_ (by with_unfolding_all rfl)); clear wS; intro _ _ _))
namespace Mine
theorem t_in2 {prog : Program} {w : World} {A : Around} {E : Value → Shared → Prop} {s s₁ : Shared} {L a : Addr} {b : List (Str × Value)} {H : List Ent} {Q : Value → Shared → Prop} {i j k : Int} {t u v : Tok} (S : St s₁ L b H s) (hm : (a, Tup [.int i t, .int j u]) ∈ H) (h : Q (.bool ([i, j].any (· == k))) s) :
    wpAny (model prog w) A (compareOp .In (.int k v) (.ref a)) Q E s :=
  PyProof.Rows.in_tuple_ints (Tup.isTup (S.get hm)) (.cons _ _ (.cons _ _ .nil)) h
local macro_rules | `(tactic| walk_at "compareOp In int ref") => `(tactic| ((rename Mine.St _ _ _ _ _ => wS); k_dflt (refine Mine.t_in2 wS (by walk_at "mem") ?_)))
abbrev Kt (w : World) (ts : List Pr) : List Ent := ts.map fun p => (p.1, DctT w p.2)
noncomputable abbrev fdL (w : World) := fdAt (hd11.heap_39 w.params) 36
noncomputable abbrev envL (w : World) (L fa : Addr) (cd : Value) := envOf (fdL w).name (fdL w).scope L fa cd
abbrev prog11 := PySem.Challenge.rw_dn0232_11.row.prog
abbrev HT (w : World) (o sh dl bl : Addr) (ts D os : List Pr) (c : Int → Nat) (bs : List (Int × Int)) (dvs : List Value) : List Ent :=
  (o, Lst (os.map vl)) :: (sh, Lst ((aliveP c D.reverse).map vl)) :: (dl, Lst dvs) :: (bl, Bal prog11 w bs) :: Kt w ts
abbrev B5 (o sh dl bl l : Addr) : List (Str × Value) := [(Str.ofString "orders", .ref o), (Str.ofString "shelf", .ref sh), (Str.ofString "delivered", .ref dl), (Str.ofString "balance", .ref bl), (Str.ofString "script", .ref l)]
structure Inv (dD dO dB : Nat) (ts D os : List Pr) (c : Int → Nat) (bs : List (Int × Int)) (dvs : List Value) : Prop where
  dv : IntsAre dvs (D.map (·.2))
  lD : D.length ≤ dD
  lO : os.length ≤ dO
  lB : bs.length ≤ dB
  sD : ∀ p ∈ D, p ∈ ts
  sO : ∀ p ∈ os, p ∈ ts
  sy : ∀ p ∈ ts, (p.1 == sysModules) = false
  cD : ∀ n, c n ≤ cp n D
  vl : ∀ n, val bs n = (cp n D : Int) - c n - cp n os
  kD : ∀ p ∈ D, p.2 ∈ bs.map (·.1)
theorem i_isub {prog : Program} {w : World} {A : Around} {E : Value → Shared → Prop} {s s₁ : Shared} {L : Addr} {b : List (Str × Value)} {H : List Ent} {i j : Int} {t u : Tok} {Q : Value → Shared → Prop} (S : St s₁ L b H s) (h : ∀ s' t', St s₁ L b H s' → Q (.int (i - j) t') s') : wpAny (model prog w) A (inplaceOp .Sub (.int i t) (.int j u)) Q E s := isub_int (h _ _ (S.tok _))
local macro_rules | `(tactic| walk_at "inplaceOp Sub int int") => `(tactic| ((rename Mine.St _ _ _ _ _ => wS); refine Mine.i_isub wS ?_; clear wS; intro _ _ _))
section
variable {w : World} {s s₁ : Shared} {L d a I o sh dl bl : Addr} {b : List (Str × Value)} {P PI : Obj → Prop} {ts D os : List Pr} {c : Int → Nat} {bs : List (Int × Int)} {dvs : List Value} {n : Int} {tn : Tok} {i : Nat}
theorem stage1 (S : St s₁ L b ((d, DctT w n) :: (a, P) :: (I, PI) :: (o, Lst (os.map vl)) :: (sh, Lst ((aliveP c D.reverse).map vl ++ [.ref d])) :: (dl, Lst (dvs ++ [.int n tn])) :: (bl, Bal prog11 w (setB bs n (val bs n + 1))) :: Kt w ts) s)
    (hd : (d == sysModules) = false) (inv : Inv i i (i + 1) ts D os c bs dvs) (hn : n ∈ bs.map (·.1)) :
    ∃ ts D bs dvs, St s₁ L b ((I, PI) :: HT w o sh dl bl ts D os c bs dvs) s ∧ Inv (i + 1) i (i + 1) ts D os c bs dvs ∧ n ∈ bs.map (·.1) := by
  have hA : (aliveP c (D ++ [(d, n)]).reverse).map vl = (aliveP c D.reverse).map vl ++ [.ref d] := by
    rw [List.reverse_append, List.reverse_singleton, List.singleton_append, aliveP, cp_rev, if_pos (inv.cD n), List.map_append]; rfl
  refine ⟨(d, n) :: ts, D ++ [(d, n)], setB bs n (val bs n + 1), dvs ++ [.int n tn], ?_, ⟨?_, ?_, inv.lO, ?_, ?_, ?_, ?_, ?_, ?_, ?_⟩, ((keys_setB _ _ _).1 n).mpr (Or.inl rfl)⟩
  · show St s₁ L b ((I, PI) :: (o, Lst (os.map vl)) :: (sh, Lst ((aliveP c (D ++ [(d, n)]).reverse).map vl)) :: (dl, Lst (dvs ++ [.int n tn])) :: (bl, Bal prog11 w (setB bs n (val bs n + 1))) :: (d, DctT w n) :: Kt w ts) s
    rw [hA]
    exact (S.sub (.cons_cons _ (.cons _ (.refl _)))).perm (List.perm_middle (l₁ := [_, _, _, _, _]))
  · rw [List.map_append]; exact inv.dv.append (.cons _ _ .nil)
  · have := inv.lD; simp; omega
  · rw [len_setB_mem _ _ _ hn]; exact inv.lB
  · intro p hp
    rcases List.mem_append.mp hp with h | h
    · exact List.mem_cons_of_mem _ (inv.sD p h)
    · rw [List.mem_singleton.mp h]; exact List.mem_cons_self ..
  · exact fun p hp => List.mem_cons_of_mem _ (inv.sO p hp)
  · intro p hp
    rcases List.mem_cons.mp hp with rfl | h
    · exact hd
    · exact inv.sy p h
  · intro m; have := inv.cD m; rw [cp_append]; omega
  · intro m
    have := inv.vl m
    rw [val_setB, cp_append, cp_cons, cp_nil]
    by_cases e : m = n
    · subst e; simp only [if_true]; omega
    · simp only [e, Ne.symm e, if_false]; omega
  · intro p hp
    rcases List.mem_append.mp hp with h | h
    · exact ((keys_setB _ _ _).1 _).mpr (Or.inr (inv.kD p h))
    · rw [List.mem_singleton.mp h]; exact ((keys_setB _ _ _).1 n).mpr (Or.inl rfl)
theorem stage2 (S : St s₁ L b ((d, DctT w n) :: (I, PI) :: (o, Lst (os.map vl ++ [.ref d])) :: (sh, Lst ((aliveP c D.reverse).map vl)) :: (dl, Lst dvs) :: (bl, Bal prog11 w (setB bs n (val bs n - 1))) :: Kt w ts) s)
    (hd : (d == sysModules) = false) (inv : Inv (i + 1) i (i + 1) ts D os c bs dvs) (hn : n ∈ bs.map (·.1)) :
    ∃ ts os bs, St s₁ L b ((I, PI) :: HT w o sh dl bl ts D os c bs dvs) s ∧ Inv (i + 1) (i + 1) (i + 1) ts D os c bs dvs := by
  refine ⟨(d, n) :: ts, os ++ [(d, n)], setB bs n (val bs n - 1), ?_, ⟨inv.dv, inv.lD, ?_, ?_, ?_, ?_, ?_, inv.cD, ?_, ?_⟩⟩
  · show St s₁ L b ((I, PI) :: (o, Lst ((os ++ [(d, n)]).map vl)) :: (sh, Lst ((aliveP c D.reverse).map vl)) :: (dl, Lst dvs) :: (bl, Bal prog11 w (setB bs n (val bs n - 1))) :: (d, DctT w n) :: Kt w ts) s
    rw [List.map_append]
    exact S.perm (List.perm_middle (l₁ := [_, _, _, _, _]))
  · have := inv.lO; simp; omega
  · rw [len_setB_mem _ _ _ hn]; exact inv.lB
  · exact fun p hp => List.mem_cons_of_mem _ (inv.sD p hp)
  · intro p hp
    rcases List.mem_append.mp hp with h | h
    · exact List.mem_cons_of_mem _ (inv.sO p h)
    · rw [List.mem_singleton.mp h]; exact List.mem_cons_self ..
  · intro p hp
    rcases List.mem_cons.mp hp with rfl | h
    · exact hd
    · exact inv.sy p h
  · intro m
    have := inv.vl m
    rw [val_setB, cp_append, cp_cons, cp_nil]
    by_cases e : m = n
    · subst e; simp only [if_true]; omega
    · simp only [e, Ne.symm e, if_false]; omega
  · intro p hp; exact ((keys_setB _ _ _).1 _).mpr (Or.inr (inv.kD p hp))
/-- after a settlement -/
theorem stage3 {k : Nat} (inv : Inv k k k ts D os c bs dvs) : Inv k k k ts D (missP D c os.reverse) (fun n => min (c n + cp n os) (cp n D)) bs dvs := by
  obtain ⟨m1, m2⟩ := miss_sub D os.reverse c
  refine ⟨inv.dv, inv.lD, by have := inv.lO; simp at m2; omega, inv.lB, inv.sD, fun p hp => inv.sO p (List.mem_reverse.mp (m1 p hp)), inv.sy, fun n => Nat.min_le_right _ _, fun n => ?_, inv.kD⟩
  have h1 := inv.vl n
  have h2 := inv.cD n
  rw [miss_cp, cp_rev, h1]
  omega
theorem alive3 : aliveP (fun n => c n + cp n os) D.reverse = aliveP (fun n => min (c n + cp n os) (cp n D)) D.reverse :=
  alive_min _ _ _ fun n => by rw [cp_rev]; omega
theorem DctT.uniq {n m : Int} {h : Heap} (h1 : ∃ o, h.get? a = some o ∧ DctT w n o) (h2 : ∃ o, h.get? a = some o ∧ DctT w m o) : n = m := by
  obtain ⟨o, ho, hx, ep, t, u, hd⟩ := h1
  obtain ⟨o', ho', hx', ep', t', u', hd'⟩ := h2
  rw [ho] at ho'; cases ho'
  rw [hd] at hd'
  injection hd' with e1 _
  have e2 := congrArg Array.toList e1
  injection e2 with e3 _
  injection e3 with _ _ e4
  injection e4 with e5 _
/-- the numbers of the dicts that were made -/
def tab (ts : List Pr) : Value → Int := fun v => ((ts.find? fun p => vl p == v).map (·.2)).getD 0
theorem tab_mem (S : St s₁ L b H s) (hH : ∀ p ∈ ts, (p.1, DctT w p.2) ∈ H) : ∀ p ∈ ts, tab ts (vl p) = p.2 := by
  intro p hp
  unfold tab
  cases h : ts.find? fun q => vl q == vl p with
  | none =>
    have := List.find?_eq_none.mp h p hp
    simp at this
  | some q =>
    have h1 := List.mem_of_find?_eq_some h
    have h2 := List.find?_some h
    simp only [Option.map_some, Option.getD_some]
    have e : q.1 = p.1 := by have := eq_of_beq h2; injection this
    have g1 := S.get (hH q h1)
    have g2 := S.get (hH p hp)
    rw [e] at g1
    exact DctT.uniq g1 g2
end
section
variable {w : World} {p : Program} {loose : List Str} {mg mb : Str → Option Value} {A : Around} {s s₁ : Shared} {L fa l : Addr} {cd : Value} {vs : List Value} {ns : List Int} {Q : Flow → Shared → Prop}
theorem hsys11 {b : List (Str × Value)} {H : List Ent} (X : (hd11.heap_39 w.params).In s₁.heap) (S : St s₁ L b H s) : sysModules < s.heap.objs.size := by
  obtain ⟨o, ho⟩ : ∃ o, s₁.heap.get? 36 = some o := ⟨_, X 36 _ (by rfl)⟩
  have := Heap.lt_size (S.keep _ _ ho)
  exact Nat.lt_trans (show sysModules < 36 by decide) this
theorem settle_use {o sh bl : Addr} {b : List (Str × Value)} {H : List Ent} {ts D os : List Pr} {c : Int → Nat} {bs : List (Int × Int)} {dvs : List Value} {E : Value → Shared → Prop} {Q : Value → Shared → Prop} (X : (hd11.heap_39 w.params).In s₁.heap) (TR : TopRead p loose mg mb s₁.heap)
    (hh : A.handled = none) (hd : A.depth + 5 < recursionLimit) (hu : A.units + 128 < cLine) (hfr : A.frames = some [envL w L fa cd])
    (S : St s₁ L b ((o, Lst (os.map vl)) :: (sh, Lst ((aliveP c D.reverse).map vl)) :: H) s) (inv : Inv 63 63 63 ts D os c bs dvs) (hts : ∀ p ∈ ts, (p.1, DctT w p.2) ∈ H) (hbl : (bl, Bal prog11 w bs) ∈ H) (lo : (bl == sysModules) = false)
    (h : ∀ s' t m, St s₁ L b ((t, Tup [.bool true, .ref m]) :: (m, Lst ((missP D c os.reverse).map vl)) :: (o, Lst []) :: (sh, Lst ((aliveP (fun n => min (c n + cp n os) (cp n D)) D.reverse).map vl)) :: H) s' → Q (.ref t) s') :
    wpAny (model prog11 w) A (call (.ref 31) [.ref o, .ref sh, .ref bl]) Q E s := by
  have hnum : ∀ p ∈ ts, tab ts (vl p) = p.2 := tab_mem S fun p hp => List.mem_cons_of_mem _ (List.mem_cons_of_mem _ (hts p hp))
  have hU := uld_pairs (num := tab ts) D os c (fun p hp => hnum p (inv.sD p hp)) (fun p hp => hnum p (inv.sO p hp))
  rw [alive3] at hU
  have inv3 := stage3 inv
  have hz : ∀ n, ((cp n D : Nat) : Int) ≤ 63 := fun n => by have := cp_le n D; have := inv.lD; omega
  have hz2 : ∀ n, ((cp n os : Nat) : Int) ≤ 63 := fun n => by have := cp_le n os; have := inv.lO; omega
  have hmap : ∀ l : List Pr, (∀ p ∈ l, p ∈ ts) → ∀ n, ((l.map vl).map (tab ts)).count n = cp n l := fun l hl n => by
    unfold cp
    rw [List.map_map]
    congr 1
    exact List.map_congr_left fun p hp => hnum p (hl p hp)
  have hal : ∀ p ∈ aliveP (fun n => min (c n + cp n os) (cp n D)) D.reverse, p ∈ ts := fun p hp => inv.sD p (List.mem_reverse.mp ((alive_sub _ _).1 p hp))
  have hal0 : ∀ p ∈ aliveP c D.reverse, p ∈ ts := fun p hp => inv.sD p (List.mem_reverse.mp ((alive_sub _ _).1 p hp))
  refine settle_spec (tab ts) X TR S (by omega) hh (by omega) hfr ?_ ?_ hbl lo inv.lB ?_ (by rw [List.length_map]; exact inv.lO) ?_ ?_ ?_ ?_
  · intro env hm
    rw [List.mem_singleton.mp hm]
    exact ⟨by show ScopeKind.function ≠ .module; decide, L, rfl, Or.inl rfl⟩
  · intro v hv
    obtain ⟨p, hp, rfl⟩ : ∃ p ∈ ts, v = vl p := by
      rcases hv with hv | hv
      · obtain ⟨p, hp, rfl⟩ := List.mem_map.mp hv; exact ⟨p, inv.sO p hp, rfl⟩
      · obtain ⟨p, hp, rfl⟩ := List.mem_map.mp hv; exact ⟨p, hal0 p hp, rfl⟩
    exact ⟨p.1, rfl, by rw [hnum p hp]; exact hts p hp, inv.sy p hp⟩
  · intro n
    have h1 := inv.vl n
    have h2 := inv.cD n
    have h3 := hz n
    have h4 := hz2 n
    omega
  · rw [List.length_map]; have := (alive_sub c D.reverse).2; have := inv.lD; simp at *; omega
  · intro n
    rw [hU]
    show ((List.map vl (missP D c os.reverse)).map (tab ts)).count n = _
    rw [hmap _ inv3.sO, miss_cp, cp_rev, inv.vl n]
    have h2 := inv.cD n
    omega
  · intro n
    rw [hU]
    show ((List.map vl (aliveP (fun n => min (c n + cp n os) (cp n D)) D.reverse)).map (tab ts)).count n = _
    rw [hmap _ hal, alive_cp, cp_rev, inv.vl n]
    have h2 := inv.cD n
    omega
  · intro s' t m S'
    rw [hU] at S'
    exact h s' t m S'
local macro_rules | `(tactic| walk_at "eval Dict") => `(tactic| ((rename Mine.St _ _ _ _ _ => wS); k_dflt (refine Mine.ev_dictT wS (Mine.hsys11 (by assumption) wS) (fun s' H' E' Q' S q => wpAny_Constant_str (q _ _ rfl (S.tok _))) (fun s' H' E' Q' S q => Mine.nm_L S (by with_unfolding_all rfl) (by with_unfolding_all rfl) q (by with_unfolding_all rfl) (by with_unfolding_all rfl) (by with_unfolding_all decide)) ?_); clear wS; intro _ _ _ _))
theorem part11A (X : (hd11.heap_39 w.params).In s₁.heap) (TR : TopRead p loose mg mb s₁.heap) (hL : s₁.heap.IsList l vs.toArray) (hI : IntsAre vs ns) (hlen : ns.length ≤ 63)
    (hh : A.handled = none) (hd : A.depth + 5 < recursionLimit) (hu : A.units + 128 < cLine) (hfr : A.frames = some [envL w L fa cd]) (S : St s₁ L [(Str.ofString "script", .ref l)] [] s)
    (h : ∀ s' o sh dl bl ts D os c bs dvs, St s₁ L (B5 o sh dl bl l) (HT w o sh dl bl ts D os c bs dvs) s' → (bl == sysModules) = false → Inv 63 63 63 ts D os c bs dvs → wpAny (model prog11 w) A (execs ((bodyAt (fdL w)).drop 5) (envL w L fa cd)) Q (fun _ _ => False) s')
    (hQ : True) : wpAny (model prog11 w) A (execs (bodyAt (fdL w)) (envL w L fa cd)) Q (fun _ _ => False) s := by
  have hvl : vs.length = ns.length := hI.length
  walk_at "one"
  walk_at "one"
  walk_at "one"
  walk_at "one"
  rename St _ _ _ _ _ => S
  refine ev_dict0 S (hsys11 X S) ?_
  clear S
  intro _ bl0 hbl0 S
  walk_at "in"
  rename St _ _ _ _ _ => S
  obtain ⟨o, sh, dl, bl, e1, e2, e3, e4, hbl, S2⟩ : ∃ o sh dl bl, Value.ref o = Value.ref _ ∧ Value.ref sh = Value.ref _ ∧ Value.ref dl = Value.ref _ ∧ Value.ref bl = Value.ref _ ∧ (bl == sysModules) = false ∧ St s₁ L (B5 o sh dl bl l) (HT w o sh dl bl [] [] [] (fun _ => 0) [] []) _ :=
    ⟨_, _, _, _, rfl, rfl, rfl, rfl, hbl0, (S.bind (by walk_at "bind")).perm (by
      refine List.Perm.trans ?_ (List.reverse_perm [_, _, _, _])
      exact .swap _ _ _)⟩
  clear S e1 e2 e3 e4
  refine wpAny_execs_cons ?_
  walk_at "in"
  rename St _ _ _ _ _ => S2
  refine for_list (vs := vs) (fun i b' H' => ∃ o ts D os c bs dvs, b' = B5 o sh dl bl l ∧ H' = HT w o sh dl bl ts D os c bs dvs ∧ Inv i i i ts D os c bs dvs) S2
    ⟨o, [], [], [], fun _ => 0, [], [], rfl, rfl, ⟨.nil, Nat.le_refl _, Nat.le_refl _, Nat.le_refl _, nofun, nofun, nofun, fun _ => Nat.le_refl _, fun _ => rfl, nofun⟩⟩ (Or.inr hL) (fun _ _ _ _ => Or.inr hL) hh (by with_unfolding_all rfl) (by with_unfolding_all rfl) (by with_unfolding_all rfl) ?_ ?_
  · clear S2 hbl0
    rintro I i v b' H' s' hv ⟨o, ts, D, os, c, bs, dvs, rfl, rfl, inv⟩ S
    have hi : i < vs.length := (List.getElem?_eq_some_iff.mp hv).1
    obtain ⟨x, t, rfl, hn⟩ := hI.at i v hv
    have hzB : bs.length ≤ sizeLine := by rw [sizeLine_eq]; have := inv.lB; omega
    walk_at "one"
    walk_at "one"
    rename St _ _ _ _ _ => S
    generalize hne : x / 4 = n at S
    have hv0 : (getB bs n).getD 0 = val bs n := rfl
    rw [hv0] at S
    have hk0 := (keys_setB bs n (val bs n)).1
    have hl0 := (keys_setB bs n (val bs n)).2
    have hval0 : ∀ m, val (setB bs n (val bs n)) m = val bs m := fun m => by rw [val_setB]; split <;> simp_all
    generalize hb0 : setB bs n (val bs n) = bs0 at S hk0 hl0 hval0
    have inv0 : Inv i i (i + 1) ts D os c bs0 dvs := ⟨inv.dv, inv.lD, inv.lO, by have := inv.lB; omega, inv.sD, inv.sO, inv.sy, inv.cD, fun m => by rw [hval0]; exact inv.vl m, fun p hp => (hk0 _).mpr (Or.inr (inv.kD p hp))⟩
    have hnk : n ∈ bs0.map (·.1) := (hk0 n).mpr (Or.inl rfl)
    clear inv hzB hb0 hv0 hl0 hval0 hk0
    obtain ⟨tn, S1⟩ : ∃ tn, St s₁ L ((Str.ofString "n", .int n tn) :: (Str.ofString "x", .int x t) :: B5 o sh dl bl l) ((I, LI l (i + 1)) :: HT w o sh dl bl ts D os c bs0 dvs) _ := ⟨_, S.bind (by walk_at "bind")⟩
    clear S
    refine ex_post (fun s' => ∃ ts D bs dvs, St s₁ L ((Str.ofString "n", .int n tn) :: (Str.ofString "x", .int x t) :: B5 o sh dl bl l) ((I, LI l (i + 1)) :: HT w o sh dl bl ts D os c bs dvs) s' ∧ Inv (i + 1) i (i + 1) ts D os c bs dvs ∧ n ∈ bs.map (·.1)) ?_ ?_
    · have hg := getB_mem hnk
      have z1 : (aliveP c D.reverse).length ≤ 63 := by have := (alive_sub c D.reverse).2; have := inv0.lD; simp at *; omega
      have y1 : ((aliveP c D.reverse).map vl).length ≤ sizeLine := by rw [sizeLine_eq, List.length_map]; omega
      have y2 : dvs.length ≤ sizeLine := by have := inv0.dv.length; have := inv0.lD; rw [sizeLine_eq]; simp at *; omega
      have y3 : bs0.length ≤ sizeLine := by have := inv0.lB; rw [sizeLine_eq]; omega
      walk_at "in"
      walk_at "go"
      · rename St _ _ _ _ _ => S
        exact same_next (stage1 S (by assumption) inv0 hnk)
      · rename St _ _ _ _ _ => S
        exact same_next ⟨ts, D, bs0, dvs, S.drop, ⟨inv0.dv, by have := inv0.lD; omega, inv0.lO, inv0.lB, inv0.sD, inv0.sO, inv0.sy, inv0.cD, inv0.vl, inv0.kD⟩, hnk⟩
    clear S1 inv0 hnk
    rintro s' ⟨ts, D, bs, dvs, S, inv, hnk⟩
    refine ex_post (fun s' => ∃ ts os bs, St s₁ L ((Str.ofString "n", .int n tn) :: (Str.ofString "x", .int x t) :: B5 o sh dl bl l) ((I, LI l (i + 1)) :: HT w o sh dl bl ts D os c bs dvs) s' ∧ Inv (i + 1) (i + 1) (i + 1) ts D os c bs dvs) ?_ ?_
    · have hg := getB_mem hnk
      have y1 : (os.map vl).length ≤ sizeLine := by have := inv.lO; rw [sizeLine_eq, List.length_map]; omega
      have y3 : bs.length ≤ sizeLine := by have := inv.lB; rw [sizeLine_eq]; omega
      walk_at "in"
      walk_at "go"
      · rename St _ _ _ _ _ => S
        exact same_next (stage2 S (by assumption) inv hnk)
      · rename St _ _ _ _ _ => S
        exact same_next ⟨ts, os, bs, S, ⟨inv.dv, inv.lD, by have := inv.lO; omega, inv.lB, inv.sD, inv.sO, inv.sy, inv.cD, inv.vl, inv.kD⟩⟩
    clear S inv hnk
    rintro s' ⟨ts, os, bs, S, inv⟩
    walk_at "one"
    · walk_at "one"
      rename St _ _ _ _ _ => S
      refine settle_use X TR hh hd hu hfr (S.perm (H' := (o, Lst (os.map vl)) :: (sh, Lst ((aliveP c D.reverse).map vl)) :: (I, LI l (i + 1)) :: (dl, Lst dvs) :: (bl, Bal prog11 w bs) :: Kt w ts) (List.perm_middle (l₁ := [_, _]))) ⟨inv.dv, by have := inv.lD; omega, by have := inv.lO; omega, by have := inv.lB; omega, inv.sD, inv.sO, inv.sy, inv.cD, inv.vl, inv.kD⟩
        (fun p hp => by
          have : (p.1, DctT w p.2) ∈ Kt w ts := List.mem_map.mpr ⟨p, hp, rfl⟩
          simp [this]) (by simp) hbl ?_
      clear S
      intro _ tt m S
      walk_at "in"
      walk_at "go"
      rename St _ _ _ _ _ => S
      refine ⟨B5 m sh dl bl l, HT w m sh dl bl ts D (missP D c os.reverse) (fun n => min (c n + cp n os) (cp n D)) bs dvs, ?_, m, ts, D, missP D c os.reverse, fun n => min (c n + cp n os) (cp n D), bs, dvs, rfl, rfl, stage3 inv⟩
      have S6 := (S.bind (b' := B5 m sh dl bl l) (by walk_at "bind")).sub (H' := (m, Lst ((missP D c os.reverse).map vl)) :: (sh, Lst ((aliveP (fun n => min (c n + cp n os) (cp n D)) D.reverse).map vl)) :: (I, LI l (i + 1)) :: (dl, Lst dvs) :: (bl, Bal prog11 w bs) :: Kt w ts) (.cons _ (.cons_cons _ (.cons _ (.refl _))))
      exact S6.perm (List.perm_middle (l₁ := [_, _])).symm
    · walk_at "go"
      rename St _ _ _ _ _ => S
      exact ⟨_, _, S.bind (by walk_at "bind"), o, ts, D, os, c, bs, dvs, rfl, rfl, inv⟩
  · clear S2
    rintro b' H' s' ⟨o, ts, D, os, c, bs, dvs, rfl, rfl, inv⟩ S
    exact h _ _ _ _ _ _ _ _ _ _ _ S hbl ⟨inv.dv, by have := inv.lD; omega, by have := inv.lO; omega, by have := inv.lB; omega, inv.sD, inv.sO, inv.sy, inv.cD, inv.vl, inv.kD⟩
end
end Mine
local macro_rules | `(tactic| walk_at "subscriptTail") => `(tactic| ((with_reducible show wpAny _ _ (subscriptTail _ _ (Value.ref _) (Value.str _ _)) _ _ _); (rename Mine.St _ _ _ _ _ => wS); k_dflt (refine Mine.d_item wS (by walk_at "mem") ?_ (by with_unfolding_all rfl)); clear wS; intro _ _ _))
local macro_rules | `(tactic| walk_at "subscriptTail") => `(tactic| ((with_reducible show wpAny _ _ (subscriptTail _ _ (Value.ref _) (Value.int _ _)) _ _ _); (rename Mine.St _ _ _ _ _ => wS); k_dflt (refine Mine.d_sub wS (by walk_at "mem") (by assumption) ?_ (by with_unfolding_all rfl)); clear wS; intro _ _ _))
namespace Mine
section
variable {w : World} {p : Program} {loose : List Str} {mg mb : Str → Option Value} {A : Around} {s s₁ : Shared} {L fa l o sh dl bl : Addr} {cd : Value} {ts D os : List Pr} {c : Int → Nat} {bs : List (Int × Int)} {dvs : List Value} {Q : Flow → Shared → Prop}
theorem part11B (X : (hd11.heap_39 w.params).In s₁.heap) (TR : TopRead p loose mg mb s₁.heap)
    (hh : A.handled = none) (hd : A.depth + 5 < recursionLimit) (hu : A.units + 128 < cLine) (hfr : A.frames = some [envL w L fa cd]) (S : St s₁ L (B5 o sh dl bl l) (HT w o sh dl bl ts D os c bs dvs) s) (lo : (bl == sysModules) = false) (inv : Inv 63 63 63 ts D os c bs dvs)
    (hQ : ∀ s' b H, St s₁ L b H s' → Q (.ret (.bool true)) s') :
    wpAny (model prog11 w) A (execs ((bodyAt (fdL w)).drop 5) (envL w L fa cd)) Q (fun _ _ => False) s := by
  have hu2 : A.units + 64 < cLine := by omega
  have hts : ∀ p ∈ ts, (p.1, DctT w p.2) ∈ Kt w ts := fun p hp => List.mem_map.mpr ⟨p, hp, rfl⟩
  walk_at "one"
  rename St _ _ _ _ _ => S
  refine settle_use X TR hh hd hu hfr S inv (fun p hp => by simp [hts p hp]) (by simp) lo ?_
  clear S
  intro _ tt m S
  have inv3 := stage3 inv
  generalize hc' : (fun n => min (c n + cp n os) (cp n D)) = c' at S inv3
  have hcv : ∀ n, (cp n D : Int) - c' n = max 0 (val bs n) := fun n => by
    have h1 := inv.vl n
    have h2 := inv.cD n
    rw [← hc']
    simp only
    omega
  walk_at "in"
  rename St _ _ _ _ _ => S
  have S2 : St s₁ L [(Str.ofString "right", .bool true), (Str.ofString "shelf", .ref sh), (Str.ofString "delivered", .ref dl), (Str.ofString "balance", .ref bl)] ((sh, Lst ((aliveP c' D.reverse).map vl)) :: (dl, Lst dvs) :: (bl, Bal prog11 w bs) :: Kt w ts) _ := (S.bind (by walk_at "bind")).sub (.cons _ (.cons _ (.cons _ (.refl _))))
  clear S
  walk_at "one"
  rename St _ _ _ _ _ => S
  obtain ⟨d, ed, S3⟩ : ∃ d, Value.ref d = Value.ref _ ∧ St s₁ L [(Str.ofString "due", .ref d), (Str.ofString "right", .bool true), (Str.ofString "shelf", .ref sh), (Str.ofString "delivered", .ref dl), (Str.ofString "balance", .ref bl)] ((d, Lst []) :: (sh, Lst ((aliveP c' D.reverse).map vl)) :: (dl, Lst dvs) :: (bl, Bal prog11 w bs) :: Kt w ts) _ := ⟨_, rfl, S.bind (by walk_at "bind")⟩
  clear S ed
  have hdl : dvs.length = D.length := by have := inv.dv.length; simpa using this
  have hlD := inv.lD
  have hz : dvs.length ≤ sizeLine := by rw [sizeLine_eq]; omega
  walk_at "one"
  rename St _ _ _ _ _ => S
  refine for_range1 (fun i b' H' => b' = [(Str.ofString "due", .ref d), (Str.ofString "right", .bool true), (Str.ofString "shelf", .ref sh), (Str.ofString "delivered", .ref dl), (Str.ofString "balance", .ref bl)] ∧ i ≤ D.length ∧ ∃ us, H' = (d, Lst us) :: (sh, Lst ((aliveP c' D.reverse).map vl)) :: (dl, Lst dvs) :: (bl, Bal prog11 w bs) :: Kt w ts ∧ us.length ≤ i ∧ IntsAre us ((aliveP c' (D.take i).reverse).map (·.2)))
    S ⟨rfl, Nat.zero_le _, [], rfl, Nat.le_refl _, .nil⟩ (by decide) (by decide) (by omega) (by omega) hh (by with_unfolding_all rfl) (by with_unfolding_all rfl) (by with_unfolding_all rfl) ?_ ?_
  · clear S
    rintro I P k t b' H' s' hi ⟨rfl, hi', us, rfl, hus, hinv⟩ S
    have hkl : k < D.length := by omega
    rw [Int.zero_add] at S
    obtain ⟨n, tn, en, hn⟩ := inv.dv.at k _ (List.getElem?_eq_getElem (by omega))
    have hxN : dvs[((k : Nat) : Int).toNat]? = some (.int n tn) := by rw [Int.toNat_natCast, List.getElem?_eq_getElem (by omega), en]
    have hnk : (D[k]).2 = n := by simpa [hkl] using hn
    have hg : getB bs n = some (val bs n) := getB_mem (hnk ▸ inv.kD _ (List.getElem_mem hkl))
    have hc2 : IntsAre (cut dvs (some (k : Int)) none) ((D.map (·.2)).drop k) := by
      rw [cut_from _ (by omega), Int.toNat_natCast]; exact ints_dropJ k inv.dv
    walk_at "in"
    walk_at "one"
    rename St _ _ _ _ _ => S
    refine l_count (fun y => eJ y (.int n tn)) S (by walk_at "mem") (eqJ hc2) ?_
    clear S
    intro _ _ S
    rw [IntsAre.countJ hc2]
    have htot : cp n D = cp n (D.take k) + ((D.map (·.2)).drop k).count n := by
      unfold cp
      rw [← List.map_drop, ← List.count_append, ← List.map_append, List.take_append_drop]
    have hpos : 1 ≤ ((D.map (·.2)).drop k).count n := by
      rw [List.drop_eq_getElem_cons (by simpa using hkl), List.count_cons]
      simp [hnk]
    have hnext : aliveP c' (D.take (k + 1)).reverse = aliveP c' (D.take k).reverse ++ (if c' n ≤ cp n (D.take k) then [D[k]] else []) := by
      rw [List.take_succ_eq_append_getElem hkl, List.reverse_append, List.reverse_singleton, List.singleton_append, aliveP, hnk, cp_rev]
    have hv := hcv n
    have hcD := inv3.cD n
    walk_at "go"
    · rename_i hc
      rename St _ _ _ _ _ => S
      rw [if_pos (by omega)] at hnext
      refine ⟨_, _, (S.bind (by walk_at "bind")).sub (.cons _ (.refl _)), rfl, by omega, us ++ [_], rfl, by simp; omega, ?_⟩
      rw [hnext, List.map_append, List.map_singleton, hnk]
      exact hinv.append (.cons _ _ .nil)
    · rename_i hc
      rename St _ _ _ _ _ => S
      rw [if_neg (by omega), List.append_nil] at hnext
      exact ⟨_, _, (S.bind (by walk_at "bind")).sub (.cons _ (.refl _)), rfl, by omega, us, rfl, by omega, by rw [hnext]; exact hinv⟩
  clear S
  rintro b' H' s' ⟨rfl, _, us, rfl, hus, hinv⟩ S
  have e : ((dvs.length : Int) - 0).toNat = D.length := by omega
  rw [e, List.take_length] at hinv
  have hal : ∀ p ∈ aliveP c' D.reverse, p ∈ ts := fun p hp => inv.sD p (List.mem_reverse.mp ((alive_sub _ _).1 p hp))
  have hall : (aliveP c' D.reverse).length ≤ 63 := by have := (alive_sub c' D.reverse).2; simp at this; omega
  walk_at "go"
  rename St _ _ _ _ _ => S
  generalize hS : aliveP c' D.reverse = SS at *
  refine comp_list (vs := SS.map vl) (fun i ys H' => IntsAre ys ((SS.take i).map (·.2)) ∧ H' = (d, Lst us) :: (sh, Lst (SS.map vl)) :: (dl, Lst dvs) :: (bl, Bal prog11 w bs) :: Kt w ts) S ⟨.nil, rfl⟩ (by rw [sizeLine_eq, List.length_map]; omega) (Or.inl (by simp)) (by rintro i ys H' ⟨_, rfl⟩; exact Or.inl (by simp)) hh (by decide) (by rfl) (by rfl) ?_ ?_
  · clear S
    rintro C DD I i v ys H' s' hv ⟨hys, rfl⟩ S
    obtain ⟨hi, hie⟩ := List.getElem?_eq_some_iff.mp hv
    have hi' : i < SS.length := by simpa using hi
    have hve : v = .ref (SS[i]).1 := by rw [← hie]; simp [vl]
    subst hve
    have ha := hts _ (hal _ (List.getElem_mem hi'))
    refine tests_nil (ifT ?_)
    walk_at "go"
    rename St _ _ _ _ _ => S
    refine ⟨_, _, S, ?_, rfl⟩
    rw [List.take_succ_eq_append_getElem hi', List.map_append]
    exact hys.append (.cons _ _ .nil)
  clear S
  rintro C DD ys H' s' ⟨hys, rfl⟩ S
  clear S
  intro s'' S
  rw [List.length_map, List.take_length] at hys
  walk_at "go"
  rename St _ _ _ _ _ => S
  have hq := hQ _ _ _ S
  simpa using hq
theorem law11_body {vs : List Value} {ns : List Int} (X : (hd11.heap_39 w.params).In s₁.heap) (TR : TopRead p loose mg mb s₁.heap) (hL : s₁.heap.IsList l vs.toArray) (hI : IntsAre vs ns) (hlen : ns.length ≤ 63)
    (hh : A.handled = none) (hd : A.depth + 5 < recursionLimit) (hu : A.units + 128 < cLine) (hfr : A.frames = some [envOf (fdAt (hd11.heap_39 w.params) 36).name (fdAt (hd11.heap_39 w.params) 36).scope L fa cd]) (S : St s₁ L [(Str.ofString "script", .ref l)] [] s) (hQ : ∀ s' b H, St s₁ L b H s' → Q (.ret (.bool true)) s') :
    wpAny (model PySem.Challenge.rw_dn0232_11.row.prog w) A (execs (bodyAt (fdAt (hd11.heap_39 w.params) 36)) (envOf (fdAt (hd11.heap_39 w.params) 36).name (fdAt (hd11.heap_39 w.params) 36).scope L fa cd)) Q (fun _ _ => False) s :=
  part11A X TR hL hI hlen hh hd hu hfr S (fun s' o sh dl bl ts D os c bs dvs S' lo inv => part11B X TR hh hd hu hfr S' lo inv hQ) trivial
end
end Mine
open Mine in
theorem PySem.Challenge.cw_dn0232_11_holds : PySem.Challenge.rw_dn0232_11.Holds := by
  refine Mine.hd11 ?_
  k_go0
  rename Fr _ _ _ _ => F0
  rename Top _ _ _ _ _ _ => T0
  rename Frag.In _ _ => KX
  rename Heap.IsList _ _ _ => hL
  rename IntsAre _ _ => hI
  rename ¬ (_ < _) => hlen
  rename Shared.gens _ = _ => hg
  refine wpAny_mono (law11_body KX (topRead_of T0) hL hI (by omega) (by rfl) (by simp only [depth_deeper, depth_caller]; decide) (by simp only [units_deeper, units_caller]; decide) (Around.frames_deeper rfl) (law_start0 _ F0 (lk1 (by rfl))) (fun s' b H S' => law_end S' hg (by intro _; rfl) (by with_unfolding_all exact postW_of (by rfl) (by exact w_eq_bool (w_res rfl) w_lit) (by rfl)))) (fun _ _ q => q) (fun _ _ q => q.elim)
