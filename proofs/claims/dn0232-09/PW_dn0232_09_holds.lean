import PyProof.Rows.All
import Wide.All
import OpenK.AllK
import Wide.FinOn
import PySem.Challenge.RW_dn0232_09
open PySem PySem.W PySem.Calls PyProof.Rows
set_option Elab.async false
set_option maxRecDepth 100000
set_option maxHeartbeats 4000000
set_option linter.unusedVariables false
set_option linter.unusedSimpArgs false
namespace Mine

/-! ### names known of a frame -/
def lk : List (Str × Value) → Str → Option Value
  | [], _ => none
  | (n, v) :: r, x => if n = x then some v else lk r x
def up (x : Str) (v : Value) : List (Str × Value) → List (Str × Value)
  | [] => [(x, v)]
  | (n, u) :: r => if n = x then (n, v) :: r else (n, u) :: up x v r
theorem lk_up (x y : Str) (v : Value) : ∀ b, lk (up x v b) y = if y = x then some v else lk b y
  | [] => by simp only [up, lk]; by_cases h : x = y <;> simp [h, eq_comm]
  | (n, u) :: r => by
    simp only [up]
    by_cases h : n = x
    · subst h; simp only [if_true, lk]
      by_cases h2 : n = y
      · simp [h2]
      · simp [h2, Ne.symm h2, eq_comm]
    · simp only [if_neg h, lk, lk_up x y v r]
      by_cases h2 : n = y
      · subst h2; simp [h]
      · simp [h2]
/-- all that `b` says, `b'` says -/
def Sub (b' b : List (Str × Value)) : Prop := ∀ x v, lk b x = some v → lk b' x = some v
theorem Sub.refl (b) : Sub b b := fun _ _ h => h
theorem Sub.nil (b) : Sub b [] := fun _ _ h => by simp [lk] at h
theorem Sub.cons {b' b : List (Str × Value)} {n : Str} {u : Value} (h : lk b' n = some u) (hs : Sub b' b) : Sub b' ((n, u) :: b) := fun x v e => by
  simp only [lk] at e
  by_cases hn : n = x
  · subst hn; simp at e; subst e; exact h
  · simp [hn] at e; exact hs x v e

/-! ### what a made object is -/
abbrev Ent := Addr × (Obj → Prop)
def Frm (b : List (Str × Value)) (o : Obj) : Prop := ∃ es ep, o.data = .dict es ep ∧ StrKeys es ∧ ∀ x v, lk b x = some v → nsFind es x = some v
def Lst (vs : List Value) (o : Obj) : Prop := o.cls = .type "list" ∧ o.dict = none ∧ o.slots = #[] ∧ ∃ n, o.data = .seq vs.toArray n
def Tup (vs : List Value) (o : Obj) : Prop := o.cls = .type "tuple" ∧ o.dict = none ∧ o.slots = #[] ∧ ∃ n, o.data = .seq vs.toArray n
def Yes (_ : Obj) : Prop := True

theorem Frm.weak {b b' : List (Str × Value)} {o : Obj} (h : Frm b' o) (hs : Sub b' b) : Frm b o := let ⟨es, ep, h1, h2, h3⟩ := h; ⟨es, ep, h1, h2, fun x v e => h3 x v (hs x v e)⟩

structure St (s₁ : Shared) (L : Addr) (b : List (Str × Value)) (H : List Ent) (s : Shared) : Prop where
  ns : ∃ o, s.heap.get? L = some o ∧ Frm b o
  keep : ∀ a o, s₁.heap.get? a = some o → s.heap.get? a = some o
  fr : s₁.heap.get? L = none
  nw : ∀ p ∈ H, ∃ o, s.heap.get? p.1 = some o ∧ p.2 o
  fresh : ∀ p ∈ H, p.1 ≠ L ∧ s₁.heap.get? p.1 = none
  nd : (H.map (·.1)).Nodup
  eq : ∃ h tk, s = { s₁ with heap := h, toks := tk }

/-! ### changing one entry -/
inductive Upd (a : Addr) (P P' : Obj → Prop) : List Ent → List Ent → Prop
  | head (r) : Upd a P P' ((a, P) :: r) ((a, P') :: r)
  | tail (p) {r r'} : Upd a P P' r r' → Upd a P P' (p :: r) (p :: r')
  | appL {r r'} (q) : Upd a P P' r r' → Upd a P P' (r ++ q) (r' ++ q)
  | appR (q) {r r'} : Upd a P P' r r' → Upd a P P' (q ++ r) (q ++ r')
theorem Upd.split {a P P' H H'} (U : Upd a P P' H H') : ∃ x y, H = x ++ (a, P) :: y ∧ H' = x ++ (a, P') :: y := by
  induction U with
  | head r => exact ⟨[], r, rfl, rfl⟩
  | tail p _ ih => obtain ⟨x, y, rfl, rfl⟩ := ih; exact ⟨p :: x, y, rfl, rfl⟩
  | appL q _ ih => obtain ⟨x, y, rfl, rfl⟩ := ih; exact ⟨x, y ++ q, by simp, by simp⟩
  | appR q _ ih => obtain ⟨x, y, rfl, rfl⟩ := ih; exact ⟨q ++ x, y, by simp, by simp⟩
theorem Upd.mem {a P P' H H'} (U : Upd a P P' H H') : (a, P) ∈ H := by obtain ⟨x, y, rfl, _⟩ := U.split; simp

section
variable {s₁ s : Shared} {L : Addr} {b : List (Str × Value)} {H H' : List Ent}

theorem St.get (S : St s₁ L b H s) {a : Addr} {P : Obj → Prop} (h : (a, P) ∈ H) : ∃ o, s.heap.get? a = some o ∧ P o := S.nw _ h
theorem St.tok (S : St s₁ L b H s) (k : Nat) : St s₁ L b H { s with toks := k } :=
  ⟨S.ns, S.keep, S.fr, S.nw, S.fresh, S.nd, let ⟨h, tk, e⟩ := S.eq; ⟨h, k, by rw [e]⟩⟩

theorem St.size (S : St s₁ L b H s) : s₁.heap.get? s.heap.objs.size = none ∧ s.heap.objs.size ≠ L ∧ ∀ p ∈ H, p.1 ≠ s.heap.objs.size := by
  refine ⟨?_, ?_, ?_⟩
  · cases h : s₁.heap.get? s.heap.objs.size with
    | none => rfl
    | some o => exact absurd (Heap.lt_size (S.keep _ _ h)) (Nat.lt_irrefl _)
  · obtain ⟨o, ho, _⟩ := S.ns; exact Nat.ne_of_gt (Heap.lt_size ho)
  · intro p hp; obtain ⟨o, ho, _⟩ := S.nw p hp; exact Nat.ne_of_lt (Heap.lt_size ho)

/-- any later heap that keeps all -/
theorem St.ext (S : St s₁ L b H s) {h' : Heap} (k : Nat) (hk : ∀ a o, s.heap.get? a = some o → h'.get? a = some o) : St s₁ L b H { s with heap := h', toks := k } where
  ns := let ⟨o, ho, h⟩ := S.ns; ⟨o, hk _ _ ho, h⟩
  keep := fun a o e => hk _ _ (S.keep a o e)
  fr := S.fr
  nw := fun p hp => let ⟨o, ho, h⟩ := S.nw p hp; ⟨o, hk _ _ ho, h⟩
  fresh := S.fresh
  nd := S.nd
  eq := let ⟨h, tk, e⟩ := S.eq; ⟨h', k, by rw [e]⟩

/-- a new object at a place that was free -/
theorem St.new (S : St s₁ L b H s) {h' : Heap} {a : Addr} {P : Obj → Prop} (k : Nat) (hk : ∀ a o, s.heap.get? a = some o → h'.get? a = some o) (ha : s.heap.get? a = none) (hP : ∃ o, h'.get? a = some o ∧ P o) :
    St s₁ L b ((a, P) :: H) { s with heap := h', toks := k } where
  ns := (S.ext k hk).ns
  keep := (S.ext k hk).keep
  fr := S.fr
  nw := fun p hp => by
    rcases List.mem_cons.mp hp with rfl | hp
    · exact hP
    · exact (S.ext k hk).nw p hp
  fresh := fun p hp => by
    rcases List.mem_cons.mp hp with rfl | hp
    · refine ⟨?_, ?_⟩
      · rintro rfl; obtain ⟨o, ho, _⟩ := S.ns; rw [ha] at ho; cases ho
      · cases e : s₁.heap.get? a with
        | none => rfl
        | some o => have := S.keep _ _ e; rw [ha] at this; cases this
    · exact S.fresh p hp
  nd := by
    refine List.nodup_cons.mpr ⟨fun hm => ?_, S.nd⟩
    obtain ⟨q, hq, e⟩ := List.mem_map.mp hm
    obtain ⟨o, ho, _⟩ := S.nw q hq
    have e' : q.1 = a := e
    rw [e', ha] at ho; cases ho
  eq := (S.ext k hk).eq

theorem get?_size_none (h : Heap) : h.get? h.objs.size = none := by
  cases e : h.get? h.objs.size with
  | none => rfl
  | some o => exact absurd (Heap.lt_size e) (Nat.lt_irrefl _)

theorem St.push (S : St s₁ L b H s) {o : Obj} {P : Obj → Prop} (hP : P o) (k : Nat) (hf : o.isFreed = false := by rfl) : St s₁ L b ((s.heap.objs.size, P) :: H) { s with heap := s.heap.push o, toks := k } :=
  S.new k (fun _ _ e => Heap.get?_push_of_some _ e) (get?_size_none _) ⟨o, Heap.get?_push_size _ hf, hP⟩

/-- one object changed -/
theorem St.upd (S : St s₁ L b H s) {h' : Heap} {a : Addr} {P P' : Obj → Prop} (U : Upd a P P' H H') (k : Nat) (hk : ∀ c o, c ≠ a → s.heap.get? c = some o → h'.get? c = some o) (hP : ∃ o, h'.get? a = some o ∧ P' o) :
    St s₁ L b H' { s with heap := h', toks := k } := by
  obtain ⟨x, y, rfl, rfl⟩ := U.split
  have ha := S.fresh (a, P) (by simp)
  have hnd : ((x ++ (a, P') :: y).map (·.1)).Nodup := by have := S.nd; simpa using this
  have hne : ∀ p ∈ x ++ y, p.1 ≠ a := by
    intro p hp e
    have h1 := S.nd
    simp only [List.map_append, List.map_cons] at h1
    have h2 := (List.nodup_append.mp h1)
    rcases List.mem_append.mp hp with hp | hp
    · exact h2.2.2 p.1 (List.mem_map.mpr ⟨p, hp, rfl⟩) a (by simp) e
    · exact (List.nodup_cons.mp h2.2.1).1 (List.mem_map.mpr ⟨p, hp, e⟩)
  refine ⟨?_, ?_, S.fr, ?_, ?_, hnd, ?_⟩
  · obtain ⟨o, ho, h⟩ := S.ns; exact ⟨o, hk _ _ (Ne.symm ha.1) ho, h⟩
  · intro c o e; exact hk _ _ (by rintro rfl; have := ha.2; simp only at this; rw [this] at e; cases e) (S.keep c o e)
  · intro p hp
    rcases List.mem_append.mp hp with hp | hp
    · obtain ⟨o, ho, h⟩ := S.nw p (by simp [hp]); exact ⟨o, hk _ _ (hne p (by simp [hp])) ho, h⟩
    · rcases List.mem_cons.mp hp with rfl | hp
      · exact hP
      · obtain ⟨o, ho, h⟩ := S.nw p (by simp [hp]); exact ⟨o, hk _ _ (hne p (by simp [hp])) ho, h⟩
  · intro p hp
    rcases List.mem_append.mp hp with hp | hp
    · exact S.fresh p (by simp [hp])
    · rcases List.mem_cons.mp hp with rfl | hp
      · exact ha
      · exact S.fresh p (by simp [hp])
  · obtain ⟨h, tk, e⟩ := S.eq; exact ⟨h', k, by rw [e]⟩

/-- the frame's own names changed -/
theorem St.frame (S : St s₁ L b H s) {h' : Heap} {b' : List (Str × Value)} (k : Nat) (hk : ∀ c o, c ≠ L → s.heap.get? c = some o → h'.get? c = some o) (hP : ∃ o, h'.get? L = some o ∧ Frm b' o) :
    St s₁ L b' H { s with heap := h', toks := k } where
  ns := hP
  keep := fun c o e => hk _ _ (by rintro rfl; rw [S.fr] at e; cases e) (S.keep c o e)
  fr := S.fr
  nw := fun p hp => let ⟨o, ho, h⟩ := S.nw p hp; ⟨o, hk _ _ (S.fresh p hp).1 ho, h⟩
  fresh := S.fresh
  nd := S.nd
  eq := let ⟨h, tk, e⟩ := S.eq; ⟨h', k, by rw [e]⟩

/-- less is said -/
theorem St.weak (S : St s₁ L b H s) {b' : List (Str × Value)} (hb : Sub b b') (hH : ∀ p ∈ H', ∃ q ∈ H, q.1 = p.1 ∧ ∀ o, q.2 o → p.2 o) (hn : (H'.map (·.1)).Nodup) : St s₁ L b' H' s where
  ns := let ⟨o, ho, h⟩ := S.ns; ⟨o, ho, h.weak hb⟩
  keep := S.keep
  fr := S.fr
  nw := fun p hp => let ⟨q, hq, e, hi⟩ := hH p hp; let ⟨o, ho, h⟩ := S.nw q hq; ⟨o, e ▸ ho, hi o h⟩
  fresh := fun p hp => let ⟨q, hq, e, _⟩ := hH p hp; e ▸ S.fresh q hq
  nd := hn
  eq := S.eq
theorem St.bind (S : St s₁ L b H s) {b' : List (Str × Value)} (hb : Sub b b') : St s₁ L b' H s := ⟨let ⟨o, ho, h⟩ := S.ns; ⟨o, ho, h.weak hb⟩, S.keep, S.fr, S.nw, S.fresh, S.nd, S.eq⟩
theorem St.perm (S : St s₁ L b H s) (hp : H'.Perm H) : St s₁ L b H' s :=
  ⟨S.ns, S.keep, S.fr, fun p h => S.nw p (hp.mem_iff.mp h), fun p h => S.fresh p (hp.mem_iff.mp h), (hp.map (·.1)).nodup_iff.mpr S.nd, S.eq⟩
theorem St.sub (S : St s₁ L b H s) (hs : H'.Sublist H) : St s₁ L b H' s :=
  ⟨S.ns, S.keep, S.fr, fun p h => S.nw p (hs.subset h), fun p h => S.fresh p (hs.subset h), List.Nodup.sublist (hs.map (·.1)) S.nd, S.eq⟩
theorem St.drop (S : St s₁ L b (p :: H) s) : St s₁ L b H s := S.sub (List.sublist_cons_self _ _)

theorem St.Ns (S : St s₁ L b H s) : ∃ m, s.heap.Ns L m ∧ ∀ x v, lk b x = some v → m x = some v := by
  obtain ⟨o, ho, es, ep, hd, hk, hf⟩ := S.ns
  exact ⟨nsFind es, ⟨o, es, ep, ho, hd, hk, fun _ => rfl⟩, hf⟩
theorem Frm.of_Ns {h : Heap} {L : Addr} {m : Str → Option Value} {b : List (Str × Value)} (hn : h.Ns L m) (hb : ∀ x v, lk b x = some v → m x = some v) : ∃ o, h.get? L = some o ∧ Frm b o := by
  obtain ⟨o, es, ep, ho, hd, hk, hf⟩ := hn
  exact ⟨o, ho, es, ep, hd, hk, fun x v e => (hf x).trans (hb x v e)⟩
end

/-! ### kinds -/
theorem Lst.isList {h : Heap} {a : Addr} {vs : List Value} (x : ∃ o, h.get? a = some o ∧ Lst vs o) : h.IsList a vs.toArray := let ⟨o, ho, hc, _, _, n, hd⟩ := x; ⟨o, ho, hc, n, hd⟩
theorem Tup.isTup {h : Heap} {a : Addr} {vs : List Value} (x : ∃ o, h.get? a = some o ∧ Tup vs o) : IsTup h a vs.toArray := let ⟨o, ho, hc, _, _, n, hd⟩ := x; ⟨o, ho, hc, n, hd⟩
end Mine
namespace Mine

/-! ### texts as lists of numbers -/
def T (l : List Nat) : Str := ⟨l.toArray⟩
@[simp] theorem T_cps (l : List Nat) : (T l).cps.toList = l := rfl
@[simp] theorem T_len (l : List Nat) : (T l).length = l.length := by simp [T, Str.length]
theorem T_of (x : Str) : T x.cps.toList = x := by cases x; rfl
theorem T_inj {a b : List Nat} (h : T a = T b) : a = b := by have := congrArg (fun x => x.cps.toList) h; simpa using this
@[simp] theorem T_beq (a b : List Nat) : (T a == T b) = (a == b) := by
  rw [Bool.eq_iff_iff]; simp only [beq_iff_eq]; exact ⟨T_inj, fun h => by rw [h]⟩

def clip (n : Nat) (i : Int) : Nat := (max 0 (min (if i < 0 then i + n else i) (n : Int))).toNat
def loC (n : Nat) : Option Int → Nat
  | none => 0
  | some i => clip n i
def hiC (n : Nat) : Option Int → Nat
  | none => n
  | some i => clip n i
/-- `l[lo:hi]` -/
def cut {α : Type} (l : List α) (lo hi : Option Int) : List α := (l.take (hiC l.length hi)).drop (loC l.length lo)
theorem clip_le (n : Nat) (i : Int) : clip n i ≤ n := by unfold clip; omega
theorem hiC_le (n : Nat) (i : Option Int) : hiC n i ≤ n := by cases i <;> simp [hiC, clip_le]
theorem clip_nn {n : Nat} {i : Int} (h : 0 ≤ i) : clip n i = min i.toNat n := by unfold clip; rw [if_neg (by omega)]; omega

theorem picked {α : Type} (l : List α) (a b : Nat) (hb : b ≤ l.length) : ((List.range (b - a)).map (fun k => a + k)).filterMap (l[·]?) = (l.take b).drop a := by
  by_cases h : a ≤ b
  · rw [StrLaws.picks l (b - a) a (by omega), List.drop_take]
  · have : b - a = 0 := by omega
    rw [this]; simp [List.drop_eq_nil_iff]; omega
theorem sliceRange1 (a b : Nat) : sliceRange (a : Int) (b : Int) 1 = (List.range (b - a)).map (fun k => a + k) := by
  unfold sliceRange
  simp only [show ((1 : Int) > 0) = True from by simp, if_true]
  have e : (if (a : Int) < b then ((b : Int) - a + 1 - 1) / 1 else 0).toNat = b - a := by split <;> omega
  rw [e]
  refine List.map_congr_left fun k _ => ?_
  omega
theorem cut_to {α : Type} (l : List α) {k : Int} (h : 0 ≤ k) : cut l none (some k) = l.take k.toNat := by
  unfold cut
  show List.drop 0 (l.take (clip l.length k)) = _
  rw [clip_nn h, List.drop_zero, ← List.take_take, List.take_length]
theorem cut_from {α : Type} (l : List α) {k : Int} (h : 0 ≤ k) : cut l (some k) none = l.drop k.toNat := by
  unfold cut
  show List.drop (clip l.length k) (l.take l.length) = _
  rw [clip_nn h, List.take_length]
  by_cases hk : k.toNat ≤ l.length
  · rw [Nat.min_eq_left hk]
  · rw [Nat.min_eq_right (by omega), List.drop_length, List.drop_eq_nil_of_le (by omega)]
theorem cut_all {α : Type} (l : List α) : cut l none none = l := by
  unfold cut
  show List.drop 0 (l.take l.length) = _
  simp
/-! ### names -/
section
variable {M : Model} {A : Around} {E : Value → Shared → Prop} {s s₁ : Shared} {env : Env} {L : Addr} {b : List (Str × Value)} {H H' : List Ent} {x : Str} {v : Value} {pos : Pos}
theorem ld_L {Q : Value → Shared → Prop} (S : St s₁ L b H s) (hv : lk b x = some v) (h : Q v s) (hx : env.kindOf x = some .local) (hL : env.locals = L) (hk : env.scope.kind = .function) : wpAny M A (loadName env x) Q E s := by
  subst hL
  obtain ⟨m, hn, hm⟩ := S.Ns
  exact wpAny_loadName_local hk hx hn (hm _ _ hv) h
theorem nm_L {Q : Value → Shared → Prop} (S : St s₁ L b H s) (hx : env.kindOf x = some .local) (hv : lk b x = some v) (h : Q v s) (hL : env.locals = L) (hk : env.scope.kind = .function)
    (hd : (x == ("__debug__" : Str)) = false) : wpAny M A (eval (.Name x pos) env) Q E s := wpAny_Name (ld_L S hv h hx hL hk) hd
theorem nm_K {Q : Value → Shared → Prop} {K : Frag} {p : Program} {loose : List Str} {mg mb : Str → Option Value} (S : St s₁ L b H s) (X : K.In s₁.heap) (T : TopRead p loose mg mb s₁.heap) (hx : env.kindOf x = some .globalImplicit) (e : nsIn K mainGlobals x = some (some v)) (h : Q v s)
    (hg : env.globals = mainGlobals) (hk : env.scope.kind = .function) (hd : (x == ("__debug__" : Str)) = false) : wpAny M A (eval (.Name x pos) env) Q E s :=
  Name_function_global hk hx (loadGlobal_global (env := env) (hg ▸ T.g.keeps S.keep) (mg_of X T.g e) h) hd
theorem nm_B {Q : Value → Shared → Prop} {K : Frag} {p : Program} {loose : List Str} {mg mb : Str → Option Value} (S : St s₁ L b H s) (X : K.In s₁.heap) (T : TopRead p loose mg mb s₁.heap) (hx : env.kindOf x = some .globalImplicit) (e : nsIn K mainGlobals x = some none) (hv : bootBuiltins x = some v) (h : Q v s)
    (hn : x ≠ "__name__") (hg : env.globals = mainGlobals) (hb : env.builtins = builtinsNs) (hk : env.scope.kind = .function) (hd : (x == ("__debug__" : Str)) = false) : wpAny M A (eval (.Name x pos) env) Q E s :=
  Name_function_global hk hx (loadGlobal_builtin (env := env) (hg ▸ T.g.keeps S.keep) (mg_none_of X T.g e) (hb ▸ T.b.keeps S.keep) ((T.builtins x hn).trans hv) h) hd

theorem st_L {Q : Unit → Shared → Prop} (S : St s₁ L b H s) (hx : env.kindOf x = some .local) (h : ∀ s', St s₁ L (up x v b) H s' → Q () s') (hL : env.locals = L) (hk : env.scope.kind = .function) :
    wpAny M A (storeName env x v) Q E s := by
  subst hL
  obtain ⟨m, hn, hm⟩ := S.Ns
  refine wpAny_storeName_local hx hn (fun h' hn' hs => h _ (S.frame _ (fun c o hc e => hs.extBut c o hc e) (Frm.of_Ns hn' fun y u hy => ?_))) (by rw [hk]; rfl)
  rw [lk_up] at hy
  by_cases e : y = x
  · simpa [e] using hy
  · simp only [e, if_false] at hy ⊢; exact hm _ _ hy
end

/-! ### ints -/
section
variable {prog : Program} {w : World} {A : Around} {E : Value → Shared → Prop} {s s₁ : Shared} {L : Addr} {b : List (Str × Value)} {H H' : List Ent} {i j : Int} {t u : Tok} {Q : Value → Shared → Prop} {env : Env}
theorem c_int {k : Nat} {pos : Pos} (S : St s₁ L b H s) (h : ∀ s' t', St s₁ L b H s' → Q (.int i t') s') : wpAny (model prog w) A (eval (.Constant (.int i) k pos) env) Q E s := wpAny_Constant_int (h _ _ (S.tok _))
theorem c_str {x : Str} {k : Nat} {pos : Pos} (S : St s₁ L b H s) (h : ∀ s' t', St s₁ L b H s' → Q (.str x t') s') : wpAny (model prog w) A (eval (.Constant (.str x) k pos) env) Q E s := wpAny_Constant_str (h _ _ (S.tok _))
theorem i_add (S : St s₁ L b H s) (h : ∀ s' t', St s₁ L b H s' → Q (.int (i + j) t') s') : wpAny (model prog w) A (binaryOp .Add (.int i t) (.int j u)) Q E s := add_int (h _ _ (S.tok _))
theorem i_sub (S : St s₁ L b H s) (h : ∀ s' t', St s₁ L b H s' → Q (.int (i - j) t') s') : wpAny (model prog w) A (binaryOp .Sub (.int i t) (.int j u)) Q E s := sub_int (h _ _ (S.tok _))
theorem i_mod (S : St s₁ L b H s) (h0 : 0 < j) (h : ∀ s' t', St s₁ L b H s' → Q (.int (i % j) t') s') : wpAny (model prog w) A (binaryOp .Mod (.int i t) (.int j u)) Q E s :=
  mod_int (by omega) (by rw [Int.fmod_eq_emod_of_nonneg _ (by omega)]; exact h _ _ (S.tok _))
theorem i_gt (h : Q (.bool (decide (j < i))) s) : wpAny (model prog w) A (compareOp .Gt (.int i t) (.int j u)) Q E s := gt_int h
theorem i_eq (h : Q (.bool (i == j)) s) : wpAny (model prog w) A (compareOp .Eq (.int i t) (.int j u)) Q E s := eq_int h
theorem i_ne (h : Q (.bool (i != j)) s) : wpAny (model prog w) A (compareOp .NotEq (.int i t) (.int j u)) Q E s := ne_int h
end

/-! ### texts -/
section
variable {prog : Program} {w : World} {A : Around} {E : Value → Shared → Prop} {s s₁ : Shared} {L : Addr} {b : List (Str × Value)} {H H' : List Ent} {l m : List Nat} {t u : Tok} {Q : Value → Shared → Prop} {env : Env}
/-- a slice object -/
def Slc (lo hi : Option Int) (o : Obj) : Prop := ∃ (l u : Option (Int × Tok)), o.cls = .type "slice" ∧ o.data = .fields #[partValue l, partValue u, .none] ∧ l.map (·.1) = lo ∧ u.map (·.1) = hi
theorem slc_sn {i : Int} {ti : Tok} : Slc (some i) none { cls := .type "slice", data := .fields #[.int i ti, .none, .none] } := ⟨some (i, ti), none, rfl, rfl, rfl, rfl⟩
theorem slc_ns {j : Int} {tj : Tok} : Slc none (some j) { cls := .type "slice", data := .fields #[.none, .int j tj, .none] } := ⟨none, some (j, tj), rfl, rfl, rfl, rfl⟩
theorem slc_nn : Slc none none { cls := .type "slice", data := .fields #[.none, .none, .none] } := ⟨none, none, rfl, rfl, rfl, rfl⟩
/-- both ends of a slice are known -/
def SliceEnd (Q : Value → Shared → Prop) (l u : Value) (s : Shared) : Prop := Q (.ref s.heap.objs.size) { s with heap := s.heap.push { cls := .type "slice", data := .fields #[l, u, .none] } }
theorem slice_end {v v' : Value} {lo hi : Option Int} (S : St s₁ L b H s) (hP : Slc lo hi { cls := .type "slice", data := .fields #[v, v', .none] }) (h : ∀ s' a, St s₁ L b ((a, Slc lo hi) :: H) s' → Q (.ref a) s') : SliceEnd Q v v' s :=
  h _ _ (S.push hP s.toks)
theorem ev_slice {lower upper : Option Expr} {p : Pos}
    (h : wpAny (model prog w) A (evalPart lower env) (fun l s₁ => wpAny (model prog w) A (evalPart upper env) (fun u s₂ => SliceEnd Q l u s₂) E s₁) E s) : wpAny (model prog w) A (eval (.Slice lower upper none p) env) Q E s :=
  wpAny_Slice (wpAny_mono h (fun _ _ h₁ => wpAny_mono h₁ (fun _ _ h₂ => wpAny_pure h₂) fun _ _ x => x) fun _ _ x => x)
end
end Mine
namespace Mine

/-! ### the written number -/
def dig (n : Int) : List Nat := (Str.ofString (toString n)).cps.toList
theorem dig_T (n : Int) : Str.ofString (toString n) = T (dig n) := (T_of _).symm

section
variable {prog : Program} {w : World} {A : Around} {E : Value → Shared → Prop} {s s₁ : Shared} {L : Addr} {b : List (Str × Value)} {H H' : List Ent} {l m : List Nat} {t u : Tok} {Q : Value → Shared → Prop} {env : Env}
/-! ### made lists and tuples -/
theorem new_list {vs : List Value} (S : St s₁ L b H s) (hsz : vs.length ≤ sizeLine) (h : ∀ s' a, St s₁ L b ((a, Lst vs) :: H) s' → Q (.ref a) s') : wpAny (model prog w) A (newList vs) Q E s :=
  wpAny_newObj_type (h _ _ (S.push (P := Lst vs) ⟨rfl, rfl, rfl, _, rfl⟩ s.toks)) (by show vs.toArray.size ≤ sizeLine; rw [List.size_toArray]; exact hsz)
theorem new_tuple {vs : List Value} (S : St s₁ L b H s) (hsz : vs.length ≤ sizeLine) (h : ∀ s' a, St s₁ L b ((a, Tup vs) :: H) s' → Q (.ref a) s') : wpAny (model prog w) A (newTuple vs) Q E s :=
  wpAny_newObj_type (h _ _ (S.push (P := Tup vs) ⟨rfl, rfl, rfl, _, rfl⟩ s.toks)) (by show vs.toArray.size ≤ sizeLine; rw [List.size_toArray]; exact hsz)

/-! ### calls -/
/-- what stands where a call's arguments are ready -/
def Ready (K : Frag) (P : Shared → Prop) (s : Shared) : Prop := K.In s.heap ∧ P s
theorem Ready.mk' {K : Frag} {P : Shared → Prop} (X : K.In s₁.heap) (S : St s₁ L b H s) (h : P s) : Ready K P s := ⟨X.keeps S.keep, h⟩
theorem callWith_fn {K : Frag} {f : Addr} {e : Expr} {rest : List Expr} {pos : Pos} (X : K.In s₁.heap) (hk : keepIn K (.ref f) = true)
    (h : wpAny (model prog w) A (spliced (backTo pos (starEach (e :: rest) env))) (fun vs s₁ => Ready K (fun s => wpAny (model prog w) A (call (.ref f) vs) Q E s) s₁) E s)
    (he : starEach (e :: rest) env = (false, eval e env) :: starEach rest env) (hplain : (backTo pos (starEach rest env)).any (·.1) = false) :
    wpAny (model prog w) A (callWith pos (.ref f) [] (backTo pos (starEach (e :: rest) env)) []) Q E s :=
  callWith_K X hk (wpAny_mono h (fun _ _ h => h) fun _ _ h => h) he hplain

theorem St.enter (S : St s₁ L b H s) {h₀ : Heap} {b' : List (Str × Value)} {m : Str → Option Value} (k : Nat) (hns : h₀.Ns s.heap.objs.size m) (hk : ∀ b o, s.heap.get? b = some o → h₀.get? b = some o) (hm : ∀ x v, lk b' x = some v → m x = some v) :
    St s₁ s.heap.objs.size b' ((L, Frm b) :: H) { s with heap := h₀, toks := k } where
  ns := Frm.of_Ns hns hm
  keep := fun a o e => hk _ _ (S.keep a o e)
  fr := S.size.1
  nw := fun p hp => by
    rcases List.mem_cons.mp hp with rfl | hp
    · obtain ⟨o, ho, h⟩ := S.ns; exact ⟨o, hk _ _ ho, h⟩
    · obtain ⟨o, ho, h⟩ := S.nw p hp; exact ⟨o, hk _ _ ho, h⟩
  fresh := fun p hp => by
    rcases List.mem_cons.mp hp with rfl | hp
    · exact ⟨Ne.symm S.size.2.1, S.fr⟩
    · exact ⟨S.size.2.2 p hp, (S.fresh p hp).2⟩
  nd := List.nodup_cons.mpr ⟨fun hm => by
    obtain ⟨q, hq, e⟩ := List.mem_map.mp hm
    exact (S.fresh q hq).1 e, S.nd⟩
  eq := let ⟨h, tk, e⟩ := S.eq; ⟨h₀, k, by rw [e]⟩

/-- back to the caller's frame -/
theorem St.back {L' : Addr} {b' : List (Str × Value)} (S : St s₁ L' b' ((L, Frm b) :: H) s) : St s₁ L b H s where
  ns := S.nw (L, Frm b) (List.mem_cons_self ..)
  keep := S.keep
  fr := (S.fresh (L, Frm b) (List.mem_cons_self ..)).2
  nw := fun p hp => S.nw p (List.mem_cons_of_mem _ hp)
  fresh := fun p hp => ⟨fun e => (List.nodup_cons.mp S.nd).1 (List.mem_map.mpr ⟨p, hp, e⟩), (S.fresh p (List.mem_cons_of_mem _ hp)).2⟩
  nd := (List.nodup_cons.mp S.nd).2
  eq := S.eq

theorem call_fn {K : Frag} {f : Addr} {oc : Value} {od : Option Addr} {osl : Array (Option Value)} {fd : FuncData} {body : List Stmt} {args : List Value} {binds b' : List (Str × Value)}
    (S : St s₁ L b H s) (X : K.In s₁.heap) (hlim : s₁.heap.NoLimit) (ho : K.lookup f = some ⟨oc, od, .func fd, osl⟩) (hcd : codeIn K fd.code fd.qualname = true) (hroom : A.depth < recursionLimit)
    (hbody : fd.body = .stmts body) (hbind : BindsTo s fd ⟨args, []⟩ binds) (hcell : ∀ x ∈ fd.scope.names, x.2 ≠ .cell) (hloc : ∀ x ∈ binds, fd.scope.names.lookup x.1 = some .local) (hb : b' = binds.reverse)
    (h : ∀ s' L', St s₁ L' b' ((L, Frm b) :: H) s' →
      wpAny (model prog w) (A.deeper (callEnv fd L' f)) (execs body (callEnv fd L' f)) (fun fl s'' => Q (match fl with | .ret v => v | _ => .none) s'') (fun _ _ => False) s')
    (hco : fd.scope.isCoroutine = false) (hgen : fd.scope.isGenerator = false) (hk : fd.scope.kind = .function) : wpAny (model prog w) A (call (.ref f) args) Q E s := by
  have X' := X.keeps S.keep
  refine wpAny_call (codeAny_call_def hroom (X' _ _ ho) rfl (hlim.keeps S.keep) (codeRec_of X' hcd) hbody hbind hcell hloc (fun h₀ hns hk₀ => ?_) hco hgen hk)
  refine wpAny_mono (h _ _ (S.enter (b' := b') (s.toks + binds.length) hns hk₀ fun x v e => ?_)) (fun _ _ q => q) (fun _ _ q => q.elim)
  subst hb
  rw [← e]
  clear h hns hk₀ hloc hbind e
  induction binds.reverse with
  | nil => rfl
  | cons p r ih =>
    obtain ⟨n, u⟩ := p
    simp only [List.lookup_cons, lk, ih]
    by_cases hx : n = x
    · subst hx; simp
    · have : (x == n) = false := by simp [Ne.symm hx]
      simp [this, hx]
end
end Mine
namespace Mine

/-- an iterator at `I`: at turn i its object meets `P i`, it hands out what meets `V i`, while the heap meets `R` -/
structure Itr (prog : Program) (w : World) (A : Around) (I : Addr) (n : Nat) (P : Nat → Obj → Prop) (V : Nat → Value → Prop) (R : Heap → Prop) : Prop where
  item : ∀ i (s : Shared) (Q : Option Value → Shared → Prop) (E : Value → Shared → Prop), i < n → (∃ o, s.heap.get? I = some o ∧ P i o) → R s.heap →
    (∀ v h' tk, V i v → (∃ o, h'.get? I = some o ∧ P (i + 1) o) → (∀ c o, c ≠ I → s.heap.get? c = some o → h'.get? c = some o) → Q (some v) { s with heap := h', toks := tk }) → wpAny (model prog w) A (pyNext (.ref I)) Q E s
  done : ∀ (s : Shared) (Q : Option Value → Shared → Prop) (E : Value → Shared → Prop), (∃ o, s.heap.get? I = some o ∧ P n o) → R s.heap →
    (∀ h' tk, (∀ c o, c ≠ I → s.heap.get? c = some o → h'.get? c = some o) → Q none { s with heap := h', toks := tk }) → wpAny (model prog w) A (pyNext (.ref I)) Q E s
  self : ∀ i (s : Shared) (Q : Value → Shared → Prop) (E : Value → Shared → Prop), (∃ o, s.heap.get? I = some o ∧ P i o) → R s.heap → Q (.ref I) s → wpAny (model prog w) A (pyIter (.ref I)) Q E s

def LI (l : Addr) (i : Nat) (o : Obj) : Prop := o.cls = .type "list_iterator" ∧ o.data = .fields #[.ref l, .int i 0]
def TI (l : Addr) (i : Nat) (o : Obj) : Prop := o.cls = .type "tuple_iterator" ∧ o.data = .fields #[.ref l, .int i 0]
def RI (x left step : Int) (o : Obj) : Prop := o = { cls := .type "range_iterator", dict := none, data := .fields #[rawInt x, rawInt left, rawInt step], slots := #[] }

theorem Itr.list {prog : Program} {w : World} {A : Around} {I l : Addr} (vs : List Value) (hh : A.handled = none) (hne : l ≠ I) :
    Itr prog w A I vs.length (LI l) (fun i v => vs[i]? = some v) (fun h => h.IsList l vs.toArray) where
  item := fun i s Q E hi ⟨o, ho, h1, h2⟩ hR hQ => by
    refine (Walks.list (prog := prog) (w := w) hh I l hne vs.toArray).item i s Q E (by simpa using hi) ⟨⟨o, ho, h1, h2⟩, hR⟩ fun v h' tk hv hst hk => ?_
    exact hQ v h' tk (by simpa using hv) (let ⟨o, ho, r⟩ := hst.1; ⟨o, ho, r⟩) fun c o hc e => hk c o (by simpa using hc) e
  done := fun s Q E ⟨o, ho, h1, h2⟩ hR hQ =>
    (Walks.list (prog := prog) (w := w) hh I l hne vs.toArray).done s Q E ⟨⟨o, ho, h1, by rw [List.size_toArray]; exact h2⟩, hR⟩ fun h' tk hk => hQ h' tk fun c o hc e => hk c o (by simpa using hc) e
  self := fun i s Q E ⟨o, ho, h1, h2⟩ hR hQ => wpAny_pyIter_listiter (i := i) ⟨o, ho, h1, h2⟩ hQ
theorem Itr.tuple {prog : Program} {w : World} {A : Around} {I l : Addr} (vs : List Value) (hh : A.handled = none) (hne : l ≠ I) :
    Itr prog w A I vs.length (TI l) (fun i v => vs[i]? = some v) (fun h => h.IsTuple l vs.toArray) where
  item := fun i s Q E hi ⟨o, ho, h1, h2⟩ hR hQ => by
    refine (Walks.tuple (prog := prog) (w := w) hh I l hne vs.toArray).item i s Q E (by simpa using hi) ⟨⟨o, ho, h1, h2⟩, hR⟩ fun v h' tk hv hst hk => ?_
    exact hQ v h' tk (by simpa using hv) (let ⟨o, ho, r⟩ := hst.1; ⟨o, ho, r⟩) fun c o hc e => hk c o (by simpa using hc) e
  done := fun s Q E ⟨o, ho, h1, h2⟩ hR hQ =>
    (Walks.tuple (prog := prog) (w := w) hh I l hne vs.toArray).done s Q E ⟨⟨o, ho, h1, by rw [List.size_toArray]; exact h2⟩, hR⟩ fun h' tk hk => hQ h' tk fun c o hc e => hk c o (by simpa using hc) e
  self := fun i s Q E ⟨o, ho, h1, h2⟩ hR hQ => wpAny_pyIter_tupleiter (i := i) ⟨o, ho, h1, h2⟩ hQ
theorem Itr.range {prog : Program} {w : World} {A : Around} {I : Addr} (a c : Int) (n : Nat) (hh : A.handled = none) :
    Itr prog w A I n (fun i => RI (a + i * c) ((n : Int) - i) c) (fun i v => ∃ t, v = .int (a + i * c) t) (fun _ => True) where
  item := fun i s Q E hi ⟨o, ho, h1⟩ hR hQ => by
    subst h1
    refine (Walks.range (prog := prog) (w := w) hh I a c n).item i s Q E hi ho fun v h' tk hv hst hk => ?_
    exact hQ v h' tk hv ⟨_, hst, rfl⟩ fun c o hc e => hk c o (by simpa using hc) e
  done := fun s Q E ⟨o, ho, h1⟩ hR hQ => by
    subst h1
    exact (Walks.range (prog := prog) (w := w) hh I a c n).done s Q E ho fun h' tk hk => hQ h' tk fun c o hc e => hk c o (by simpa using hc) e
  self := fun i s Q E ⟨o, ho, h1⟩ hR hQ => by subst h1; exact wpAny_pyIter_rangeiter ho hQ

section
variable {prog : Program} {w : World} {A : Around} {E : Value → Shared → Prop} {s s₁ : Shared} {L I l : Addr} {b : List (Str × Value)} {H H' : List Ent} {env : Env}

theorem it_list {Q : Value → Shared → Prop} {vs : List Value} (S : St s₁ L b H s) (hl : (l, Lst vs) ∈ H ∨ s₁.heap.IsList l vs.toArray) (h : ∀ s' I, l ≠ I → St s₁ L b ((I, LI l 0) :: H) s' → Q (.ref I) s') : wpAny (model prog w) A (pyIter (.ref l)) Q E s := by
  have hl' : s.heap.IsList l vs.toArray := hl.elim (fun m => Lst.isList (S.get m)) fun ⟨o, ho, r⟩ => ⟨o, S.keep _ _ ho, r⟩
  refine wpAny_pyIter_list hl' (h _ _ ?_ (S.push (P := LI l 0) ⟨rfl, rfl⟩ s.toks))
  obtain ⟨o, ho, _⟩ := hl'; exact Nat.ne_of_lt (Heap.lt_size ho)
theorem it_tuple {Q : Value → Shared → Prop} {vs : List Value} (S : St s₁ L b H s) (hl : (l, Tup vs) ∈ H) (h : ∀ s' I, l ≠ I → St s₁ L b ((I, TI l 0) :: H) s' → Q (.ref I) s') : wpAny (model prog w) A (pyIter (.ref l)) Q E s := by
  have hl' : s.heap.IsTuple l vs.toArray := Tup.isTup (S.get hl)
  refine wpAny_pyIter_tuple hl' (h _ _ ?_ (S.push (P := TI l 0) ⟨rfl, rfl⟩ s.toks))
  obtain ⟨o, ho, _⟩ := hl'; exact Nat.ne_of_lt (Heap.lt_size ho)
/-- a range object -/
def Rng (a c st : Int) (o : Obj) : Prop := ∃ t u v, o = { cls := .type "range", dict := none, data := .fields #[.int a t, .int c u, .int st v], slots := #[] }
theorem c_range1 {Q : Value → Shared → Prop} {n : Int} {t : Tok} (S : St s₁ L b H s) (h : ∀ s' r, St s₁ L b ((r, Rng 0 n 1) :: H) s' → Q (.ref r) s') : wpAny (model prog w) A (call (.type "range") [.int n t]) Q E s :=
  call_range_1 (h _ _ (S.push (P := Rng 0 n 1) ⟨_, _, _, rfl⟩ _))
theorem it_range1 {Q : Value → Shared → Prop} {r : Addr} {a c : Int} (S : St s₁ L b ((r, Rng a c 1) :: H) s) (ha : -(2 ^ 62) ≤ a) (ha' : a < 2 ^ 62) (hc : -(2 ^ 62) ≤ c) (hc' : c < 2 ^ 62)
    (h : ∀ s' I, St s₁ L b ((I, RI (a + ((0 : Nat) : Int) * 1) (((c - a).toNat : Int) - ((0 : Nat) : Int)) 1) :: H) s' → Q (.ref I) s') : wpAny (model prog w) A (pyIter (.ref r)) Q E s := by
  obtain ⟨o, ho, t, u, v, rfl⟩ := S.get (List.mem_cons_self ..)
  refine wpAny_pyIter_range (a := a) (b := c) (c := 1) ho (small_one ha ha' hc hc') (h _ _ (S.drop.push (P := RI _ _ 1) ?_ s.toks))
  show _ = _
  have e : Builtin.Range.rangeSize a c 1 = ((c - a).toNat : Int) - ((0 : Nat) : Int) := by rw [rangeSize_one]; split <;> omega
  rw [e]; simp

/-- an entry at the head passes from one state to the next -/
theorem St.step {P P' : Obj → Prop} (S : St s₁ L b ((I, P) :: H) s) {h' : Heap} (k : Nat) (hP : ∃ o, h'.get? I = some o ∧ P' o) (hk : ∀ c o, c ≠ I → s.heap.get? c = some o → h'.get? c = some o) : St s₁ L b ((I, P') :: H) { s with heap := h', toks := k } :=
  S.upd (.head _) k hk hP
theorem St.gone {P : Obj → Prop} (S : St s₁ L b ((I, P) :: H) s) {h' : Heap} (k : Nat) (hk : ∀ c o, c ≠ I → s.heap.get? c = some o → h'.get? c = some o) : St s₁ L b H { s with heap := h', toks := k } where
  ns := let ⟨o, ho, h⟩ := S.ns; ⟨o, hk _ _ (Ne.symm (S.fresh _ (List.mem_cons_self ..)).1) ho, h⟩
  keep := fun a o e => hk _ _ (by rintro rfl; have := (S.fresh _ (List.mem_cons_self ..)).2; simp only at this; rw [this] at e; cases e) (S.keep a o e)
  fr := S.fr
  nw := fun p hp => let ⟨o, ho, h⟩ := S.nw p (List.mem_cons_of_mem _ hp); ⟨o, hk _ _ (fun e => (List.nodup_cons.mp S.nd).1 (List.mem_map.mpr ⟨p, hp, e⟩)) ho, h⟩
  fresh := fun p hp => S.fresh p (List.mem_cons_of_mem _ hp)
  nd := (List.nodup_cons.mp S.nd).2
  eq := let ⟨h, tk, e⟩ := S.eq; ⟨h', k, by rw [e]⟩

theorem getHead {P : Obj → Prop} (S : St s₁ L b ((I, P) :: H) s) : ∃ o, s.heap.get? I = some o ∧ P o := S.get (List.mem_cons_self ..)

/-- what a turn of a for leaves -/
def TurnEnd (s₁ : Shared) (L I : Addr) (P : Obj → Prop) (J : List (Str × Value) → List Ent → Prop) (Q : Flow → Shared → Prop) (f : Flow) (s : Shared) : Prop :=
  match f with
  | .next | .cont => ∃ b H, St s₁ L b ((I, P) :: H) s ∧ J b H
  | .brk => Q .next s
  | .ret v => Q (.ret v) s

theorem loop_for {n : Nat} {P : Nat → Obj → Prop} {V : Nat → Value → Prop} {R : Heap → Prop} {x : Str} {px : Pos} {body : List Stmt} {Q : Flow → Shared → Prop} {RE : Value → Shared → Prop} (W : Itr prog w A I n P V R) (J : Nat → List (Str × Value) → List Ent → Prop)
    (S : St s₁ L b ((I, P 0) :: H) s) (h0 : J 0 b H) (hR : ∀ i b H s, i ≤ n → J i b H → St s₁ L b ((I, P i) :: H) s → R s.heap) (hx : env.kindOf x = some .local) (hL : env.locals = L) (hk : env.scope.kind = .function)
    (turn : ∀ i v b' H' s', i < n → V i v → J i b' H' → St s₁ L (up x v b') ((I, P (i + 1)) :: H') s' → wpAny (model prog w) A (execs body env) (TurnEnd s₁ L I (P (i + 1)) (J (i + 1)) Q) (fun _ _ => False) s')
    (done : ∀ b' H' s', J n b' H' → St s₁ L b' H' s' → Q .next s') :
    codeAny (model prog w) A (.forLoop (.Name x px) (.ref I) body [] env) (fun r s' => match r with | .ok f => Q f s' | .error e => RE e s') s := by
  refine codeAny_forLoop (fun k s' => ∃ b' H' i, St s₁ L b' ((I, P i) :: H') s' ∧ J i b' H' ∧ i ≤ n ∧ k = n + 1 - i) ?_ (n + 1) ⟨b, H, 0, S, h0, Nat.zero_le _, rfl⟩
  rintro k s' ⟨b', H', i, S', hJ, hi, rfl⟩
  have hR' := hR i b' H' s' hi hJ S'
  by_cases hlt : i < n
  · refine W.item i _ _ _ hlt (getHead S') hR' fun v h₁ tk₁ hV hP₁ hk₁ => ?_
    refine wpAny_assign_Name (st_L (S'.step tk₁ hP₁ hk₁) hx (fun s₂ S₂ => ?_) hL hk)
    refine wpAny_mono (turn i v b' H' s₂ hlt hV hJ S₂) (fun f s₃ h₃ => ?_) fun _ _ e => e.elim
    cases f with
    | next => obtain ⟨b'', H'', S₃, hJ₃⟩ := h₃; exact ⟨n + 1 - (i + 1), by omega, b'', H'', i + 1, S₃, hJ₃, hlt, rfl⟩
    | cont => obtain ⟨b'', H'', S₃, hJ₃⟩ := h₃; exact ⟨n + 1 - (i + 1), by omega, b'', H'', i + 1, S₃, hJ₃, hlt, rfl⟩
    | brk => exact h₃
    | ret v => exact h₃
  · have hin : i = n := by omega
    subst hin
    exact W.done _ _ _ (getHead S') hR' fun h₁ tk₁ hk₁ => wpAny_execs_nil (done b' H' _ hJ (S'.gone tk₁ hk₁))

/-- where the loop's source is known -/
def ForAt (prog : Program) (w : World) (A : Around) (target : Expr) (body : List Stmt) (env : Env) (Q : Flow → Shared → Prop) (E : Value → Shared → Prop) (xv : Value) (s : Shared) : Prop :=
  wpAny (model prog w) A (pyIter xv) (fun it s₂ => codeAny (model prog w) A (.forLoop target it body [] env) (fun r s' => match r with | .ok f => Q f s' | .error e => cameBackBy (model prog w) A env E e s') s₂) E s
theorem ex_for {target iter : Expr} {body : List Stmt} {pos : Pos} {Q : Flow → Shared → Prop} (h : wpAny (model prog w) A (eval iter env) (fun xv s₁ => ForAt prog w A target body env Q E xv s₁) E s)
    (hs : ∀ x, foldedSetIterable iter env x = pure x) : wpAny (model prog w) A (exec (.For target iter body [] pos) env) Q E s := wpAny_For h hs

/-- a for over a list of the call's own or of the caller's -/
theorem for_list {x : Str} {px : Pos} {body : List Stmt} {Q : Flow → Shared → Prop} {vs : List Value} (J : Nat → List (Str × Value) → List Ent → Prop) (S : St s₁ L b H s) (h0 : J 0 b H)
    (hl : (l, Lst vs) ∈ H ∨ s₁.heap.IsList l vs.toArray) (hJ : ∀ i b H, J i b H → (l, Lst vs) ∈ H ∨ s₁.heap.IsList l vs.toArray) (hh : A.handled = none) (hx : env.kindOf x = some .local) (hL : env.locals = L) (hk : env.scope.kind = .function)
    (turn : ∀ I i v b' H' s', vs[i]? = some v → J i b' H' → St s₁ L (up x v b') ((I, LI l (i + 1)) :: H') s' → wpAny (model prog w) A (execs body env) (TurnEnd s₁ L I (LI l (i + 1)) (J (i + 1)) Q) (fun _ _ => False) s')
    (done : ∀ b' H' s', J vs.length b' H' → St s₁ L b' H' s' → Q .next s') : ForAt prog w A (.Name x px) body env Q E (.ref l) s :=
  it_list S hl fun s' I hne S' => loop_for (Itr.list vs hh hne) J S' h0
    (fun i b H s _ h S => (hJ i b H h).elim (fun m => Lst.isList (S.get (List.mem_cons_of_mem _ m))) fun ⟨o, ho, r⟩ => ⟨o, S.keep _ _ ho, r⟩) hx hL hk
    (fun i v b' H' s' _ hV hj S => turn I i v b' H' s' hV hj S) done
theorem for_range1 {x : Str} {px : Pos} {body : List Stmt} {Q : Flow → Shared → Prop} {r : Addr} {a c : Int} (J : Nat → List (Str × Value) → List Ent → Prop) (S : St s₁ L b ((r, Rng a c 1) :: H) s) (h0 : J 0 b H)
    (ha : -(2 ^ 62) ≤ a) (ha' : a < 2 ^ 62) (hc : -(2 ^ 62) ≤ c) (hc' : c < 2 ^ 62) (hh : A.handled = none) (hx : env.kindOf x = some .local) (hL : env.locals = L) (hk : env.scope.kind = .function)
    (turn : ∀ I P i t b' H' s', a + (i : Nat) < c → J i b' H' → St s₁ L (up x (.int (a + (i : Nat)) t) b') ((I, P) :: H') s' → wpAny (model prog w) A (execs body env) (TurnEnd s₁ L I P (J (i + 1)) Q) (fun _ _ => False) s')
    (done : ∀ b' H' s', J (c - a).toNat b' H' → St s₁ L b' H' s' → Q .next s') : ForAt prog w A (.Name x px) body env Q E (.ref r) s :=
  it_range1 S ha ha' hc hc' fun s' I S' => loop_for (Itr.range a 1 (c - a).toNat hh) J S' h0 (fun _ _ _ _ _ _ _ => trivial) hx hL hk
    (fun i v b' H' s' hi ⟨t, hV⟩ hj S => by subst hV; rw [Int.mul_one] at S; exact turn I _ i t b' H' s' (by omega) hj S) done

/-- a while by a measure -/
def WTurn (s₁ : Shared) (L : Addr) (J : Nat → List (Str × Value) → List Ent → Prop) (n : Nat) (Q : Flow → Shared → Prop) (f : Flow) (s : Shared) : Prop :=
  match f with
  | .next | .cont => ∃ m b H, m < n ∧ St s₁ L b H s ∧ J m b H
  | .brk => Q .next s
  | .ret v => Q (.ret v) s
theorem ex_while {test : Expr} {body : List Stmt} {pos : Pos} {Q : Flow → Shared → Prop} (J : Nat → List (Str × Value) → List Ent → Prop) (n : Nat) (S : St s₁ L b H s) (h0 : J n b H)
    (turn : ∀ n b' H' s', J n b' H' → St s₁ L b' H' s' → wpAny (model prog w) A (isTrue test env (eval test env)) (fun c s₂ => if c then wpAny (model prog w) A (execs body env) (WTurn s₁ L J n Q) (fun _ _ => False) s₂ else Q .next s₂) (fun _ _ => False) s') :
    wpAny (model prog w) A (exec (.While test body [] pos) env) Q E s := by
  refine wpAny_While (codeAny_whileLoop (fun n s' => ∃ b' H', St s₁ L b' H' s' ∧ J n b' H') ?_ n ⟨b, H, S, h0⟩)
  rintro n s' ⟨b', H', S', hJ⟩
  refine wpAny_mono (turn n b' H' s' hJ S') (fun c s₂ h₂ => ?_) fun _ _ e => e.elim
  cases c with
  | true =>
    simp only [if_true] at h₂ ⊢
    refine wpAny_mono h₂ (fun f s₃ h₃ => ?_) fun _ _ e => e.elim
    cases f with
    | next => obtain ⟨m, b'', H'', hm, S₃, hJ₃⟩ := h₃; exact ⟨m, hm, b'', H'', S₃, hJ₃⟩
    | cont => obtain ⟨m, b'', H'', hm, S₃, hJ₃⟩ := h₃; exact ⟨m, hm, b'', H'', S₃, hJ₃⟩
    | brk => exact h₃
    | ret v => exact h₃
  | false =>
    simp only [Bool.false_eq_true, if_false] at h₂ ⊢
    exact wpAny_execs_nil h₂
end
end Mine
namespace Mine

section
variable {prog : Program} {w : World} {A : Around} {E : Value → Shared → Prop} {s s₁ : Shared} {L I l D C : Addr} {b : List (Str × Value)} {H H' : List Ent} {env : Env}

/-- a changed list -/
theorem St.mapSeq (S : St s₁ L b H s) {vs : List Value} {f : Array Value → Array Value} {vs' : List Value} (U : Upd l (Lst vs) (Lst vs') H H') (hf : f vs.toArray = vs'.toArray) (k : Nat) :
    St s₁ L b H' { s with heap := s.heap.update l (Obj.mapSeq f), toks := k } := by
  obtain ⟨⟨c, d, dt, sl⟩, ho, hc, hd, hs, n, hdt⟩ := S.get U.mem
  simp only at hc hd hs hdt; subst hc hd hs hdt
  refine S.upd U k (fun c o hc e => (Heap.get?_update_other _ _ (Ne.symm hc)).trans e) ⟨_, Heap.get?_update_self _ ho rfl, rfl, rfl, rfl, ?_⟩
  exact ⟨_, by show Data.seq _ _ = _; rw [hf]⟩

theorem l_append {Q : Value → Shared → Prop} {vs : List Value} {x : Value} (S : St s₁ L b H s) (U : Upd l (Lst vs) (Lst (vs ++ [x])) H H') (hsz : vs.length ≤ sizeLine) (h : ∀ s', St s₁ L b H' s' → Q .none s') :
    wpAny (model prog w) A (call (.builtin "list.append") [.ref l, x]) Q E s := by
  have hl : s.heap.IsList l vs.toArray := Lst.isList (S.get U.mem)
  obtain ⟨o, ho, hc, n, hd⟩ := id hl
  refine wpAny_call_entry slot_list_append hl.typeIs entry_list_append ?_ (args_list_append _ _)
  show wpAny _ _ (updateSeq l (·.push x) >>= fun _ => ret .none) _ _ s
  refine wpAny_bind (wpAny_updateSeq ho hd (wpAny_pure ⟨.none, rfl, h _ (S.mapSeq U (by simp) s.toks)⟩) (by rw [List.size_toArray]; exact hsz))

/-- the tests of a comprehension's clause -/
abbrev tests (ifs : List Expr) (env : Env) : Sem Bool := forIn ifs true fun c r => if r = true then do let ok ← isTrue c env (eval c env); pure (ForInStep.yield ok) else pure (ForInStep.yield r)
theorem tests_nil {Q : Bool → Shared → Prop} (h : Q true s) : wpAny (model prog w) A (tests [] env) Q E s := wpAny_pure h
def CompEnd (s₁ : Shared) (C : Addr) (X : List Ent) (J : List Ent → Prop) (s : Shared) : Prop := ∃ b H, St s₁ C b (X ++ H) s ∧ J H

theorem comp_loop {n : Nat} {P : Nat → Obj → Prop} {V : Nat → Value → Prop} {R : Heap → Prop} {x : Str} {px pos : Pos} {elt iter : Expr} {ifs : List Expr} {scope : Scope} {RR : Result → Shared → Prop} {bC : List (Str × Value)}
    (W : Itr prog w A I n P V R) (J : Nat → List Value → List Ent → Prop)
    (S : St s₁ C bC ((D, Lst []) :: (I, P 0) :: (L, Frm b) :: H) s) (h0 : J 0 [] H) (hn : n ≤ sizeLine) (hR : ∀ i ys H s bC, i ≤ n → J i ys H → St s₁ C bC ((D, Lst ys) :: (I, P i) :: (L, Frm b) :: H) s → R s.heap)
    (hx : env.kindOf x = some .local) (hL : env.locals = C) (hk : env.scope.kind = .function)
    (turn : ∀ i v ys H' s', i < n → V i v → J i ys H' → St s₁ C [(x, v)] ((D, Lst ys) :: (I, P (i + 1)) :: (L, Frm b) :: H') s' →
      wpAny (model prog w) A (tests ifs env) (fun ok s₃ => if ok = true then wpAny (model prog w) A (eval elt env) (fun y s₄ => CompEnd s₁ C [(D, Lst ys), (I, P (i + 1)), (L, Frm b)] (J (i + 1) (ys ++ [y])) s₄) (fun _ _ => False) s₃
        else CompEnd s₁ C [(D, Lst ys), (I, P (i + 1)), (L, Frm b)] (J (i + 1) ys) s₃) (fun _ _ => False) s')
    (done : ∀ ys H' s' bC, J n ys H' → St s₁ C bC ((D, Lst ys) :: (L, Frm b) :: H') s' → RR (.ok .next) s') :
    codeAny (model prog w) A (.compLoop (.ListComp elt [⟨.Name x px, iter, ifs, 0⟩] scope pos) 0 (.ref I) (.ref D) env) RR s := by
  refine codeAny_compLoop_tests (fun k s' => ∃ bC ys H' i, St s₁ C bC ((D, Lst ys) :: (I, P i) :: (L, Frm b) :: H') s' ∧ J i ys H' ∧ i ≤ n ∧ ys.length ≤ i ∧ k = n + 1 - i) ?_ (n + 1) ⟨bC, [], H, 0, S, h0, Nat.zero_le _, Nat.le_refl _, rfl⟩
  rintro k s' ⟨bC', ys, H', i, S', hJ, hi, hlen, rfl⟩
  have hR' := hR i ys H' s' bC' hi hJ S'
  have S₀ := S'.perm (List.Perm.swap (I, P i) (D, Lst ys) ((L, Frm b) :: H')).symm
  by_cases hlt : i < n
  · refine W.item i _ _ _ hlt (getHead S₀) hR' fun v h₁ tk₁ hV hP₁ hk₁ => ?_
    have S₁ := (S₀.step tk₁ hP₁ hk₁).perm (List.Perm.swap (I, P (i + 1)) (D, Lst ys) ((L, Frm b) :: H'))
    refine wpAny_assign_Name (st_L S₁ hx (fun s₂ S₂ => ?_) hL hk)
    have S₃ := S₂.bind (b' := [(x, v)]) (Sub.cons (by rw [lk_up]; simp) (Sub.nil _))
    refine wpAny_mono (turn i v ys H' s₂ hlt hV hJ S₃) (fun ok s₃ h₃ => ?_) fun _ _ e => e.elim
    cases ok with
    | false =>
      obtain ⟨b₃, H₃, S₃, hJ₃⟩ := h₃
      exact ⟨n + 1 - (i + 1), by omega, b₃, ys, H₃, i + 1, S₃, hJ₃, hlt, by omega, rfl⟩
    | true =>
      refine wpAny_mono h₃ (fun y s₄ h₄ => ?_) fun _ _ e => e.elim
      obtain ⟨b₄, H₄, S₄, hJ₄⟩ := h₄
      refine l_append S₄ (.head _) (by omega) fun s₅ S₅ => ?_
      exact ⟨n + 1 - (i + 1), by omega, b₄, ys ++ [y], H₄, i + 1, S₅, hJ₄, hlt, by simp; omega, rfl⟩
  · have hin : i = n := by omega
    subst hin
    refine W.done _ _ _ (getHead S₀) hR' fun h₁ tk₁ hk₁ => ?_
    exact done ys H' _ bC' hJ (S₀.gone tk₁ hk₁)

/-- what stands behind a comprehension -/
def CompDone (prog : Program) (w : World) (A : Around) (use : Option (Value → Sem Unit)) (Q : Value → Shared → Prop) (E : Value → Shared → Prop) (s₁ : Shared) (L : Addr) (b : List (Str × Value)) (C D : Addr) (ys : List Value) (H' : List Ent) (s' : Shared) : Prop :=
  match use with
  | none => ∀ s'', St s₁ L b ((D, Lst ys) :: H') s'' → Q (.ref D) s''
  | some u => wpAny (model prog w) A (u (.ref D)) (fun _ s₂ => ∃ b₂ H₂, St s₁ L b₂ ((C, Frm []) :: H₂) s₂ ∧ ∀ s₃, St s₁ L b₂ H₂ s₃ → Q .none s₃) E s'
/-- where a comprehension's source is known -/
def CompAt (prog : Program) (w : World) (A : Around) (elt : Expr) (x : Str) (px pos : Pos) (iter : Expr) (ifs : List Expr) (scope : Scope) (env : Env) (cl : List (Str × Addr)) (use : Option (Value → Sem Unit)) (Q : Value → Shared → Prop) (E : Value → Shared → Prop) (xv : Value) (s : Shared) : Prop :=
  wpAny (model prog w) A (pyIter xv) (fun it s₂ => wpAny (model prog w) A (newList []) (fun acc s₃ =>
      wpAny (model prog w) A (newFunctionEnv scope env.globals cl [] env.qual none .none (some env)) (fun cenv s₄ =>
        codeAny (model prog w) A (.compStart (.ListComp elt [⟨.Name x px, iter, ifs, 0⟩] scope pos) 0 it acc { cenv with scope := relabel scope env }) (compPost (model prog w) A E use Q acc cenv.locals) s₄) E s₃) E s₂) E s

theorem comp_at {n : Nat} {P : Nat → Obj → Prop} {V : Nat → Value → Prop} {R : Heap → Prop} {x : Str} {px pos : Pos} {elt iter : Expr} {ifs : List Expr} {scope : Scope} {cl : List (Str × Addr)} {use : Option (Value → Sem Unit)} {Q : Value → Shared → Prop}
    (W : Itr prog w A I n P V R) (J : Nat → List Value → List Ent → Prop) (S : St s₁ L b ((I, P 0) :: H) s) (h0 : J 0 [] H) (hn : n ≤ sizeLine)
    (hR : ∀ C D i ys H s bC, i ≤ n → J i ys H → St s₁ C bC ((D, Lst ys) :: (I, P i) :: (L, Frm b) :: H) s → R s.heap) (hR0 : ∀ s b', St s₁ L b' ((I, P 0) :: H) s → R s.heap)
    (hcell : ∀ y ∈ scope.names, y.2 ≠ .cell) (hkind : scope.kind = .function) (hx : scope.names.lookup x = some .local)
    (turn : ∀ C D i v ys H' s', i < n → V i v → J i ys H' → St s₁ C [(x, v)] ((D, Lst ys) :: (I, P (i + 1)) :: (L, Frm b) :: H') s' →
      wpAny (model prog w) A (tests ifs (compEnvC scope cl C env)) (fun ok s₃ => if ok = true then wpAny (model prog w) A (eval elt (compEnvC scope cl C env)) (fun y s₄ => CompEnd s₁ C [(D, Lst ys), (I, P (i + 1)), (L, Frm b)] (J (i + 1) (ys ++ [y])) s₄) (fun _ _ => False) s₃
        else CompEnd s₁ C [(D, Lst ys), (I, P (i + 1)), (L, Frm b)] (J (i + 1) ys) s₃) (fun _ _ => False) s')
    (done : ∀ C D ys H' s', J n ys H' → St s₁ L b ((C, Frm []) :: (D, Lst ys) :: H') s' →
      CompDone prog w A use Q E s₁ L b C D ys H' s') :
    wpAny (model prog w) A (newList []) (fun acc s₃ =>
      wpAny (model prog w) A (newFunctionEnv scope env.globals cl [] env.qual none .none (some env)) (fun cenv s₄ =>
        codeAny (model prog w) A (.compStart (.ListComp elt [⟨.Name x px, iter, ifs, 0⟩] scope pos) 0 (.ref I) acc { cenv with scope := relabel scope env }) (compPost (model prog w) A E use Q acc cenv.locals) s₄) E s₃) E s := by
  refine new_list S (by simp [sizeLine_eq]) fun s₃ D S₃ => ?_
  refine wpAny_newFunctionEnv hcell (by intro y hy; simp at hy) (fun h₁ hns₁ hsb₁ => ?_) hkind
  have S₄ := S₃.enter (b' := []) (s₃.toks + ([] : List (Str × Value)).length) hns₁ (fun c o e => hsb₁.extBut c o (Nat.ne_of_lt (Heap.lt_size e)) (Heap.get?_push_of_some _ e)) (fun x v e => by simp [lk] at e)
  generalize hC : s₃.heap.objs.size = C at S₄ ⊢
  have S₅ : St s₁ C [] ((D, Lst []) :: (I, P 0) :: (L, Frm b) :: H) _ := S₄.perm (by
    refine List.Perm.trans ?_ (List.perm_middle (l₁ := [(D, Lst []), (I, P 0)]) (l₂ := H) (a := (L, Frm b)))
    exact List.Perm.refl _)
  have loop : ∀ s₆, St s₁ C [] ((D, Lst []) :: (I, P 0) :: (L, Frm b) :: H) s₆ → codeAny (model prog w) A (.compLoop (.ListComp elt [⟨.Name x px, iter, ifs, 0⟩] scope pos) 0 (.ref I) (.ref D) (compEnvC scope cl C env)) (compPost (model prog w) A E use Q (.ref D) C) s₆ := by
    intro s₆ S₆
    refine comp_loop (env := compEnvC scope cl C env) W J S₆ h0 hn (fun i ys H s bC hi hJ S => hR C D i ys H s bC hi hJ S) (lookup_relabel_local hx) rfl hkind (fun i v ys H' s' hi hV hJ S => turn C D i v ys H' s' hi hV hJ S) fun ys H' s' bC hJ S' => ?_
    have Sc : St s₁ L b ((C, Frm []) :: (D, Lst ys) :: H') s' := by
      have S0 : St s₁ C bC ((L, Frm b) :: (D, Lst ys) :: H') s' := S'.perm (List.Perm.swap (D, Lst ys) (L, Frm b) H')
      have fC := S0.ns
      have hb := S0.back
      refine ⟨hb.ns, hb.keep, hb.fr, ?_, ?_, ?_, hb.eq⟩
      · intro p hp
        rcases List.mem_cons.mp hp with rfl | hp
        · obtain ⟨o, ho, h⟩ := fC; exact ⟨o, ho, h.weak (Sub.nil _)⟩
        · exact hb.nw p hp
      · intro p hp
        rcases List.mem_cons.mp hp with rfl | hp
        · exact ⟨Ne.symm (S0.fresh (L, Frm b) (List.mem_cons_self ..)).1, S0.fr⟩
        · exact hb.fresh p hp
      · exact List.nodup_cons.mpr ⟨fun hm => by
          obtain ⟨q, hq, e⟩ := List.mem_map.mp hm
          exact (S0.fresh q (List.mem_cons_of_mem _ hq)).1 e, hb.nd⟩
    have fin := done C D ys H' s' hJ Sc
    have nsC : ∀ {b' : List (Str × Value)} {K : List Ent} {s₇ : Shared}, St s₁ L b' ((C, Frm []) :: K) s₇ → ∃ m, s₇.heap.Ns C m ∧ ∀ h', Heap.SameBut C s₇.heap h' → St s₁ L b' K { s₇ with heap := h' } := by
      intro b' K s₇ S₇
      obtain ⟨o, ho, es, ep, hd, hk, hf⟩ := getHead S₇
      exact ⟨nsFind es, ⟨o, es, ep, ho, hd, hk, fun _ => rfl⟩, fun h' hs => S₇.gone s₇.toks fun c o hc e => hs.extBut c o hc e⟩
    cases use with
    | none =>
      obtain ⟨m, hm, hS⟩ := nsC Sc
      exact ⟨m, hm, fun h' hs => fin _ (hS h' hs)⟩
    | some u =>
      refine wpAny_mono fin (fun _ s₂ h₂ => ?_) fun _ _ e => e
      obtain ⟨b₂, H₂, S₂, hq⟩ := h₂
      obtain ⟨m, hm, hS⟩ := nsC S₂
      exact ⟨m, hm, fun h' hs => hq _ (hS h' hs)⟩
  have go := loop _ S₅
  have hRs : R h₁ := hR C D 0 [] H _ [] (Nat.zero_le _) h0 S₅
  exact codeAny_compStart_list go (W.self 0 _ _ _ (getHead (S₅.perm (List.Perm.swap (I, P 0) (D, Lst []) ((L, Frm b) :: H)).symm)) hRs go)

theorem ev_comp {x : Str} {px pos : Pos} {elt iter : Expr} {ifs : List Expr} {scope : Scope} {cl : List (Str × Addr)} {Q : Value → Shared → Prop}
    (hclos : closureFor scope env = pure cl) (hkind : scope.kind = .function) (hnames : ∀ y ∈ scope.names, y.2 = .local → scope.names.lookup y.1 = some .local)
    (h : wpAny (model prog w) A (eval iter env) (fun xv s₁ => CompAt prog w A elt x px pos iter ifs scope env cl none Q E xv s₁) E s) (hs : ∀ x, foldedSetIterable iter env x = pure x) :
    wpAny (model prog w) A (eval (.ListComp elt [⟨.Name x px, iter, ifs, 0⟩] scope pos) env) Q E s := by
  rw [eval_ListComp]
  exact wpAny_comprehension_free (use := none) rfl hs hclos hkind hnames h
/-- over a list -/
theorem comp_list {x : Str} {px pos : Pos} {elt iter : Expr} {ifs : List Expr} {scope : Scope} {cl : List (Str × Addr)} {use : Option (Value → Sem Unit)} {Q : Value → Shared → Prop} {vs : List Value} (J : Nat → List Value → List Ent → Prop)
    (S : St s₁ L b H s) (h0 : J 0 [] H) (hn : vs.length ≤ sizeLine) (hl : (l, Lst vs) ∈ H ∨ s₁.heap.IsList l vs.toArray) (hJ : ∀ i ys H, J i ys H → (l, Lst vs) ∈ H ∨ s₁.heap.IsList l vs.toArray) (hh : A.handled = none)
    (hcell : ∀ y ∈ scope.names, y.2 ≠ .cell) (hkind : scope.kind = .function) (hx : scope.names.lookup x = some .local)
    (turn : ∀ C D I i v ys H' s', vs[i]? = some v → J i ys H' → St s₁ C [(x, v)] ((D, Lst ys) :: (I, LI l (i + 1)) :: (L, Frm b) :: H') s' →
      wpAny (model prog w) A (tests ifs (compEnvC scope cl C env)) (fun ok s₃ => if ok = true then wpAny (model prog w) A (eval elt (compEnvC scope cl C env)) (fun y s₄ => CompEnd s₁ C [(D, Lst ys), (I, LI l (i + 1)), (L, Frm b)] (J (i + 1) (ys ++ [y])) s₄) (fun _ _ => False) s₃
        else CompEnd s₁ C [(D, Lst ys), (I, LI l (i + 1)), (L, Frm b)] (J (i + 1) ys) s₃) (fun _ _ => False) s')
    (done : ∀ C D ys H' s', J vs.length ys H' → St s₁ L b ((C, Frm []) :: (D, Lst ys) :: H') s' →
      CompDone prog w A use Q E s₁ L b C D ys H' s') :
    CompAt prog w A elt x px pos iter ifs scope env cl use Q E (.ref l) s :=
  it_list S hl fun s' I hne S' => comp_at (Itr.list vs hh hne) J S' h0 hn
    (fun C D i ys H s bC _ h S => (hJ i ys H h).elim (fun m => Lst.isList (S.get (List.mem_cons_of_mem _ (List.mem_cons_of_mem _ (List.mem_cons_of_mem _ m))))) fun ⟨o, ho, r⟩ => ⟨o, S.keep _ _ ho, r⟩)
    (fun s b' S => hl.elim (fun m => Lst.isList (S.get (List.mem_cons_of_mem _ m))) fun ⟨o, ho, r⟩ => ⟨o, S.keep _ _ ho, r⟩) hcell hkind hx
    (fun C D i v ys H' s' hi hV hJ S => turn C D I i v ys H' s' hV hJ S) done
theorem comp_tuple {x : Str} {px pos : Pos} {elt iter : Expr} {ifs : List Expr} {scope : Scope} {cl : List (Str × Addr)} {use : Option (Value → Sem Unit)} {Q : Value → Shared → Prop} {vs : List Value} (J : Nat → List Value → List Ent → Prop)
    (S : St s₁ L b H s) (h0 : J 0 [] H) (hn : vs.length ≤ sizeLine) (hl : (l, Tup vs) ∈ H) (hJ : ∀ i ys H, J i ys H → (l, Tup vs) ∈ H) (hh : A.handled = none)
    (hcell : ∀ y ∈ scope.names, y.2 ≠ .cell) (hkind : scope.kind = .function) (hx : scope.names.lookup x = some .local)
    (turn : ∀ C D I i v ys H' s', vs[i]? = some v → J i ys H' → St s₁ C [(x, v)] ((D, Lst ys) :: (I, TI l (i + 1)) :: (L, Frm b) :: H') s' →
      wpAny (model prog w) A (tests ifs (compEnvC scope cl C env)) (fun ok s₃ => if ok = true then wpAny (model prog w) A (eval elt (compEnvC scope cl C env)) (fun y s₄ => CompEnd s₁ C [(D, Lst ys), (I, TI l (i + 1)), (L, Frm b)] (J (i + 1) (ys ++ [y])) s₄) (fun _ _ => False) s₃
        else CompEnd s₁ C [(D, Lst ys), (I, TI l (i + 1)), (L, Frm b)] (J (i + 1) ys) s₃) (fun _ _ => False) s')
    (done : ∀ C D ys H' s', J vs.length ys H' → St s₁ L b ((C, Frm []) :: (D, Lst ys) :: H') s' →
      CompDone prog w A use Q E s₁ L b C D ys H' s') :
    CompAt prog w A elt x px pos iter ifs scope env cl use Q E (.ref l) s :=
  it_tuple S hl fun s' I hne S' => comp_at (Itr.tuple vs hh hne) J S' h0 hn
    (fun C D i ys H s bC _ h S => Tup.isTup (S.get (List.mem_cons_of_mem _ (List.mem_cons_of_mem _ (List.mem_cons_of_mem _ (hJ i ys H h))))))
    (fun s b' S => Tup.isTup (S.get (List.mem_cons_of_mem _ hl))) hcell hkind hx
    (fun C D i v ys H' s' hi hV hJ S => turn C D I i v ys H' s' hV hJ S) done
end
end Mine
namespace Mine

/-! ### lists of texts -/
def tx (s : String) : List Nat := (Str.ofString s).cps.toList

section
variable {prog : Program} {w : World} {A : Around} {E : Value → Shared → Prop} {s s₁ : Shared} {L l a c : Addr} {b : List (Str × Value)} {H H' : List Ent} {env : Env} {Q : Value → Shared → Prop} {t u : Tok} {i j : Int}

theorem c_tx {x : String} {k : Nat} {pos : Pos} (S : St s₁ L b H s) (h : ∀ s' t', St s₁ L b H s' → Q (.str (T (tx x)) t') s') : wpAny (model prog w) A (eval (.Constant (.str (Str.ofString x)) k pos) env) Q E s :=
  c_str S fun s' t' S' => by have := h s' t' S'; rwa [show T (tx x) = Str.ofString x from T_of _] at this

/-! ### where a list lies -/
def IsAt (s₁ : Shared) (H : List Ent) (l : Addr) (vs : List Value) : Prop := (l, Lst vs) ∈ H ∨ s₁.heap.IsList l vs.toArray
theorem IsAt.isList {vs : List Value} (S : St s₁ L b H s) (h : IsAt s₁ H l vs) : s.heap.IsList l vs.toArray := h.elim (fun m => Lst.isList (S.get m)) fun ⟨o, ho, r⟩ => ⟨o, S.keep _ _ ho, r⟩

theorem i_fdiv (S : St s₁ L b H s) (h0 : 0 < j) (h1 : j < 1073741824) (h : ∀ s' t', St s₁ L b H s' → Q (.int (i / j) t') s') : wpAny (model prog w) A (binaryOp .FloorDiv (.int i t) (.int j u)) Q E s :=
  floordiv_int (by omega) (by rw [Int.fdiv_eq_ediv_of_nonneg _ (by omega)]; exact h _ _ (S.tok _)) (Or.inl (PyProof.noPylong_small (by omega)))
theorem i_neg (S : St s₁ L b H s) (h : ∀ s' t', St s₁ L b H s' → Q (.int (-i) t') s') : wpAny (model prog w) A (unaryOp .USub (.int i t)) Q E s := neg_int (h _ _ (S.tok _))
theorem c_chr (S : St s₁ L b H s) (h0 : 0 ≤ i) (h1 : i ≤ 1114111) (h : ∀ s' t', St s₁ L b H s' → Q (.str (T [i.toNat]) t') s') : wpAny (model prog w) A (call (.builtin "chr") [.int i t]) Q E s :=
  chr_of_range h0 h1 (h _ _ (S.tok _))
theorem c_strInt (S : St s₁ L b H s) (h0 : i.natAbs.log2 < 1920) (h : ∀ s' t', St s₁ L b H s' → Q (.str (T (dig i)) t') s') : wpAny (model prog w) A (call (.type "str") [.int i t]) Q E s :=
  P.str_of_int h0 (by have := h { s with toks := s.toks + 1 } s.toks (S.tok _); rw [← dig_T] at this; exact this)
theorem c_lenL {vs : List Value} (S : St s₁ L b H s) (hl : IsAt s₁ H l vs) (hsz : vs.length ≤ sizeLine) (h : ∀ s' t', St s₁ L b H s' → Q (.int vs.length t') s') : wpAny (model prog w) A (call (.builtin "len") [.ref l]) Q E s := by
  have h' := h { s with toks := s.toks + 1 + 1 } (s.toks + 1) (S.tok _)
  refine len_list (hl.isList S) (by rw [sizeLine_eq] at hsz; rw [List.size_toArray]; omega) ?_
  rw [List.size_toArray]; exact h'
theorem l_item {value slice : Expr} {vs : List Value} {k : Int} {x : Value} (S : St s₁ L b H s) (hl : IsAt s₁ H l vs) (h0 : 0 ≤ k) (h1 : k < 2 ^ 62) (hx : vs[k.toNat]? = some x) (h : Q x s)
    (hs : subscripted slice false (.ref l) (.int k u) = operate [.ref l, .int k u] (getItem (.ref l) (.int k u))) :
    wpAny (model prog w) A (subscriptTail value slice (.ref l) (.int k u)) Q E s :=
  tail_any (hl.isList S).typeIs slot_list_getitem.lookup (wpAny_getItem_list (hl.isList S) h0 (by omega) (by simpa using hx) h) hs
theorem PlainL {vs : List Value} (S : St s₁ L b H s) (hl : (l, Lst vs) ∈ H) : ∀ c, Value.ref l = .ref c → ∃ o, s.heap.get? c = some o ∧ o.dict = none := fun c e => by
  cases e
  obtain ⟨o, ho, _, hd, _⟩ := S.get hl; exact ⟨o, ho, hd⟩
theorem m_append {vs : List Value} {pl : Sem Bool} {Q : Value × List Value → Shared → Prop} (S : St s₁ L b H s) (hl : (l, Lst vs) ∈ H) (h : Q (.builtin "list.append", [.ref l]) s) : wpAny (model prog w) A (getMethod (.ref l) "append" pl) Q E s := by
  obtain ⟨o, ho, hc, hd, _⟩ := S.get hl
  exact getMethod_list_append ho hc hd h

/-! ### == -/
def lEq (e : Value → Value → Bool) : List Value → List Value → Bool
  | [], [] => true
  | x :: xs, y :: ys => e x y && lEq e xs ys
  | _, _ => false
theorem lEq_len {e : Value → Value → Bool} : ∀ {xs ys : List Value}, lEq e xs ys = true → xs.length = ys.length
  | [], [], _ => rfl
  | [], _ :: _, h => by simp [lEq] at h
  | _ :: _, [], h => by simp [lEq] at h
  | _ :: xs, _ :: ys, h => by simp only [lEq, Bool.and_eq_true] at h; simp [lEq_len h.2]
theorem lEq_iff {e : Value → Value → Bool} : ∀ {xs ys : List Value}, lEq e xs ys = true ↔ xs.length = ys.length ∧ ∀ (j : Nat) (x y : Value), xs[j]? = some x → ys[j]? = some y → e x y = true
  | [], [] => by simp [lEq]
  | [], _ :: _ => by simp [lEq]
  | _ :: _, [] => by simp [lEq]
  | x :: xs, y :: ys => by
    simp only [lEq, Bool.and_eq_true, List.length_cons, Nat.add_right_cancel_iff]
    rw [lEq_iff]
    constructor
    · rintro ⟨h1, h2, h3⟩
      refine ⟨h2, fun j x' y' hx hy => ?_⟩
      cases j with
      | zero => simp at hx hy; subst hx hy; exact h1
      | succ j => exact h3 j x' y' (by simpa using hx) (by simpa using hy)
    · rintro ⟨h1, h2⟩
      exact ⟨h2 0 x y rfl rfl, h1, fun j x' y' hx hy => h2 (j + 1) x' y' (by simpa using hx) (by simpa using hy)⟩
theorem all_range_lEq {e : Value → Value → Bool} {xs ys : List Value} (h : xs.length = ys.length) : (List.range xs.toArray.size).all (fun j => e (xs[j]?.getD .none) (ys[j]?.getD .none)) = lEq e xs ys := by
  rw [Bool.eq_iff_iff, lEq_iff, List.all_eq_true]
  simp only [List.mem_range, List.size_toArray]
  constructor
  · intro hh
    refine ⟨h, fun j x y hx hy => ?_⟩
    have := hh j (List.getElem?_eq_some_iff.mp hx).1
    rwa [hx, hy] at this
  · rintro ⟨_, hh⟩ j hj
    have h2 : j < ys.length := h ▸ hj
    exact hh j _ _ (by simp [hj]) (by simp [h2])
section
open SeqAt
theorem rc_lists {e : Value → Value → Bool} {vs us : List Value} (ha : s.heap.IsList a vs.toArray) (hc : s.heap.IsList c us.toArray) (hu : A.units < cLine) (he : ∀ x ∈ vs, ∀ y ∈ us, EqAt A.in1 s x y (e x y)) :
    RcAt A s (.ref a) (.ref c) (lEq e vs us) := by
  by_cases hl : vs.length = us.length
  · rw [← all_range_lEq hl]
    exact RcAt.lists ha hc (by simpa using hl) hu fun j h1 h2 => by
      have h1' : j < vs.length := by simpa using h1
      have h2' : j < us.length := by simpa using h2
      have := he vs[j] (List.getElem_mem h1') us[j] (List.getElem_mem h2')
      simpa [h1', h2'] using this
  · have : lEq e vs us = false := by
      cases h : lEq e vs us with
      | false => rfl
      | true => exact absurd (lEq_len h) hl
    rw [this]
    exact RcAt.lists_lengths ha hc (by simpa using hl) hu
end
theorem l_neInts {vs us : List Value} {ns ms : List Int} (S : St s₁ L b H s) (ha : IsAt s₁ H a vs) (hc : IsAt s₁ H c us) (hv : IntsAre vs ns) (hw : IntsAre us ms) (hu : A.units + 64 < cLine) (h : Q (.bool (!decide (ns = ms))) s) :
    wpAny (model prog w) A (compareOp .NotEq (.ref a) (.ref c)) Q E s := ke_ne_ints (ha.isList S) (hc.isList S) hv hw hu h
end
end Mine
namespace Mine
theorem law_end {c : ClaimW} {cl : Str → Option Addr} {mean : ExcName → Option Value} {args : List WData} {s₁ s' : Shared} {L : Addr} {b : List (Str × Value)} {H : List Ent} (S : St s₁ L b H s') (hg : s₁.gens = #[])
    (hn : ∀ cls, c.raises args cls = false) (hp : c.post args (.bool true) args = true) : GoodW c cl mean args s₁ (.ok (.ret (.bool true))) s' := by
  obtain ⟨h, tk, e⟩ := S.eq
  exact ⟨.inl ⟨.bool true, .bool true, [], rfl, hn, .bool true, hp, unshared_nil⟩, S.keep, by rw [e], by rw [e]; exact hg⟩
/-- the start: the frame that the call has laid -/
theorem law_start0 {s₁ : Shared} {L : Addr} {h : Heap} {m : Str → Option Value} {b : List (Str × Value)} (tk : Nat) (F : Fr s₁.heap L h m) (hb : ∀ x v, lk b x = some v → m x = some v) : St s₁ L b [] { s₁ with heap := h, toks := tk } where
  ns := Frm.of_Ns F.ns hb
  keep := F.keep
  fr := Heap.get?_none_of_le F.above
  nw := fun _ hp => nomatch hp
  fresh := fun _ hp => nomatch hp
  nd := List.nodup_nil
  eq := ⟨h, tk, rfl⟩
theorem lk1 {x : Str} {v : Value} {m : Str → Option Value} (h : m x = some v) : ∀ y u, lk [(x, v)] y = some u → m y = some u := fun y u e => by
  simp only [lk] at e
  by_cases hx : x = y
  · subst hx; simp at e; subst e; exact h
  · simp [hx] at e
end Mine
namespace Mine
def fdAt (K : Frag) (f : Addr) : FuncData := match K.lookup f with
  | some ⟨_, _, .func fd, _⟩ => fd
  | _ => default
def bodyAt (fd : FuncData) : List Stmt := match fd.body with
  | .stmts b => b
  | _ => []
end Mine
namespace Mine
theorem ifT {P Q : Prop} (h : P) : if true = true then P else Q := h
end Mine
namespace Mine
section
variable {prog : Program} {w : World} {A : Around} {E : Value → Shared → Prop} {s s₁ : Shared} {L l a c : Addr} {b : List (Str × Value)} {H H' : List Ent} {env : Env}
/-- a statement's own post -/
theorem ex_post {st : Stmt} {rest : List Stmt} {Q : Flow → Shared → Prop} (P : Shared → Prop) (h : wpAny (model prog w) A (exec st env) (fun f s' => f = .next ∧ P s') E s) (k : ∀ s', P s' → wpAny (model prog w) A (execs rest env) Q E s') : wpAny (model prog w) A (execs (st :: rest) env) Q E s :=
  wpAny_execs_cons (wpAny_mono h (fun f s' ⟨e, p⟩ => by subst e; exact k s' p) fun _ _ x => x)
theorem same_next {P : Prop} (h : P) : Flow.next = Flow.next ∧ P := ⟨rfl, h⟩
end
end Mine
namespace Mine
end Mine
namespace Mine
theorem log2_small {n : Int} (h : n.natAbs < 10 ^ 18) : n.natAbs.log2 < 1920 := by
  by_cases h0 : n.natAbs = 0
  · rw [h0]; decide
  · have : n.natAbs.log2 < 64 := (Nat.log2_lt h0).mpr (by omega)
    omega
end Mine
namespace Mine
section
variable {prog : Program} {w : World} {A : Around} {E : Value → Shared → Prop} {s s₁ : Shared} {L l a c : Addr} {b : List (Str × Value)} {H H' : List Ent} {env : Env} {Q : Value → Shared → Prop} {t u : Tok} {i j : Int}

theorem slicePick_cut (vs : List Value) (lo hi : Option Int) : slicePick vs.toArray lo hi none = (cut vs lo hi).toArray := by
  have e : sliceBounds lo hi none vs.toArray.size = ((loC vs.length lo : Int), (hiC vs.length hi : Int), 1) := by
    unfold sliceBounds
    rw [List.size_toArray]
    cases lo <;> cases hi <;> simp only [loC, hiC, clip, Option.getD_none, show ((1 : Int) > 0) = True from by simp, if_true] <;> (refine Prod.ext ?_ (Prod.ext ?_ rfl)) <;> simp only <;> omega
  unfold slicePick
  rw [e, sliceRange1]
  have := picked vs (loC vs.length lo) (hiC vs.length hi) (hiC_le _ _)
  congr 1
  simpa [cut] using this
theorem partOf (p : Option (Int × Tok)) : IsPart (partValue p) (p.map (·.1)) := by
  cases p with
  | none => exact .none
  | some x => exact .int _ _
theorem l_slice {value slice : Expr} {vs : List Value} {lo hi : Option Int} (S : St s₁ L b ((a, Slc lo hi) :: H) s) (hl : IsAt s₁ H l vs) (hsz : vs.length ≤ sizeLine) (h : ∀ s' c, St s₁ L b ((c, Lst (cut vs lo hi)) :: H) s' → Q (.ref c) s')
    (hs : subscripted slice false (.ref l) (.ref a) = operate [.ref a, .ref l] (getItem (.ref l) (.ref a))) : wpAny (model prog w) A (subscriptTail value slice (.ref l) (.ref a)) Q E s := by
  obtain ⟨o, ho, lo', hi', hc, hd, rfl, rfl⟩ := S.get (List.mem_cons_self ..)
  have hl' : s.heap.IsList l vs.toArray := hl.isList S.drop
  refine tail_any hl'.typeIs slot_list_getitem.lookup (wpAny_getItem_list_slice (st := none) hl' ⟨o, ho, hc, hd⟩ (partOf lo') (partOf hi') .none (by simp) ?_ (by rw [List.size_toArray]; exact hsz)) hs
  refine h _ _ (S.drop.push (P := Lst _) ⟨rfl, rfl, rfl, 0, ?_⟩ s.toks)
  show Data.seq _ _ = _
  rw [slicePick_cut]
end
section
variable {prog : Program} {w : World} {A : Around} {E : Value → Shared → Prop} {s s₁ : Shared} {L I l : Addr} {b : List (Str × Value)} {H H' : List Ent} {env : Env}
end
end Mine
namespace Mine
end Mine
open PyProof.Rows.TI (gone gone_some gone_none gone_get)
open PySem.AutoSeq1 (wpAny_loadPart')
open PySem.SeqAt PySem.MeetsSeq PySem.MeetsSeq2 PySem.MeetsSeq3 PySem.SeqRoads2
namespace Mine

theorem remove_loopAt (l : Addr) (items : Array Value) (n : Nat) (x : Value) (e : Value → Bool) (j : Nat) (hj : j < items.size) (hit : e items[j] = true) (k : Nat) (hs1 : items.size ≤ sizeLine) :
    ∀ i : Nat, j - i = k → i ≤ j → (∀ m (hm : m < items.size), i ≤ m → m < j → e items[m] = false) → Meets (Builtin.«list.remove.loop» ⟨[.ref l, x, rawInt i], []⟩)
      (fun A R s => s.heap.get? l = some { cls := .type "list", dict := none, data := .seq items n, slots := #[] } ∧ (∀ y, y ∈ items → EqAt A.in1 s y x (e y)) ∧ R (.ok (.ret .none)) { s with heap := s.heap.update l (Obj.mapSeq fun xs => xs.eraseIdxIfInBounds j) }) := by
  induction k with
  | zero =>
    intro i hk hij hno prog w A R s h
    obtain ⟨hp, g, d, tk, os⟩ := s; obtain ⟨hl, he, h⟩ := h
    have hij' : i = j := by omega
    subst hij'
    wp_walk using wpAny_loadPart' hl
    have hi : items[((i : Nat) : Int).toNat]? = some items[i] := by simp [hj]
    rw [hi]
    refine wpAny_bind (he _ (Array.getElem_mem hj) prog w _ _ ?_)
    rw [hit]
    have hz' : (items.eraseIdxIfInBounds i).size ≤ sizeLine + 1 := Nat.le_trans (size_erased items _) (Nat.le_succ_of_le hs1)
    wp_walk using (wpAny_updateSeq hl rfl (hz := hs1) (_hz' := hz')), wpAny_loadPart' hl
    simpa using h
  | succ k ih =>
    intro i hk hij hno prog w A R s h
    obtain ⟨hp, g, d, tk, os⟩ := s; obtain ⟨hl, he, h⟩ := h
    have hlt : i < items.size := by omega
    wp_walk using wpAny_loadPart' hl
    have hi : items[((i : Nat) : Int).toNat]? = some items[i] := by simp [hlt]
    have hc : ((i : Int) + 1) = ((i + 1 : Nat) : Int) := by push_cast; rfl
    rw [hi]
    refine wpAny_bind (he _ (Array.getElem_mem hlt) prog w _ _ ?_)
    rw [hno i hlt (Nat.le_refl _) (by omega)]
    wp_walk
    rw [hc]
    exact ⟨plainId_quiet plain_remove_loop _, codeAny_builtin entry_remove_loop (by
      rw [Around.under_plainId plain_remove_loop _]
      exact ih (i + 1) (by omega) (by omega) (fun m hm h1 h2 => hno m hm (by omega) h2) prog w A R _ ⟨hl, he, h⟩)⟩

theorem list_removeAt (l : Addr) (items : Array Value) (n : Nat) (x : Value) (e : Value → Bool) (j : Nat) (hj : j < items.size)
    (hit : e items[j] = true) (hno : ∀ m (hm : m < items.size), m < j → e items[m] = false) (hs1 : items.size ≤ sizeLine) :
    Meets (Builtin.«list.remove» ⟨[.ref l, x], []⟩)
      (fun A R s => s.heap.get? l = some { cls := .type "list", dict := none, data := .seq items n, slots := #[] } ∧ (∀ y, y ∈ items → EqAt A.in1 s y x (e y)) ∧ R (.ok (.ret .none)) { s with heap := s.heap.update l (Obj.mapSeq fun xs => xs.eraseIdxIfInBounds j) }) := by
  intro prog w A R s h
  obtain ⟨hp, g, d, tk, os⟩ := s; obtain ⟨hl, he, h⟩ := h
  wp_walk using wpAny_loadPart' hl
  exact ⟨plainId_quiet plain_remove_loop _, codeAny_builtin entry_remove_loop (by
    rw [Around.under_plainId plain_remove_loop _]
    exact remove_loopAt l items n x e j hj hit _ hs1 0 rfl (Nat.zero_le _) (fun m hm _ h2 => hno m hm h2) prog w A R _ ⟨hl, he, h⟩)⟩

theorem remove_noneAt (l : Addr) (items : Array Value) (n : Nat) (x : Value) (e : Value → Bool) (hno : ∀ m (hm : m < items.size), e items[m] = false) (k : Nat) :
    ∀ i : Nat, items.size - i = k → Meets (Builtin.«list.remove.loop» ⟨[.ref l, x, rawInt i], []⟩)
      (fun A R s => s.heap.get? l = some { cls := .type "list", dict := none, data := .seq items n, slots := #[] } ∧ (∀ y, y ∈ items → EqAt A.in1 s y x (e y)) ∧ raisesNew "ValueError" A R s) := by
  induction k with
  | zero =>
    intro i hk prog w A R s h
    obtain ⟨hp, g, d, tk, os⟩ := s; obtain ⟨hl, he, h⟩ := h
    wp_walk using wpAny_loadPart' hl
    have hi : items[((i : Nat) : Int).toNat]? = none := by simp; omega
    rw [hi]
    wp_walk
    exact_raiseError plainExc_ValueError h.1 h.2
  | succ k ih =>
    intro i hk prog w A R s h
    obtain ⟨hp, g, d, tk, os⟩ := s; obtain ⟨hl, he, h⟩ := h
    have hlt : i < items.size := by omega
    wp_walk using wpAny_loadPart' hl
    have hi : items[((i : Nat) : Int).toNat]? = some items[i] := by simp [hlt]
    have hc : ((i : Int) + 1) = ((i + 1 : Nat) : Int) := by push_cast; rfl
    rw [hi]
    refine wpAny_bind (he _ (Array.getElem_mem hlt) prog w _ _ ?_)
    rw [hno i hlt]
    wp_walk
    rw [hc]
    exact ⟨plainId_quiet plain_remove_loop _, codeAny_builtin entry_remove_loop (by
      rw [Around.under_plainId plain_remove_loop _]
      exact ih (i + 1) (by omega) prog w A R _ ⟨hl, he, h⟩)⟩

theorem list_removeAt_none (l : Addr) (items : Array Value) (n : Nat) (x : Value) (e : Value → Bool) (hno : ∀ m (hm : m < items.size), e items[m] = false) :
    Meets (Builtin.«list.remove» ⟨[.ref l, x], []⟩)
      (fun A R s => s.heap.get? l = some { cls := .type "list", dict := none, data := .seq items n, slots := #[] } ∧ (∀ y, y ∈ items → EqAt A.in1 s y x (e y)) ∧ raisesNew "ValueError" A R s) := by
  intro prog w A R s h
  obtain ⟨hp, g, d, tk, os⟩ := s; obtain ⟨hl, he, h⟩ := h
  wp_walk using wpAny_loadPart' hl
  exact ⟨plainId_quiet plain_remove_loop _, codeAny_builtin entry_remove_loop (by
    rw [Around.under_plainId plain_remove_loop _]
    exact remove_noneAt l items n x e hno _ 0 rfl prog w A R _ ⟨hl, he, h⟩)⟩

theorem eraseP_at (e : Value → Bool) : ∀ vs : List Value, vs.any e = true → ∃ j, ∃ hj : j < vs.length, e vs[j] = true ∧ (∀ m (hm : m < vs.length), m < j → e vs[m] = false) ∧ vs.eraseP e = vs.eraseIdx j
  | [], h => by simp at h
  | v :: vs, h => by
    by_cases hv : e v = true
    · exact ⟨0, by simp, hv, by omega, by simp [hv]⟩
    · have hv' : e v = false := by simpa using hv
      obtain ⟨j, hj, h1, h2, h3⟩ := eraseP_at e vs (by simpa [hv'] using h)
      refine ⟨j + 1, by simpa using hj, by simpa using h1, fun m hm hmj => ?_, by simp [hv', h3]⟩
      cases m with
      | zero => exact hv'
      | succ m => simpa using h2 m (by simpa using hm) (by omega)

section
variable {prog : Program} {w : World} {A : Around} {E : Value → Shared → Prop} {s s₁ : Shared} {L l : Addr} {b : List (Str × Value)} {H H' : List Ent} {env : Env}

theorem lst_get {vs : List Value} (S : St s₁ L b H s) (hl : (l, Lst vs) ∈ H) : ∃ n, s.heap.get? l = some { cls := .type "list", dict := none, data := .seq vs.toArray n, slots := #[] } := by
  obtain ⟨⟨c, d, dt, sl⟩, ho, hc, hd, hs, n, hdt⟩ := S.get hl
  simp only at hc hd hs hdt; subst hc hd hs hdt
  exact ⟨n, ho⟩

theorem l_removeY {vs : List Value} {x : Value} {Q : Value → Shared → Prop} (e : Value → Bool) (S : St s₁ L b H s) (U : Upd l (Lst vs) (Lst (vs.eraseP e)) H H') (hsz : vs.length ≤ sizeLine) (he : ∀ y ∈ vs, EqAt A.in1 s y x (e y)) (hit : vs.any e = true)
    (h : ∀ s', St s₁ L b H' s' → Q .none s') : wpAny (model prog w) A (call (.builtin "list.remove") [.ref l, x]) Q E s := by
  obtain ⟨n, hl⟩ := lst_get S U.mem
  obtain ⟨j, hj, h1, h2, h3⟩ := eraseP_at e vs hit
  refine call_meets PySem.F.slot_list_remove ⟨_, hl, rfl⟩ PySem.F.entry_list_remove (PySem.F.args_list_remove_2 _ _) (list_removeAt l vs.toArray n x e j (by simpa using hj) (by simpa using h1) (fun m hm hmj => by simpa using h2 m (by simpa using hm) hmj) (by simpa using hsz)) ⟨hl, fun y hy => he y (by simpa using hy), ?_⟩
  refine h _ (S.mapSeq U ?_ s.toks)
  rw [h3, Array.eraseIdxIfInBounds]
  simp [hj]

theorem l_removeN {vs : List Value} {x : Value} {Q : Value → Shared → Prop} (e : Value → Bool) (S : St s₁ L b H s) (hl : (l, Lst vs) ∈ H) (he : ∀ y ∈ vs, EqAt A.in1 s y x (e y)) (hno : vs.any e = false) (hh : A.handled = none)
    (h : ∀ h' tk ex, Heap.NewExc s.heap h' ex "ValueError" → E (.ref ex) { s with heap := h', toks := tk }) : wpAny (model prog w) A (call (.builtin "list.remove") [.ref l, x]) Q E s := by
  obtain ⟨n, hl⟩ := lst_get S hl
  refine call_meets PySem.F.slot_list_remove ⟨_, hl, rfl⟩ PySem.F.entry_list_remove (PySem.F.args_list_remove_2 _ _) (list_removeAt_none l vs.toArray n x e (fun m hm => ?_)) ⟨hl, fun y hy => he y (by simpa using hy), hh, h⟩
  have := List.any_eq_false.mp hno vs[m] (List.getElem_mem _)
  simpa using this

theorem l_pop {vs : List Value} {x : Value} {Q : Value → Shared → Prop} (S : St s₁ L b H s) (U : Upd l (Lst (vs ++ [x])) (Lst vs) H H') (hsz : vs.length < sizeLine)
    (h : ∀ s', St s₁ L b H' s' → Q x s') : wpAny (model prog w) A (call (.builtin "list.pop") [.ref l]) Q E s := by
  obtain ⟨n, hl⟩ := lst_get S U.mem
  refine call_meets PySem.F.slot_list_pop ⟨_, hl, rfl⟩ PySem.F.entry_list_pop (PySem.F.args_list_pop_1 _) (list_pop_last l (vs ++ [x]).toArray n x (by simp) (by simp; omega)) ⟨hl, ?_⟩
  refine h _ (S.mapSeq U ?_ s.toks)
  rw [Array.eraseIdxIfInBounds]
  simp [List.eraseIdx_append]

theorem l_truth {vs : List Value} {Q : Bool → Shared → Prop} (S : St s₁ L b H s) (hl : IsAt s₁ H l vs) (hsz : vs.length ≤ sizeLine) (h : ∀ s', St s₁ L b H s' → Q (!vs.isEmpty) s') : wpAny (model prog w) A (truthy (.ref l)) Q E s := by
  refine wpAny_truthy_list (IsAt.isList S hl) (by rw [sizeLine_eq] at hsz; simp; omega) ?_
  have : (!vs.toArray.isEmpty) = !vs.isEmpty := by cases vs <;> simp
  rw [this]; exact h _ (S.tok _)

theorem l_count {vs : List Value} {x : Value} {Q : Value → Shared → Prop} (e : Value → Bool) (S : St s₁ L b H s) (hl : (l, Lst vs) ∈ H) (he : ∀ y ∈ vs, EqAt A.in1 s y x (e y))
    (h : ∀ s' t', St s₁ L b H s' → Q (.int (vs.countP e : Nat) t') s') : wpAny (model prog w) A (call (.builtin "list.count") [.ref l, x]) Q E s := by
  obtain ⟨n, hl⟩ := lst_get S hl
  refine call_meets PySem.F.slot_list_count ⟨_, hl, rfl⟩ PySem.F.entry_list_count (PySem.F.args_list_count_2 _ _) (list_countAt l vs.toArray n none #[] x e) ⟨hl, fun y hy => he y (by simpa using hy), ?_⟩
  have := h _ s.toks (S.tok (s.toks + 1))
  simpa using this

theorem m_list {vs : List Value} {name : Str} {id : String} {pl : Sem Bool} {Q : Value × List Value → Shared → Prop} (S : St s₁ L b H s) (hl : IsAt s₁ H l vs) (slot : Slot "list" name id) (hty : typeOf (.builtin id) = pure (.type "method_descriptor"))
    (hp : (l, Lst vs) ∈ H) (h : Q (.builtin id, [.ref l]) s) : wpAny (model prog w) A (getMethod (.ref l) name pl) Q E s :=
  getMethod_builtin (IsAt.isList S hl).typeIs PySem.F.plainAttrs_list slot hty (PlainL S hp) h

/-! ### a try -/
def FrsIn (L : Addr) (H : List Ent) (l : List Env) : Prop := ∀ env ∈ l, env.scope.kind ≠ .module ∧ ∃ F, env.frame = some F ∧ (F = L ∨ ∃ b, (F, Frm b) ∈ H)

structure Hld (s₁ : Shared) (L : Addr) (b : List (Str × Value)) (H : List Ent) (l : List Env) (base : Heap) (e : Addr) (X : String) (a0 fl : Value) (s : Shared) : Prop where
  S : St s₁ L b H s
  nw : ∀ p ∈ H, (∃ o, base.get? p.1 = some o ∧ p.2 o) ∨ ∃ b', p.2 = Frm b'
  kb : ∀ a o, s₁.heap.get? a = some o → base.get? a = some o
  st : base.StaysIn s.heap
  ff : s.heap.FunFrames base l
  tr : s.heap.TracedAtW base e (.type X) a0 fl

theorem Hld.next {l : List Env} {base : Heap} {e : Addr} {X : String} {a0 fl fl' : Value} (h : Hld s₁ L b H l base e X a0 fl s) {h' : Heap} (tk : Nat) (st : base.StaysIn h') (ff : h'.FunFrames base l) (tr : h'.TracedAtW base e (.type X) a0 fl')
    (up : s.heap.UpToSlots h') : Hld s₁ L b H l base e X a0 fl' { s with heap := h', toks := tk } := by
  have fr : ∀ (a : Addr) (b' : List (Str × Value)), (∃ o, s.heap.get? a = some o ∧ Frm b' o) → ∃ o, h'.get? a = some o ∧ Frm b' o := by
    rintro a b' ⟨o, ho, es, ep, hd, r⟩
    obtain ⟨sl, h2⟩ := up a o ho (fun vs q => by rw [hd] at q; cases q)
    exact ⟨_, h2, es, ep, hd, r⟩
  refine ⟨⟨fr _ _ h.S.ns, fun a o x => st a o (h.kb a o x), h.S.fr, fun p hp => ?_, h.S.fresh, h.S.nd, ?_⟩, h.nw, h.kb, st, ff, tr⟩
  · rcases h.nw p hp with ⟨o, ho, hP⟩ | ⟨b', hb⟩
    · exact ⟨o, st _ _ ho, hP⟩
    · have := h.S.nw p hp
      rw [hb] at this ⊢
      exact fr _ _ this
  · obtain ⟨_, _, e⟩ := h.S.eq
    exact ⟨h', tk, by rw [e]⟩

theorem Hld.flight {l : List Env} {base : Heap} {e : Addr} {X : String} {a0 fl : Value} {Q : Unit → Shared → Prop} (h : Hld s₁ L b H l base e X a0 fl s) (k : ∀ s', Hld s₁ L b H l base e X a0 .none s' → Q () s') :
    wpAny (model prog w) A (setFlight (.ref e) none) Q E s := by
  refine wpAny_setFlight_noneW h.st h.ff h.tr fun h' k1 k2 k3 k4 => ?_
  exact k _ (h.next s.toks k1 k2 k3.at fun a o ho hn => ⟨o.slots, k4 a o ho hn⟩)

theorem mem_fst_unique {H : List Ent} (nd : (H.map (·.1)).Nodup) {p q : Ent} (hp : p ∈ H) (hq : q ∈ H) (e : p.1 = q.1) : p = q := by
  induction H with
  | nil => simp at hp
  | cons r H ih =>
    simp only [List.map_cons, List.nodup_cons] at nd
    rcases List.mem_cons.mp hp with h1 | h1 <;> rcases List.mem_cons.mp hq with h2 | h2
    · rw [h1, h2]
    · exact absurd (List.mem_map.mpr ⟨q, h2, by rw [← e, h1]⟩) nd.1
    · exact absurd (List.mem_map.mpr ⟨p, h1, by rw [e, h2]⟩) nd.1
    · exact ih nd.2 h1 h2

theorem St.funFrames {base : Heap} (S : St s₁ L b H s) : ∀ {l : List Env}, FrsIn L H l → (∀ env ∈ l, ∀ F, env.frame = some F → base.get? F = none) → s.heap.FunFrames base l
  | [], _, _ => trivial
  | env :: l, hF, hb => by
    obtain ⟨hk, F, hf, hm⟩ := hF env (List.mem_cons_self ..)
    have : ∃ b' o, s.heap.get? F = some o ∧ Frm b' o := by
      rcases hm with rfl | ⟨b', hm⟩
      · obtain ⟨o, ho, h⟩ := S.ns; exact ⟨b, o, ho, h⟩
      · obtain ⟨o, ho, h⟩ := S.get hm; exact ⟨b', o, ho, h⟩
    obtain ⟨b', o, ho, es, ep, hd, _⟩ := this
    exact ⟨hk, ⟨F, o, hf, hb env (List.mem_cons_self ..) F hf, ho, fun vs q => by rw [hd] at q; cases q⟩, S.funFrames (fun e he => hF e (List.mem_cons_of_mem _ he)) fun e he => hb e (List.mem_cons_of_mem _ he)⟩

theorem tr_note {l : List Env} {e : Addr} {X : String} {h' : Heap} {tk : Nat} {Q : Unit → Shared → Prop} (S : St s₁ L b H s) (hx : Heap.NewExc s.heap h' e X) (hfr : A.frames = some (env :: l)) (hF : FrsIn L H (env :: l)) (hf : env.frame = some L)
    (k : ∀ base a0 s', Hld s₁ L b H (env :: l) base e X a0 (rawInt L) s' → Q () s') : wpAny (model prog w) A (noteFrame (.ref e) env) Q E { s with heap := h', toks := tk } := by
  obtain ⟨ob, tp, he, hcls, hd⟩ := hx.there
  have S' : St s₁ L b H { s with heap := h', toks := tk } := S.ext tk hx.keeps
  let fs := (env :: l).filterMap (·.frame)
  have hfs : ∀ env' ∈ env :: l, ∀ F, env'.frame = some F → F ∈ fs := fun env' he' F hF' => List.mem_filterMap.mpr ⟨env', he', hF'⟩
  have hinv : ∀ F ∈ fs, F = L ∨ ∃ b, (F, Frm b) ∈ H := fun F hm => by
    obtain ⟨env', he', e'⟩ := List.mem_filterMap.mp hm
    obtain ⟨_, F', e2, hm'⟩ := hF env' he'
    rw [e2] at e'; cases e'; exact hm'
  have hL : ∀ F ∈ fs, s₁.heap.get? F = none := fun F hm => by
    rcases hinv F hm with rfl | ⟨b', hm'⟩
    · exact S.fr
    · exact (S.fresh _ hm').2
  have hst : (gone s.heap fs).StaysIn h' := fun a o ha => hx.keeps a o (gone_some ha).2
  have hen : (gone s.heap fs).get? e = none := by
    cases hq : (gone s.heap fs).get? e with
    | none => rfl
    | some o => have := (gone_some hq).2; rw [hx.new] at this; cases this
  have hFF : h'.FunFrames (gone s.heap fs) (env :: l) := S'.funFrames hF fun env' he' F e' => gone_none (hfs env' he' F e')
  unfold noteFrame
  simp only [hf]
  refine wpAny_bind (wpAny_field he hd (x := .none) rfl ?_)
  rw [if_neg (show ¬ ((Value.none != Value.none) = true) by decide)]
  refine wpAny_entryW (base := gone s.heap fs) hfr hFF hf he hst hen hd (by simp) (a0 := tp) rfl fun h2 hN => ?_
  obtain ⟨k1, k2, k3, k4⟩ := hN
  rw [hcls] at k3
  have H0 : Hld s₁ L b H (env :: l) (gone s.heap fs) e X tp (rawInt L) { s with heap := h2, toks := tk } := by
    have fr : ∀ (a : Addr) (b' : List (Str × Value)), (∃ o, s.heap.get? a = some o ∧ Frm b' o) → ∃ o, h2.get? a = some o ∧ Frm b' o := by
      rintro a b' ⟨o, ho, es, ep, hd, r⟩
      obtain ⟨sl, h3⟩ := k4 a o (hx.keeps _ _ ho) (fun vs q => by rw [hd] at q; cases q)
      exact ⟨_, h3, es, ep, hd, r⟩
    have nw : ∀ p ∈ H, (∃ o, (gone s.heap fs).get? p.1 = some o ∧ p.2 o) ∨ ∃ b', p.2 = Frm b' := fun p hp => by
      by_cases hm : p.1 ∈ fs
      · rcases hinv _ hm with q | ⟨b', hm'⟩
        · exact absurd q (S.fresh p hp).1
        · have := mem_fst_unique S.nd hp hm' rfl
          exact Or.inr ⟨b', by rw [this]⟩
      · obtain ⟨o, ho, h⟩ := S.nw p hp
        exact Or.inl ⟨o, (gone_get hm).trans ho, h⟩
    have kb : ∀ a o, s₁.heap.get? a = some o → (gone s.heap fs).get? a = some o := fun a o ha => (gone_get fun hm => by rw [hL a hm] at ha; cases ha).trans (S.keep a o ha)
    refine ⟨⟨fr _ _ S.ns, fun a o ha => k1 a o (kb a o ha), S.fr, fun p hp => ?_, S.fresh, S.nd, ?_⟩, nw, kb, k1, k2, k3⟩
    · rcases nw p hp with ⟨o, ho, hP⟩ | ⟨b', hb⟩
      · exact ⟨o, k1 _ _ ho, hP⟩
      · have := S.nw p hp
        rw [hb] at this ⊢
        exact fr _ _ this
    · obtain ⟨_, _, e⟩ := S.eq
      exact ⟨h2, tk, by rw [e]⟩
  exact k _ _ _ H0

/-- the state in which a try's body raised -/
def Rais (s₁ : Shared) (L : Addr) (X : String) (J : List (Str × Value) → List Ent → Prop) (ev : Value) (s' : Shared) : Prop :=
  ∃ b H s h' tk e, ev = .ref e ∧ s' = { s with heap := h', toks := tk } ∧ St s₁ L b H s ∧ Heap.NewExc s.heap h' e X ∧ J b H

theorem ex_try {body suite : List Stmt} {b₀ : Stmt} {t : Expr} {pos hpos : Pos} {X T : String} {l : List Env} {Q : Flow → Shared → Prop} (J : List (Str × Value) → List Ent → Prop)
    (hfr : A.frames = some (env :: l)) (hF : ∀ b H, J b H → FrsIn L H (env :: l)) (hf : env.frame = some L)
    (hexc : isSubtype (.type T) (.type "BaseException") = pure true) (hnt : isSubtype (.type ((Manifest.find? T).elim "type" fun x => x.metatype)) (.type "tuple") = pure false) (hsub : isSubtype (.type X) (.type T) = pure true)
    (hbody : wpAny (model prog w) A (execs body env) Q (Rais s₁ L X J) s)
    (hname : ∀ b H s' e E' (Q' : Value → Shared → Prop), St s₁ L b H s' → J b H → Q' (.type T) s' → wpAny (model prog w) (A.mark (some e)) (eval t env) Q' E' s')
    (hsuite : ∀ b H s' e, St s₁ L b H s' → J b H → wpAny (model prog w) (A.mark (some e)) (execs (b₀ :: suite) env) Q (fun _ _ => False) s') :
    wpAny (model prog w) A (exec (.Try body [.ExceptHandler (some t) none (b₀ :: suite) hpos] [] [] pos) env) Q E s := by
  refine wpAny_Try_except (wpAny_mono hbody (fun f s' hq => ?_) fun ev s' hr => ?_)
  · cases f with
    | next => exact wpAny_execs_nil hq
    | _ => exact hq
  · obtain ⟨b', H', s0, h', tk, e, rfl, rfl, S, hx, hJ⟩ := hr
    refine tr_note S hx hfr (hF _ _ hJ) hf fun base a0 s₂ K₂ => ?_
    refine K₂.flight fun s₃ K₃ => ?_
    refine wpAny_handleBy_builtin (X := X) (T := T) (b := true) hexc hnt hsub ?_
    refine hname b' H' s₃ _ _ _ K₃.S hJ ⟨rfl, K₃.tr.there, ?_⟩
    simp only [if_true]
    refine K₃.flight fun s₄ K₄ => ?_
    exact wpAny_mono (hsuite b' H' s₄ _ K₄.S hJ) (fun _ _ q => q) fun _ _ q => q.elim
end
end Mine
open PySem.SeqAt
namespace Mine
/-! ### the plain law -/
section
variable (num : Value → Int)
def same (y x : Value) : Bool := num y == num x
def cnt (n : Int) (r : List Value) : Nat := r.countP fun y => num y == n
def bump (c : Int → Nat) (n : Int) : Int → Nat := fun m => if m = n then c m + 1 else c m
def aliveR (c : Int → Nat) : List Value → List Value
  | [] => []
  | x :: r => aliveR c r ++ if c (num x) ≤ cnt num (num x) r then [x] else []
theorem aliveB (x : Value) (c : Int → Nat) : ∀ r, cnt num (num x) r ≤ c (num x) → (aliveR num c r).any (fun y => same num y x) = false ∧ aliveR num (bump c (num x)) r = aliveR num c r
  | [], _ => ⟨rfl, rfl⟩
  | y :: r, h => by
    by_cases e : num y = num x
    · have hc : cnt num (num x) (y :: r) = cnt num (num x) r + 1 := by simp [cnt, e]
      rw [hc] at h
      obtain ⟨h1, h2⟩ := aliveB x c r (by omega)
      have n1 : ¬ c (num y) ≤ cnt num (num y) r := by rw [e]; omega
      have n2 : ¬ bump c (num x) (num y) ≤ cnt num (num y) r := by simp only [bump, e, if_true]; omega
      simp only [aliveR, if_neg n1, if_neg n2, List.append_nil]
      exact ⟨h1, h2⟩
    · have hc : cnt num (num x) (y :: r) = cnt num (num x) r := by simp [cnt, e]
      rw [hc] at h
      obtain ⟨h1, h2⟩ := aliveB x c r h
      have hb : bump c (num x) (num y) = c (num y) := by simp [bump, e]
      simp only [aliveR, hb, h2, List.any_append, h1, Bool.false_or, and_true]
      split <;> simp [same, e]
theorem aliveA (x : Value) (c : Int → Nat) : ∀ r, c (num x) < cnt num (num x) r → (aliveR num c r).any (fun y => same num y x) = true ∧ (aliveR num c r).eraseP (fun y => same num y x) = aliveR num (bump c (num x)) r
  | [], h => by simp [cnt] at h
  | y :: r, h => by
    by_cases e : num y = num x
    · have hc : cnt num (num x) (y :: r) = cnt num (num x) r + 1 := by simp [cnt, e]
      rw [hc] at h
      have p1 : c (num y) ≤ cnt num (num y) r := by rw [e]; omega
      by_cases hlt : c (num x) < cnt num (num x) r
      · obtain ⟨h1, h2⟩ := aliveA x c r hlt
        have p2 : bump c (num x) (num y) ≤ cnt num (num y) r := by simp only [bump, e, if_true]; omega
        simp only [aliveR, if_pos p1, if_pos p2, List.any_append, h1, Bool.true_or, true_and]
        obtain ⟨z, hz, hz'⟩ := List.any_eq_true.mp h1
        rw [List.eraseP_append_left (p := fun y => same num y x) hz' _ hz, h2]
      · obtain ⟨h1, h2⟩ := aliveB num x c r (by omega)
        have p2 : ¬ bump c (num x) (num y) ≤ cnt num (num y) r := by simp only [bump, e, if_true]; omega
        have hs : same num y x = true := by simp [same, e]
        simp only [aliveR, if_pos p1, if_neg p2, List.any_append, h1, Bool.false_or]
        refine ⟨by simp [hs], ?_⟩
        rw [List.eraseP_append_right _ (fun z hz => by have := List.any_eq_false.mp h1 z hz; exact this), h2]
        simp [hs]
    · have hc : cnt num (num x) (y :: r) = cnt num (num x) r := by simp [cnt, e]
      rw [hc] at h
      obtain ⟨h1, h2⟩ := aliveA x c r h
      have hb : bump c (num x) (num y) = c (num y) := by simp [bump, e]
      simp only [aliveR, hb, List.any_append, h1, Bool.true_or, true_and]
      obtain ⟨z, hz, hz'⟩ := List.any_eq_true.mp h1
      rw [List.eraseP_append_left (p := fun y => same num y x) hz' _ hz, h2]
theorem aliveR_all : ∀ r, aliveR num (fun _ => 0) r = r.reverse
  | [] => rfl
  | x :: r => by simp [aliveR, aliveR_all r]
end

/-! ### rows that are made one by one -/
section
variable {prog : Program} {w : World} {A : Around} {E : Value → Shared → Prop} {s s₁ : Shared} {L l : Addr} {b : List (Str × Value)} {H H' : List Ent} {env : Env}
theorem c_rangeD {Q : Value → Shared → Prop} {n m : Int} {t u v : Tok} (S : St s₁ L b H s) (hn : n < 2 ^ 62) (hn' : -(2 ^ 62) ≤ n) (hm : m < 2 ^ 62) (hm' : -(2 ^ 62) ≤ m) (h : ∀ s' r, St s₁ L b ((r, Rng n m (-1)) :: H) s' → Q (.ref r) s') : wpAny (model prog w) A (call (.type "range") [.int n t, .int m u, .int (-1) v]) Q E s :=
  call_range_3 (by decide) (h _ _ (S.push (P := Rng n m (-1)) ⟨_, _, _, rfl⟩ _)) (Or.inl (PyProof.noPylong_of_log2 (by decide +kernel)))
theorem it_rangeD {Q : Value → Shared → Prop} {r : Addr} {a c : Int} (S : St s₁ L b ((r, Rng a c (-1)) :: H) s) (ha : -(2 ^ 62) ≤ a) (ha' : a < 2 ^ 62) (hc : -(2 ^ 62) ≤ c) (hc' : c < 2 ^ 62)
    (h : ∀ s' I, St s₁ L b ((I, RI (a + ((0 : Nat) : Int) * (-1)) (((a - c).toNat : Int) - ((0 : Nat) : Int)) (-1)) :: H) s' → Q (.ref I) s') : wpAny (model prog w) A (pyIter (.ref r)) Q E s := by
  obtain ⟨o, ho, t, u, v, rfl⟩ := S.get (List.mem_cons_self ..)
  refine wpAny_pyIter_range (a := a) (b := c) (c := -1) ho (small_down ha ha' hc hc') (h _ _ (S.drop.push (P := RI _ _ (-1)) ?_ s.toks))
  show _ = _
  have e : Builtin.Range.rangeSize a c (-1) = ((a - c).toNat : Int) - ((0 : Nat) : Int) := by rw [rangeSize_down]; split <;> omega
  rw [e]; simp
theorem for_rangeD {x : Str} {px : Pos} {body : List Stmt} {Q : Flow → Shared → Prop} {r : Addr} {a c : Int} (J : Nat → List (Str × Value) → List Ent → Prop) (S : St s₁ L b ((r, Rng a c (-1)) :: H) s) (h0 : J 0 b H)
    (ha : -(2 ^ 62) ≤ a) (ha' : a < 2 ^ 62) (hc : -(2 ^ 62) ≤ c) (hc' : c < 2 ^ 62) (hh : A.handled = none) (hx : env.kindOf x = some .local) (hL : env.locals = L) (hk : env.scope.kind = .function)
    (turn : ∀ I P i t b' H' s', c < a - (i : Nat) → J i b' H' → St s₁ L (up x (.int (a - (i : Nat)) t) b') ((I, P) :: H') s' → wpAny (model prog w) A (execs body env) (TurnEnd s₁ L I P (J (i + 1)) Q) (fun _ _ => False) s')
    (done : ∀ b' H' s', J (a - c).toNat b' H' → St s₁ L b' H' s' → Q .next s') : ForAt prog w A (.Name x px) body env Q E (.ref r) s :=
  it_rangeD S ha ha' hc hc' fun s' I S' => loop_for (Itr.range a (-1) (a - c).toNat hh) J S' h0 (fun _ _ _ _ _ _ _ => trivial) hx hL hk
    (fun i v b' H' s' hi ⟨t, hV⟩ hj S => by
      subst hV
      have e : a + (i : Int) * (-1) = a - (i : Int) := by omega
      rw [e] at S; exact turn I _ i t b' H' s' (by omega) hj S) done
end
end Mine
open PySem.SeqAt
namespace Mine
/-- what the def gives for two lists: the first one's end first -/
def uldD (e : Value → Value → Bool) : List Value → List Value → List Value → List Value × List Value
  | [], act, ms => (ms, act)
  | x :: r, act, ms => if act.any (fun y => e y x) then uldD e r (act.eraseP fun y => e y x) ms else uldD e r act (ms ++ [x])
section
variable (num : Value → Int)
def missR (us : List Value) (c : Int → Nat) : List Value → List Value
  | [] => []
  | x :: r => (if cnt num (num x) us ≤ c (num x) then [x] else []) ++ missR us (bump c (num x)) r
def plus (c : Int → Nat) : List Value → Int → Nat
  | [] => c
  | x :: r => plus (bump c (num x)) r
theorem plus_eq : ∀ (r : List Value) (c : Int → Nat) (n : Int), plus num c r n = c n + cnt num n r
  | [], c, n => by simp [plus, cnt]
  | x :: r, c, n => by
    rw [plus, plus_eq r]
    by_cases e : n = num x
    · subst e; simp [bump, cnt]; omega
    · have : (num x == n) = false := by simp [Ne.symm e]
      simp [bump, e, cnt, this]
theorem uldD_due (us : List Value) : ∀ (r : List Value) (c : Int → Nat) (ms : List Value),
    uldD (same num) r (aliveR num c us.reverse) ms = (ms ++ missR num us c r, aliveR num (plus num c r) us.reverse)
  | [], c, ms => by simp [uldD, missR, plus]
  | x :: r, c, ms => by
    have hcnt : cnt num (num x) us.reverse = cnt num (num x) us := by simp [cnt]
    rw [uldD]
    by_cases hlt : c (num x) < cnt num (num x) us.reverse
    · obtain ⟨h1, h2⟩ := aliveA num x c us.reverse hlt
      rw [if_pos h1, h2, uldD_due us r]
      have : ¬ cnt num (num x) us ≤ c (num x) := by omega
      simp [missR, this, plus]
    · obtain ⟨h1, h2⟩ := aliveB num x c us.reverse (by omega)
      rw [if_neg (by simp [h1]), ← h2, uldD_due us r]
      have : cnt num (num x) us ≤ c (num x) := by omega
      simp [missR, this, plus]
theorem uldD_law (vs us : List Value) : uldD (same num) vs.reverse us [] = (missR num us (fun _ => 0) vs.reverse, aliveR num (fun n => cnt num n vs) us.reverse) := by
  have := uldD_due num us vs.reverse (fun _ => 0) []
  rw [aliveR_all, List.reverse_reverse] at this
  rw [this]
  have e : plus num (fun _ => 0) vs.reverse = fun n => cnt num n vs := by funext n; rw [plus_eq]; simp [cnt]
  rw [e]; simp
end
end Mine
open PySem.SeqAt
open PySem.AutoSeq1 (wpAny_loadPart')
namespace Mine
theorem entry_set_eq : entryFor table "set.__eq__" = some Builtin.«frozenset.__eq__» :=
  entryFor_alias (id' := "frozenset.__eq__") (by kernel_rfl) rfl (by decide +kernel) (by kernel_rfl)
section
variable {prog : Program} {w : World} {A : Around} {E : Value → Shared → Prop} {s : Shared} {a : Addr} {x : Value} {T : String} {Q : Value → Shared → Prop}
theorem dict_decl (ha : s.TypeIs (.ref a) "dict") (hx : s.TypeIs x T) (hs : isSubtype (.type T) (.type "dict") = pure false) (h : Q .notImplemented s) : wpAny (model prog w) A (call (.builtin "dict.__eq__") [.ref a, x]) Q E s := by
  refine wpAny_call_entry PySem.F.slot_dict_eq ha PySem.F.entry_dict_eq ?_ (PySem.F.args_dict_eq_2 _ _)
  show wpAny _ _ (Builtin.Dict.dictSlotArgs "__eq__" ⟨[.ref a, x], []⟩ >>= _) _ _ s
  refine wpAny_bind ?_
  unfold Builtin.Dict.dictSlotArgs
  refine wpAny_bind (wpAny_notOrdered_dict ha ?_)
  show wpAny _ _ (pure (Value.ref a, x)) _ _ s
  refine wpAny_pure ?_
  refine wpAny_bind (wpAny_isInstance (T := T) hx hs ?_)
  simp only [Bool.not_false, if_true]
  refine wpAny_bind (wpAny_rule ?_)
  exact wpAny_bind (wpAny_pure (wpAny_pure ⟨_, rfl, h⟩))
theorem set_decl (ha : s.TypeIs (.ref a) "set") (hx : s.TypeIs x T) (hs : isSubtype (.type T) (.type "set") = pure false) (hs2 : isSubtype (.type T) (.type "frozenset") = pure false) (h : Q .notImplemented s) : wpAny (model prog w) A (call (.builtin "set.__eq__") [.ref a, x]) Q E s := by
  refine wpAny_call_entry PySem.F.slot_set_eq ha entry_set_eq ?_ (PySem.F.args_set_eq_2 _ _)
  show wpAny _ _ (Builtin.Frozenset.slot1 "__eq__" ⟨[.ref a, x], []⟩ >>= _) _ _ s
  refine wpAny_bind ?_
  show wpAny _ _ (pure (Value.ref a, x)) _ _ s
  refine wpAny_pure ?_
  refine wpAny_bind ?_
  unfold Builtin.Frozenset.isAnySet
  refine wpAny_bind (wpAny_isInstance (T := T) hx hs ?_)
  simp only [Bool.false_eq_true, if_false]
  refine wpAny_isInstance (T := T) hx hs2 ?_
  simp only [Bool.not_false, if_true]
  refine wpAny_bind (wpAny_rule ?_)
  exact wpAny_bind (wpAny_pure (wpAny_pure ⟨_, rfl, h⟩))
theorem list_decl (ha : s.TypeIs (.ref a) "list") (hx : s.TypeIs x T) (hs : isSubtype (.type T) (.type "list") = pure false) (h : Q .notImplemented s) : wpAny (model prog w) A (call (.builtin "list.__eq__") [.ref a, x]) Q E s := by
  refine wpAny_call_entry PySem.F.slot_list_eq ha PySem.F.entry_list_eq ?_ (PySem.F.args_list_eq_2 _ _)
  show wpAny _ _ (isInstance x (.type "list") >>= _) _ _ s
  refine wpAny_bind (wpAny_isInstance (T := T) hx hs ?_)
  simp only [Bool.not_false, if_true]
  exact wpAny_bind (wpAny_pure (wpAny_pure ⟨_, rfl, h⟩))
theorem tuple_decl (ha : s.TypeIs (.ref a) "tuple") (hx : s.TypeIs x T) (hs : isSubtype (.type T) (.type "tuple") = pure false) (h : Q .notImplemented s) : wpAny (model prog w) A (call (.builtin "tuple.__eq__") [.ref a, x]) Q E s := by
  refine wpAny_call_entry PySem.F.slot_tuple_eq ha PySem.F.entry_tuple_eq ?_ (PySem.F.args_tuple_eq_2 _ _)
  show wpAny _ _ (isInstance x (.type "tuple") >>= _) _ _ s
  refine wpAny_bind (wpAny_isInstance (T := T) hx hs ?_)
  simp only [Bool.not_false, if_true]
  exact wpAny_bind (wpAny_pure (wpAny_pure ⟨_, rfl, h⟩))
end
theorem int_eq_declines_dict (b : Int) (u : Tok) (l : Addr) (c : Value) (es : Array DictEntry) (ep : Nat) (dd : Option Addr) (sl : Array (Option Value)) :
    Meets (Builtin.«int.__eq__» ⟨[.int b u, .ref l], []⟩) (fun _ R s => s.heap.get? l = some { cls := c, dict := dd, data := .dict es ep, slots := sl } ∧ R (.ok (.ret .notImplemented)) s) :=
  .of_wp fun prog w A R s h => by obtain ⟨hp, g, d, tk, os⟩ := s; obtain ⟨hl, h⟩ := h; wp_walk using wpAny_loadPart' hl, wpAny_load hl; exact ⟨_, rfl, h⟩
theorem int_eq_declines_set (b : Int) (u : Tok) (l : Addr) (c : Value) (es : Array (Int × Value)) (ep : Nat) (t : SetTable) (dd : Option Addr) (sl : Array (Option Value)) :
    Meets (Builtin.«int.__eq__» ⟨[.int b u, .ref l], []⟩) (fun _ R s => s.heap.get? l = some { cls := c, dict := dd, data := .set es ep t, slots := sl } ∧ R (.ok (.ret .notImplemented)) s) :=
  .of_wp fun prog w A R s h => by obtain ⟨hp, g, d, tk, os⟩ := s; obtain ⟨hl, h⟩ := h; wp_walk using wpAny_loadPart' hl, wpAny_load hl; exact ⟨_, rfl, h⟩
theorem bool_eq_declines_dict (b : Bool) (l : Addr) (c : Value) (es : Array DictEntry) (ep : Nat) (dd : Option Addr) (sl : Array (Option Value)) :
    Meets (Builtin.«int.__eq__» ⟨[.bool b, .ref l], []⟩) (fun _ R s => s.heap.get? l = some { cls := c, dict := dd, data := .dict es ep, slots := sl } ∧ R (.ok (.ret .notImplemented)) s) :=
  .of_wp fun prog w A R s h => by obtain ⟨hp, g, d, tk, os⟩ := s; obtain ⟨hl, h⟩ := h; wp_walk using wpAny_loadPart' hl, wpAny_load hl; exact ⟨_, rfl, h⟩
theorem bool_eq_declines_set (b : Bool) (l : Addr) (c : Value) (es : Array (Int × Value)) (ep : Nat) (t : SetTable) (dd : Option Addr) (sl : Array (Option Value)) :
    Meets (Builtin.«int.__eq__» ⟨[.bool b, .ref l], []⟩) (fun _ R s => s.heap.get? l = some { cls := c, dict := dd, data := .set es ep t, slots := sl } ∧ R (.ok (.ret .notImplemented)) s) :=
  .of_wp fun prog w A R s h => by obtain ⟨hp, g, d, tk, os⟩ := s; obtain ⟨hl, h⟩ := h; wp_walk using wpAny_loadPart' hl, wpAny_load hl; exact ⟨_, rfl, h⟩
theorem str_eq_declines_dict (b : Str) (u : Tok) (l : Addr) (c : Value) (es : Array DictEntry) (ep : Nat) (dd : Option Addr) (sl : Array (Option Value)) :
    Meets (Builtin.«str.__eq__» ⟨[.str b u, .ref l], []⟩) (fun _ R s => s.heap.get? l = some { cls := c, dict := dd, data := .dict es ep, slots := sl } ∧ R (.ok (.ret .notImplemented)) s) :=
  .of_wp fun prog w A R s h => by obtain ⟨hp, g, d, tk, os⟩ := s; obtain ⟨hl, h⟩ := h; wp_walk using wpAny_loadPart' hl, wpAny_load hl; exact ⟨_, rfl, h⟩
theorem str_eq_declines_set (b : Str) (u : Tok) (l : Addr) (c : Value) (es : Array (Int × Value)) (ep : Nat) (t : SetTable) (dd : Option Addr) (sl : Array (Option Value)) :
    Meets (Builtin.«str.__eq__» ⟨[.str b u, .ref l], []⟩) (fun _ R s => s.heap.get? l = some { cls := c, dict := dd, data := .set es ep t, slots := sl } ∧ R (.ok (.ret .notImplemented)) s) :=
  .of_wp fun prog w A R s h => by obtain ⟨hp, g, d, tk, os⟩ := s; obtain ⟨hl, h⟩ := h; wp_walk using wpAny_loadPart' hl, wpAny_load hl; exact ⟨_, rfl, h⟩
end Mine
open PySem.SeqAt
namespace Mine
/-- a set of these whole numbers -/
def SetI (ks : List Int) (o : Obj) : Prop := o.ExactSet ∧ ∃ es ep t, o.data = .set es ep t ∧ es.size < scanBound ∧ t.fits es.size = true ∧ ∃ us : List Tok, us.length = ks.length ∧ es.toList = List.zipWith (fun k u => (hashInt k, Value.int k u)) ks us
section
variable {prog : Program} {w : World} {A : Around} {E : Value → Shared → Prop} {s : Shared} {a b : Addr}
theorem zip_mem {ks : List Int} : ∀ {us : List Tok}, us.length = ks.length → ∀ k, (∃ e ∈ List.zipWith (fun k u => (hashInt k, Value.int k u)) ks us, Value.isInt k e.2 = true) ↔ k ∈ ks := by
  induction ks with
  | nil => intro us h k; simp
  | cons c ks ih =>
    intro us h k
    cases us with
    | nil => simp at h
    | cons u us =>
      have ih' := ih (us := us) (by simpa using h) k
      have e1 : Value.isInt k (Value.int c u) = true ↔ k = c := by
        constructor
        · intro h; obtain ⟨t, e⟩ := Value.isInt_shape h; injection e with e _; exact e.symm
        · rintro rfl; simp [Value.isInt]
      rw [List.zipWith_cons_cons, List.mem_cons]
      constructor
      · rintro ⟨e, he, hv⟩
        rcases List.mem_cons.mp he with rfl | he
        · exact Or.inl (e1.mp hv)
        · exact Or.inr (ih'.mp ⟨e, he, hv⟩)
      · rintro (h | h)
        · exact ⟨_, List.mem_cons_self .., e1.mpr h⟩
        · obtain ⟨e, he, hv⟩ := ih'.mpr h
          exact ⟨e, List.mem_cons_of_mem _ he, hv⟩
theorem zip_elems {ks : List Int} : ∀ {us : List Tok}, us.length = ks.length → ElemsOf (intKind prog w) (List.zipWith (fun k u => (hashInt k, Value.int k u)) ks us) := by
  induction ks with
  | nil => intro us h e he; simp at he
  | cons c ks ih =>
    intro us h
    cases us with
    | nil => simp at h
    | cons u us =>
      intro e he
      rcases List.mem_cons.mp he with rfl | he
      · exact ⟨⟨c, by simp [intKind, Value.isInt], rfl⟩, rfl⟩
      · exact ih (by simpa using h) e he
theorem SetI.setOf {ks : List Int} (h : ∃ o, s.heap.get? a = some o ∧ SetI ks o) : s.heap.SetOf (intKind prog w) a (fun k => decide (k ∈ ks)) ks.length := by
  obtain ⟨o, ho, hx, es, ep, t, hd, hb, hf, us, hl, he⟩ := h
  refine ⟨o, es, ep, t, ho, hx, hd, ?_, ?_, hb, hf, ?_⟩
  · rw [he]; exact zip_elems hl
  · intro k
    rw [he]
    have := zip_mem hl k
    simp only [decide_eq_true_eq]
    exact this.symm
  · have := congrArg List.length he
    simp [hl] at this
    exact this
theorem quiet_int {x : Int} {u : Tok} {Q : Bool → Shared → Prop} (h : Q true s) : wpAny (model prog w) A (Builtin.Frozenset.quietEq (.int x u)) Q E s := by
  exact wpAny_pure h
theorem zip_int {ks : List Int} : ∀ {us : List Tok} {e : Int × Value}, e ∈ List.zipWith (fun k u => (hashInt k, Value.int k u)) ks us → ∃ k u, e = (hashInt k, Value.int k u) := by
  induction ks with
  | nil => intro us e he; simp at he
  | cons c ks ih =>
    intro us e he
    cases us with
    | nil => simp at he
    | cons u us =>
      rcases List.mem_cons.mp he with rfl | he
      · exact ⟨c, u, rfl⟩
      · exact ih he
theorem wp_subset {id : String} {ks ms : List Int} {Q : Bool → Shared → Prop} (ha : ∃ o, s.heap.get? a = some o ∧ SetI ks o) (hb : ∃ o, s.heap.get? b = some o ∧ SetI ms o)
    (h : Q (decide (ks.length ≤ ms.length) && ks.all fun k => decide (k ∈ ms)) s) : wpAny (model prog w) A (Builtin.Frozenset.subsetOf id a b) Q E s := by
  have Sb := SetI.setOf (prog := prog) (w := w) hb
  obtain ⟨o, ho, hx, es, ep, t, hd, hbd, hf, us, hl, he⟩ := ha
  obtain ⟨o', ho', hx', es', ep', t', hd', hbd', hf', us', hl', he'⟩ := hb
  have n1 : es.size = ks.length := by have := congrArg List.length he; simpa [hl] using this
  have n2 : es'.size = ms.length := by have := congrArg List.length he'; simpa [hl'] using this
  unfold Builtin.Frozenset.subsetOf Builtin.Frozenset.sizeOf
  refine wpAny_bind (wpAny_bind (wpAny_setEntries_of ho hd hf (wpAny_pure ?_)))
  refine wpAny_bind (wpAny_bind (wpAny_setEntries_of ho' hd' hf' (wpAny_pure ?_)))
  rw [n1, n2]
  by_cases hlt : ks.length > ms.length
  · rw [if_pos hlt]
    have : decide (ks.length ≤ ms.length) = false := by simp; omega
    rw [this] at h
    exact wpAny_pure h
  rw [if_neg hlt]
  have : decide (ks.length ≤ ms.length) = true := by simp; omega
  rw [this, Bool.true_and] at h
  refine wpAny_bind (wpAny_setEpoch_of ho hd hf ?_)
  refine wpAny_bind ?_
  unfold Builtin.Frozenset.walkUnseen
  refine wpAny_bind (wpAny_setEntries_of ho hd hf ?_)
  refine wpAny_bind (wpAny_setEntries_of ho' hd' hf' ?_)
  refine wpAny_bind (wpAny_forIn_list _ (fun rest q s' => s' = s ∧ q = (none, ()) ∧ ∀ e ∈ rest, ∃ k u, e = (hashInt k, Value.int k u)) _ ?_ ?_ _ _ ⟨rfl, rfl, ?_⟩)
  · rintro ⟨h0, x⟩ rest q s' ⟨rfl, rfl, hr⟩
    obtain ⟨k, u, e⟩ := hr _ (List.mem_cons_self ..)
    injection e with e1 e2
    subst e1 e2
    refine wpAny_bind (quiet_int ?_)
    exact wpAny_pure ⟨rfl, rfl, fun e he => hr e (List.mem_cons_of_mem _ he)⟩
  · rintro q s' ⟨rfl, rfl, _⟩
    refine wpAny_pure ?_
    refine wpAny_bind (wpAny_forIn_list _ (fun rest q s'' => s'' = s' ∧ q = (none, ()) ∧ ∃ r us, us.length = r.length ∧ rest = List.zipWith (fun k u => (hashInt k, Value.int k u)) r us ∧ (r.all fun k => decide (k ∈ ms)) = ks.all fun k => decide (k ∈ ms)) _ ?_ ?_ _ _ ⟨rfl, rfl, ks, us, hl, he, rfl⟩)
    · rintro ⟨h0, x⟩ rest q s'' ⟨rfl, rfl, r, us2, hl2, hr, hall⟩
      cases r with
      | nil => simp at hr
      | cons c r =>
        cases us2 with
        | nil => simp at hl2
        | cons u us2 =>
          rw [List.zipWith_cons_cons] at hr
          injection hr with h1 h2
          injection h1 with h3 h4
          subst h3 h4
          refine wpAny_bind (wpAny_holding (wpAny_setFind_of (knd := intKind prog w) (k := c) (by simp [intKind, Value.isInt]) rfl Sb fun r' hr' => ?_))
          cases r' with
          | none =>
            have hc : decide (c ∈ ms) = false := by simpa using hr'.symm
            have : (ks.all fun k => decide (k ∈ ms)) = false := by rw [← hall, List.all_cons, hc]; rfl
            rw [this] at h
            exact wpAny_pure (wpAny_pure h)
          | some j =>
            have hc : decide (c ∈ ms) = true := by simpa using hr'.symm
            rw [List.all_cons, hc, Bool.true_and] at hall
            show wpAny _ _ (Builtin.Frozenset.unchanged id a ep >>= _) _ _ _
            unfold Builtin.Frozenset.unchanged
            refine wpAny_bind (wpAny_bind (wpAny_setEpoch_of ho hd hf ?_))
            rw [if_neg (by simp)]
            exact wpAny_pure (wpAny_pure ⟨rfl, rfl, r, us2, by simpa using hl2, h2, hall⟩)
    · rintro q s'' ⟨rfl, rfl, r, us2, hl2, hr, hall⟩
      have : r = [] := by
        cases r with
        | nil => rfl
        | cons c r => cases us2 with
          | nil => simp at hl2
          | cons u us2 => simp at hr
      subst this
      rw [← hall] at h
      exact wpAny_pure h
  · intro e hm
    rcases List.mem_append.mp hm with hm | hm
    · rw [he] at hm; exact zip_int hm
    · rw [he'] at hm; exact zip_int hm
end
end Mine
open PySem.SeqAt
namespace Mine
section
variable {prog : Program} {w : World} {A : Around} {E : Value → Shared → Prop} {s : Shared} {a b : Addr}
theorem SetI.typeIs {ks : List Int} (h : ∃ o, s.heap.get? a = some o ∧ SetI ks o) : s.TypeIs (.ref a) "set" := let ⟨o, ho, hx, _⟩ := h; ⟨o, ho, hx.1⟩
theorem wp_size {ks : List Int} {Q : Nat → Shared → Prop} (ha : ∃ o, s.heap.get? a = some o ∧ SetI ks o) (h : Q ks.length s) : wpAny (model prog w) A (Builtin.Frozenset.sizeOf a) Q E s := by
  obtain ⟨o, ho, hx, es, ep, t, hd, hbd, hf, us, hl, he⟩ := ha
  have n1 : es.size = ks.length := by have := congrArg List.length he; simpa [hl] using this
  unfold Builtin.Frozenset.sizeOf
  refine wpAny_bind (wpAny_setEntries_of ho hd hf (wpAny_pure ?_))
  rw [n1]; exact h
theorem rc_sets {ks ms : List Int} (ha : ∃ o, s.heap.get? a = some o ∧ SetI ks o) (hb : ∃ o, s.heap.get? b = some o ∧ SetI ms o) (hu : A.units < cLine) :
    RcAt A s (.ref a) (.ref b) (decide (ks.length = ms.length) && ks.all fun k => decide (k ∈ ms)) := fun prog w E Q h => by
  refine wpAny_richCompare_same_room (op := .Eq) (SetI.typeIs ha) (SetI.typeIs hb) PySem.F.slot_set_eq (wpAny_call_entry PySem.F.slot_set_eq (SetI.typeIs ha) entry_set_eq ?_ (PySem.F.args_set_eq_2 _ _)) hu
  show wpAny _ _ (Builtin.Frozenset.slot1 "__eq__" ⟨[.ref a, .ref b], []⟩ >>= _) _ _ s
  refine wpAny_bind ?_
  show wpAny _ _ (pure (Value.ref a, Value.ref b)) _ _ s
  refine wpAny_pure ?_
  refine wpAny_bind ?_
  unfold Builtin.Frozenset.isAnySet
  refine wpAny_bind (wpAny_isInstance (T := "set") (SetI.typeIs hb) PySem.F.sub_set_set ?_)
  refine wpAny_pure ?_
  simp only [Bool.not_true, Bool.false_eq_true, if_false]
  refine wpAny_bind (wpAny_pure (wpAny_bind (wpAny_pure ?_)))
  refine wpAny_bind (wp_size ha ?_)
  refine wpAny_bind (wp_size hb ?_)
  by_cases hn : ks.length = ms.length
  · have e1 : decide (ks.length = ms.length) = true := by simpa using hn
    rw [e1, Bool.true_and] at h
    have e2 : (ks.length != ms.length) = false := by simpa using hn
    simp only [e2, Bool.false_eq_true, if_false]
    refine wpAny_bind ?_
    refine wpAny_bind ?_
    refine wpAny_bind (wpAny_isInstance (T := "set") (SetI.typeIs ha) PySem.F.sub_set_frozenset ?_)
    refine wpAny_pure ?_
    simp only [Bool.false_eq_true, if_false]
    refine wp_subset ha hb ?_
    have e3 : decide (ks.length ≤ ms.length) = true := by simp; omega
    rw [e3, Bool.true_and]
    exact wpAny_pure ⟨_, rfl, nofun, h⟩
  · have e1 : decide (ks.length = ms.length) = false := by simpa using hn
    rw [e1, Bool.false_and] at h
    have e2 : (ks.length != ms.length) = true := by simpa using hn
    simp only [e2, if_true]
    refine wpAny_bind (wpAny_pure ?_)
    exact wpAny_pure ⟨_, rfl, nofun, h⟩
end
end Mine
open PySem.SeqAt
namespace Mine
/-- the dict {n: n} -/
def DctN (n : Int) (o : Obj) : Prop := o.ExactDict ∧ ∃ ep t u, o.data = .dict #[⟨hashInt n, .int n t, .int n u⟩] ep
section
variable {A : Around} {s : Shared} {a b : Addr}
theorem DctN.dictOf {prog : Program} {w : World} {n : Int} (h : ∃ o, s.heap.get? a = some o ∧ DctN n o) : ∃ u, s.heap.DictOf (intKind prog w) a [(n, .int n u)] := by
  obtain ⟨o, ho, hx, ep, t, u, hd⟩ := h
  refine ⟨u, o, _, ep, ho, hx, hd, ?_, ?_, by simp⟩
  · intro e he
    simp at he
    subst he
    exact ⟨n, by simp [intKind, Value.isInt], rfl⟩
  · exact .cons (by simp [intKind, Value.isInt]) rfl .nil
theorem DctN.typeIs {n : Int} (h : ∃ o, s.heap.get? a = some o ∧ DctN n o) : s.TypeIs (.ref a) "dict" := let ⟨o, ho, hx, _⟩ := h; ⟨o, ho, hx.1⟩
theorem rc_dicts {n m : Int} (ha : ∃ o, s.heap.get? a = some o ∧ DctN n o) (hb : ∃ o, s.heap.get? b = some o ∧ DctN m o) (hsa : (a == sysModules) = false) (hsb : (b == sysModules) = false) (hu : A.units < cLine) :
    RcAt A s (.ref a) (.ref b) (n == m) := fun prog w E Q h => by
  obtain ⟨u, da⟩ := DctN.dictOf (prog := prog) (w := w) ha
  obtain ⟨v, db⟩ := DctN.dictOf (prog := prog) (w := w) hb
  refine keq_eq (r := (n == m)) hsa hsb da db hu (fun _ => ?_) (by simpa using h)
  by_cases e : n = m
  · subst e
    have := KeqHits.hit (A := A.in1) (s := s) (kb := [(n, Value.int n v)]) (k := n) (v := .int n u) (r := []) (y := .int n v) (by simp [valueAt]) (EqAt.int_int n u n v) .nil
    simpa using this
  · have : (n == m) = false := by simpa using e
    rw [this]
    refine KeqHits.miss ?_
    have e' : ¬ m = n := fun q => e q.symm
    simp [valueAt, e']

/-- an item of the law, with its class -/
inductive IsIt (h : Heap) : Value → Int → Prop
  | int (n : Int) (t : Tok) : IsIt h (.int n t) (7 * n)
  | bool (v : Bool) : IsIt h (.bool v) (7 * (if v then 1 else 0))
  | lst {a : Addr} {n : Int} {t : Tok} : h.IsList a [Value.int n t].toArray → IsIt h (.ref a) (7 * n + 2)
  | tup {a : Addr} {n : Int} {t : Tok} : h.IsTuple a [Value.int n t].toArray → IsIt h (.ref a) (7 * n + 3)
  | dct {a : Addr} {n : Int} : (a == sysModules) = false → (∃ o, h.get? a = some o ∧ DctN n o) → IsIt h (.ref a) (7 * n + 4)
  | set {a : Addr} {n : Int} : (∃ o, h.get? a = some o ∧ SetI [n] o) → IsIt h (.ref a) (7 * n + 5)
  | str (n : Nat) (t : Tok) : IsIt h (.str (T [97 + n]) t) (7 * n + 6)

/-- two kinds that decline each other -/
theorem rc_decl {y x : Value} {Ty Tx idy idx : String} (hy : s.TypeIs y Ty) (hx : s.TypeIs x Tx) (hne : (Value.type Ty != Value.type Tx) = true) (hsub : isSubtype (.type Tx) (.type Ty) = pure false)
    (h1 : Slot Ty (cmpInfo .Eq).2.1 idy) (h2 : Slot Tx (cmpInfo .Eq).2.2 idx)
    (c1 : ∀ (prog : Program) (w : World) (E : Value → Shared → Prop) (Q' : Value → Shared → Prop), Q' .notImplemented s → wpAny (model prog w) A (call (.builtin idy) [y, x]) Q' E s)
    (c2 : ∀ (prog : Program) (w : World) (E : Value → Shared → Prop) (Q' : Value → Shared → Prop), Q' .notImplemented s → wpAny (model prog w) A (call (.builtin idx) [x, y]) Q' E s)
    (hk : ∀ (M : Model) (E : Value → Shared → Prop) (Q' : Bool → Shared → Prop), Q' false s → wpAny M A (isSame y x) Q' E s) (hu : A.units < cLine) : RcAt A s y x false := fun prog w E Q h =>
  rc_eq_decline_or (k := false) hy hx hne hsub h1 h2 (c1 prog w E) (c2 prog w E) (hk _ E) (.inr hu) h
theorem eq_of_rcL {a : Addr} {x : Value} (hx : ∀ c, x ≠ .ref c) (h : RcAt A s (.ref a) x false) : EqAt A s (.ref a) x false := fun prog w E Q hq => by
  unfold eqBool
  refine wpAny_holding ?_
  refine wpAny_ite_split (fun hab => absurd (eq_of_beq hab).symm (hx a)) (fun _ => ?_)
  exact wpAny_bind (h prog w E _ (wpAny_truthy_bool hq))
theorem eq_of_rcR_int {a : Addr} {n : Int} {t : Tok} (h : RcAt A s (.int n t) (.ref a) false) : EqAt A s (.int n t) (.ref a) false := fun prog w E Q hq => by
  unfold eqBool
  refine wpAny_holding ?_
  refine wpAny_ite_split (fun hab => absurd (eq_of_beq hab) nofun) (fun _ => ?_)
  exact wpAny_bind (h prog w E _ (wpAny_truthy_bool hq))
theorem eq_of_rcR_bool {a : Addr} {n : Bool} (h : RcAt A s (.bool n) (.ref a) false) : EqAt A s (.bool n) (.ref a) false := fun prog w E Q hq => by
  unfold eqBool
  refine wpAny_holding ?_
  refine wpAny_ite_split (fun hab => absurd (eq_of_beq hab) nofun) (fun _ => ?_)
  exact wpAny_bind (h prog w E _ (wpAny_truthy_bool hq))
theorem eq_of_rcR_str {a : Addr} {n : Str} {t : Tok} (h : RcAt A s (.str n t) (.ref a) false) : EqAt A s (.str n t) (.ref a) false := fun prog w E Q hq => by
  unfold eqBool
  refine wpAny_holding ?_
  refine wpAny_ite_split (fun hab => absurd (eq_of_beq hab) nofun) (fun _ => ?_)
  exact wpAny_bind (h prog w E _ (wpAny_truthy_bool hq))

/-! refs of unlike classes -/
theorem ne_of_types {a b : Addr} {T U : String} (ha : s.TypeIs (.ref a) T) (hb : s.TypeIs (.ref b) U) (h : T ≠ U) : a ≠ b := by
  rintro rfl
  obtain ⟨o, ho, hc⟩ := ha
  obtain ⟨o', ho', hc'⟩ := hb
  rw [ho] at ho'; cases ho'
  rw [hc] at hc'
  injection hc' with e
  exact h e
theorem same_refs {a b : Addr} {T U : String} (ha : s.TypeIs (.ref a) T) (hb : s.TypeIs (.ref b) U) (h : T ≠ U) (ht : T ≠ "tuple" ∨ U ≠ "tuple") :
    ∀ (M : Model) (E : Value → Shared → Prop) (Q' : Bool → Shared → Prop), Q' false s → wpAny M A (isSame (.ref a) (.ref b)) Q' E s := fun M E Q' hq => by
  have hne := ne_of_types ha hb h
  obtain ⟨o, ho, hc⟩ := ha
  obtain ⟨o', ho', hc'⟩ := hb
  rcases ht with ht | ht
  · exact wpAny_isSame_ref_other hne ho ho' (by rw [hc]; intro e; injection e with e; exact ht e) hq
  · exact wpAny_isSame_ref_other' hne ho ho' (by rw [hc']; intro e; injection e with e; exact ht e) hq
end
end Mine
open PySem.SeqAt
namespace Mine
section
variable {A : Around} {s : Shared} {a b : Addr}
theorem eq_dict_set (ha : s.TypeIs (.ref a) "dict") (hb : s.TypeIs (.ref b) "set") (hu : A.units < cLine) : EqAt A s (.ref a) (.ref b) false :=
  EqAt.of_refs (ne_of_types ha hb (by decide)) (rc_decl ha hb (by decide) PySem.F.sub_set_dict PySem.F.slot_dict_eq PySem.F.slot_set_eq_refl (fun _ _ _ _ q => dict_decl ha hb PySem.F.sub_set_dict q) (fun _ _ _ _ q => set_decl hb ha PySem.F.sub_dict_set PySem.F.sub_dict_frozenset q) (same_refs ha hb (by decide) (by decide)) hu)
theorem eq_dict_list (ha : s.TypeIs (.ref a) "dict") (hb : s.TypeIs (.ref b) "list") (hu : A.units < cLine) : EqAt A s (.ref a) (.ref b) false :=
  EqAt.of_refs (ne_of_types ha hb (by decide)) (rc_decl ha hb (by decide) PySem.F.sub_list_dict PySem.F.slot_dict_eq PySem.F.slot_list_eq_refl (fun _ _ _ _ q => dict_decl ha hb PySem.F.sub_list_dict q) (fun _ _ _ _ q => list_decl hb ha PySem.F.sub_dict_list q) (same_refs ha hb (by decide) (by decide)) hu)
theorem eq_dict_tuple (ha : s.TypeIs (.ref a) "dict") (hb : s.TypeIs (.ref b) "tuple") (hu : A.units < cLine) : EqAt A s (.ref a) (.ref b) false :=
  EqAt.of_refs (ne_of_types ha hb (by decide)) (rc_decl ha hb (by decide) PySem.F.sub_tuple_dict PySem.F.slot_dict_eq PySem.F.slot_tuple_eq_refl (fun _ _ _ _ q => dict_decl ha hb PySem.F.sub_tuple_dict q) (fun _ _ _ _ q => tuple_decl hb ha PySem.F.sub_dict_tuple q) (same_refs ha hb (by decide) (by decide)) hu)
theorem eq_set_dict (ha : s.TypeIs (.ref a) "set") (hb : s.TypeIs (.ref b) "dict") (hu : A.units < cLine) : EqAt A s (.ref a) (.ref b) false :=
  EqAt.of_refs (ne_of_types ha hb (by decide)) (rc_decl ha hb (by decide) PySem.F.sub_dict_set PySem.F.slot_set_eq PySem.F.slot_dict_eq_refl (fun _ _ _ _ q => set_decl ha hb PySem.F.sub_dict_set PySem.F.sub_dict_frozenset q) (fun _ _ _ _ q => dict_decl hb ha PySem.F.sub_set_dict q) (same_refs ha hb (by decide) (by decide)) hu)
theorem eq_set_list (ha : s.TypeIs (.ref a) "set") (hb : s.TypeIs (.ref b) "list") (hu : A.units < cLine) : EqAt A s (.ref a) (.ref b) false :=
  EqAt.of_refs (ne_of_types ha hb (by decide)) (rc_decl ha hb (by decide) PySem.F.sub_list_set PySem.F.slot_set_eq PySem.F.slot_list_eq_refl (fun _ _ _ _ q => set_decl ha hb PySem.F.sub_list_set PySem.F.sub_list_frozenset q) (fun _ _ _ _ q => list_decl hb ha PySem.F.sub_set_list q) (same_refs ha hb (by decide) (by decide)) hu)
theorem eq_set_tuple (ha : s.TypeIs (.ref a) "set") (hb : s.TypeIs (.ref b) "tuple") (hu : A.units < cLine) : EqAt A s (.ref a) (.ref b) false :=
  EqAt.of_refs (ne_of_types ha hb (by decide)) (rc_decl ha hb (by decide) PySem.F.sub_tuple_set PySem.F.slot_set_eq PySem.F.slot_tuple_eq_refl (fun _ _ _ _ q => set_decl ha hb PySem.F.sub_tuple_set PySem.F.sub_tuple_frozenset q) (fun _ _ _ _ q => tuple_decl hb ha PySem.F.sub_set_tuple q) (same_refs ha hb (by decide) (by decide)) hu)
theorem eq_list_dict (ha : s.TypeIs (.ref a) "list") (hb : s.TypeIs (.ref b) "dict") (hu : A.units < cLine) : EqAt A s (.ref a) (.ref b) false :=
  EqAt.of_refs (ne_of_types ha hb (by decide)) (rc_decl ha hb (by decide) PySem.F.sub_dict_list PySem.F.slot_list_eq PySem.F.slot_dict_eq_refl (fun _ _ _ _ q => list_decl ha hb PySem.F.sub_dict_list q) (fun _ _ _ _ q => dict_decl hb ha PySem.F.sub_list_dict q) (same_refs ha hb (by decide) (by decide)) hu)
theorem eq_list_set (ha : s.TypeIs (.ref a) "list") (hb : s.TypeIs (.ref b) "set") (hu : A.units < cLine) : EqAt A s (.ref a) (.ref b) false :=
  EqAt.of_refs (ne_of_types ha hb (by decide)) (rc_decl ha hb (by decide) PySem.F.sub_set_list PySem.F.slot_list_eq PySem.F.slot_set_eq_refl (fun _ _ _ _ q => list_decl ha hb PySem.F.sub_set_list q) (fun _ _ _ _ q => set_decl hb ha PySem.F.sub_list_set PySem.F.sub_list_frozenset q) (same_refs ha hb (by decide) (by decide)) hu)
theorem eq_tuple_dict (ha : s.TypeIs (.ref a) "tuple") (hb : s.TypeIs (.ref b) "dict") (hu : A.units < cLine) : EqAt A s (.ref a) (.ref b) false :=
  EqAt.of_refs (ne_of_types ha hb (by decide)) (rc_decl ha hb (by decide) PySem.F.sub_dict_tuple PySem.F.slot_tuple_eq PySem.F.slot_dict_eq_refl (fun _ _ _ _ q => tuple_decl ha hb PySem.F.sub_dict_tuple q) (fun _ _ _ _ q => dict_decl hb ha PySem.F.sub_tuple_dict q) (same_refs ha hb (by decide) (by decide)) hu)
theorem eq_tuple_set (ha : s.TypeIs (.ref a) "tuple") (hb : s.TypeIs (.ref b) "set") (hu : A.units < cLine) : EqAt A s (.ref a) (.ref b) false :=
  EqAt.of_refs (ne_of_types ha hb (by decide)) (rc_decl ha hb (by decide) PySem.F.sub_set_tuple PySem.F.slot_tuple_eq PySem.F.slot_set_eq_refl (fun _ _ _ _ q => tuple_decl ha hb PySem.F.sub_set_tuple q) (fun _ _ _ _ q => set_decl hb ha PySem.F.sub_tuple_set PySem.F.sub_tuple_frozenset q) (same_refs ha hb (by decide) (by decide)) hu)
theorem eq_dict_int (n : Int) (t : Tok) (ha : ∃ es ep dd sl, s.heap.get? a = some { cls := .type "dict", dict := dd, data := .dict es ep, slots := sl }) (hu : A.units < cLine) : EqAt A s (.ref a) (.int n t) false := by
  obtain ⟨es, ep, dd, sl, ho⟩ := ha
  exact eq_of_rcL nofun (rc_decl ⟨_, ho, rfl⟩ (typeIs_int s n t) (by decide) PySem.F.sub_int_dict PySem.F.slot_dict_eq PySem.F.slot_int_eq_refl (fun _ _ _ _ q => dict_decl ⟨_, ho, rfl⟩ (typeIs_int s n t) PySem.F.sub_int_dict q) (fun _ _ _ _ q => call_meets PySem.F.slot_int_eq_refl (typeIs_int s n t) PySem.F.entry_int_eq (PySem.F.args_int_eq_2 _ _) (int_eq_declines_dict n t a (.type "dict") es ep dd sl) ⟨ho, q⟩) (fun _ _ _ q => wpAny_of_eq (rfl : isSame (.ref a) (.int n t) = pure false) q) hu)
theorem eq_int_dict (n : Int) (t : Tok) (ha : ∃ es ep dd sl, s.heap.get? a = some { cls := .type "dict", dict := dd, data := .dict es ep, slots := sl }) (hu : A.units < cLine) : EqAt A s (.int n t) (.ref a) false := by
  obtain ⟨es, ep, dd, sl, ho⟩ := ha
  exact eq_of_rcR_int (rc_decl (typeIs_int s n t) ⟨_, ho, rfl⟩ (by decide) PySem.F.sub_dict_int PySem.F.slot_int_eq PySem.F.slot_dict_eq_refl (fun _ _ _ _ q => call_meets PySem.F.slot_int_eq (typeIs_int s n t) PySem.F.entry_int_eq (PySem.F.args_int_eq_2 _ _) (int_eq_declines_dict n t a (.type "dict") es ep dd sl) ⟨ho, q⟩) (fun _ _ _ _ q => dict_decl ⟨_, ho, rfl⟩ (typeIs_int s n t) PySem.F.sub_int_dict q) (fun _ _ _ q => wpAny_of_eq (rfl : isSame (.int n t) (.ref a) = pure false) q) hu)
theorem eq_set_int (n : Int) (t : Tok) (ha : ∃ es ep t2 dd sl, s.heap.get? a = some { cls := .type "set", dict := dd, data := .set es ep t2, slots := sl }) (hu : A.units < cLine) : EqAt A s (.ref a) (.int n t) false := by
  obtain ⟨es, ep, t2, dd, sl, ho⟩ := ha
  exact eq_of_rcL nofun (rc_decl ⟨_, ho, rfl⟩ (typeIs_int s n t) (by decide) PySem.F.sub_int_set PySem.F.slot_set_eq PySem.F.slot_int_eq_refl (fun _ _ _ _ q => set_decl ⟨_, ho, rfl⟩ (typeIs_int s n t) PySem.F.sub_int_set PySem.F.sub_int_frozenset q) (fun _ _ _ _ q => call_meets PySem.F.slot_int_eq_refl (typeIs_int s n t) PySem.F.entry_int_eq (PySem.F.args_int_eq_2 _ _) (int_eq_declines_set n t a (.type "set") es ep t2 dd sl) ⟨ho, q⟩) (fun _ _ _ q => wpAny_of_eq (rfl : isSame (.ref a) (.int n t) = pure false) q) hu)
theorem eq_int_set (n : Int) (t : Tok) (ha : ∃ es ep t2 dd sl, s.heap.get? a = some { cls := .type "set", dict := dd, data := .set es ep t2, slots := sl }) (hu : A.units < cLine) : EqAt A s (.int n t) (.ref a) false := by
  obtain ⟨es, ep, t2, dd, sl, ho⟩ := ha
  exact eq_of_rcR_int (rc_decl (typeIs_int s n t) ⟨_, ho, rfl⟩ (by decide) PySem.F.sub_set_int PySem.F.slot_int_eq PySem.F.slot_set_eq_refl (fun _ _ _ _ q => call_meets PySem.F.slot_int_eq (typeIs_int s n t) PySem.F.entry_int_eq (PySem.F.args_int_eq_2 _ _) (int_eq_declines_set n t a (.type "set") es ep t2 dd sl) ⟨ho, q⟩) (fun _ _ _ _ q => set_decl ⟨_, ho, rfl⟩ (typeIs_int s n t) PySem.F.sub_int_set PySem.F.sub_int_frozenset q) (fun _ _ _ q => wpAny_of_eq (rfl : isSame (.int n t) (.ref a) = pure false) q) hu)
theorem eq_dict_bool (n : Bool) (ha : ∃ es ep dd sl, s.heap.get? a = some { cls := .type "dict", dict := dd, data := .dict es ep, slots := sl }) (hu : A.units < cLine) : EqAt A s (.ref a) (.bool n) false := by
  obtain ⟨es, ep, dd, sl, ho⟩ := ha
  exact eq_of_rcL nofun (rc_decl ⟨_, ho, rfl⟩ (rfl : s.TypeIs (.bool n) "bool") (by decide) PySem.F.sub_bool_dict PySem.F.slot_dict_eq PySem.F.slot_bool_eq_refl (fun _ _ _ _ q => dict_decl ⟨_, ho, rfl⟩ (rfl : s.TypeIs (.bool n) "bool") PySem.F.sub_bool_dict q) (fun _ _ _ _ q => call_meets PySem.F.slot_bool_eq_refl (rfl : s.TypeIs (.bool n) "bool") PySem.F.entry_int_eq (PySem.F.args_int_eq_2 _ _) (bool_eq_declines_dict n a (.type "dict") es ep dd sl) ⟨ho, q⟩) (fun _ _ _ q => wpAny_of_eq (rfl : isSame (.ref a) (.bool n) = pure false) q) hu)
theorem eq_bool_dict (n : Bool) (ha : ∃ es ep dd sl, s.heap.get? a = some { cls := .type "dict", dict := dd, data := .dict es ep, slots := sl }) (hu : A.units < cLine) : EqAt A s (.bool n) (.ref a) false := by
  obtain ⟨es, ep, dd, sl, ho⟩ := ha
  exact eq_of_rcR_bool (rc_decl (rfl : s.TypeIs (.bool n) "bool") ⟨_, ho, rfl⟩ (by decide) PySem.F.sub_dict_bool PySem.F.slot_bool_eq PySem.F.slot_dict_eq_refl (fun _ _ _ _ q => call_meets PySem.F.slot_bool_eq (rfl : s.TypeIs (.bool n) "bool") PySem.F.entry_int_eq (PySem.F.args_int_eq_2 _ _) (bool_eq_declines_dict n a (.type "dict") es ep dd sl) ⟨ho, q⟩) (fun _ _ _ _ q => dict_decl ⟨_, ho, rfl⟩ (rfl : s.TypeIs (.bool n) "bool") PySem.F.sub_bool_dict q) (fun _ _ _ q => wpAny_of_eq (rfl : isSame (.bool n) (.ref a) = pure false) q) hu)
theorem eq_set_bool (n : Bool) (ha : ∃ es ep t2 dd sl, s.heap.get? a = some { cls := .type "set", dict := dd, data := .set es ep t2, slots := sl }) (hu : A.units < cLine) : EqAt A s (.ref a) (.bool n) false := by
  obtain ⟨es, ep, t2, dd, sl, ho⟩ := ha
  exact eq_of_rcL nofun (rc_decl ⟨_, ho, rfl⟩ (rfl : s.TypeIs (.bool n) "bool") (by decide) PySem.F.sub_bool_set PySem.F.slot_set_eq PySem.F.slot_bool_eq_refl (fun _ _ _ _ q => set_decl ⟨_, ho, rfl⟩ (rfl : s.TypeIs (.bool n) "bool") PySem.F.sub_bool_set PySem.F.sub_bool_frozenset q) (fun _ _ _ _ q => call_meets PySem.F.slot_bool_eq_refl (rfl : s.TypeIs (.bool n) "bool") PySem.F.entry_int_eq (PySem.F.args_int_eq_2 _ _) (bool_eq_declines_set n a (.type "set") es ep t2 dd sl) ⟨ho, q⟩) (fun _ _ _ q => wpAny_of_eq (rfl : isSame (.ref a) (.bool n) = pure false) q) hu)
theorem eq_bool_set (n : Bool) (ha : ∃ es ep t2 dd sl, s.heap.get? a = some { cls := .type "set", dict := dd, data := .set es ep t2, slots := sl }) (hu : A.units < cLine) : EqAt A s (.bool n) (.ref a) false := by
  obtain ⟨es, ep, t2, dd, sl, ho⟩ := ha
  exact eq_of_rcR_bool (rc_decl (rfl : s.TypeIs (.bool n) "bool") ⟨_, ho, rfl⟩ (by decide) PySem.F.sub_set_bool PySem.F.slot_bool_eq PySem.F.slot_set_eq_refl (fun _ _ _ _ q => call_meets PySem.F.slot_bool_eq (rfl : s.TypeIs (.bool n) "bool") PySem.F.entry_int_eq (PySem.F.args_int_eq_2 _ _) (bool_eq_declines_set n a (.type "set") es ep t2 dd sl) ⟨ho, q⟩) (fun _ _ _ _ q => set_decl ⟨_, ho, rfl⟩ (rfl : s.TypeIs (.bool n) "bool") PySem.F.sub_bool_set PySem.F.sub_bool_frozenset q) (fun _ _ _ q => wpAny_of_eq (rfl : isSame (.bool n) (.ref a) = pure false) q) hu)
theorem eq_dict_str (n : Str) (t : Tok) (ha : ∃ es ep dd sl, s.heap.get? a = some { cls := .type "dict", dict := dd, data := .dict es ep, slots := sl }) (hu : A.units < cLine) : EqAt A s (.ref a) (.str n t) false := by
  obtain ⟨es, ep, dd, sl, ho⟩ := ha
  exact eq_of_rcL nofun (rc_decl ⟨_, ho, rfl⟩ (rfl : s.TypeIs (.str n t) "str") (by decide) PySem.F.sub_str_dict PySem.F.slot_dict_eq PySem.F.slot_str_eq_refl (fun _ _ _ _ q => dict_decl ⟨_, ho, rfl⟩ (rfl : s.TypeIs (.str n t) "str") PySem.F.sub_str_dict q) (fun _ _ _ _ q => call_meets PySem.F.slot_str_eq_refl (rfl : s.TypeIs (.str n t) "str") PySem.F.entry_str_eq (PySem.F.args_str_eq_2 _ _) (str_eq_declines_dict n t a (.type "dict") es ep dd sl) ⟨ho, q⟩) (fun _ _ _ q => wpAny_of_eq (rfl : isSame (.ref a) (.str n t) = pure false) q) hu)
theorem eq_str_dict (n : Str) (t : Tok) (ha : ∃ es ep dd sl, s.heap.get? a = some { cls := .type "dict", dict := dd, data := .dict es ep, slots := sl }) (hu : A.units < cLine) : EqAt A s (.str n t) (.ref a) false := by
  obtain ⟨es, ep, dd, sl, ho⟩ := ha
  exact eq_of_rcR_str (rc_decl (rfl : s.TypeIs (.str n t) "str") ⟨_, ho, rfl⟩ (by decide) PySem.F.sub_dict_str PySem.F.slot_str_eq PySem.F.slot_dict_eq_refl (fun _ _ _ _ q => call_meets PySem.F.slot_str_eq (rfl : s.TypeIs (.str n t) "str") PySem.F.entry_str_eq (PySem.F.args_str_eq_2 _ _) (str_eq_declines_dict n t a (.type "dict") es ep dd sl) ⟨ho, q⟩) (fun _ _ _ _ q => dict_decl ⟨_, ho, rfl⟩ (rfl : s.TypeIs (.str n t) "str") PySem.F.sub_str_dict q) (fun _ _ _ q => wpAny_of_eq (rfl : isSame (.str n t) (.ref a) = pure false) q) hu)
theorem eq_set_str (n : Str) (t : Tok) (ha : ∃ es ep t2 dd sl, s.heap.get? a = some { cls := .type "set", dict := dd, data := .set es ep t2, slots := sl }) (hu : A.units < cLine) : EqAt A s (.ref a) (.str n t) false := by
  obtain ⟨es, ep, t2, dd, sl, ho⟩ := ha
  exact eq_of_rcL nofun (rc_decl ⟨_, ho, rfl⟩ (rfl : s.TypeIs (.str n t) "str") (by decide) PySem.F.sub_str_set PySem.F.slot_set_eq PySem.F.slot_str_eq_refl (fun _ _ _ _ q => set_decl ⟨_, ho, rfl⟩ (rfl : s.TypeIs (.str n t) "str") PySem.F.sub_str_set PySem.F.sub_str_frozenset q) (fun _ _ _ _ q => call_meets PySem.F.slot_str_eq_refl (rfl : s.TypeIs (.str n t) "str") PySem.F.entry_str_eq (PySem.F.args_str_eq_2 _ _) (str_eq_declines_set n t a (.type "set") es ep t2 dd sl) ⟨ho, q⟩) (fun _ _ _ q => wpAny_of_eq (rfl : isSame (.ref a) (.str n t) = pure false) q) hu)
theorem eq_str_set (n : Str) (t : Tok) (ha : ∃ es ep t2 dd sl, s.heap.get? a = some { cls := .type "set", dict := dd, data := .set es ep t2, slots := sl }) (hu : A.units < cLine) : EqAt A s (.str n t) (.ref a) false := by
  obtain ⟨es, ep, t2, dd, sl, ho⟩ := ha
  exact eq_of_rcR_str (rc_decl (rfl : s.TypeIs (.str n t) "str") ⟨_, ho, rfl⟩ (by decide) PySem.F.sub_set_str PySem.F.slot_str_eq PySem.F.slot_set_eq_refl (fun _ _ _ _ q => call_meets PySem.F.slot_str_eq (rfl : s.TypeIs (.str n t) "str") PySem.F.entry_str_eq (PySem.F.args_str_eq_2 _ _) (str_eq_declines_set n t a (.type "set") es ep t2 dd sl) ⟨ho, q⟩) (fun _ _ _ _ q => set_decl ⟨_, ho, rfl⟩ (rfl : s.TypeIs (.str n t) "str") PySem.F.sub_str_set PySem.F.sub_str_frozenset q) (fun _ _ _ q => wpAny_of_eq (rfl : isSame (.str n t) (.ref a) = pure false) q) hu)
end
end Mine
open PySem.SeqAt
namespace Mine
section
variable {A : Around} {s : Shared} {a b : Addr}
theorem IsList.ty {xs : Array Value} (h : s.heap.IsList a xs) : s.TypeIs (.ref a) "list" := h.typeIs
theorem IsTuple.ty {xs : Array Value} (h : s.heap.IsTuple a xs) : s.TypeIs (.ref a) "tuple" := let ⟨o, ho, hc, _⟩ := h; ⟨o, ho, hc⟩
theorem DctN.at {n : Int} (h : ∃ o, s.heap.get? a = some o ∧ DctN n o) : ∃ es ep dd sl, s.heap.get? a = some { cls := .type "dict", dict := dd, data := .dict es ep, slots := sl } := by
  obtain ⟨⟨c, d, dt, sl⟩, ho, ⟨hc, hd, hs⟩, ep, t, u, hdt⟩ := h
  simp only at hc hd hs hdt; subst hc hd hs hdt
  exact ⟨_, _, _, _, ho⟩
theorem SetI.at {ks : List Int} (h : ∃ o, s.heap.get? a = some o ∧ SetI ks o) : ∃ es ep t2 dd sl, s.heap.get? a = some { cls := .type "set", dict := dd, data := .set es ep t2, slots := sl } := by
  obtain ⟨⟨c, d, dt, sl⟩, ho, ⟨hc, hd, hs⟩, es, ep, t, hdt, _⟩ := h
  simp only at hc hd hs hdt; subst hc hd hs hdt
  exact ⟨_, _, _, _, _, ho⟩
theorem eq_false_of {y x : Value} {c d : Int} (h : EqAt A s y x false) (hn : c ≠ d) : EqAt A s y x (c == d) := by
  have : (c == d) = false := by simpa using hn
  rw [this]; exact h
theorem eq_of_eq {y x : Value} {b : Bool} {c d : Int} (h : EqAt A s y x b) (hn : b = (c == d)) : EqAt A s y x (c == d) := by rw [← hn]; exact h
theorem beq_lin {n m : Int} {k : Int} : (n == m) = (7 * n + k == 7 * m + k) := by
  by_cases h : n = m
  · subst h; simp
  · have : ¬ (7 * n + k = 7 * m + k) := by omega
    rw [beq_eq_false_iff_ne.mpr h, beq_eq_false_iff_ne.mpr this]
theorem beq_lin0 {n m : Int} : (n == m) = (7 * n == 7 * m) := by have := beq_lin (n := n) (m := m) (k := 0); simpa using this
theorem eq_it {y x : Value} {c d : Int} (hy : IsIt s.heap y c) (hx : IsIt s.heap x d) (hu : A.units + 2 < cLine) : EqAt A s y x (c == d) := by
  have hu0 : A.units < cLine := by omega
  have hu1 : A.in1.units < cLine := by simp only [Around.in1_units]; omega
  cases hy with
  | int n t =>
    cases hx with
    | int m u => exact eq_of_eq (.int_int n t m u) beq_lin0
    | bool v => exact eq_of_eq (.int_bool n t v) (by cases v <;> exact beq_lin0)
    | lst h => exact eq_false_of (.int_list n t h hu0) (by omega)
    | tup h => exact eq_false_of (.int_tuple n t h hu0) (by omega)
    | dct _ h => exact eq_false_of (eq_int_dict n t (DctN.at h) hu0) (by omega)
    | set h => exact eq_false_of (eq_int_set n t (SetI.at h) hu0) (by omega)
    | str m u => exact eq_false_of (.int_str n t _ u) (by omega)
  | bool v =>
    cases hx with
    | int m u => exact eq_of_eq (.bool_int v m u) (by cases v <;> exact beq_lin0)
    | bool v' => exact eq_of_eq (.bool_bool v v') (by cases v <;> cases v' <;> rfl)
    | lst h => exact eq_false_of (.bool_list v h hu0) (by cases v <;> omega)
    | tup h => exact eq_false_of (.bool_tuple v h hu0) (by cases v <;> omega)
    | dct _ h => exact eq_false_of (eq_bool_dict v (DctN.at h) hu0) (by cases v <;> omega)
    | set h => exact eq_false_of (eq_bool_set v (SetI.at h) hu0) (by cases v <;> omega)
    | str m u => exact eq_false_of (.bool_str v _ u) (by cases v <;> omega)
  | str n t =>
    cases hx with
    | int m u => exact eq_false_of (.str_int _ t m u) (by omega)
    | bool v => exact eq_false_of (.str_bool _ t v) (by cases v <;> omega)
    | lst h => exact eq_false_of (.str_list _ t h hu0) (by omega)
    | tup h => exact eq_false_of (.str_tuple _ t h hu0) (by omega)
    | dct _ h => exact eq_false_of (eq_str_dict _ t (DctN.at h) hu0) (by omega)
    | set h => exact eq_false_of (eq_str_set _ t (SetI.at h) hu0) (by omega)
    | str m u =>
      refine eq_of_eq (.str_str _ t _ u) ?_
      by_cases e : n = m
      · subst e; simp
      · have h1 : ¬ ((7 * (n : Int) + 6) = 7 * (m : Int) + 6) := by omega
        rw [beq_eq_false_iff_ne.mpr h1]
        refine beq_eq_false_iff_ne.mpr fun q => e ?_
        have : [97 + n] = [97 + m] := by
          have := congrArg (fun z : Str => z.cps.toList) q
          simpa [T] using this
        simp at this; exact this
  | lst h =>
    rename_i a' n t
    cases hx with
    | int m u => exact eq_false_of (.list_int m u h hu0) (by omega)
    | bool v => exact eq_false_of (.list_bool v h hu0) (by cases v <;> omega)
    | lst h' =>
      rename_i b' m u
      by_cases e : a' = b'
      · subst e
        refine eq_of_eq (.same _) ?_
        obtain ⟨o, ho, _, k, hd⟩ := h
        obtain ⟨o', ho', _, k', hd'⟩ := h'
        rw [ho] at ho'; cases ho'
        rw [hd] at hd'
        injection hd' with e1 _
        simp at e1
        rw [e1.1]; simp
      · refine eq_of_eq (EqAt.of_refs e (rc_lists (e := fun y x => match y, x with | .int p _, .int q _ => p == q | _, _ => false) h h' hu0 (fun x hx y hy => by
          simp at hx hy; subst hx hy; exact EqAt.int_int _ _ _ _))) ?_
        simp only [lEq, Bool.and_true]
        exact beq_lin
    | tup h' => exact eq_false_of (.list_tuple h h' hu0) (by omega)
    | dct _ h' => exact eq_false_of (eq_list_dict (IsList.ty h) (DctN.typeIs h') hu0) (by omega)
    | set h' => exact eq_false_of (eq_list_set (IsList.ty h) (SetI.typeIs h') hu0) (by omega)
    | str m u => exact eq_false_of (.list_str _ u h hu0) (by omega)
  | tup h =>
    rename_i a' n t
    cases hx with
    | int m u => exact eq_false_of (.tuple_int m u h hu0) (by omega)
    | bool v => exact eq_false_of (.tuple_bool v h hu0) (by cases v <;> omega)
    | lst h' => exact eq_false_of (.tuple_list h h' hu0) (by omega)
    | tup h' =>
      rename_i b' m u
      by_cases e : a' = b'
      · subst e
        refine eq_of_eq (.same _) ?_
        obtain ⟨o, ho, _, k, hd⟩ := h
        obtain ⟨o', ho', _, k', hd'⟩ := h'
        rw [ho] at ho'; cases ho'
        rw [hd] at hd'
        injection hd' with e1 _
        simp at e1
        rw [e1.1]; simp
      · refine eq_of_eq (EqAt.of_refs e (RcAt.tuples (e := fun _ => n == m) h h' hu0 (fun j h1 h2 => ?_))) ?_
        · have hj : j = 0 := by simp at h1; omega
          subst hj
          exact EqAt.int_int _ _ _ _
        · have : (List.range (min [Value.int n t].toArray.size [Value.int m u].toArray.size)).all (fun _ => n == m) = (n == m) := by
            show (List.range 1).all _ = _
            simp [List.range_succ]
          rw [this]
          show ((n == m) && true) = _
          rw [Bool.and_true]; exact beq_lin
    | dct _ h' => exact eq_false_of (eq_tuple_dict (IsTuple.ty h) (DctN.typeIs h') hu0) (by omega)
    | set h' => exact eq_false_of (eq_tuple_set (IsTuple.ty h) (SetI.typeIs h') hu0) (by omega)
    | str m u => exact eq_false_of (.tuple_str _ u h hu0) (by omega)
  | dct hs h =>
    rename_i a' n
    cases hx with
    | int m u => exact eq_false_of (eq_dict_int m u (DctN.at h) hu0) (by omega)
    | bool v => exact eq_false_of (eq_dict_bool v (DctN.at h) hu0) (by cases v <;> omega)
    | lst h' => exact eq_false_of (eq_dict_list (DctN.typeIs h) (IsList.ty h') hu0) (by omega)
    | tup h' => exact eq_false_of (eq_dict_tuple (DctN.typeIs h) (IsTuple.ty h') hu0) (by omega)
    | dct hs' h' =>
      rename_i b' m
      by_cases e : a' = b'
      · subst e
        refine eq_of_eq (.same _) ?_
        obtain ⟨o, ho, _, ep, t, u, hd⟩ := h
        obtain ⟨o', ho', _, ep', t', u', hd'⟩ := h'
        rw [ho] at ho'; cases ho'
        rw [hd] at hd'
        injection hd' with e1 _
        have e2 := congrArg Array.toList e1
        injection e2 with e3 _
        injection e3 with _ e4 _
        injection e4 with e5 _
        rw [e5]; simp
      · exact eq_of_eq (EqAt.of_refs e (rc_dicts h h' hs hs' hu0)) beq_lin
    | set h' => exact eq_false_of (eq_dict_set (DctN.typeIs h) (SetI.typeIs h') hu0) (by omega)
    | str m u => exact eq_false_of (eq_dict_str _ u (DctN.at h) hu0) (by omega)
  | set h =>
    rename_i a' n
    cases hx with
    | int m u => exact eq_false_of (eq_set_int m u (SetI.at h) hu0) (by omega)
    | bool v => exact eq_false_of (eq_set_bool v (SetI.at h) hu0) (by cases v <;> omega)
    | lst h' => exact eq_false_of (eq_set_list (SetI.typeIs h) (IsList.ty h') hu0) (by omega)
    | tup h' => exact eq_false_of (eq_set_tuple (SetI.typeIs h) (IsTuple.ty h') hu0) (by omega)
    | dct _ h' => exact eq_false_of (eq_set_dict (SetI.typeIs h) (DctN.typeIs h') hu0) (by omega)
    | set h' =>
      rename_i b' m
      by_cases e : a' = b'
      · subst e
        refine eq_of_eq (.same _) ?_
        obtain ⟨o, ho, _, es, ep, t, hd, _, _, us, hl, he⟩ := h
        obtain ⟨o', ho', _, es', ep', t', hd', _, _, us', hl', he'⟩ := h'
        rw [ho] at ho'; cases ho'
        rw [hd] at hd'
        injection hd' with e1 _
        rw [← e1, he] at he'
        match us, us', hl, hl' with
        | [u], [u'], _, _ =>
          injection he' with e2 _
          injection e2 with _ e3
          injection e3 with e4 _
          rw [e4]; simp
      · refine eq_of_eq (EqAt.of_refs e (rc_sets h h' hu0)) ?_
        have : (decide ([n].length = [m].length) && [n].all fun k => decide (k ∈ [m])) = (n == m) := by simp; rfl
        rw [this]; exact beq_lin
    | str m u => exact eq_false_of (eq_set_str _ u (SetI.at h) hu0) (by omega)
end
end Mine
open PySem.SeqAt
namespace Mine
section
variable {prog : Program} {w : World} {A : Around} {E : Value → Shared → Prop} {s s₁ : Shared} {L l : Addr} {b : List (Str × Value)} {H H' : List Ent} {env : Env}
theorem DctN.of {d : Addr} {n : Int} {u : Tok} {h : Heap} (hd : h.DictOf (intKind prog w) d [(n, .int n u)]) : ∃ o, h.get? d = some o ∧ DctN n o := by
  obtain ⟨o, es, ep, ho, hx, hdt, hk, hp, _⟩ := hd
  refine ⟨o, ho, hx, ep, ?_⟩
  obtain ⟨es⟩ := es
  cases hp with
  | cons h1 h2 h3 =>
    cases h3
    rename_i e
    obtain ⟨k, hk1, hk2⟩ := hk e (by simp)
    obtain ⟨t, ht⟩ := Value.isInt_shape hk1
    obtain ⟨t', ht'⟩ := Value.isInt_shape h1
    have hkn : k = n := (intKind prog w).inj _ _ _ hk1 h1
    obtain ⟨hh, key, val⟩ := e
    simp only at ht hk2 h2 ht'
    subst hkn h2 ht hk2
    exact ⟨t, u, hdt⟩
theorem ev_dict1 {kx vx : Expr} {pos : Pos} {n : Int} {t u : Tok} {Q : Value → Shared → Prop} (S : St s₁ L b H s) (hsys : sysModules < s.heap.objs.size)
    (hk : ∀ s' H' (E' : Value → Shared → Prop) (Q' : Value → Shared → Prop), St s₁ L b H' s' → Q' (.int n t) s' → wpAny (model prog w) A (eval kx env) Q' E' s')
    (hv : ∀ s' H' (E' : Value → Shared → Prop) (Q' : Value → Shared → Prop), St s₁ L b H' s' → Q' (.int n u) s' → wpAny (model prog w) A (eval vx env) Q' E' s')
    (h : ∀ s' d, (d == sysModules) = false → St s₁ L b ((d, DctN n) :: H) s' → Q (.ref d) s') : wpAny (model prog w) A (eval (.Dict [some kx] [vx] pos) env) Q E s := by
  refine wpAny_Dict_pairs (knd := intKind prog w) (pairs := [(eval kx env, (do let x ← eval vx env; standAt pos; pure x))]) rfl (by simp) (by simp) ?_
  have S1 : St s₁ L b ((s.heap.objs.size, Yes) :: H) { s with heap := s.heap.push { cls := .type "dict", data := .dict #[] } } := S.push (o := { cls := .type "dict", data := .dict #[] }) (P := Yes) trivial s.toks
  refine evalPairs_cons (hk _ _ _ _ S1 (wpAny_bind (hv _ _ _ _ S1 (wpAny_bind (wpAny_standAt (wpAny_pure (evalPairs_nil ?_)))))))
  refine ⟨[(n, .int n u)], ⟨by simp [intKind, Value.isInt], rfl, trivial⟩, ?_, fun h' hm hs => ?_⟩
  · exact ⟨_, #[], 0, Heap.get?_push_size _ rfl, ⟨rfl, rfl, rfl⟩, rfl, fun _ he => by simp at he, .nil, by simp⟩
  · refine h _ _ (beq_eq_false_iff_ne.mpr (Nat.ne_of_gt hsys)) (S1.step (P' := DctN n) _ ?_ fun c o hc e => (hs.2 c hc).trans e)
    exact DctN.of (u := u) (by simpa [merged, stored] using hm)
theorem SetI.of_setOf {d : Addr} {S : Int → Bool} {n : Nat} {h : Heap} (hd : h.SetOf (intKind prog w) d S n) : ∃ ks, (∃ o, h.get? d = some o ∧ SetI ks o) ∧ ks.length = n ∧ ∀ k, k ∈ ks ↔ S k = true := by
  obtain ⟨o, es, ep, t, ho, hx, hdt, hel, hS, hb, hf, hn⟩ := hd
  have key : ∀ l : List (Int × Value), ElemsOf (intKind prog w) l → ∃ ks us, us.length = ks.length ∧ l = List.zipWith (fun k u => (hashInt k, Value.int k u)) ks us ∧ (ks : List Int).length = l.length ∧ ∀ k, k ∈ ks ↔ ∃ e ∈ l, Value.isInt k e.2 = true := by
    intro l
    induction l with
    | nil => intro _; exact ⟨[], [], rfl, rfl, rfl, by simp⟩
    | cons e l ih =>
      intro hl
      obtain ⟨ks, us, h1, h2, h3, h4⟩ := ih hl.tail
      obtain ⟨⟨k, hk, hh⟩, _⟩ := hl.head
      obtain ⟨u, hu⟩ := Value.isInt_shape hk
      obtain ⟨eh, ev⟩ := e
      simp only at hu hh
      subst hu hh
      refine ⟨k :: ks, u :: us, by simp [h1], by rw [List.zipWith_cons_cons, ← h2]; rfl, by simp [h3], fun k' => ?_⟩
      constructor
      · intro hm
        rcases List.mem_cons.mp hm with rfl | hm
        · exact ⟨_, List.mem_cons_self .., by simp [Value.isInt]⟩
        · obtain ⟨e, he, hv⟩ := (h4 k').mp hm
          exact ⟨e, List.mem_cons_of_mem _ he, hv⟩
      · rintro ⟨e, he, hv⟩
        rcases List.mem_cons.mp he with rfl | he
        · obtain ⟨t', ht'⟩ := Value.isInt_shape hv
          injection ht' with e1 _
          exact List.mem_cons.mpr (Or.inl e1.symm)
        · exact List.mem_cons_of_mem _ ((h4 k').mpr ⟨e, he, hv⟩)
  obtain ⟨ks, us, h1, h2, h3, h4⟩ := key es.toList hel
  refine ⟨ks, ⟨o, ho, hx, es, ep, t, hdt, hb, hf, us, h1, h2⟩, ?_, fun k => ?_⟩
  · rw [h3, ← hn]; simp
  · rw [h4 k, hS k]; rfl
theorem ev_set1 {K : Frag} {vx : Expr} {pos : Pos} {n : Int} {t : Tok} {Q : Value → Shared → Prop} (S : St s₁ L b H s) (X : K.In s₁.heap) (hc : kdsCode K env.code = true) (hp : kdsPlain vx = true)
    (hv : ∀ s' H' (E' : Value → Shared → Prop) (Q' : Value → Shared → Prop), St s₁ L b H' s' → Q' (.int n t) s' → wpAny (model prog w) A (eval vx env) Q' E' s')
    (h : ∀ s' d, St s₁ L b ((d, SetI [n]) :: H) s' → Q (.ref d) s') : wpAny (model prog w) A (eval (.Set [vx] 0 pos) env) Q E s := by
  rw [arm_eval_Set]
  refine wpAny_bind (wpAny_standAt ?_)
  refine wpAny_bind (kds_main (X.keeps S.keep) hc fun bb => ?_)
  rw [kds_star [vx] (by simp [hp]), List.map_map]
  refine kds_core (ts := (evalEach [vx] env).map fun t => do let v ← t; standAt pos; pure v) rfl ?_ ?_ ?_ fun led => ?_
  · refine List.findIdx?_eq_none_iff.mpr fun x hx => ?_
    obtain ⟨t, _, rfl⟩ := List.mem_map.mp hx
    rfl
  · rw [List.length_map, kds_len]; simp
  · rw [List.map_map]; try rfl
  · have S1 : St s₁ L b ((s.heap.objs.size, Yes) :: H) { s with heap := s.heap.push { cls := .type "set", dict := none, data := .set #[] 0 (.fresh 0 0 led) } } := S.push (P := Yes) trivial s.toks
    refine kds_all pos [vx] _ _ (hv _ _ _ _ S1 ?_)
    refine kds_fill_cons ?_
    unfold setAdd
    refine wpAny_holding ?_
    refine wpAny_bind ((intKind prog w).pyHash (k := n) (by simp [intKind, Value.isInt]) ?_)
    refine wpAny_setAddHashed_of (knd := intKind prog w) (k := n) (S := fun _ => false) (n := 0) (by simp [intKind, Value.isInt]) rfl ?_ (by decide) fun h' hs hS => ?_
    · exact ⟨_, #[], 0, .fresh 0 0 led, Heap.get?_push_size _ rfl, ⟨rfl, rfl, rfl⟩, rfl, by intro e he; simp at he, by simp, by decide, by cases led <;> decide, rfl⟩
    refine kds_fill_nil rfl ?_
    refine h _ _ (S1.step (P' := SetI [n]) _ ?_ fun c o hc e => (hs.2 c hc).trans e)
    obtain ⟨ks, hks, hlen, hmem⟩ := SetI.of_setOf hS
    have : ks = [n] := by
      match ks, hlen with
      | [k], _ =>
        have := (hmem k).mp (by simp)
        simp at this
        rw [this]
    subst this
    exact hks
end
end Mine
open PySem.SeqAt
namespace Mine
/-- keys that are whole numbers or texts -/
def mixIs : Int ⊕ Str → Value → Bool
  | .inl n, v => Value.isInt n v
  | .inr x, v => Value.isStrOf x v
def mixKind (prog : Program) (w : World) : PySem.KeyKind prog w (Int ⊕ Str) where
  is := mixIs
  hash := fun k => match k with | .inl n => hashInt n | .inr x => hashStr w x
  inj := fun v a b ha hb => by
    cases a <;> cases b
    · rw [Value.isInt_inj v _ _ ha hb]
    · obtain ⟨t, rfl⟩ := Value.isInt_shape ha; exact absurd hb (by simp [mixIs, Value.isStrOf])
    · obtain ⟨t, rfl⟩ := Value.isStrOf_shape ha; exact absurd hb (by simp [mixIs, Value.isInt])
    · rw [Value.isStrOf_inj v _ _ ha hb]
  byValue := fun k v h => by
    cases k
    · obtain ⟨t, rfl⟩ := Value.isInt_shape h; rfl
    · obtain ⟨t, rfl⟩ := Value.isStrOf_shape h; rfl
  pyHash := @fun A E s k v Q hv h => by
    cases k
    · exact (intKind prog w).pyHash hv h
    · exact (PySem.strKind prog w).pyHash hv h
  eqBool := @fun A E s a b u v Q hu hv h => by
    cases a <;> cases b
    · exact (intKind prog w).eqBool hu hv (by simpa using h)
    · obtain ⟨t, rfl⟩ := Value.isInt_shape hu
      obtain ⟨t', rfl⟩ := Value.isStrOf_shape hv
      exact EqAt.int_str _ _ _ _ prog w E Q (by simpa using h)
    · obtain ⟨t, rfl⟩ := Value.isStrOf_shape hu
      obtain ⟨t', rfl⟩ := Value.isInt_shape hv
      exact EqAt.str_int _ _ _ _ prog w E Q (by simpa using h)
    · exact (PySem.strKind prog w).eqBool hu hv (by simpa using h)
  «strs» := fun k x t v h => by
    cases k
    · simp [mixIs, Value.isInt] at h
    · exact (PySem.strKind prog w).«strs» _ x t v h
/-- an object of this class -/
def Cls (T : String) (o : Obj) : Prop := o.cls = .type T
section
variable {prog : Program} {w : World} {A : Around} {E : Value → Shared → Prop} {s s₁ : Shared} {L l : Addr} {b : List (Str × Value)} {H H' : List Ent} {env : Env}
theorem DctN.mix {n : Int} {a : Addr} (h : ∃ o, s.heap.get? a = some o ∧ DctN n o) : ∃ u, s.heap.DictOf (mixKind prog w) a [(.inl n, .int n u)] := by
  obtain ⟨o, ho, hx, ep, t, u, hd⟩ := h
  refine ⟨u, o, _, ep, ho, hx, hd, ?_, ?_, by simp⟩
  · intro e he
    simp at he
    subst he
    exact ⟨.inl n, by simp [mixKind, mixIs, Value.isInt], rfl⟩
  · exact .cons (by simp [mixKind, mixIs, Value.isInt]) rfl .nil
theorem d_mark {n : Int} {d : Addr} {x : Str} {t : Tok} {v : Value} {Q : Unit → Shared → Prop} (S : St s₁ L b H s) (U : Upd d (DctN n) (Cls "dict") H H') (h : ∀ s', St s₁ L b H' s' → Q () s') : wpAny (model prog w) A (setItem (.ref d) (.str x t) v) Q E s := by
  obtain ⟨u, hd⟩ := DctN.mix (prog := prog) (w := w) (S.get U.mem)
  refine wpAny_setItem_pairs (knd := mixKind prog w) (k := .inr x) (by simp [mixKind, mixIs, Value.isStrOf]) hd (fun h' hm hs => ?_) (by simp [sizeLine_eq])
  exact h _ (S.upd U _ (fun c o hc e => (hs.2 c hc).trans e) (let ⟨o, es, ep, ho, hx, _⟩ := hm; ⟨o, ho, hx.1⟩))
theorem SetI.mix {n : Int} {a : Addr} (h : ∃ o, s.heap.get? a = some o ∧ SetI [n] o) : s.heap.SetOf (mixKind prog w) a (fun k => decide (k = .inl n)) 1 := by
  obtain ⟨o, ho, hx, es, ep, t, hd, hb, hf, us, hl, he⟩ := h
  match us, hl with
  | [u], _ =>
    have he' : es.toList = [(hashInt n, Value.int n u)] := he
    refine ⟨o, es, ep, t, ho, hx, hd, ?_, ?_, hb, hf, ?_⟩
    · rw [he']
      intro e hm
      simp at hm
      subst hm
      exact ⟨⟨.inl n, by simp [mixKind, mixIs, Value.isInt], rfl⟩, rfl⟩
    · intro k
      rw [he']
      constructor
      · intro hk
        have : k = .inl n := by simpa using hk
        subst this
        exact ⟨_, List.mem_singleton.mpr rfl, by simp [mixKind, mixIs, Value.isInt]⟩
      · rintro ⟨e, hm, hk⟩
        have := List.mem_singleton.mp hm
        subst this
        have := (mixKind prog w).inj (.int n u) k (.inl n) hk (by simp [mixKind, mixIs, Value.isInt])
        simpa using this
    · have := congrArg List.length he'
      simpa using this
theorem s_mark {n : Int} {d : Addr} {x : Str} {t : Tok} {Q : Value → Shared → Prop} (S : St s₁ L b H s) (U : Upd d (SetI [n]) (Cls "set") H H') (h : ∀ s', St s₁ L b H' s' → Q .none s') : wpAny (model prog w) A (call (.builtin "set.add") [.ref d, .str x t]) Q E s := by
  have hd := SetI.mix (prog := prog) (w := w) (S.get U.mem)
  refine call_set_add (knd := mixKind prog w) (k := .inr x) (by simp [mixKind, mixIs, Value.isStrOf]) rfl hd (by decide) fun h' hs hm => ?_
  exact h _ (S.upd U _ (fun c o hc e => (hs.2 c hc).trans e) (let ⟨o, es, ep, t, ho, hx, _⟩ := hm; ⟨o, ho, hx.1⟩))
theorem m_setadd {n : Int} {d : Addr} {pl : Sem Bool} {Q : Value × List Value → Shared → Prop} (S : St s₁ L b H s) (hm : (d, SetI [n]) ∈ H) (h : Q (.builtin "set.add", [.ref d]) s) : wpAny (model prog w) A (getMethod (.ref d) "add" pl) Q E s :=
  getMethod_set_add (SetI.mix (prog := prog) (w := w) (S.get hm)) h
end
/-- the items of law 09 -/
inductive It
  | int (n : Int) (t : Tok)
  | bool (v : Bool)
  | lst (a : Addr) (n : Int) (t : Tok)
  | tup (a : Addr) (n : Int) (t : Tok)
  | dct (a : Addr) (n : Int)
  | set (a : Addr) (n : Int)
  | str (n : Nat) (t : Tok)
def It.val : It → Value
  | .int n t => .int n t
  | .bool v => .bool v
  | .lst a _ _ => .ref a
  | .tup a _ _ => .ref a
  | .dct a _ => .ref a
  | .set a _ => .ref a
  | .str n t => .str (T [97 + n]) t
def It.ents : It → List Ent
  | .int _ _ => []
  | .bool _ => []
  | .lst a n t => [(a, Lst [.int n t])]
  | .tup a n t => [(a, Tup [.int n t])]
  | .dct a n => [(a, DctN n)]
  | .set a n => [(a, SetI [n])]
  | .str _ _ => []
def It.ents2 : It → List Ent
  | .int _ _ => []
  | .bool _ => []
  | .lst a _ _ => [(a, Cls "list")]
  | .tup a _ _ => [(a, Cls "tuple")]
  | .dct a _ => [(a, Cls "dict")]
  | .set a _ => [(a, Cls "set")]
  | .str _ _ => []
def It.code : It → Int
  | .int n _ => 7 * n
  | .bool v => 7 * (if v then 1 else 0)
  | .lst _ n _ => 7 * n + 2
  | .tup _ n _ => 7 * n + 3
  | .dct _ n => 7 * n + 4
  | .set _ n => 7 * n + 5
  | .str n _ => 7 * n + 6
def It.ok : It → Prop
  | .dct a _ => (a == sysModules) = false
  | _ => True
section
variable {prog : Program} {w : World} {A : Around} {E : Value → Shared → Prop} {s s₁ : Shared} {L l : Addr} {b : List (Str × Value)} {H H' : List Ent} {env : Env} {Q : Value → Shared → Prop}
theorem isi_heap {a : Addr} {U T : String} (S : St s₁ L b H s) (hc : ∃ o, s.heap.get? a = some o ∧ o.cls = .type U) (hU : U = "list" ∨ U = "tuple" ∨ U = "dict" ∨ U = "set") (hT : T = "list" ∨ T = "dict" ∨ T = "set" ∨ T = "bool")
    (h : ∀ s', St s₁ L b H s' → Q (.bool (U == T)) s') : wpAny (model prog w) A (call (.builtin "isinstance") [.ref a, .type T]) Q E s := by
  obtain ⟨o, ho, hcl⟩ := hc
  rcases hU with rfl | rfl | rfl | rfl <;> rcases hT with rfl | rfl | rfl | rfl
  · exact IsiPair.list_list ho hcl (h _ S)
  · exact IsiPair.list_dict ho hcl (h _ (S.tok _))
  · exact IsiPair.list_set ho hcl (h _ (S.tok _))
  · exact IsiPair.list_bool ho hcl (h _ (S.tok _))
  · exact IsiPair.tuple_list ho hcl (h _ (S.tok _))
  · exact IsiPair.tuple_dict ho hcl (h _ (S.tok _))
  · exact IsiPair.tuple_set ho hcl (h _ (S.tok _))
  · exact IsiPair.tuple_bool ho hcl (h _ (S.tok _))
  · exact IsiPair.dict_list ho hcl (h _ (S.tok _))
  · exact IsiPair.dict_dict ho hcl (h _ S)
  · exact IsiPair.dict_set ho hcl (h _ (S.tok _))
  · exact IsiPair.dict_bool ho hcl (h _ (S.tok _))
  · exact IsiPair.set_list ho hcl (h _ (S.tok _))
  · exact IsiPair.set_dict ho hcl (h _ (S.tok _))
  · exact IsiPair.set_set ho hcl (h _ S)
  · exact IsiPair.set_bool ho hcl (h _ (S.tok _))
theorem isi_int {n : Int} {t : Tok} {T : String} (S : St s₁ L b H s) (hT : T = "list" ∨ T = "dict" ∨ T = "set" ∨ T = "bool") (h : ∀ s', St s₁ L b H s' → Q (.bool false) s') : wpAny (model prog w) A (call (.builtin "isinstance") [.int n t, .type T]) Q E s := by
  rcases hT with rfl | rfl | rfl | rfl
  · exact IsiPair.int_list (h _ (S.tok _))
  · exact IsiPair.int_dict (h _ (S.tok _))
  · exact IsiPair.int_set (h _ (S.tok _))
  · exact IsiPair.int_bool (h _ (S.tok _))
theorem isi_str {n : Str} {t : Tok} {T : String} (S : St s₁ L b H s) (hT : T = "list" ∨ T = "dict" ∨ T = "set" ∨ T = "bool") (h : ∀ s', St s₁ L b H s' → Q (.bool false) s') : wpAny (model prog w) A (call (.builtin "isinstance") [.str n t, .type T]) Q E s := by
  rcases hT with rfl | rfl | rfl | rfl
  · exact IsiPair.str_list (h _ (S.tok _))
  · exact IsiPair.str_dict (h _ (S.tok _))
  · exact IsiPair.str_set (h _ (S.tok _))
  · exact IsiPair.str_bool (h _ (S.tok _))
theorem isi_bool {n : Bool} {T : String} (S : St s₁ L b H s) (hT : T = "list" ∨ T = "dict" ∨ T = "set" ∨ T = "bool") (h : ∀ s', St s₁ L b H s' → Q (.bool (T == "bool")) s') : wpAny (model prog w) A (call (.builtin "isinstance") [.bool n, .type T]) Q E s := by
  rcases hT with rfl | rfl | rfl | rfl
  · exact IsiPair.bool_list (h _ (S.tok _))
  · exact IsiPair.bool_dict (h _ (S.tok _))
  · exact IsiPair.bool_set (h _ (S.tok _))
  · exact IsiPair.bool_bool (h _ S)
end
end Mine
open PySem.SeqAt
namespace Mine
theorem It.isIt {x : It} {h : Heap} (hok : x.ok) (hx : ∀ e ∈ x.ents, ∃ o, h.get? e.1 = some o ∧ e.2 o) : IsIt h x.val x.code := by
  cases x with
  | int n t => exact .int n t
  | bool v => exact .bool v
  | str n t => exact .str n t
  | lst a n t => exact .lst (t := t) (Lst.isList (hx _ (List.mem_singleton.mpr rfl)))
  | tup a n t => exact .tup (t := t) (Tup.isTup (hx _ (List.mem_singleton.mpr rfl)))
  | dct a n => exact .dct hok (hx _ (List.mem_singleton.mpr rfl))
  | set a n => exact .set (hx _ (List.mem_singleton.mpr rfl))
def RefIt (o : Obj) (c : Int) : Prop :=
  (o.cls = .type "list" ∧ ∃ n t k, o.data = .seq [Value.int n t].toArray k ∧ c = 7 * n + 2) ∨ (o.cls = .type "tuple" ∧ ∃ n t k, o.data = .seq [Value.int n t].toArray k ∧ c = 7 * n + 3) ∨
  (o.cls = .type "dict" ∧ ∃ n ep t u, o.data = .dict #[⟨hashInt n, .int n t, .int n u⟩] ep ∧ c = 7 * n + 4) ∨ (o.cls = .type "set" ∧ ∃ n es ep t u, o.data = .set es ep t ∧ es.toList = [(hashInt n, Value.int n u)] ∧ c = 7 * n + 5)
theorem IsIt.ref {h : Heap} {a : Addr} {c : Int} (H : IsIt h (.ref a) c) : ∃ o, h.get? a = some o ∧ RefIt o c := by
  cases H with
  | lst h => obtain ⟨o, ho, hc, k, hd⟩ := h; exact ⟨o, ho, Or.inl ⟨hc, _, _, k, hd, rfl⟩⟩
  | tup h => obtain ⟨o, ho, hc, k, hd⟩ := h; exact ⟨o, ho, Or.inr (Or.inl ⟨hc, _, _, k, hd, rfl⟩)⟩
  | dct _ h => obtain ⟨o, ho, hx, ep, t, u, hd⟩ := h; exact ⟨o, ho, Or.inr (Or.inr (Or.inl ⟨hx.1, _, ep, t, u, hd, rfl⟩))⟩
  | set h =>
    obtain ⟨o, ho, hx, es, ep, t, hd, _, _, us, hl, he⟩ := h
    match us, hl with
    | [u], _ => exact ⟨o, ho, Or.inr (Or.inr (Or.inr ⟨hx.1, _, es, ep, t, u, hd, he, rfl⟩))⟩
theorem cls_ne {o : Obj} {T U : String} {P : Prop} (h1 : o.cls = .type T) (h2 : o.cls = .type U) (hn : T ≠ U) : P := by
  rw [h1] at h2; injection h2 with e; exact absurd e hn
theorem RefIt.uniq {o : Obj} {c d : Int} (h1 : RefIt o c) (h2 : RefIt o d) : c = d := by
  rcases h1 with ⟨c1, n, t, k, e1, rfl⟩ | ⟨c1, n, t, k, e1, rfl⟩ | ⟨c1, n, ep, t, u, e1, rfl⟩ | ⟨c1, n, es, ep, t, u, e1, e1', rfl⟩ <;>
  rcases h2 with ⟨c2, m, t', k', e2, rfl⟩ | ⟨c2, m, t', k', e2, rfl⟩ | ⟨c2, m, ep', t', u', e2, rfl⟩ | ⟨c2, m, es', ep', t', u', e2, e2', rfl⟩ <;>
  first
  | exact cls_ne c1 c2 (by decide)
  | (rw [e1] at e2
     injection e2 with e3 _
     first
     | (have e4 := congrArg Array.toList e3
        first
        | (rw [e1', e2'] at e4; injection e4 with e5 _; injection e5 with _ e6; injection e6 with e7 _; rw [e7])
        | (injection e4 with e5 _; injection e5 with e6 _; rw [e6])
        | (injection e4 with e5 _; injection e5 with _ e6 _; injection e6 with e7 _; rw [e7])))
theorem IsIt.uniq {h : Heap} {v : Value} {c d : Int} (h1 : IsIt h v c) (h2 : IsIt h v d) : c = d := by
  cases v with
  | ref a =>
    obtain ⟨o, ho, r1⟩ := h1.ref
    obtain ⟨o', ho', r2⟩ := h2.ref
    rw [ho] at ho'; cases ho'
    exact r1.uniq r2
  | int n t => cases h1; cases h2; rfl
  | bool b => cases h1; cases h2; rfl
  | str x t =>
    generalize hx : Value.str x t = v at h1 h2
    cases h1 with
    | str n _ =>
      generalize hy : Value.str (T [97 + n]) _ = v' at h2
      cases h2 with
      | str m _ =>
        injection hy with e _
        have := T_inj e
        simp at this
        subst this
        rfl
      | _ => cases hy
    | _ => cases hx
  | _ => cases h1
/-- a look into a table -/
def look (ps : List (Value × Int)) (v : Value) : Int := ((ps.find? fun p => p.1 == v).map (·.2)).getD 0
theorem look_mem {ps : List (Value × Int)} (hf : ∀ p ∈ ps, ∀ q ∈ ps, p.1 = q.1 → p.2 = q.2) {p : Value × Int} (hp : p ∈ ps) : look ps p.1 = p.2 := by
  unfold look
  cases h : ps.find? fun q => q.1 == p.1 with
  | none =>
    have := List.find?_eq_none.mp h p hp
    simp at this
  | some q =>
    have h1 := List.mem_of_find?_eq_some h
    have h2 := List.find?_some h
    simp only [Option.map_some, Option.getD_some]
    exact hf q h1 p hp (eq_of_beq h2)
/-! ### the class tuples -/
structure Ct where
  a : Addr
  i : Int
  m : Int
  ti : Tok
  tm : Tok
def Ct.val (c : Ct) : Value := .ref c.a
def Ct.ent (c : Ct) : Ent := (c.a, Tup [.int c.i c.ti, .int c.m c.tm])
def Ct.code (c : Ct) : Int := 7 * c.m + c.i
def Ct.ok (c : Ct) : Prop := 0 ≤ c.i ∧ c.i < 7
theorem Ct.same {h : Heap} {x y : Ct} (hx : ∃ o, h.get? x.a = some o ∧ Tup [.int x.i x.ti, .int x.m x.tm] o) (hy : ∃ o, h.get? y.a = some o ∧ Tup [.int y.i y.ti, .int y.m y.tm] o) (e : x.a = y.a) : x.code = y.code := by
  obtain ⟨o, ho, _, _, _, k, hd⟩ := hx
  obtain ⟨o', ho', _, _, _, k', hd'⟩ := hy
  rw [e] at ho
  rw [ho] at ho'; cases ho'
  rw [hd] at hd'
  injection hd' with e1 _
  have e2 := congrArg Array.toList e1
  injection e2 with e3 e4
  injection e3 with e5 _
  injection e4 with e6 _
  injection e6 with e7 _
  unfold Ct.code
  rw [e5, e7]
section
variable {prog : Program} {w : World} {A : Around} {E : Value → Shared → Prop} {s s₁ : Shared} {L l : Addr} {b : List (Str × Value)} {H H' : List Ent} {env : Env} {Q : Value → Shared → Prop}
theorem eq_ct {x y : Ct} (hx : ∃ o, s.heap.get? x.a = some o ∧ Tup [.int x.i x.ti, .int x.m x.tm] o) (hy : ∃ o, s.heap.get? y.a = some o ∧ Tup [.int y.i y.ti, .int y.m y.tm] o) (ox : x.ok) (oy : y.ok) (hu : A.units + 2 < cLine) : EqAt A s y.val x.val (y.code == x.code) := by
  by_cases e : y.a = x.a
  · have := Ct.same hy hx e
    rw [this]
    have hv : y.val = x.val := by unfold Ct.val; rw [e]
    rw [hv]
    simpa using (EqAt.same x.val : EqAt A s _ _ true)
  · have := EqAt.of_refs e (RcAt.tuples (A := A) (e := fun j => if j = 0 then y.i == x.i else y.m == x.m) (Tup.isTup hy) (Tup.isTup hx) (by omega) (fun j h1 h2 => by
      match j with
      | 0 => exact EqAt.int_int _ _ _ _
      | 1 => exact EqAt.int_int _ _ _ _
      | j + 2 => exact absurd h1 (by simp)))
    have e2 : ((List.range (min [Value.int y.i y.ti, .int y.m y.tm].toArray.size [Value.int x.i x.ti, .int x.m x.tm].toArray.size)).all (fun j => if j = 0 then y.i == x.i else y.m == x.m) && [Value.int y.i y.ti, .int y.m y.tm].toArray.size == [Value.int x.i x.ti, .int x.m x.tm].toArray.size) = (y.code == x.code) := by
      have : min [Value.int y.i y.ti, .int y.m y.tm].toArray.size [Value.int x.i x.ti, .int x.m x.tm].toArray.size = 2 := rfl
      rw [this]
      have e3 : ([Value.int y.i y.ti, .int y.m y.tm].toArray.size == [Value.int x.i x.ti, .int x.m x.tm].toArray.size) = true := rfl
      rw [e3, Bool.and_true]
      simp only [List.range_succ, List.range_zero, List.nil_append, List.all_append, List.all_cons, List.all_nil, Bool.and_true, if_true, show (1 : Nat) ≠ 0 by decide, if_false]
      obtain ⟨h1, h2⟩ := ox
      obtain ⟨h3, h4⟩ := oy
      unfold Ct.code
      rw [Bool.eq_iff_iff]
      simp only [Bool.and_eq_true, beq_iff_eq]
      omega
    rw [e2] at this
    exact this
/-- a count in a list of class tuples -/
theorem c_count {cs : List Ct} {x : Ct} (S : St s₁ L b H s) (hl : (l, Lst (cs.map Ct.val)) ∈ H) (hcs : ∀ c ∈ cs, c.ent ∈ H ∧ c.ok) (hx : x.ent ∈ H ∧ x.ok) (hu : A.units + 8 < cLine)
    (h : ∀ s' t', St s₁ L b H s' → Q (.int ((cs.map Ct.code).count x.code : Nat) t') s') : wpAny (model prog w) A (call (.builtin "list.count") [.ref l, x.val]) Q E s := by
  have hf : ∀ p ∈ cs.map (fun c => (c.val, c.code)), ∀ q ∈ cs.map (fun c => (c.val, c.code)), p.1 = q.1 → p.2 = q.2 := by
    intro p hp q hq e
    obtain ⟨c, hc, rfl⟩ := List.mem_map.mp hp
    obtain ⟨d, hd, rfl⟩ := List.mem_map.mp hq
    injection e with e
    exact Ct.same (S.get (hcs c hc).1) (S.get (hcs d hd).1) e
  have hlk : ∀ c ∈ cs, look (cs.map fun c => (c.val, c.code)) c.val = c.code := fun c hc => look_mem hf (p := (c.val, c.code)) (List.mem_map.mpr ⟨c, hc, rfl⟩)
  refine l_count (fun v => look (cs.map fun c => (c.val, c.code)) v == x.code) S hl (fun y hy => ?_) ?_
  · obtain ⟨c, hc, rfl⟩ := List.mem_map.mp hy
    rw [hlk c hc]
    exact eq_ct (S.get hx.1) (S.get (hcs c hc).1) hx.2 (hcs c hc).2 (by simp only [Around.in1_units]; omega)
  · intro s' t' S'
    have : (cs.map Ct.val).countP (fun v => look (cs.map fun c => (c.val, c.code)) v == x.code) = (cs.map Ct.code).count x.code := by
      rw [List.count, List.countP_map, List.countP_map]
      refine List.countP_congr fun c hc => ?_
      simp only [Function.comp, hlk c hc]
    rw [this]
    exact h s' t' S'
end
end Mine
namespace Mine
open_top hd09 for PySem.Challenge.rw_dn0232_09
end Mine
local macro_rules | `(tactic| walk_at "size") => `(tactic| first | assumption | (simp only [sizeLine_eq, List.length_append, List.length_cons, List.length_nil]; omega) | (simp only [sizeLine_eq, List.length_append, List.length_cons, List.length_nil] at *; omega))
local macro_rules | `(tactic| walk_at "mem") => `(tactic| (first | assumption | exact List.mem_cons_self .. | (refine List.mem_cons_of_mem _ ?_; walk_at "mem")))
local macro_rules | `(tactic| walk_at "isat") => `(tactic| first | exact Or.inr (by assumption) | exact Or.inl (by walk_at "mem"))
local macro_rules | `(tactic| walk_at "upd") => `(tactic| (first | exact Mine.Upd.head _ | (apply Mine.Upd.tail; walk_at "upd")))
local macro_rules | `(tactic| walk_at "eval Name") => `(tactic| ((rename Mine.St _ _ _ _ _ => wS); first
  | (refine Mine.nm_L wS (by with_unfolding_all rfl) (by with_unfolding_all rfl) ?_ (by with_unfolding_all rfl) (by with_unfolding_all rfl) (by with_unfolding_all decide))
  | (refine Mine.nm_K wS (by assumption) (by assumption) (by with_unfolding_all rfl) (by with_unfolding_all rfl) ?_ (by with_unfolding_all rfl) (by with_unfolding_all rfl) (by with_unfolding_all decide))
  | (refine Mine.nm_B wS (by assumption) (by assumption) (by with_unfolding_all rfl) (by with_unfolding_all rfl) (by first | reg3_boot | boot_fact | boot_fast) ?_ (by with_unfolding_all decide) (by with_unfolding_all rfl) (by with_unfolding_all rfl) (by with_unfolding_all rfl) (by with_unfolding_all decide))
  | (refine Mine.nm_C wS (by with_unfolding_all rfl) (by with_unfolding_all rfl) (by walk_at "mem") ?_ (by with_unfolding_all rfl) (by with_unfolding_all decide))))
local macro_rules | `(tactic| walk_at "loadName") => `(tactic| ((rename Mine.St _ _ _ _ _ => wS); first
  | (refine Mine.ld_L wS (by with_unfolding_all rfl) ?_ (by with_unfolding_all rfl) (by with_unfolding_all rfl) (by with_unfolding_all rfl))
  | (refine Mine.ld_C wS (by with_unfolding_all rfl) (by with_unfolding_all rfl) (by walk_at "mem") ?_ (by with_unfolding_all rfl))))
local macro_rules | `(tactic| walk_at "storeName") => `(tactic| ((rename Mine.St _ _ _ _ _ => wS); first
  | (refine Mine.st_L wS (by with_unfolding_all rfl) ?_ (by with_unfolding_all rfl) (by with_unfolding_all rfl); clear wS; intro _ _)
  | (refine Mine.st_C wS (by with_unfolding_all rfl) (by with_unfolding_all rfl) (by walk_at "upd") ?_ (by with_unfolding_all rfl); clear wS; intro _ _)))
local macro_rules | `(tactic| walk_at "eval Constant int") => `(tactic| ((rename Mine.St _ _ _ _ _ => wS); refine Mine.c_int wS ?_; clear wS; intro _ _ _))
local macro_rules | `(tactic| walk_at "eval Constant str") => `(tactic| ((rename Mine.St _ _ _ _ _ => wS); refine Mine.c_tx wS ?_; clear wS; intro _ _ _))
local macro_rules | `(tactic| walk_at "binaryOp Add int int") => `(tactic| ((rename Mine.St _ _ _ _ _ => wS); refine Mine.i_add wS ?_; clear wS; intro _ _ _))
local macro_rules | `(tactic| walk_at "inplaceOp Add int int") => `(tactic| ((rename Mine.St _ _ _ _ _ => wS); refine Mine.i_iadd wS ?_; clear wS; intro _ _ _))
local macro_rules | `(tactic| walk_at "binaryOp Sub int int") => `(tactic| ((rename Mine.St _ _ _ _ _ => wS); refine Mine.i_sub wS ?_; clear wS; intro _ _ _))
local macro_rules | `(tactic| walk_at "binaryOp Mod int int") => `(tactic| ((rename Mine.St _ _ _ _ _ => wS); refine Mine.i_mod wS (by first | decide | omega) ?_; clear wS; intro _ _ _))
local macro_rules | `(tactic| walk_at "compareOp Gt int int") => `(tactic| (refine Mine.i_gt ?_))
local macro_rules | `(tactic| walk_at "compareOp Lt int int") => `(tactic| (refine Mine.i_lt ?_))
local macro_rules | `(tactic| walk_at "compareOp Eq int int") => `(tactic| (refine Mine.i_eq ?_))
local macro_rules | `(tactic| walk_at "compareOp NotEq int int") => `(tactic| (refine Mine.i_ne ?_))
local macro_rules | `(tactic| walk_at "call builtin:len cons nil") => `(tactic| ((rename Mine.St _ _ _ _ _ => wS); k_dflt first
  | (refine Mine.t_len wS (by walk_at "size") ?_; clear wS; intro _ _ _)
  | (refine Mine.c_lenL wS (by walk_at "isat") (by walk_at "size") ?_; clear wS; intro _ _ _)))
local macro_rules | `(tactic| walk_at "eval Slice") => `(tactic| (refine Mine.ev_slice ?_))
local macro_rules | `(tactic| walk_at "evalPart") => `(tactic| first | (refine Mine.ep_some ?_) | (refine Mine.ep_none ?_))
local macro_rules | `(tactic| walk_at "newTuple") => `(tactic| ((rename Mine.St _ _ _ _ _ => wS); refine Mine.new_tuple wS (by simp [sizeLine_eq]) ?_; clear wS; intro _ _ _))
local macro_rules | `(tactic| walk_at "newList") => `(tactic| ((rename Mine.St _ _ _ _ _ => wS); refine Mine.new_list wS (by simp [sizeLine_eq]) ?_; clear wS; intro _ _ _))
local macro_rules | `(tactic| walk_at "SliceEnd") => `(tactic| ((rename Mine.St _ _ _ _ _ => wS); (first | refine Mine.slice_end wS Mine.slc_ss ?_ | refine Mine.slice_end wS Mine.slc_sn ?_ | refine Mine.slice_end wS Mine.slc_ns ?_ | refine Mine.slice_end wS Mine.slc_nn ?_); clear wS; intro _ _ _))
local macro_rules | `(tactic| walk_at "subscriptTail") => `(tactic| ((with_reducible show wpAny _ _ (subscriptTail _ _ (Value.str _ _) (Value.ref _)) _ _ _); (rename Mine.St _ _ _ _ _ => wS); k_dflt (refine Mine.t_slice wS (by walk_at "size") ?_ (by with_unfolding_all rfl) (by intro _; with_unfolding_all rfl)); clear wS; intro _ _ _))
local macro_rules | `(tactic| walk_at "binaryOp Mod str ref") => `(tactic| ((rename Mine.St _ _ _ _ _ => wS); k_dflt (refine Mine.t_fmt wS (by decide +kernel) (by omega) (by omega) (by omega) (by omega) ?_); clear wS; intro _ _ _))
local macro_rules | `(tactic| walk_at "eval ListComp") => `(tactic| (refine Mine.ev_comp (by first | exact closureFor_none (by with_unfolding_all decide) | with_unfolding_all rfl) (by with_unfolding_all rfl) (by with_unfolding_all decide) ?_ (by intro _; with_unfolding_all rfl)))
local macro_rules | `(tactic| walk_at "exec Assign cons ListComp") => `(tactic| (refine Mine.ex_comp (by with_unfolding_all rfl) (by first | exact closureFor_none (by with_unfolding_all decide) | with_unfolding_all rfl) (by with_unfolding_all rfl) (by with_unfolding_all decide) ?_ (by intro _; with_unfolding_all rfl)))
local macro_rules | `(tactic| walk_at "exec For") => `(tactic| (refine Mine.ex_for ?_ (by intro _; with_unfolding_all rfl)))
local macro_rules | `(tactic| walk_at "binaryOp FloorDiv int int") => `(tactic| ((rename Mine.St _ _ _ _ _ => wS); refine Mine.i_fdiv wS (by first | decide | omega) (by first | decide | omega) ?_; clear wS; intro _ _ _))
local macro_rules | `(tactic| walk_at "binaryOp Mult int int") => `(tactic| ((rename Mine.St _ _ _ _ _ => wS); first | (refine Mine.i_mulR wS (by decide +kernel) ?_; clear wS; intro _ _ _) | (refine Mine.i_mulL wS (by decide +kernel) ?_; clear wS; intro _ _ _)))
local macro_rules | `(tactic| walk_at "unaryOp USub int") => `(tactic| ((rename Mine.St _ _ _ _ _ => wS); refine Mine.i_neg wS ?_; clear wS; intro _ _ _))
local macro_rules | `(tactic| walk_at "compareOp LtE int int") => `(tactic| (refine Mine.i_le ?_))
local macro_rules | `(tactic| walk_at "compareOp GtE int int") => `(tactic| (refine Mine.i_ge ?_))
local macro_rules | `(tactic| walk_at "compareOp Eq str str") => `(tactic| (refine Mine.t_eq ?_))
local macro_rules | `(tactic| walk_at "compareOp NotEq str str") => `(tactic| (refine Mine.t_ne ?_))
local macro_rules | `(tactic| walk_at "binaryOp Add str str") => `(tactic| ((rename Mine.St _ _ _ _ _ => wS); refine Mine.t_add wS (by walk_at "size") ?_; clear wS; intro _ _ _))
local macro_rules | `(tactic| walk_at "inplaceOp Add str str") => `(tactic| ((rename Mine.St _ _ _ _ _ => wS); refine Mine.t_iadd wS (by walk_at "size") ?_; clear wS; intro _ _ _))
local macro_rules | `(tactic| walk_at "call builtin:chr") => `(tactic| ((rename Mine.St _ _ _ _ _ => wS); refine Mine.c_chr wS (by omega) (by omega) ?_; clear wS; intro _ _ _))
local macro_rules | `(tactic| walk_at "call builtin:sum") => `(tactic| ((rename Mine.St _ _ _ _ _ => wS); refine Mine.c_sum wS (by assumption) (by walk_at "isat") (by assumption) ?_; clear wS; intro _ _ _))
local macro_rules | `(tactic| walk_at "call builtin:str.join") => `(tactic| ((rename Mine.St _ _ _ _ _ => wS); refine Mine.c_join wS (by walk_at "isat") (by assumption) (by with_unfolding_all rfl) (by walk_at "size") ?_; clear wS; intro _ _ _))
local macro_rules | `(tactic| walk_at "unpackItems ref") => `(tactic| ((rename Mine.St _ _ _ _ _ => wS); refine Mine.unpack_tup wS (by assumption) (by with_unfolding_all rfl) ?_; clear wS; intro _ _))
local macro_rules | `(tactic| walk_at "call builtin:list.append") => `(tactic| ((rename Mine.St _ _ _ _ _ => wS); k_dflt (refine Mine.l_append wS (by walk_at "upd") (by walk_at "size") ?_); clear wS; intro _ _))
local macro_rules | `(tactic| walk_at "Ready") => `(tactic| ((rename Mine.St _ _ _ _ _ => wS); refine Mine.Ready.mk' (by assumption) wS ?_))
local macro_rules | `(tactic| walk_at "callWith ref") => `(tactic| (refine Mine.callWith_fn (by assumption) (by with_unfolding_all rfl) ?_ (by with_unfolding_all rfl) (by with_unfolding_all rfl)))
local macro_rules | `(tactic| walk_at "call type:range") => `(tactic| ((rename Mine.St _ _ _ _ _ => wS); (first | refine Mine.c_range1 wS ?_ | refine Mine.c_range2 wS ?_); clear wS; intro _ _ _))
local macro_rules | `(tactic| walk_at "assign Tuple") => `(tactic| ((rename Mine.St _ _ _ _ _ => wS); refine Mine.as_tup wS (by walk_at "mem") (by assumption) (by with_unfolding_all rfl) (by with_unfolding_all rfl) ?_; clear wS; intro _ _))
local macro_rules | `(tactic| walk_at "compareOp NotEq ref ref") => `(tactic| ((rename Mine.St _ _ _ _ _ => wS); first
  | (refine Mine.l_neInts wS (by walk_at "isat") (by walk_at "isat") (by first | assumption | exact PyProof.Rows.IntsAre.nil) (by first | assumption | exact PyProof.Rows.IntsAre.nil) (by assumption) ?_)
  | (refine Mine.l_neTx wS (by walk_at "isat") (by walk_at "isat") (by first | assumption | exact Mine.TxAre.nil) (by first | assumption | exact Mine.TxAre.nil) (by omega) ?_)))
local macro_rules | `(tactic| walk_at "compareOp Eq ref ref") => `(tactic| ((rename Mine.St _ _ _ _ _ => wS); first
  | (refine Mine.l_eqInts wS (by walk_at "isat") (by walk_at "isat") (by first | assumption | exact PyProof.Rows.IntsAre.nil) (by first | assumption | exact PyProof.Rows.IntsAre.nil) (by assumption) ?_)
  | (refine Mine.l_eqTx wS (by walk_at "isat") (by walk_at "isat") (by first | assumption | exact Mine.TxAre.nil) (by first | assumption | exact Mine.TxAre.nil) (by omega) ?_)))
local macro_rules | `(tactic| walk_at "call type:str") => `(tactic| ((rename Mine.St _ _ _ _ _ => wS); refine Mine.c_strInt wS (by first | assumption | exact Mine.log2_small (by omega)) ?_; clear wS; intro _ _ _))
local macro_rules | `(tactic| walk_at "call builtin:max cons cons") => `(tactic| ((rename Mine.St _ _ _ _ _ => wS); refine Mine.c_max2 wS (by assumption) ?_; clear wS; intro _ _ _))
local macro_rules | `(tactic| walk_at "call builtin:max") => `(tactic| ((rename Mine.St _ _ _ _ _ => wS); refine Mine.c_max2 wS (by assumption) ?_; clear wS; intro _ _ _))
local macro_rules | `(tactic| walk_at "call builtin:min") => `(tactic| ((rename Mine.St _ _ _ _ _ => wS); refine Mine.c_min2 wS (by assumption) ?_; clear wS; intro _ _ _))
local macro_rules | `(tactic| walk_at "binaryOp Add ref ref") => `(tactic| ((rename Mine.St _ _ _ _ _ => wS); refine Mine.l_add wS (by walk_at "mem") (by walk_at "mem") (by walk_at "size") ?_; clear wS; intro _ _ _))
local macro_rules | `(tactic| walk_at "subscriptTail") => `(tactic| ((with_reducible show wpAny _ _ (subscriptTail _ _ (Value.ref _) (Value.ref _)) _ _ _); (rename Mine.St _ _ _ _ _ => wS); k_dflt (refine Mine.l_slice wS (by walk_at "isat") (by walk_at "size") ?_ (by with_unfolding_all rfl)); clear wS; intro _ _ _))
local macro_rules | `(tactic| walk_at "tree") => `(tactic| first | (with_reducible show wpAny _ _ _ _ _ _) | (with_reducible show Mine.SliceEnd _ _ _ _) | (with_reducible show Mine.Ready _ _ _) | (with_reducible show @ite Prop _ _ _ _))
local macro_rules | `(tactic| walk_at "go") => `(tactic| repeat' ((try dsimp only); walk_at "tree"; walk1))
local macro_rules | `(tactic| walk_at "in") => `(tactic| repeat' ((try dsimp only); walk_at "tree"; (fail_if_success (with_reducible show wpAny _ _ (execs _ _) _ _ _)); walk1))
local macro_rules | `(tactic| walk_at "one") => `(tactic| ((try dsimp only); refine wpAny_execs_cons ?_; walk_at "in"))
local macro_rules | `(tactic| walk_at "sub") => `(tactic| first | exact List.Sublist.refl _ | exact List.Sublist.slnil | exact List.nil_sublist _ | (apply List.Sublist.cons_cons; walk_at "sub") | (apply List.Sublist.cons; walk_at "sub"))
local macro_rules | `(tactic| walk_at "bind") => `(tactic| first | exact Mine.Sub.nil _ | (refine Mine.Sub.cons (by with_unfolding_all rfl) ?_; walk_at "bind"))
local macro_rules | `(tactic| walk_at "subscriptTail") => `(tactic| ((with_reducible show wpAny _ _ (subscriptTail _ _ (Value.ref _) (Value.int _ _)) _ _ _); (rename Mine.St _ _ _ _ _ => wS); k_dflt first
  | (refine Mine.l_item wS (by walk_at "isat") (by omega) (by omega) (by assumption) ?_ (by with_unfolding_all rfl))
  | (refine Mine.l_last wS (by walk_at "isat") (by omega) (by omega) (by walk_at "size") (by assumption) ?_ (by with_unfolding_all rfl))))
local macro_rules | `(tactic| walk_at "subscriptTail") => `(tactic| ((with_reducible show wpAny _ _ (subscriptTail _ _ (Value.str _ _) (Value.int _ _)) _ _ _); (rename Mine.St _ _ _ _ _ => wS); k_dflt (refine Mine.t_item wS (by omega) (by omega) (by assumption) ?_ (by with_unfolding_all rfl)); clear wS; intro _ _ _))
local macro_rules | `(tactic| walk_at "truthy ref") => `(tactic| ((rename Mine.St _ _ _ _ _ => wS); k_dflt (refine Mine.l_truth wS (by walk_at "isat") (by walk_at "size") ?_); clear wS; intro _ _))
local macro_rules | `(tactic| walk_at "call builtin:list.pop") => `(tactic| ((rename Mine.St _ _ _ _ _ => wS); k_dflt (refine Mine.l_pop wS (by walk_at "upd") (by walk_at "size") ?_); clear wS; intro _ _))
local macro_rules | `(tactic| walk_at "call builtin:list.extend") => `(tactic| ((rename Mine.St _ _ _ _ _ => wS); k_dflt (refine Mine.l_extend wS (by walk_at "mem") (by walk_at "upd") (by walk_at "size") ?_); clear wS; intro _ _))
local macro_rules | `(tactic| walk_at "getMethod ref") => `(tactic| ((rename Mine.St _ _ _ _ _ => wS); first
  | ((with_reducible show wpAny _ _ (getMethod _ (Str.ofString "append") _) _ _ _); k_dflt (refine Mine.m_append wS (by walk_at "mem") ?_))
  | ((with_reducible show wpAny _ _ (getMethod _ (Str.ofString "pop") _) _ _ _); k_dflt (refine Mine.m_list (name := "pop") wS (by walk_at "isat") PySem.F.slot_list_pop PySem.F.type_list_pop (by walk_at "mem") ?_))
  | ((with_reducible show wpAny _ _ (getMethod _ (Str.ofString "remove") _) _ _ _); k_dflt (refine Mine.m_list (name := "remove") wS (by walk_at "isat") PySem.F.slot_list_remove PySem.F.type_list_remove (by walk_at "mem") ?_))
  | ((with_reducible show wpAny _ _ (getMethod _ (Str.ofString "extend") _) _ _ _); k_dflt (refine Mine.m_list (name := "extend") wS (by walk_at "isat") PySem.F.slot_list_extend PySem.F.type_list_extend (by walk_at "mem") ?_))
  | ((with_reducible show wpAny _ _ (getMethod _ (Str.ofString "count") _) _ _ _); k_dflt (refine Mine.m_list (name := "count") wS (by walk_at "isat") PySem.F.slot_list_count PySem.F.type_list_count (by walk_at "mem") ?_))))
local macro_rules | `(tactic| walk_at "binaryOp Mult ref int") => `(tactic| ((rename Mine.St _ _ _ _ _ => wS); refine Mine.l_mul wS (by walk_at "mem") (by omega) (by omega) (by simp only [List.length_cons, List.length_nil]; omega) ?_; clear wS; intro _ _ _))
local macro_rules | `(tactic| walk_at "call type:range") => `(tactic| ((rename Mine.St _ _ _ _ _ => wS); (first | refine Mine.c_range1 wS ?_ | refine Mine.c_range2 wS ?_ | refine Mine.c_rangeD wS (by omega) (by omega) (by omega) (by omega) ?_); clear wS; intro _ _ _))
namespace Mine
section
variable {w : World} {p : Program} {loose : List Str} {mg mb : Str → Option Value} {A : Around} {E : Value → Shared → Prop} {s s₁ : Shared} {L l a : Addr} {b : List (Str × Value)} {H : List Ent} {Q : Value → Shared → Prop}
theorem uldD_spec {vs us : List Value} {fs : List Env} (e : Value → Value → Bool) (X : (hd09.heap_39 w.params).In s₁.heap) (TR : TopRead p loose mg mb s₁.heap) (S : St s₁ L b ((l, Lst vs) :: (a, Lst us) :: H) s) (hroom : A.depth < recursionLimit)
    (hh : A.handled = none) (hfr : A.frames = some fs) (hF : ∀ env ∈ fs, env.scope.kind ≠ .module ∧ ∃ F, env.frame = some F ∧ (F = L ∨ ∃ b, (F, Frm b) ∈ H))
    (hl : vs.length ≤ 100000) (hl2 : us.length ≤ 100000) (he : ∀ env s', (∀ p ∈ H, ∃ o, s'.heap.get? p.1 = some o ∧ p.2 o) → ∀ x ∈ vs, ∀ y ∈ us, SeqAt.EqAt (A.deeper env).in1 s' y x (e y x))
    (h : ∀ s' t m, St s₁ L b ((t, Tup [.ref m, .ref a]) :: (m, Lst (uldD e vs.reverse us []).1) :: (l, Lst []) :: (a, Lst (uldD e vs.reverse us []).2) :: H) s' → Q (.ref t) s') :
    wpAny (model PySem.Challenge.rw_dn0232_09.row.prog w) A (call (.ref 21) [.ref l, .ref a]) Q E s := by
  refine call_fn S X TR.nolimit (by rfl) (by rfl) hroom (by rfl) (BindsTo.of_eq (by rfl)) (by decide) (b' := [(Str.ofString "actual", .ref a), (Str.ofString "expected", .ref l)]) (locs (by rfl)) (by rfl) ?_ (by rfl) (by rfl) (by rfl)
  clear S
  intro s' L' S'
  walk_at "one"
  rename St _ _ _ _ _ => S
  obtain ⟨m, em, S2⟩ : ∃ m, Value.ref m = Value.ref _ ∧ St s₁ L' [(Str.ofString "missing", .ref m), (Str.ofString "actual", .ref a), (Str.ofString "expected", .ref l)] ((m, Lst []) :: (L, Frm b) :: (l, Lst vs) :: (a, Lst us) :: H) _ := ⟨_, rfl, (S.bind (by walk_at "bind")).sub (by walk_at "sub")⟩
  clear S em
  refine wpAny_execs_cons ?_
  refine ex_while (fun n b' H' => ∃ cur act ms, n = cur.length ∧ cur.length ≤ vs.length ∧ act.length ≤ us.length ∧ cur ⊆ vs ∧ act ⊆ us ∧ b' = [(Str.ofString "missing", .ref m), (Str.ofString "actual", .ref a), (Str.ofString "expected", .ref l)] ∧ H' = (m, Lst ms) :: (L, Frm b) :: (l, Lst cur) :: (a, Lst act) :: H ∧ ms.length + cur.length ≤ vs.length ∧ uldD e cur.reverse act ms = uldD e vs.reverse us []) vs.length S2 ⟨vs, us, [], rfl, Nat.le_refl _, Nat.le_refl _, fun _ h => h, fun _ h => h, rfl, rfl, by simp, rfl⟩ ?_
  clear S2
  rintro n b' H' s2 ⟨cur, act, ms, rfl, hlen, hlena, hsub, hsua, rfl, rfl, hms, hu⟩ S
  have hcs : cur.length ≤ sizeLine := by rw [sizeLine_eq]; omega
  rcases List.eq_nil_or_concat cur with rfl | ⟨cs, x, rfl⟩
  · walk_at "go"
    rename St _ _ _ _ _ => S
    have : uldD e vs.reverse us [] = (ms, act) := by rw [← hu]; rfl
    rw [this] at h
    exact h _ _ m (St.back (S.perm (List.perm_middle (l₁ := [_, _])).symm))
  · simp only [List.concat_eq_append] at *
    walk_at "in"
    · rename_i hc
      simp at hc
    · rename_i hc
      clear hc
      walk_at "one"
      rename St _ _ _ _ _ => S
      have S2 := (S.bind (b' := [(Str.ofString "item", x), (Str.ofString "missing", .ref m), (Str.ofString "actual", .ref a), (Str.ofString "expected", .ref l)]) (by walk_at "bind"))
      clear S
      have hx : x ∈ vs := hsub (by simp)
      have hcs' : cs ⊆ vs := fun y hy => hsub (by simp [hy])
      refine wpAny_execs_cons ?_
      rw [List.reverse_append, List.reverse_singleton, List.singleton_append, uldD] at hu
      refine ex_try (s₁ := s₁) (J := fun b' H' => b' = [(Str.ofString "item", x), (Str.ofString "missing", .ref m), (Str.ofString "actual", .ref a), (Str.ofString "expected", .ref l)] ∧ H' = (m, Lst ms) :: (L, Frm b) :: (l, Lst cs) :: (a, Lst act) :: H ∧ act.any (fun y => e y x) = false) (T := "ValueError") (X := "ValueError") (by exact Around.frames_deeper hfr) ?_ (by rfl) ?_ ?_ ?_ ?_ ?_ ?_
      · rintro b' H' ⟨rfl, rfl, _⟩ env hm
        rcases List.mem_cons.mp hm with rfl | hm
        · exact ⟨by show ScopeKind.function ≠ .module; decide, L', rfl, Or.inl rfl⟩
        · obtain ⟨hk, F, hf, hm⟩ := hF env hm
          refine ⟨hk, F, hf, Or.inr ?_⟩
          rcases hm with rfl | ⟨b'', hm⟩
          · exact ⟨b, by simp⟩
          · exact ⟨b'', by simp [hm]⟩
      · rw [isSubtype_type]; kernel_rfl
      · rw [isSubtype_type]; kernel_rfl
      · rw [isSubtype_type]; kernel_rfl
      · walk_at "go"
        rename St _ _ _ _ _ => S
        have heq : ∀ env, ∀ y ∈ act, SeqAt.EqAt (A.deeper env).in1 _ y x (e y x) := fun env y hy => he env _ (fun p hp => S.nw p (by simp [hp])) x hx y (hsua hy)
        by_cases hany : act.any (fun y => e y x) = true
        · refine l_removeY (fun y => e y x) S (by walk_at "upd") (by rw [sizeLine_eq]; omega) (heq _) hany ?_
          clear S
          intro _ S
          rw [if_pos hany] at hu
          walk_at "go"
          rename St _ _ _ _ _ => S
          have hp := List.length_eraseP_le (p := fun y => e y x) (l := act)
          refine ⟨_, _, _, ?_, S.bind (b' := [(Str.ofString "missing", .ref m), (Str.ofString "actual", .ref a), (Str.ofString "expected", .ref l)]) (by walk_at "bind"), cs, act.eraseP (fun y => e y x), ms, rfl, ?_, ?_, hcs', fun y hy => hsua (List.mem_of_mem_eraseP hy), rfl, rfl, ?_, hu⟩
          · simp
          · simp at hlen; omega
          · omega
          · simp at hms; omega
        · have hany' : act.any (fun y => e y x) = false := by simpa using hany
          refine l_removeN (fun y => e y x) S (by walk_at "mem") (heq _) hany' hh fun h' tk ex hx' => ?_
          exact ⟨_, _, _, h', tk, ex, rfl, rfl, S, hx', rfl, rfl, hany'⟩
      · rintro b' H' s' ev E' Q' S ⟨rfl, rfl, _⟩ hq
        refine nm_B S (by assumption) (by assumption) (by with_unfolding_all rfl) (by with_unfolding_all rfl) (by first | reg3_boot | boot_fact | boot_fast) ?_ (by with_unfolding_all decide) (by with_unfolding_all rfl) (by with_unfolding_all rfl) (by with_unfolding_all rfl) (by with_unfolding_all decide)
        exact hq
      · rintro b' H' s' ev S ⟨rfl, rfl, hno⟩
        rw [if_neg (by simp [hno])] at hu
        walk_at "go"
        rename St _ _ _ _ _ => S
        refine ⟨_, _, _, ?_, S.bind (b' := [(Str.ofString "missing", .ref m), (Str.ofString "actual", .ref a), (Str.ofString "expected", .ref l)]) (by walk_at "bind"), cs, act, ms ++ [x], rfl, ?_, hlena, hcs', hsua, rfl, rfl, ?_, hu⟩
        · simp
        · simp at hlen; omega
        · simp at hms ⊢; omega
end
end Mine
namespace Mine
/-- an item: the objects made for it, its value, its class -/
inductive ItE : List Ent → Value → Int → Prop
  | int (n : Int) (t : Tok) : ItE [] (.int n t) (7 * n)
  | bool (v : Bool) : ItE [] (.bool v) (7 * (if v then 1 else 0))
  | lst (a : Addr) (n : Int) (t : Tok) : ItE [(a, Lst [.int n t])] (.ref a) (7 * n + 2)
  | tup (a : Addr) (n : Int) (t : Tok) : ItE [(a, Tup [.int n t])] (.ref a) (7 * n + 3)
  | dct (a : Addr) (n : Int) : (a == sysModules) = false → ItE [(a, DctN n)] (.ref a) (7 * n + 4)
  | set (a : Addr) (n : Int) : ItE [(a, SetI [n])] (.ref a) (7 * n + 5)
  | str (n : Nat) (t : Tok) : ItE [] (.str (T [97 + n]) t) (7 * n + 6)
def codeOf (k : Nat) (n : Int) : Int := if k = 0 then 7 * n else if k = 1 then 7 * (n % 2) else if k = 6 then 7 * (n % 26) + 6 else 7 * n + k
section
variable {prog : Program} {w : World} {A : Around} {E : Value → Shared → Prop} {s s₁ : Shared} {L a : Addr} {b : List (Str × Value)} {H : List Ent} {Q : Value → Shared → Prop}
theorem tup_item {value slice : Expr} {vs : List Value} {k : Int} {u : Tok} {x : Value} (S : St s₁ L b H s) (hl : (a, Tup vs) ∈ H) (h0 : 0 ≤ k) (h1 : k < 2 ^ 62) (hx : vs[k.toNat]? = some x) (h : Q x s)
    (hs : subscripted slice false (.ref a) (.int k u) = operate [.ref a, .int k u] (getItem (.ref a) (.int k u))) :
    wpAny (model prog w) A (subscriptTail value slice (.ref a) (.int k u)) Q E s := by
  have ht : IsTup s.heap a vs.toArray := Tup.isTup (S.get hl)
  have hlt : k.toNat < vs.length := (List.getElem?_eq_some_iff.mp hx).1
  exact tail_any ht.typeIs slot_tuple_getitem.lookup (getItem_tuple ht (by omega) (by omega) (j := k.toNat) (seqIndex_of h0 (by simp; omega)) (by simpa using hx) h) hs
end
section
variable {w : World} {p : Program} {loose : List Str} {mg mb : Str → Option Value} {A : Around} {E : Value → Shared → Prop} {s s₁ : Shared} {L : Addr} {b : List (Str × Value)} {H : List Ent} {Q : Value → Shared → Prop}
theorem item_spec {k : Nat} {n : Int} {tk t : Tok} (X : (hd09.heap_39 w.params).In s₁.heap) (TR : TopRead p loose mg mb s₁.heap) (S : St s₁ L b H s) (hroom : A.depth < recursionLimit) (hh : A.handled = none) (hk : k < 7)
    (h : ∀ s' K v, ItE K v (codeOf k n) → St s₁ L b (K ++ H) s' → Q v s') :
    wpAny (model PySem.Challenge.rw_dn0232_09.row.prog w) A (call (.ref 28) [.int k tk, .int n t]) Q E s := by
  refine call_fn S X TR.nolimit (by rfl) (by rfl) hroom (by rfl) (BindsTo.of_eq (by rfl)) (by decide) (b' := [(Str.ofString "n", .int n t), (Str.ofString "kind", .int k tk)]) (locs (by rfl)) (by rfl) ?_ (by rfl) (by rfl) (by rfl)
  clear S
  intro s' L' S'
  have hn0 : 0 ≤ n % 26 := by omega
  have hn1 : n % 26 < 26 := by omega
  walk_at "go"
  rename St _ _ _ _ _ => S
  have hsys : ∀ {s' : Shared} {b' : List (Str × Value)} {H' : List Ent}, St s₁ L' b' H' s' → sysModules < s'.heap.objs.size := fun S => by
    obtain ⟨o, ho⟩ : ∃ o, s₁.heap.get? 28 = some o := ⟨_, X 28 _ (by rfl)⟩
    have := Heap.lt_size (S.keep _ _ ho)
    exact Nat.lt_trans (show sysModules < 28 by decide) this
  refine ev_dict1 (n := n) (t := t) (u := t) S (hsys S) (fun s' H' E' Q' S q => nm_L S (by with_unfolding_all rfl) (by with_unfolding_all rfl) q (by with_unfolding_all rfl) (by with_unfolding_all rfl) (by with_unfolding_all decide)) (fun s' H' E' Q' S q => nm_L S (by with_unfolding_all rfl) (by with_unfolding_all rfl) q (by with_unfolding_all rfl) (by with_unfolding_all rfl) (by with_unfolding_all decide)) ?_
  clear S
  intro _ dd hdd S
  walk_at "go"
  rename St _ _ _ _ _ => S
  refine ev_set1 (n := n) (t := t) S X (by with_unfolding_all rfl) (by rfl) (fun s' H' E' Q' S q => nm_L S (by with_unfolding_all rfl) (by with_unfolding_all rfl) q (by with_unfolding_all rfl) (by with_unfolding_all rfl) (by with_unfolding_all decide)) ?_
  clear S
  intro _ ss S
  walk_at "go"
  rename St _ _ _ _ _ => S
  have hc : codeOf k n = codeOf k n := rfl
  have hbe : (if (n % 2 == 1) = true then (1 : Int) else 0) = n % 2 := by
    by_cases e : n % 2 = 1
    · simp [e]
    · have e' : n % 2 = 0 := by omega
      simp [e']
  have hce : (97 + n % 26).toNat = 97 + (n % 26).toNat := by omega
  have hcn : (((n % 26).toNat : Nat) : Int) = n % 26 := by omega
  rw [hce] at S
  have hkk : k = 0 ∨ k = 1 ∨ k = 2 ∨ k = 3 ∨ k = 4 ∨ k = 5 ∨ k = 6 := by omega
  have S2 := (S.perm (List.perm_middle (l₁ := [_, _, _, _, _])).symm).back
  rcases hkk with rfl | rfl | rfl | rfl | rfl | rfl | rfl
  · refine tup_item S (List.mem_cons_self ..) (by decide) (by decide) rfl ?_ (by with_unfolding_all rfl)
    exact h _ [] _ (.int n t) (S2.sub (List.sublist_append_right [_, _, _, _, _] H))
  · refine tup_item S (List.mem_cons_self ..) (by decide) (by decide) rfl ?_ (by with_unfolding_all rfl)
    have hi := ItE.bool (n % 2 == 1)
    rw [hbe] at hi
    exact h _ [] _ hi (S2.sub (List.sublist_append_right [_, _, _, _, _] H))
  · refine tup_item S (List.mem_cons_self ..) (by decide) (by decide) rfl ?_ (by with_unfolding_all rfl)
    exact h _ [_] _ (.lst _ n t) (S2.sub (List.sublist_append_right [_, _, _, _] (_ :: H)))
  · refine tup_item S (List.mem_cons_self ..) (by decide) (by decide) rfl ?_ (by with_unfolding_all rfl)
    exact h _ [_] _ (.tup _ n t) (S2.sub (List.Sublist.cons _ (List.Sublist.cons _ (List.Sublist.cons _ (List.Sublist.cons_cons _ (List.Sublist.cons _ (List.Sublist.refl _)))))))
  · refine tup_item S (List.mem_cons_self ..) (by decide) (by decide) rfl ?_ (by with_unfolding_all rfl)
    exact h _ [_] _ (.dct _ n hdd) (S2.sub (List.Sublist.cons _ (List.Sublist.cons _ (List.Sublist.cons_cons _ (List.Sublist.cons _ (List.Sublist.cons _ (List.Sublist.refl _)))))))
  · refine tup_item S (List.mem_cons_self ..) (by decide) (by decide) rfl ?_ (by with_unfolding_all rfl)
    exact h _ [_] _ (.set _ n) (S2.sub (List.Sublist.cons _ (List.Sublist.cons_cons _ (List.Sublist.cons _ (List.Sublist.cons _ (List.Sublist.cons _ (List.Sublist.refl _)))))))
  · refine tup_item S (List.mem_cons_self ..) (by decide) (by decide) rfl ?_ (by with_unfolding_all rfl)
    have hi := ItE.str (n % 26).toNat
    rw [hcn] at hi
    exact h _ [] _ (hi _) (S2.sub (List.sublist_append_right [_, _, _, _, _] H))
end
end Mine
namespace Mine
section
variable {w : World} {p : Program} {loose : List Str} {mg mb : Str → Option Value} {A : Around} {E : Value → Shared → Prop} {s s₁ : Shared} {L : Addr} {b : List (Str × Value)} {H : List Ent} {Q : Value → Shared → Prop}
theorem class_spec {k : Nat} {n : Int} {tk t : Tok} (X : (hd09.heap_39 w.params).In s₁.heap) (TR : TopRead p loose mg mb s₁.heap) (S : St s₁ L b H s) (hroom : A.depth < recursionLimit) (hk : k < 7)
    (h : ∀ s' a i m ti tm, 7 * m + i = codeOf k n → 0 ≤ i → i < 7 → St s₁ L b ((a, Tup [.int i ti, .int m tm]) :: H) s' → Q (.ref a) s') :
    wpAny (model PySem.Challenge.rw_dn0232_09.row.prog w) A (call (.ref 35) [.int k tk, .int n t]) Q E s := by
  refine call_fn S X TR.nolimit (by rfl) (by rfl) hroom (by rfl) (BindsTo.of_eq (by rfl)) (by decide) (b' := [(Str.ofString "n", .int n t), (Str.ofString "kind", .int k tk)]) (locs (by rfl)) (by rfl) ?_ (by rfl) (by rfl) (by rfl)
  clear S
  intro s' L' S'
  walk_at "go"
  rename St _ _ _ _ _ => S
  have hkk : k = 0 ∨ k = 1 ∨ k = 2 ∨ k = 3 ∨ k = 4 ∨ k = 5 ∨ k = 6 := by omega
  have S2 := (S.perm (List.perm_middle (l₁ := [_, _, _, _, _, _, _, _])).symm).back
  rcases hkk with rfl | rfl | rfl | rfl | rfl | rfl | rfl
  · refine tup_item S (List.mem_cons_self ..) (by decide) (by decide) rfl ?_ (by with_unfolding_all rfl)
    exact h _ _ 0 n _ _ (by simp [codeOf]) (by decide) (by decide) (S2.sub (.cons _ (.cons _ (.cons _ (.cons _ (.cons _ (.cons _ (.cons _ (.cons_cons _ (.refl _))))))))))
  · refine tup_item S (List.mem_cons_self ..) (by decide) (by decide) rfl ?_ (by with_unfolding_all rfl)
    exact h _ _ 0 (n % 2) _ _ (by simp [codeOf]) (by decide) (by decide) (S2.sub (.cons _ (.cons _ (.cons _ (.cons _ (.cons _ (.cons _ (.cons_cons _ (.cons _ (.refl _))))))))))
  · refine tup_item S (List.mem_cons_self ..) (by decide) (by decide) rfl ?_ (by with_unfolding_all rfl)
    exact h _ _ 2 n _ _ (by simp [codeOf]) (by decide) (by decide) (S2.sub (.cons _ (.cons _ (.cons _ (.cons _ (.cons _ (.cons_cons _ (.cons _ (.cons _ (.refl _))))))))))
  · refine tup_item S (List.mem_cons_self ..) (by decide) (by decide) rfl ?_ (by with_unfolding_all rfl)
    exact h _ _ 3 n _ _ (by simp [codeOf]) (by decide) (by decide) (S2.sub (.cons _ (.cons _ (.cons _ (.cons _ (.cons_cons _ (.cons _ (.cons _ (.cons _ (.refl _))))))))))
  · refine tup_item S (List.mem_cons_self ..) (by decide) (by decide) rfl ?_ (by with_unfolding_all rfl)
    exact h _ _ 4 n _ _ (by simp [codeOf]) (by decide) (by decide) (S2.sub (.cons _ (.cons _ (.cons _ (.cons_cons _ (.cons _ (.cons _ (.cons _ (.cons _ (.refl _))))))))))
  · refine tup_item S (List.mem_cons_self ..) (by decide) (by decide) rfl ?_ (by with_unfolding_all rfl)
    exact h _ _ 5 n _ _ (by simp [codeOf]) (by decide) (by decide) (S2.sub (.cons _ (.cons _ (.cons_cons _ (.cons _ (.cons _ (.cons _ (.cons _ (.cons _ (.refl _))))))))))
  · refine tup_item S (List.mem_cons_self ..) (by decide) (by decide) rfl ?_ (by with_unfolding_all rfl)
    exact h _ _ 6 (n % 26) _ _ (by simp [codeOf]) (by decide) (by decide) (S2.sub (.cons _ (.cons_cons _ (.cons _ (.cons _ (.cons _ (.cons _ (.cons _ (.cons _ (.refl _))))))))))
end
end Mine
local macro_rules | `(tactic| walk_at "getMethod ref") => `(tactic| ((rename Mine.St _ _ _ _ _ => wS); (with_reducible show wpAny _ _ (getMethod _ (Str.ofString "add") _) _ _ _); k_dflt (refine Mine.m_setadd wS (by walk_at "mem") ?_)))
local macro_rules | `(tactic| walk_at "call builtin:set.add") => `(tactic| ((rename Mine.St _ _ _ _ _ => wS); k_dflt (refine Mine.s_mark wS (by walk_at "upd") ?_); clear wS; intro _ _))
local macro_rules | `(tactic| walk_at "setItem") => `(tactic| ((rename Mine.St _ _ _ _ _ => wS); k_dflt (refine Mine.d_mark wS (by walk_at "upd") ?_); clear wS; intro _ _))
namespace Mine
section
variable {prog : Program} {w : World} {A : Around} {E : Value → Shared → Prop} {s s₁ : Shared} {L l : Addr} {b : List (Str × Value)} {H H' : List Ent} {env : Env} {Q : Value → Shared → Prop}
theorem isi_heapR {a : Addr} {U T : String} {r : Bool} {P : Obj → Prop} (S : St s₁ L b H s) (hm : (a, P) ∈ H) (hc : ∀ o, P o → o.cls = .type U) (hU : U = "list" ∨ U = "tuple" ∨ U = "dict" ∨ U = "set") (hT : T = "list" ∨ T = "dict" ∨ T = "set" ∨ T = "bool") (hr : (U == T) = r)
    (h : ∀ s', St s₁ L b H s' → Q (.bool r) s') : wpAny (model prog w) A (call (.builtin "isinstance") [.ref a, .type T]) Q E s :=
  isi_heap S (let ⟨o, ho, hp⟩ := S.get hm; ⟨o, ho, hc o hp⟩) hU hT (by rw [hr]; exact h)
theorem cls_lst {vs : List Value} (o : Obj) (h : Lst vs o) : o.cls = .type "list" := h.1
theorem cls_tup {vs : List Value} (o : Obj) (h : Tup vs o) : o.cls = .type "tuple" := h.1
theorem cls_dct {n : Int} (o : Obj) (h : DctN n o) : o.cls = .type "dict" := h.1.1
theorem cls_set {ks : List Int} (o : Obj) (h : SetI ks o) : o.cls = .type "set" := h.1.1
theorem cls_cls {T : String} (o : Obj) (h : Cls T o) : o.cls = .type T := h
theorem isi_boolR {n : Bool} {T : String} {r : Bool} (S : St s₁ L b H s) (hT : T = "list" ∨ T = "dict" ∨ T = "set" ∨ T = "bool") (hr : (T == "bool") = r) (h : ∀ s', St s₁ L b H s' → Q (.bool r) s') : wpAny (model prog w) A (call (.builtin "isinstance") [.bool n, .type T]) Q E s :=
  isi_bool S hT (by rw [hr]; exact h)
theorem St.weakAt {a : Addr} {P P' : Obj → Prop} (S : St s₁ L b H s) (U : Upd a P P' H H') (hi : ∀ o, P o → P' o) : St s₁ L b H' s := by
  obtain ⟨x, y, rfl, rfl⟩ := U.split
  refine S.weak (Sub.refl _) ?_ (by have := S.nd; simpa using this)
  intro p hp
  rcases List.mem_append.mp hp with h | h
  · exact ⟨p, by simp [h], rfl, fun _ h => h⟩
  · rcases List.mem_cons.mp h with rfl | h
    · exact ⟨(a, P), by simp, rfl, hi⟩
    · exact ⟨p, by simp [h], rfl, fun _ h => h⟩
end
end Mine
local macro_rules | `(tactic| walk_at "isi") => `(tactic| first | exact Mine.cls_lst | exact Mine.cls_tup | exact Mine.cls_dct | exact Mine.cls_set | exact Mine.cls_cls)
local macro_rules | `(tactic| walk_at "call builtin:isinstance") => `(tactic| ((rename Mine.St _ _ _ _ _ => wS); k_dflt first
  | (refine Mine.isi_int wS (by decide) ?_; clear wS; intro _ _)
  | (refine Mine.isi_str wS (by decide) ?_; clear wS; intro _ _)
  | (refine Mine.isi_boolR (r := true) wS (by decide) (by decide) ?_; clear wS; intro _ _)
  | (refine Mine.isi_boolR (r := false) wS (by decide) (by decide) ?_; clear wS; intro _ _)
  | (refine Mine.isi_heapR (r := true) wS (by walk_at "mem") (by walk_at "isi") (by decide) (by decide) (by decide) ?_; clear wS; intro _ _)
  | (refine Mine.isi_heapR (r := false) wS (by walk_at "mem") (by walk_at "isi") (by decide) (by decide) (by decide) ?_; clear wS; intro _ _)))
namespace Mine
section
variable {w : World} {p : Program} {loose : List Str} {mg mb : Str → Option Value} {A : Around} {E : Value → Shared → Prop} {s s₁ : Shared} {L li : Addr} {b : List (Str × Value)} {H R : List Ent} {Q : Value → Shared → Prop}
theorem mark_spec {its : List It} {st : Int} {ts : Tok} (X : (hd09.heap_39 w.params).In s₁.heap) (TR : TopRead p loose mg mb s₁.heap) (S : St s₁ L b ((li, Lst (its.map It.val)) :: (its.flatMap It.ents ++ R)) s) (hroom : A.depth < recursionLimit) (hh : A.handled = none)
    (hlen : its.length ≤ 1000) (hst : 0 ≤ st) (hst' : st ≤ 1000) (h : ∀ s', St s₁ L b ((li, Lst (its.map It.val)) :: (its.flatMap It.ents2 ++ R)) s' → Q .none s') :
    wpAny (model PySem.Challenge.rw_dn0232_09.row.prog w) A (call (.ref 42) [.ref li, .int st ts]) Q E s := by
  refine call_fn S X TR.nolimit (by rfl) (by rfl) hroom (by rfl) (BindsTo.of_eq (by rfl)) (by decide) (b' := [(Str.ofString "start", .int st ts), (Str.ofString "items", .ref li)]) (locs (by rfl)) (by rfl) ?_ (by rfl) (by rfl) (by rfl)
  clear S
  intro s' L' S'
  have hsz : (its.map It.val).length ≤ sizeLine := by rw [sizeLine_eq, List.length_map]; omega
  walk_at "one"
  rename St _ _ _ _ _ => S
  refine for_range1 (fun i b' H' => b' = [(Str.ofString "start", .int st ts), (Str.ofString "items", .ref li)] ∧ H' = (L, Frm b) :: (li, Lst (its.map It.val)) :: ((its.take i).flatMap It.ents2 ++ ((its.drop i).flatMap It.ents ++ R))) S ⟨rfl, by simp⟩ (by decide) (by decide) (by rw [List.length_map]; omega) (by rw [List.length_map]; omega) hh (by with_unfolding_all rfl) (by with_unfolding_all rfl) (by with_unfolding_all rfl) ?_ ?_
  · clear S
    rintro I P i t b' H' s' hi ⟨rfl, rfl⟩ S
    have hil : i < its.length := by simp at hi; omega
    generalize hxe : its[i] = x
    have hx : (its.map It.val)[(0 + ((i : Nat) : Int)).toNat]? = some x.val := by rw [← hxe]; simp [hil]
    have hdr : its.drop i = x :: its.drop (i + 1) := by rw [← hxe]; exact List.drop_eq_getElem_cons hil
    have htk : its.take (i + 1) = its.take i ++ [x] := by rw [← hxe]; exact List.take_succ_eq_append_getElem hil
    rw [hdr, List.flatMap_cons, List.append_assoc] at S
    generalize hR : (its.take i).flatMap It.ents2 ++ ((its.drop (i + 1)).flatMap It.ents ++ R) = R'
    have S2 : St s₁ L' (up (Str.ofString "k") (.int (0 + ((i : Nat) : Int)) t) [(Str.ofString "start", .int st ts), (Str.ofString "items", .ref li)]) ((I, P) :: (L, Frm b) :: (li, Lst (its.map It.val)) :: (x.ents ++ R')) s' := by
      refine S.perm (((List.Perm.cons _ (.cons _ (.cons _ ?_)))))
      rw [← hR]
      exact List.perm_append_comm_assoc ..
    clear S
    have fin : ∀ s' b'', St s₁ L' b'' ((I, P) :: (L, Frm b) :: (li, Lst (its.map It.val)) :: (x.ents2 ++ R')) s' → Sub b'' [(Str.ofString "start", .int st ts), (Str.ofString "items", .ref li)] →
        ∃ b₂ H₂, St s₁ L' b₂ ((I, P) :: H₂) s' ∧ (b₂ = [(Str.ofString "start", .int st ts), (Str.ofString "items", .ref li)] ∧ H₂ = (L, Frm b) :: (li, Lst (its.map It.val)) :: ((its.take (i + 1)).flatMap It.ents2 ++ ((its.drop (i + 1)).flatMap It.ents ++ R))) := by
      intro s' b'' S hb
      refine ⟨_, _, (S.bind hb).perm ((List.Perm.cons _ (.cons _ (.cons _ ?_)))), rfl, rfl⟩
      rw [htk, List.flatMap_append, ← hR]
      simp only [List.flatMap_cons, List.flatMap_nil, List.append_nil, List.append_assoc]
      exact (List.perm_append_comm_assoc ..)
    clear hR hdr htk hxe
    cases x with
    | int n tt =>
      simp only [It.ents, It.val, It.ents2] at S2 hx fin
      walk_at "go"
      rename St _ _ _ _ _ => S
      exact fin _ _ S (by walk_at "bind")
    | bool v =>
      simp only [It.ents, It.val, It.ents2] at S2 hx fin
      walk_at "go"
      rename St _ _ _ _ _ => S
      exact fin _ _ S (by walk_at "bind")
    | str n tt =>
      simp only [It.ents, It.val, It.ents2] at S2 hx fin
      walk_at "go"
      rename St _ _ _ _ _ => S
      exact fin _ _ S (by walk_at "bind")
    | tup a n tt =>
      simp only [It.ents, It.val, It.ents2] at S2 hx fin
      walk_at "go"
      rename St _ _ _ _ _ => S
      exact fin _ _ (S.weakAt (.tail _ (.tail _ (.tail _ (.head _)))) cls_tup) (by walk_at "bind")
    | lst a n tt =>
      simp only [It.ents, It.val, It.ents2] at S2 hx fin
      walk_at "go"
      rename St _ _ _ _ _ => S
      exact fin _ _ (S.weakAt (.tail _ (.tail _ (.tail _ (.head _)))) cls_lst) (by walk_at "bind")
    | dct a n =>
      simp only [It.ents, It.val, It.ents2] at S2 hx fin
      walk_at "go"
      rename St _ _ _ _ _ => S
      exact fin _ _ S (by walk_at "bind")
    | set a n =>
      simp only [It.ents, It.val, It.ents2] at S2 hx fin
      walk_at "go"
      rename St _ _ _ _ _ => S
      exact fin _ _ S (by walk_at "bind")
  · clear S
    rintro b' H' s' ⟨rfl, rfl⟩ S
    simp only [List.length_map, Int.sub_zero, Int.toNat_natCast, List.take_length, List.drop_length, List.flatMap_nil, List.nil_append] at S
    walk_at "go"
    rename St _ _ _ _ _ => S
    exact h _ S.back
end
end Mine
namespace Mine
def isB : Value → Bool
  | .bool _ => true
  | _ => false
def OkV (H : List Ent) (v : Value) : Prop := (∃ n t, v = .int n t) ∨ (∃ c, v = .bool c) ∨ (∃ x t, v = .str x t) ∨ ∃ a U, v = .ref a ∧ (a, Cls U) ∈ H ∧ (U = "list" ∨ U = "tuple" ∨ U = "dict" ∨ U = "set")
section
variable {prog : Program} {w : World} {p : Program} {loose : List Str} {mg mb : Str → Option Value} {A : Around} {E : Value → Shared → Prop} {s s₁ : Shared} {L li : Addr} {b : List (Str × Value)} {H R : List Ent} {Q : Value → Shared → Prop}
theorem isi_okV {v : Value} (S : St s₁ L b H s) (hv : OkV H v) (h : ∀ s', St s₁ L b H s' → Q (.bool (isB v)) s') : wpAny (model prog w) A (call (.builtin "isinstance") [v, .type "bool"]) Q E s := by
  rcases hv with ⟨n, t, rfl⟩ | ⟨c, rfl⟩ | ⟨x, t, rfl⟩ | ⟨a, U, rfl, hm, hU⟩
  · exact isi_int S (by decide) h
  · exact isi_bool S (by decide) h
  · exact isi_str S (by decide) h
  · refine isi_heap S (S.get hm) hU (by decide) ?_
    rcases hU with rfl | rfl | rfl | rfl <;> exact h
theorem OkV.mono {v : Value} {H' : List Ent} (h : OkV H v) (hs : H ⊆ H') : OkV H' v := by
  rcases h with h | h | h | ⟨a, U, rfl, hm, hU⟩
  · exact Or.inl h
  · exact Or.inr (Or.inl h)
  · exact Or.inr (Or.inr (Or.inl h))
  · exact Or.inr (Or.inr (Or.inr ⟨a, U, rfl, hs hm, hU⟩))
abbrev tru (vs : List Value) : List Value := vs.map fun v => .bool (isB v)
theorem truths_spec {m a t : Addr} {vs us : List Value} (X : (hd09.heap_39 w.params).In s₁.heap) (TR : TopRead p loose mg mb s₁.heap) (S : St s₁ L b H s) (hroom : A.depth < recursionLimit) (hh : A.handled = none)
    (ht : (t, Tup [.ref m, .ref a]) ∈ H) (hm : (m, Lst vs) ∈ H) (ha : (a, Lst us) ∈ H) (hvs : ∀ v ∈ vs, OkV H v) (hus : ∀ v ∈ us, OkV H v) (hl1 : vs.length ≤ 1000) (hl2 : us.length ≤ 1000)
    (h : ∀ s' d d1 d2, St s₁ L b ((d, Lst [.ref d1, .ref d2]) :: (d2, Lst (tru us)) :: (d1, Lst (tru vs)) :: H) s' → Q (.ref d) s') :
    wpAny (model PySem.Challenge.rw_dn0232_09.row.prog w) A (call (.ref 47) [.ref t]) Q E s := by
  refine call_fn S X TR.nolimit (by rfl) (by rfl) hroom (by rfl) (BindsTo.of_eq (by rfl)) (by decide) (b' := [(Str.ofString "halves", .ref t)]) (locs (by rfl)) (by rfl) ?_ (by rfl) (by rfl) (by rfl)
  clear S
  intro s' L' S'
  have ht' : (t, Tup [.ref m, .ref a]) ∈ (L, Frm b) :: H := List.mem_cons_of_mem _ ht
  have sub0 : H ⊆ (L, Frm b) :: H := fun _ h => List.mem_cons_of_mem _ h
  walk_at "go"
  rename St _ _ _ _ _ => S
  refine comp_tuple (vs := [.ref m, .ref a]) (fun i ys H' => (i = 0 ∧ ys = [] ∧ H' = (L, Frm b) :: H) ∨ (i = 1 ∧ ∃ d1, ys = [.ref d1] ∧ H' = (d1, Lst (tru vs)) :: (L, Frm b) :: H) ∨ (i = 2 ∧ ∃ d1 d2, ys = [.ref d1, .ref d2] ∧ H' = (d2, Lst (tru us)) :: (d1, Lst (tru vs)) :: (L, Frm b) :: H)) S (Or.inl ⟨rfl, rfl, rfl⟩) (by simp [sizeLine_eq]) ht' ?_ hh (by decide) (by rfl) (by rfl) ?_ ?_
  · rintro i ys H' (⟨_, _, rfl⟩ | ⟨_, d1, _, rfl⟩ | ⟨_, d1, d2, _, rfl⟩)
    · exact ht'
    · exact List.mem_cons_of_mem _ ht'
    · exact List.mem_cons_of_mem _ (List.mem_cons_of_mem _ ht')
  · clear S
    rintro C D I i v ys H' s' hv hJ S
    obtain ⟨l, xs, rfl, hl, hxs, hxl, fin⟩ : ∃ l xs, v = .ref l ∧ (l, Lst xs) ∈ H' ∧ (∀ v ∈ xs, OkV H' v) ∧ xs.length ≤ 1000 ∧ ∀ d, (fun i ys H' => (i = 0 ∧ ys = [] ∧ H' = (L, Frm b) :: H) ∨ (i = 1 ∧ ∃ d1, ys = [.ref d1] ∧ H' = (d1, Lst (tru vs)) :: (L, Frm b) :: H) ∨ (i = 2 ∧ ∃ d1 d2, ys = [.ref d1, .ref d2] ∧ H' = (d2, Lst (tru us)) :: (d1, Lst (tru vs)) :: (L, Frm b) :: H)) (i + 1) (ys ++ [Value.ref d]) ((d, Lst (tru xs)) :: H') := by
      rcases hJ with ⟨rfl, rfl, rfl⟩ | ⟨rfl, d1, rfl, rfl⟩ | ⟨rfl, d1, d2, _, rfl⟩
      · simp at hv
        exact ⟨m, vs, hv.symm, List.mem_cons_of_mem _ hm, fun v hv => (hvs v hv).mono sub0, hl1, fun d => Or.inr (Or.inl ⟨rfl, d, rfl, rfl⟩)⟩
      · simp at hv
        exact ⟨a, us, hv.symm, List.mem_cons_of_mem _ (List.mem_cons_of_mem _ ha), fun v hv => ((hus v hv).mono sub0).mono (fun _ h => List.mem_cons_of_mem _ h), hl2, fun d => Or.inr (Or.inr ⟨rfl, d1, d, rfl, rfl⟩)⟩
      · simp at hv
    clear hJ
    refine tests_nil (ifT ?_)
    walk_at "go"
    rename St _ _ _ _ _ => S
    refine comp_list (vs := xs) (fun k zs H'' => zs = tru (xs.take k) ∧ H'' = (D, Lst ys) :: (I, TI t (i + 1)) :: (L', Frm [(Str.ofString "halves", .ref t)]) :: H') S ⟨rfl, rfl⟩ (by rw [sizeLine_eq]; omega) (Or.inl (by simp [hl])) (by rintro k zs H'' ⟨_, rfl⟩; exact Or.inl (by simp [hl])) hh (by decide) (by rfl) (by rfl) ?_ ?_
    · clear S
      rintro C' D' I' k v zs H'' s' hv ⟨rfl, rfl⟩ S
      obtain ⟨hk, hke⟩ := List.getElem?_eq_some_iff.mp hv
      refine tests_nil (ifT ?_)
      walk_at "go"
      rename St _ _ _ _ _ => S
      refine isi_okV S ((hxs v (List.mem_of_getElem? hv)).mono (by intro q hq; simp [hq])) ?_
      clear S
      intro s' S
      refine ⟨_, _, S, ?_, rfl⟩
      rw [List.take_succ_eq_append_getElem hk, hke]; simp [tru]
    · clear S
      rintro C' D' zs H'' s' ⟨rfl, rfl⟩ S
      rw [List.take_length] at S
      intro s'' S'
      rw [List.take_length] at S'
      refine ⟨_, _, S'.perm ?_, fin D'⟩
      exact List.perm_middle (l₁ := [_, _, _])
  · clear S
    rintro C D ys H' s' (⟨h0, _⟩ | ⟨h0, _⟩ | ⟨_, d1, d2, rfl, rfl⟩) S
    · exact absurd h0 (by simp)
    · exact absurd h0 (by simp)
    · intro s'' S'
      have := (S'.perm (List.perm_middle (l₁ := [_, _, _])).symm).back
      walk_at "go"
      exact h _ _ _ _ this
end
end Mine
namespace Mine
theorem cnt_mapN (num : Value → Int) (n : Int) (l : List Value) : cnt num n l = (l.map num).count n := by
  rw [cnt, List.count, List.countP_map]; rfl
theorem bump_dropN (ns : List Int) (k : Nat) (n : Int) (h : ns[k]? = some n) : bump (fun v => (ns.drop (k + 1)).count v) n = fun v => (ns.drop k).count v := by
  funext v
  obtain ⟨hk, rfl⟩ := List.getElem?_eq_some_iff.mp h
  rw [List.drop_eq_getElem_cons hk, List.count_cons]
  simp only [bump]
  by_cases e : v = ns[k]
  · subst e; simp
  · have : (ns[k] == v) = false := by simp [Ne.symm e]
    simp [e, this]
noncomputable abbrev fdL (w : World) := fdAt (hd09.heap_39 w.params) 54
noncomputable abbrev envL (w : World) (L fa : Addr) (cd : Value) := envOf (fdL w).name (fdL w).scope L fa cd
abbrev B7 (tl ac ex th o m r : Addr) : List (Str × Value) := [(Str.ofString "told", .ref tl), (Str.ofString "actual", .ref ac), (Str.ofString "expected", .ref ex), (Str.ofString "theirs", .ref th), (Str.ofString "others", .ref o), (Str.ofString "mine", .ref m), (Str.ofString "rows", .ref r)]
section
variable {w : World} {p : Program} {loose : List Str} {mg mb : Str → Option Value} {A : Around} {s s₁ : Shared} {L fa tl ac ex th o m r mi : Addr} {cd : Value} {H : List Ent} {Q : Flow → Shared → Prop}
theorem partC {rs us : List Value} {c1 c2 : List Ct} (num : Value → Int) (X : (hd09.heap_39 w.params).In s₁.heap) (TR : TopRead p loose mg mb s₁.heap) (hh : A.handled = none) (hu : A.units + 64 < cLine)
    (hr : (r, Lst rs) ∈ H) (hm : (m, Lst (c1.map Ct.val)) ∈ H) (hth : (th, Lst (c2.map Ct.val)) ∈ H) (hc1 : ∀ c ∈ c1, c.ent ∈ H ∧ c.ok) (hc2 : ∀ c ∈ c2, c.ent ∈ H ∧ c.ok)
    (hnum : rs.map num = c1.map Ct.code) (hnu : us.map num = c2.map Ct.code) (hl : rs.length ≤ 63) (hl2 : us.length ≤ 63) (S : St s₁ L (B7 tl ac ex th o m r) H s)
    (h : ∀ s' d, St s₁ L ((Str.ofString "missing", .ref d) :: B7 tl ac ex th o m r) ((d, Lst (missR num us (fun _ => 0) rs.reverse)) :: H) s' → wpAny (model PySem.Challenge.rw_dn0232_09.row.prog w) A (execs ((bodyAt (fdL w)).drop 12) (envL w L fa cd)) Q (fun _ _ => False) s') :
    wpAny (model PySem.Challenge.rw_dn0232_09.row.prog w) A (execs ((bodyAt (fdL w)).drop 10) (envL w L fa cd)) Q (fun _ _ => False) s := by
  have hl1 : c1.length = rs.length := by have := congrArg List.length hnum; simpa using this.symm
  have hlc2 : c2.length = us.length := by have := congrArg List.length hnu; simpa using this.symm
  have hz : rs.length ≤ sizeLine := by rw [sizeLine_eq]; omega
  have hz1 : (c1.map Ct.val).length ≤ sizeLine := by rw [sizeLine_eq, List.length_map]; omega
  have hz2 : (c2.map Ct.val).length ≤ sizeLine := by rw [sizeLine_eq, List.length_map]; omega
  walk_at "one"
  rename St _ _ _ _ _ => S
  obtain ⟨d, ed, S2⟩ : ∃ d, Value.ref d = Value.ref _ ∧ St s₁ L ((Str.ofString "missing", .ref d) :: B7 tl ac ex th o m r) ((d, Lst []) :: H) _ := ⟨_, rfl, S.bind (by walk_at "bind")⟩
  clear S ed
  walk_at "one"
  rename St _ _ _ _ _ => S
  generalize hns : c1.map Ct.code = ns at hnum
  have hnl : ns.length = rs.length := by rw [← hns, List.length_map, hl1]
  refine for_rangeD (fun i b' H' => ∃ ds, b' = (Str.ofString "missing", .ref d) :: B7 tl ac ex th o m r ∧ H' = (d, Lst ds) :: H ∧ i ≤ rs.length ∧ ds.length ≤ i ∧
      ds ++ missR num us (fun v => (ns.drop (rs.length - i)).count v) ((rs.take (rs.length - i)).reverse) = missR num us (fun _ => 0) rs.reverse) S ⟨[], rfl, rfl, Nat.zero_le _, Nat.le_refl _, ?_⟩ (by omega) (by omega) (by omega) (by omega) (by assumption) (by with_unfolding_all rfl) (by with_unfolding_all rfl) (by with_unfolding_all rfl) ?_ ?_
  · have e : ns.drop rs.length = [] := by rw [← hnl]; simp
    simp [e]
  · clear S
    rintro I P i t b' H' s' hi ⟨ds, rfl, rfl, hi', hds, hinv⟩ S
    have hk : (rs.length : Int) - 1 - (i : Nat) = ((rs.length - 1 - i : Nat) : Int) := by omega
    rw [hk] at S
    generalize hK : rs.length - 1 - i = k at S
    have hk1 : rs.length - i = k + 1 := by omega
    have hk2 : rs.length - (i + 1) = k := by omega
    have hkl : k < rs.length := by omega
    have hkc : k < c1.length := by omega
    rw [hk1] at hinv
    have hxM : (c1.map Ct.val)[((k : Nat) : Int).toNat]? = some (c1[k]).val := by simp [hkc]
    have hxR : rs[((k : Nat) : Int).toNat]? = some rs[k] := by simp [hkl]
    have hn : ns[k]? = some (c1[k]).code := by rw [← hns]; simp [hkc]
    walk_at "in"
    walk_at "one"
    rename St _ _ _ _ _ => S
    rw [cut_from _ (by omega), Int.toNat_natCast, ← List.map_drop] at S
    refine c_count (cs := c1.drop k) (x := c1[k]) S (by walk_at "mem") (fun c hc => ?_) ?_ (by omega) ?_
    · have := hc1 c (List.mem_of_mem_drop hc)
      exact ⟨by simp [this.1], this.2⟩
    · have := hc1 _ (List.getElem_mem hkc)
      exact ⟨by simp [this.1], this.2⟩
    clear S
    intro _ _ S
    walk_at "in"
    rename St _ _ _ _ _ => S
    refine c_count (cs := c2) (x := c1[k]) S (by walk_at "mem") (fun c hc => ?_) ?_ (by omega) ?_
    · have := hc2 c hc
      exact ⟨by simp [this.1], this.2⟩
    · have := hc1 _ (List.getElem_mem hkc)
      exact ⟨by simp [this.1], this.2⟩
    clear S
    intro _ _ S
    have hnk : num rs[k] = (c1[k]).code := by
      have : (rs.map num)[k]? = some (c1[k]).code := by rw [hnum]; exact hn
      simp [hkl] at this
      exact this
    have hrev : (rs.take (k + 1)).reverse = rs[k] :: (rs.take k).reverse := by
      rw [List.take_succ_eq_append_getElem hkl, List.reverse_append]; rfl
    have hcnt : cnt num (c1[k]).code us = (c2.map Ct.code).count (c1[k]).code := by rw [cnt_mapN, hnu]
    have hdk : ((c1.drop k).map Ct.code).count (c1[k]).code = (ns.drop (k + 1)).count (c1[k]).code + 1 := by
      rw [List.map_drop, hns, List.drop_eq_getElem_cons (by omega), List.count_cons]
      have : ns[k]'(by omega) = (c1[k]).code := by
        obtain ⟨_, e⟩ := List.getElem?_eq_some_iff.mp hn; exact e
      simp [this]
    rw [hrev, missR, hnk, bump_dropN ns k _ hn, hcnt] at hinv
    rw [hdk]
    walk_at "go"
    · rename_i hc
      rename St _ _ _ _ _ => S
      rw [if_pos (by omega)] at hinv
      exact ⟨_, _, (S.bind (by walk_at "bind")).sub (.cons _ (.refl _)), ds ++ [rs[k]], rfl, rfl, by omega, by simp; omega, by rw [hk2, ← hinv]; simp⟩
    · rename_i hc
      rename St _ _ _ _ _ => S
      rw [if_neg (by omega)] at hinv
      exact ⟨_, _, (S.bind (by walk_at "bind")).sub (.cons _ (.refl _)), ds, rfl, rfl, by omega, by omega, by rw [hk2, ← hinv]; simp⟩
  · clear S
    rintro b' H' s' ⟨ds, rfl, rfl, hi', hds, hinv⟩ S
    have e : ((rs.length : Int) - 1 - -1).toNat = rs.length := by omega
    rw [e] at hinv
    simp [missR] at hinv
    rw [← hinv] at h
    exact h _ _ S
end
end Mine
namespace Mine
section
variable {w : World} {p : Program} {loose : List Str} {mg mb : Str → Option Value} {A : Around} {s s₁ : Shared} {L fa tl ac ex th o m r mi : Addr} {cd : Value} {H : List Ent} {Q : Flow → Shared → Prop}
theorem partD {us rs : List Value} {c1 c2 : List Ct} (num : Value → Int) (X : (hd09.heap_39 w.params).In s₁.heap) (TR : TopRead p loose mg mb s₁.heap) (hh : A.handled = none) (hu : A.units + 64 < cLine)
    (hr : (o, Lst us) ∈ H) (hm : (m, Lst (c1.map Ct.val)) ∈ H) (hth : (th, Lst (c2.map Ct.val)) ∈ H) (hc1 : ∀ c ∈ c1, c.ent ∈ H ∧ c.ok) (hc2 : ∀ c ∈ c2, c.ent ∈ H ∧ c.ok)
    (hnum : rs.map num = c1.map Ct.code) (hnu : us.map num = c2.map Ct.code) (hl : rs.length ≤ 63) (hl2 : us.length ≤ 63) (S : St s₁ L ((Str.ofString "missing", .ref mi) :: B7 tl ac ex th o m r) H s)
    (h : ∀ s' d, St s₁ L ((Str.ofString "left", .ref d) :: (Str.ofString "missing", .ref mi) :: B7 tl ac ex th o m r) ((d, Lst (aliveR num (fun n => cnt num n rs) us.reverse)) :: H) s' → wpAny (model PySem.Challenge.rw_dn0232_09.row.prog w) A (execs ((bodyAt (fdL w)).drop 14) (envL w L fa cd)) Q (fun _ _ => False) s') :
    wpAny (model PySem.Challenge.rw_dn0232_09.row.prog w) A (execs ((bodyAt (fdL w)).drop 12) (envL w L fa cd)) Q (fun _ _ => False) s := by
  have hl1 : c1.length = rs.length := by have := congrArg List.length hnum; simpa using this.symm
  have hlc2 : c2.length = us.length := by have := congrArg List.length hnu; simpa using this.symm
  have hz : us.length ≤ sizeLine := by rw [sizeLine_eq]; omega
  have hz1 : (c1.map Ct.val).length ≤ sizeLine := by rw [sizeLine_eq, List.length_map]; omega
  have hz2 : (c2.map Ct.val).length ≤ sizeLine := by rw [sizeLine_eq, List.length_map]; omega
  walk_at "one"
  rename St _ _ _ _ _ => S
  obtain ⟨d, ed, S2⟩ : ∃ d, Value.ref d = Value.ref _ ∧ St s₁ L ((Str.ofString "left", .ref d) :: (Str.ofString "missing", .ref mi) :: B7 tl ac ex th o m r) ((d, Lst []) :: H) _ := ⟨_, rfl, S.bind (by walk_at "bind")⟩
  clear S ed
  walk_at "one"
  rename St _ _ _ _ _ => S
  generalize hns : c2.map Ct.code = ns at hnu
  have hnl : ns.length = us.length := by rw [← hns, List.length_map, hlc2]
  refine for_range1 (fun i b' H' => b' = (Str.ofString "left", .ref d) :: (Str.ofString "missing", .ref mi) :: B7 tl ac ex th o m r ∧ i ≤ us.length ∧ ∃ ds, H' = (d, Lst ds) :: H ∧ ds.length ≤ i ∧ ds = aliveR num (fun n => cnt num n rs) (us.take i).reverse) S ⟨rfl, Nat.zero_le _, [], rfl, Nat.le_refl _, rfl⟩ (by decide) (by decide) (by omega) (by omega) hh (by with_unfolding_all rfl) (by with_unfolding_all rfl) (by with_unfolding_all rfl) ?_ ?_
  · clear S
    rintro I P k t b' H' s' hi ⟨rfl, hi', ds, rfl, hds, hinv⟩ S
    have hkl : k < us.length := by omega
    have hkc : k < c2.length := by omega
    rw [Int.zero_add] at S
    have hxM : (c2.map Ct.val)[((k : Nat) : Int).toNat]? = some (c2[k]).val := by simp [hkc]
    have hxR : us[((k : Nat) : Int).toNat]? = some us[k] := by simp [hkl]
    have hn : ns[k]? = some (c2[k]).code := by rw [← hns]; simp [hkc]
    walk_at "in"
    walk_at "one"
    rename St _ _ _ _ _ => S
    rw [cut_to _ (by omega), show ((k : Int) + 1).toNat = k + 1 by omega, ← List.map_take] at S
    refine c_count (cs := c2.take (k + 1)) (x := c2[k]) S (by walk_at "mem") (fun c hc => ?_) ?_ (by omega) ?_
    · have := hc2 c (List.mem_of_mem_take hc)
      exact ⟨by simp [this.1], this.2⟩
    · have := hc2 _ (List.getElem_mem hkc)
      exact ⟨by simp [this.1], this.2⟩
    clear S
    intro _ _ S
    walk_at "in"
    rename St _ _ _ _ _ => S
    refine c_count (cs := c1) (x := c2[k]) S (by walk_at "mem") (fun c hc => ?_) ?_ (by omega) ?_
    · have := hc1 c hc
      exact ⟨by simp [this.1], this.2⟩
    · have := hc2 _ (List.getElem_mem hkc)
      exact ⟨by simp [this.1], this.2⟩
    clear S
    intro _ _ S
    have hnk : num us[k] = (c2[k]).code := by
      have : (us.map num)[k]? = some (c2[k]).code := by rw [hnu]; exact hn
      simp [hkl] at this
      exact this
    have hrev : (us.take (k + 1)).reverse = us[k] :: (us.take k).reverse := by
      rw [List.take_succ_eq_append_getElem hkl, List.reverse_append]; rfl
    have hcnt : cnt num (c2[k]).code rs = (c1.map Ct.code).count (c2[k]).code := by rw [cnt_mapN, hnum]
    have hcn2 : cnt num (c2[k]).code (us.take k).reverse = (ns.take k).count (c2[k]).code := by rw [cnt_mapN, List.map_reverse, List.count_reverse, List.map_take, hnu]
    have hdk : ((c2.take (k + 1)).map Ct.code).count (c2[k]).code = (ns.take k).count (c2[k]).code + 1 := by
      rw [List.map_take, hns, List.take_succ_eq_append_getElem (by omega), List.count_append]
      have : ns[k]'(by omega) = (c2[k]).code := by
        obtain ⟨_, e⟩ := List.getElem?_eq_some_iff.mp hn; exact e
      simp [this]
    have hnext : aliveR num (fun n => cnt num n rs) (us.take (k + 1)).reverse = ds ++ (if (c1.map Ct.code).count (c2[k]).code ≤ (ns.take k).count (c2[k]).code then [us[k]] else []) := by
      rw [hrev, aliveR, hnk, hcnt, hcn2, hinv]
    rw [hdk]
    walk_at "go"
    · rename_i hc
      rename St _ _ _ _ _ => S
      rw [if_pos (by omega)] at hnext
      exact ⟨_, _, (S.bind (by walk_at "bind")).sub (.cons _ (.refl _)), rfl, by omega, ds ++ [us[k]], rfl, by simp; omega, hnext.symm⟩
    · rename_i hc
      rename St _ _ _ _ _ => S
      rw [if_neg (by omega), List.append_nil] at hnext
      exact ⟨_, _, (S.bind (by walk_at "bind")).sub (.cons _ (.refl _)), rfl, by omega, ds, rfl, by omega, hnext.symm⟩
  · clear S
    rintro b' H' s' ⟨rfl, hi', ds, rfl, hds, hinv⟩ S
    have e : ((us.length : Int) - 0).toNat = us.length := by omega
    rw [e, List.take_length] at hinv
    rw [← hinv] at h
    exact h _ _ S
end
end Mine
namespace Mine
section
variable {w : World} {p : Program} {loose : List Str} {mg mb : Str → Option Value} {A : Around} {s s₁ : Shared} {L fa tl ac ex th o m r mi : Addr} {cd : Value} {H : List Ent} {Q : Flow → Shared → Prop}
theorem ne_tup2 {prog : Program} {w : World} {A : Around} {E : Value → Shared → Prop} {s s₁ : Shared} {L a c : Addr} {b : List (Str × Value)} {H : List Ent} {Q : Value → Shared → Prop} {x1 x2 y1 y2 : Value} (S : St s₁ L b H s) (ha : (a, Tup [x1, x2]) ∈ H) (hc : (c, Tup [y1, y2]) ∈ H) (hu : A.units < cLine)
    (h1 : SeqAt.EqAt A.in1 s x1 y1 true) (h2 : SeqAt.EqAt A.in1 s x2 y2 true) (h : Q (.bool false) s) : wpAny (model prog w) A (compareOp .NotEq (.ref a) (.ref c)) Q E s := by
  refine SeqAt.RcNeAt.tuples (e := fun _ => true) (Tup.isTup (S.get ha)) (Tup.isTup (S.get hc)) hu (fun j k1 k2 => ?_) prog w E Q (by rw [List.all_eq_true.mpr (fun _ _ => rfl)]; exact h)
  match j with
  | 0 => exact h1
  | 1 => exact h2
  | j + 2 => exact absurd k1 (by simp)
theorem eq_str_same {A : Around} {s : Shared} {x : Str} {t u : Tok} : SeqAt.EqAt A s (.str x t) (.str x u) true := by
  have := SeqAt.EqAt.str_str (A := A) (s := s) x t x u
  rwa [beq_self_eq_true] at this
theorem eq_sameLs {A : Around} {s : Shared} {a c : Addr} {vs us : List Value} (ha : s.heap.IsList a vs.toArray) (hc : s.heap.IsList c us.toArray) (hl : vs.length = us.length) (he : ∀ j (h1 : j < vs.length) (h2 : j < us.length), SeqAt.EqAt A.in1 s vs[j] us[j] true) (hu : A.units < cLine) : SeqAt.EqAt A s (.ref a) (.ref c) true := by
  by_cases e : a = c
  · rw [e]; exact SeqAt.EqAt.same _
  · have := SeqAt.EqAt.of_refs e (SeqAt.RcAt.lists (e := fun _ => true) ha hc (by simpa using hl) hu fun j h1 h2 => by simpa using he j (by simpa using h1) (by simpa using h2))
    rwa [List.all_eq_true.mpr (fun _ _ => rfl)] at this
theorem partE {M LF : List Value} (X : (hd09.heap_39 w.params).In s₁.heap) (TR : TopRead p loose mg mb s₁.heap) (hh : A.handled = none) (hu : A.units + 64 < cLine) (hd : A.depth + 5 < recursionLimit) {le ms : Addr}
    (hM : ∀ v ∈ M, OkV H v) (hLF : ∀ v ∈ LF, OkV H v) (hl : M.length ≤ 63) (hl2 : LF.length ≤ 63)
    (S : St s₁ L ((Str.ofString "left", .ref le) :: (Str.ofString "missing", .ref mi) :: B7 tl ac ex th o m r) ((le, Lst LF) :: (mi, Lst M) :: (tl, Tup [.ref ms, .ref ac]) :: (ms, Lst M) :: (ex, Lst []) :: (ac, Lst LF) :: H) s)
    (hQ : ∀ s' b H, St s₁ L b H s' → Q (.ret (.bool true)) s') :
    wpAny (model PySem.Challenge.rw_dn0232_09.row.prog w) A (execs ((bodyAt (fdL w)).drop 14) (envL w L fa cd)) Q (fun _ _ => False) s := by
  have hz : LF.length ≤ sizeLine := by rw [sizeLine_eq]; omega
  walk_at "go"
  rename St _ _ _ _ _ => S
  refine ne_tup2 S (by walk_at "mem") (by walk_at "mem") (by omega)
    (eq_sameLs (Lst.isList (S.get (by walk_at "mem"))) (Lst.isList (S.get (by walk_at "mem"))) rfl (fun j _ _ => SeqAt.EqAt.same _) (by simp only [Around.in1_units]; omega))
    (eq_sameLs (Lst.isList (S.get (by walk_at "mem"))) (Lst.isList (S.get (by walk_at "mem"))) (by simp) (fun j h1 h2 => ?_) (by simp only [Around.in1_units]; omega)) ?_
  · by_cases hj : j < LF.length
    · rw [List.getElem_append_left hj, List.getElem_append_left hj]
      exact SeqAt.EqAt.same _
    · have hj' : j = LF.length := by simp at h1; omega
      subst hj'
      simp only [List.getElem_concat_length]
      exact eq_str_same
  walk_at "go"
  rename St _ _ _ _ _ => S
  have htr : ∀ t, tru (LF ++ [Value.str (T (tx "more")) t]) = tru LF ++ [.bool false] := fun t => by simp [tru, isB]
  have okL : ∀ (H' : List Ent) t, H ⊆ H' → ∀ v ∈ LF ++ [Value.str (T (tx "more")) t], OkV H' v := fun H' t hs v hv => by
    rcases List.mem_append.mp hv with hv | hv
    · exact (hLF v hv).mono hs
    · rw [List.mem_singleton.mp hv]; exact Or.inr (Or.inr (Or.inl ⟨_, _, rfl⟩))
  refine truths_spec X TR S (by omega) hh (by walk_at "mem") (by walk_at "mem") (by walk_at "mem") (fun v hv => (hM v hv).mono (by intro q hq; simp [hq])) (okL _ _ (by intro q hq; simp [hq])) (by omega) (by simp; omega) ?_
  clear S
  intro _ e0 e1 e2 S
  rw [htr] at S
  walk_at "go"
  rename St _ _ _ _ _ => S
  refine truths_spec X TR S (by omega) hh (by walk_at "mem") (by walk_at "mem") (by walk_at "mem") (fun v hv => (hM v hv).mono (by intro q hq; simp [hq])) (okL _ _ (by intro q hq; simp [hq])) (by omega) (by simp; omega) ?_
  clear S
  intro _ f0 f1 f2 S
  rw [htr] at S
  refine SeqAt.RcAt.lists (items := [Value.ref e1, .ref e2].toArray) (items2 := [Value.ref f1, .ref f2].toArray) (e := fun _ => true) (Lst.isList (S.get (a := e0) (by walk_at "mem"))) (Lst.isList (S.get (a := f0) (by walk_at "mem"))) rfl (by omega) (fun j k1 k2 => ?_) _ w _ _ ?_
  · match j with
    | 0 => exact eq_sameLs (vs := tru M) (us := tru M) (Lst.isList (S.get (a := e1) (by walk_at "mem"))) (Lst.isList (S.get (a := f1) (by walk_at "mem"))) rfl (fun j _ _ => SeqAt.EqAt.same _) (by simp only [Around.in1_units]; omega)
    | 1 => exact eq_sameLs (vs := tru LF ++ [.bool false]) (us := tru LF ++ [.bool false]) (Lst.isList (S.get (a := e2) (by walk_at "mem"))) (Lst.isList (S.get (a := f2) (by walk_at "mem"))) rfl (fun j _ _ => SeqAt.EqAt.same _) (by simp only [Around.in1_units]; omega)
    | j + 2 => exact absurd k1 (by simp)
  rw [List.all_eq_true.mpr (fun _ _ => rfl)]
  exact hQ _ _ _ S
end
end Mine
namespace Mine
theorem ItE.it {K : List Ent} {v : Value} {c : Int} (h : ItE K v c) : ∃ x : It, K = x.ents ∧ v = x.val ∧ c = x.code ∧ x.ok := by
  cases h with
  | int n t => exact ⟨.int n t, rfl, rfl, rfl, trivial⟩
  | bool v => exact ⟨.bool v, rfl, rfl, rfl, trivial⟩
  | lst a n t => exact ⟨.lst a n t, rfl, rfl, rfl, trivial⟩
  | tup a n t => exact ⟨.tup a n t, rfl, rfl, rfl, trivial⟩
  | dct a n h => exact ⟨.dct a n, rfl, rfl, rfl, h⟩
  | set a n => exact ⟨.set a n, rfl, rfl, rfl, trivial⟩
  | str n t => exact ⟨.str n t, rfl, rfl, rfl, trivial⟩
theorem down {α : Type} {x A B C : List α} (h : C.Perm (x ++ B)) : (A ++ C).Perm (x ++ (A ++ B)) := (h.append_left A).trans (List.perm_append_comm_assoc _ _ _)
theorem here {α : Type} (x R : List α) : (x ++ R).Perm (x ++ R) := .refl _
theorem ins1 {α : Type} (x F A R : List α) : (F ++ ((A ++ x) ++ R)).Perm (x ++ (F ++ (A ++ R))) := by
  rw [List.append_assoc A]; exact down (down (here x R))
theorem ins2 {α : Type} (x F A C R : List α) : (F ++ (A ++ ((C ++ x) ++ R))).Perm (x ++ (F ++ (A ++ (C ++ R)))) := by
  rw [List.append_assoc C]; exact down (down (down (here x R)))
theorem ins3 {α : Type} (x F A C D R : List α) : (F ++ (A ++ (C ++ ((D ++ x) ++ R)))).Perm (x ++ (F ++ (A ++ (C ++ (D ++ R))))) := by
  rw [List.append_assoc D]; exact down (down (down (down (here x R))))
theorem ins4 {α : Type} (x F A C D G : List α) : (F ++ (A ++ (C ++ (D ++ (G ++ x))))).Perm (x ++ (F ++ (A ++ (C ++ (D ++ G))))) :=
  down (down (down (down List.perm_append_comm)))
abbrev HH (r m o th : Addr) (i1 : List It) (c1 : List Ct) (i2 : List It) (c2 : List Ct) : List Ent :=
  (r, Lst (i1.map It.val)) :: (m, Lst (c1.map Ct.val)) :: (o, Lst (i2.map It.val)) :: (th, Lst (c2.map Ct.val)) :: (i1.flatMap It.ents ++ (c1.map Ct.ent ++ (i2.flatMap It.ents ++ c2.map Ct.ent)))
abbrev B4 (th o m r l : Addr) : List (Str × Value) := [(Str.ofString "theirs", .ref th), (Str.ofString "others", .ref o), (Str.ofString "mine", .ref m), (Str.ofString "rows", .ref r), (Str.ofString "script", .ref l)]
def Good9 (its : List It) (cs : List Ct) (i : Nat) : Prop := its.length ≤ i ∧ its.map It.code = cs.map Ct.code ∧ (∀ x ∈ its, x.ok) ∧ ∀ c ∈ cs, c.ok
theorem Good9.snoc {its : List It} {cs : List Ct} {i : Nat} (h : Good9 its cs i) {x : It} {c : Ct} (hx : x.ok) (hc : c.ok) (e : x.code = c.code) : Good9 (its ++ [x]) (cs ++ [c]) (i + 1) :=
  ⟨by simp; exact h.1, by rw [List.map_append, List.map_append, h.2.1]; simp [e], fun y hy => (List.mem_append.mp hy).elim (h.2.2.1 y) fun q => by rw [List.mem_singleton.mp q]; exact hx,
    fun y hy => (List.mem_append.mp hy).elim (h.2.2.2 y) fun q => by rw [List.mem_singleton.mp q]; exact hc⟩
theorem Good9.succ {its : List It} {cs : List Ct} {i : Nat} (h : Good9 its cs i) : Good9 its cs (i + 1) := ⟨Nat.le_succ_of_le h.1, h.2⟩
theorem Good9.len {its : List It} {cs : List Ct} {i : Nat} (h : Good9 its cs i) : cs.length = its.length := by have := congrArg List.length h.2.1; simpa using this.symm
section
variable {w : World} {p : Program} {loose : List Str} {mg mb : Str → Option Value} {A : Around} {s s₁ : Shared} {L fa l : Addr} {cd : Value} {vs : List Value} {ns : List Int} {Q : Flow → Shared → Prop}
theorem partA (X : (hd09.heap_39 w.params).In s₁.heap) (TR : TopRead p loose mg mb s₁.heap) (hL : s₁.heap.IsList l vs.toArray) (hI : IntsAre vs ns) (hlen : ns.length ≤ 63)
    (hh : A.handled = none) (hd : A.depth + 5 < recursionLimit) (S : St s₁ L [(Str.ofString "script", .ref l)] [] s)
    (h : ∀ s' r m o th i1 c1 i2 c2, St s₁ L (B4 th o m r l) (HH r m o th i1 c1 i2 c2) s' → Good9 i1 c1 63 → Good9 i2 c2 63 → wpAny (model PySem.Challenge.rw_dn0232_09.row.prog w) A (execs ((bodyAt (fdL w)).drop 5) (envL w L fa cd)) Q (fun _ _ => False) s') :
    wpAny (model PySem.Challenge.rw_dn0232_09.row.prog w) A (execs (bodyAt (fdL w)) (envL w L fa cd)) Q (fun _ _ => False) s := by
  have hvl : vs.length = ns.length := hI.length
  walk_at "one"
  walk_at "one"
  walk_at "one"
  walk_at "one"
  rename St _ _ _ _ _ => S
  obtain ⟨r, m, o, th, er, em, eo, eth, S2⟩ : ∃ r m o th, Value.ref r = Value.ref _ ∧ Value.ref m = Value.ref _ ∧ Value.ref o = Value.ref _ ∧ Value.ref th = Value.ref _ ∧ St s₁ L (B4 th o m r l) (HH r m o th [] [] [] []) _ :=
    ⟨_, _, _, _, rfl, rfl, rfl, rfl, (S.bind (by walk_at "bind")).perm (by
      exact List.reverse_perm [_, _, _, _])⟩
  clear S er em eo eth
  refine wpAny_execs_cons ?_
  walk_at "in"
  rename St _ _ _ _ _ => S2
  refine for_list (vs := vs) (fun i b' H' => ∃ i1 c1 i2 c2, b' = B4 th o m r l ∧ H' = HH r m o th i1 c1 i2 c2 ∧ Good9 i1 c1 i ∧ Good9 i2 c2 i) S2 ⟨[], [], [], [], rfl, rfl, ⟨Nat.le_refl _, rfl, nofun, nofun⟩, ⟨Nat.le_refl _, rfl, nofun, nofun⟩⟩ (Or.inr hL) (fun _ _ _ _ => Or.inr hL) hh (by with_unfolding_all rfl) (by with_unfolding_all rfl) (by with_unfolding_all rfl) ?_ ?_
  · clear S2
    rintro I i v b' H' s' hv ⟨i1, c1, i2, c2, rfl, rfl, g1, g2⟩ S
    have hi : i < vs.length := (List.getElem?_eq_some_iff.mp hv).1
    obtain ⟨n, t, rfl, hn⟩ := hI.at i v hv
    obtain ⟨k, hk⟩ : ∃ k : Nat, n / 4 % 7 = (k : Int) := ⟨(n / 4 % 7).toNat, by omega⟩
    have hk7 : k < 7 := by omega
    have z1 : i1.length ≤ 63 := Nat.le_trans g1.1 (by omega)
    have z2 : c1.length ≤ 63 := by rw [g1.len]; exact z1
    have z3 : i2.length ≤ 63 := Nat.le_trans g2.1 (by omega)
    have z4 : c2.length ≤ 63 := by rw [g2.len]; exact z3
    have y1 : (i1.map It.val).length ≤ sizeLine := by rw [sizeLine_eq, List.length_map]; omega
    have y2 : (c1.map Ct.val).length ≤ sizeLine := by rw [sizeLine_eq, List.length_map]; omega
    have y3 : (i2.map It.val).length ≤ sizeLine := by rw [sizeLine_eq, List.length_map]; omega
    have y4 : (c2.map Ct.val).length ≤ sizeLine := by rw [sizeLine_eq, List.length_map]; omega
    refine ex_post (fun s' => ∃ i1' c1', St s₁ L (up (Str.ofString "x") (.int n t) (B4 th o m r l)) ((I, LI l (i + 1)) :: HH r m o th i1' c1' i2 c2) s' ∧ Good9 i1' c1' (i + 1)) ?_ ?_
    · walk_at "in"
      walk_at "go"
      · rename St _ _ _ _ _ => S
        rw [hk]
        refine item_spec X TR S (by omega) hh hk7 ?_
        clear S
        intro _ K v hit S
        obtain ⟨x, rfl, rfl, hxc, hxo⟩ := hit.it
        have S2 := S.perm (ins1 x.ents [_, _, _, _, _] _ _)
        clear S
        walk_at "go"
        rename St _ _ _ _ _ => S
        rw [hk]
        refine class_spec X TR S (by omega) hk7 ?_
        clear S
        intro _ a ci cm tci tcm hcc hc0 hc7 S
        walk_at "go"
        rename St _ _ _ _ _ => S
        refine same_next ⟨i1 ++ [x], c1 ++ [⟨a, ci, cm, tci, tcm⟩], ?_, g1.snoc hxo ⟨hc0, hc7⟩ (by rw [← hxc, ← hcc]; rfl)⟩
        have := S.perm (ins2 [(⟨a, ci, cm, tci, tcm⟩ : Ct).ent] [_, _, _, _, _] _ _ _)
        simpa [HH, Ct.val] using this
      · rename St _ _ _ _ _ => S
        exact same_next ⟨i1, c1, S, g1.succ⟩
    clear S g1 y1 y2 z1 z2
    rintro s' ⟨i1, c1, S, g1⟩
    refine ex_post (fun s' => ∃ i2' c2', St s₁ L (up (Str.ofString "x") (.int n t) (B4 th o m r l)) ((I, LI l (i + 1)) :: HH r m o th i1 c1 i2' c2') s' ∧ Good9 i2' c2' (i + 1)) ?_ ?_
    · walk_at "in"
      walk_at "go"
      · rename St _ _ _ _ _ => S
        rw [hk]
        refine item_spec X TR S (by omega) hh hk7 ?_
        clear S
        intro _ K v hit S
        obtain ⟨x, rfl, rfl, hxc, hxo⟩ := hit.it
        have S2 := S.perm (ins3 x.ents [_, _, _, _, _] _ _ _ _)
        clear S
        walk_at "go"
        rename St _ _ _ _ _ => S
        rw [hk]
        refine class_spec X TR S (by omega) hk7 ?_
        clear S
        intro _ a ci cm tci tcm hcc hc0 hc7 S
        walk_at "go"
        rename St _ _ _ _ _ => S
        refine same_next ⟨i2 ++ [x], c2 ++ [⟨a, ci, cm, tci, tcm⟩], ?_, g2.snoc hxo ⟨hc0, hc7⟩ (by rw [← hxc, ← hcc]; rfl)⟩
        have := S.perm (ins4 [(⟨a, ci, cm, tci, tcm⟩ : Ct).ent] [_, _, _, _, _] _ _ _ _)
        simpa [HH, Ct.val] using this
      · rename St _ _ _ _ _ => S
        exact same_next ⟨i2, c2, S, g2.succ⟩
    clear S g2 y3 y4 z3 z4
    rintro s' ⟨i2, c2, S, g2⟩
    walk_at "go"
    exact ⟨_, _, S.bind (by walk_at "bind"), i1, c1, i2, c2, rfl, rfl, g1, g2⟩
  · clear S2
    rintro b' H' s' ⟨i1, c1, i2, c2, rfl, rfl, g1, g2⟩ S
    exact h _ _ _ _ _ _ _ _ _ S ⟨by have := g1.1; omega, g1.2⟩ ⟨by have := g2.1; omega, g2.2⟩
end
end Mine
namespace Mine
theorem missR_mem {num : Value → Int} {us : List Value} : ∀ (r : List Value) (c : Int → Nat), (∀ v ∈ missR num us c r, v ∈ r) ∧ (missR num us c r).length ≤ r.length
  | [], c => ⟨fun v h => h, Nat.le_refl _⟩
  | x :: r, c => by
    obtain ⟨h1, h2⟩ := missR_mem (num := num) (us := us) r (bump c (num x))
    simp only [missR]
    split
    · exact ⟨fun v hv => by rcases List.mem_cons.mp hv with rfl | hv; exact List.mem_cons_self ..; exact List.mem_cons_of_mem _ (h1 v hv), by simp; exact h2⟩
    · exact ⟨fun v hv => List.mem_cons_of_mem _ (h1 v hv), by simp; omega⟩
theorem aliveR_mem {num : Value → Int} {c : Int → Nat} : ∀ (r : List Value), (∀ v ∈ aliveR num c r, v ∈ r) ∧ (aliveR num c r).length ≤ r.length
  | [] => ⟨fun v h => h, Nat.le_refl _⟩
  | x :: r => by
    obtain ⟨h1, h2⟩ := aliveR_mem (num := num) (c := c) r
    simp only [aliveR]
    split
    · refine ⟨fun v hv => ?_, by simp; exact h2⟩
      rcases List.mem_append.mp hv with hv | hv
      · exact List.mem_cons_of_mem _ (h1 v hv)
      · rw [List.mem_singleton.mp hv]; exact List.mem_cons_self ..
    · refine ⟨fun v hv => ?_, by simp; omega⟩
      rw [List.append_nil] at hv
      exact List.mem_cons_of_mem _ (h1 v hv)
theorem mv1 {α : Type} (F G A Z : List α) (e : α) : (e :: (A ++ ((F ++ G) ++ Z))).Perm (F ++ e :: (G ++ (A ++ Z))) := by
  refine List.Perm.trans (.cons _ ?_) List.perm_middle.symm
  rw [List.append_assoc]
  exact (down (down (here A Z))).symm
theorem mv2 {α : Type} (F G A C I Z : List α) (e : α) : (e :: (I ++ ((F ++ G) ++ (A ++ (C ++ Z))))).Perm (F ++ e :: (G ++ (A ++ (C ++ (I ++ Z))))) := by
  refine List.Perm.trans (.cons _ ?_) List.perm_middle.symm
  rw [List.append_assoc]
  exact (down (down (down (down (here I Z))))).symm
theorem It.okV {x : It} {H : List Ent} (h : ∀ e ∈ x.ents2, e ∈ H) : OkV H x.val := by
  cases x with
  | int n t => exact Or.inl ⟨n, t, rfl⟩
  | bool v => exact Or.inr (Or.inl ⟨v, rfl⟩)
  | str n t => exact Or.inr (Or.inr (Or.inl ⟨_, t, rfl⟩))
  | lst a n t => exact Or.inr (Or.inr (Or.inr ⟨a, "list", rfl, h _ (List.mem_singleton.mpr rfl), Or.inl rfl⟩))
  | tup a n t => exact Or.inr (Or.inr (Or.inr ⟨a, "tuple", rfl, h _ (List.mem_singleton.mpr rfl), Or.inr (Or.inl rfl)⟩))
  | dct a n => exact Or.inr (Or.inr (Or.inr ⟨a, "dict", rfl, h _ (List.mem_singleton.mpr rfl), Or.inr (Or.inr (Or.inl rfl))⟩))
  | set a n => exact Or.inr (Or.inr (Or.inr ⟨a, "set", rfl, h _ (List.mem_singleton.mpr rfl), Or.inr (Or.inr (Or.inr rfl))⟩))
section
variable {w : World} {p : Program} {loose : List Str} {mg mb : Str → Option Value} {A : Around} {s s₁ : Shared} {L fa l : Addr} {cd : Value} {vs : List Value} {ns : List Int} {Q : Flow → Shared → Prop}
theorem law09_body (X : (hd09.heap_39 w.params).In s₁.heap) (TR : TopRead p loose mg mb s₁.heap) (hL : s₁.heap.IsList l vs.toArray) (hI : IntsAre vs ns) (hlen : ns.length ≤ 63)
    (hh : A.handled = none) (hd : A.depth + 5 < recursionLimit) (hu : A.units + 64 < cLine) (hfr : A.frames = some [envOf (fdAt (hd09.heap_39 w.params) 54).name (fdAt (hd09.heap_39 w.params) 54).scope L fa cd]) (S : St s₁ L [(Str.ofString "script", .ref l)] [] s) (hQ : ∀ s' b H, St s₁ L b H s' → Q (.ret (.bool true)) s') :
    wpAny (model PySem.Challenge.rw_dn0232_09.row.prog w) A (execs (bodyAt (fdAt (hd09.heap_39 w.params) 54)) (envOf (fdAt (hd09.heap_39 w.params) 54).name (fdAt (hd09.heap_39 w.params) 54).scope L fa cd)) Q (fun _ _ => False) s := by
  refine partA X TR hL hI hlen hh hd S ?_
  clear S
  intro s' r m o th i1 c1 i2 c2 S g1 g2
  have isit : ∀ x ∈ i1 ++ i2, ∀ h : Heap, (∀ p ∈ HH r m o th i1 c1 i2 c2, ∃ o, h.get? p.1 = some o ∧ p.2 o) → IsIt h x.val x.code := by
    intro x hx h hp
    rcases List.mem_append.mp hx with hx | hx
    · exact It.isIt (g1.2.2.1 x hx) fun e he => hp e (by
        have : e ∈ i1.flatMap It.ents := List.mem_flatMap.mpr ⟨x, hx, he⟩
        simp [this])
    · exact It.isIt (g2.2.2.1 x hx) fun e he => hp e (by
        have : e ∈ i2.flatMap It.ents := List.mem_flatMap.mpr ⟨x, hx, he⟩
        simp [this])
  have hf : ∀ p ∈ (i1 ++ i2).map (fun x => (x.val, x.code)), ∀ q ∈ (i1 ++ i2).map (fun x => (x.val, x.code)), p.1 = q.1 → p.2 = q.2 := by
    intro p hp q hq e
    obtain ⟨x, hx, rfl⟩ := List.mem_map.mp hp
    obtain ⟨y, hy, rfl⟩ := List.mem_map.mp hq
    have h1 := isit x hx _ S.nw
    have h2 := isit y hy _ S.nw
    simp only at e
    rw [← e] at h2
    exact h1.uniq h2
  generalize hnum : look ((i1 ++ i2).map fun x => (x.val, x.code)) = num
  have hn : ∀ x ∈ i1 ++ i2, num x.val = x.code := fun x hx => by rw [← hnum]; exact look_mem hf (p := (x.val, x.code)) (List.mem_map.mpr ⟨x, hx, rfl⟩)
  clear hf hnum
  have z1 : i1.length ≤ 63 := g1.1
  have z3 : i2.length ≤ 63 := g2.1
  have y1 : (i1.map It.val).length ≤ sizeLine := by rw [sizeLine_eq, List.length_map]; omega
  have y3 : (i2.map It.val).length ≤ sizeLine := by rw [sizeLine_eq, List.length_map]; omega
  walk_at "one"
  walk_at "one"
  rename St _ _ _ _ _ => S
  rw [cut_all, cut_all] at S
  obtain ⟨ex, ac, e1, e2, S2⟩ : ∃ ex ac, Value.ref ex = Value.ref _ ∧ Value.ref ac = Value.ref _ ∧ St s₁ L ((Str.ofString "actual", .ref ac) :: (Str.ofString "expected", .ref ex) :: B4 th o m r l) ((ex, Lst (i1.map It.val)) :: (ac, Lst (i2.map It.val)) :: HH r m o th i1 c1 i2 c2) _ :=
    ⟨_, _, rfl, rfl, (S.bind (by walk_at "bind")).perm (.swap _ _ _)⟩
  clear S e1 e2
  walk_at "one"
  rename St _ _ _ _ _ => S
  refine uldD_spec (same num) X TR S (by omega) hh hfr ?_ (by simp; omega) (by simp; omega) ?_ ?_
  · intro env hm
    simp at hm
    subst hm
    exact ⟨by show ScopeKind.function ≠ .module; decide, L, rfl, Or.inl rfl⟩
  · intro env s' hp x hx y hy
    obtain ⟨x', hx', rfl⟩ := List.mem_map.mp hx
    obtain ⟨y', hy', rfl⟩ := List.mem_map.mp hy
    have a1 : x' ∈ i1 ++ i2 := List.mem_append_left _ hx'
    have a2 : y' ∈ i1 ++ i2 := List.mem_append_right _ hy'
    have := eq_it (A := (A.deeper env).in1) (isit y' a2 _ hp) (isit x' a1 _ hp) (by simp; omega)
    simp only [same, hn x' a1, hn y' a2]
    exact this
  clear S
  intro _ tl ms S
  rw [uldD_law] at S
  walk_at "in"
  rename St _ _ _ _ _ => S
  have S3 : St s₁ L (B7 tl ac ex th o m r) ((tl, Tup [.ref ms, .ref ac]) :: (ms, Lst (missR num (i2.map It.val) (fun _ => 0) (i1.map It.val).reverse)) :: (ex, Lst []) :: (ac, Lst (aliveR num (fun n => cnt num n (i1.map It.val)) (i2.map It.val).reverse)) :: HH r m o th i1 c1 i2 c2) _ := S.bind (by walk_at "bind")
  clear S
  walk_at "one"
  rename St _ _ _ _ _ => S
  refine mark_spec (its := i1) X TR (S.perm (mv1 [_, _, _, _] [_, _, _] _ _ _)) (by omega) hh (by omega) (by decide) (by decide) ?_
  clear S
  intro _ S
  have S4 := S.perm (mv1 [_, _, _, _] [_, _, _] _ _ _).symm
  clear S
  walk_at "in"
  walk_at "one"
  rename St _ _ _ _ _ => S
  refine mark_spec (its := i2) X TR (S.perm (mv2 [_, _, _, _, _, _] [_] _ _ _ _ _)) (by omega) hh (by omega) (by decide) (by decide) ?_
  clear S
  intro _ S
  have S5 := S.perm (mv2 [_, _, _, _, _, _] [_] _ _ _ _ _).symm
  clear S
  walk_at "in"
  rename St _ _ _ _ _ => S
  generalize hM : missR num (i2.map It.val) (fun _ => 0) (i1.map It.val).reverse = M at S
  generalize hLF : aliveR num (fun n => cnt num n (i1.map It.val)) (i2.map It.val).reverse = LF at S
  have hn1 : (i1.map It.val).map num = c1.map Ct.code := by
    rw [← g1.2.1, List.map_map]; exact List.map_congr_left fun x hx => hn x (List.mem_append_left _ hx)
  have hn2 : (i2.map It.val).map num = c2.map Ct.code := by
    rw [← g2.2.1, List.map_map]; exact List.map_congr_left fun x hx => hn x (List.mem_append_right _ hx)
  have ent1 : ∀ c ∈ c1, c.ent ∈ c1.map Ct.ent := fun c hc => List.mem_map.mpr ⟨c, hc, rfl⟩
  have ent2 : ∀ c ∈ c2, c.ent ∈ c2.map Ct.ent := fun c hc => List.mem_map.mpr ⟨c, hc, rfl⟩
  refine partC (us := i2.map It.val) num X TR hh hu (r := r) (rs := i1.map It.val) (c1 := c1) (c2 := c2) (by walk_at "mem") (by walk_at "mem") (by walk_at "mem") (fun c hc => ⟨by have := ent1 c hc; simp only [List.mem_cons, List.mem_append, this]; simp, g1.2.2.2 c hc⟩) (fun c hc => ⟨by have := ent2 c hc; simp only [List.mem_cons, List.mem_append, this]; simp, g2.2.2.2 c hc⟩) hn1 hn2 (by simpa using z1) (by simpa using z3) S ?_
  clear S
  rw [hM]
  intro _ mi S
  refine partD (rs := i1.map It.val) (us := i2.map It.val) (c1 := c1) (c2 := c2) num X TR hh hu (by walk_at "mem") (by walk_at "mem") (by walk_at "mem") (fun c hc => ⟨by have := ent1 c hc; simp only [List.mem_cons, List.mem_append, this]; simp, g1.2.2.2 c hc⟩) (fun c hc => ⟨by have := ent2 c hc; simp only [List.mem_cons, List.mem_append, this]; simp, g2.2.2.2 c hc⟩) hn1 hn2 (by simpa using z1) (by simpa using z3) S ?_
  clear S
  rw [hLF]
  intro _ le S
  refine partE X TR hh hu hd ?_ ?_ ?_ ?_ S hQ
  · intro v hv
    rw [← hM] at hv
    have := (missR_mem _ _).1 v hv
    rw [List.mem_reverse] at this
    obtain ⟨x, hx, rfl⟩ := List.mem_map.mp this
    exact It.okV fun e he => by
      have : e ∈ i1.flatMap It.ents2 := List.mem_flatMap.mpr ⟨x, hx, he⟩
      exact List.mem_append_right [_, _, _, _] (List.mem_append_left _ this)
  · intro v hv
    rw [← hLF] at hv
    have := (aliveR_mem _).1 v hv
    rw [List.mem_reverse] at this
    obtain ⟨x, hx, rfl⟩ := List.mem_map.mp this
    exact It.okV fun e he => by
      have : e ∈ i2.flatMap It.ents2 := List.mem_flatMap.mpr ⟨x, hx, he⟩
      exact List.mem_append_right [_, _, _, _] (List.mem_append_right _ (List.mem_append_right _ (List.mem_append_left _ this)))
  · rw [← hM]; have := (missR_mem (num := num) (us := i2.map It.val) (i1.map It.val).reverse (fun _ => 0)).2; simp at this; omega
  · rw [← hLF]; have := (aliveR_mem (num := num) (c := fun n => cnt num n (i1.map It.val)) (i2.map It.val).reverse).2; simp at this; omega
end
end Mine
open Mine in
theorem PySem.Challenge.cw_dn0232_09_holds : PySem.Challenge.rw_dn0232_09.Holds := by
  refine Mine.hd09 ?_
  k_go0
  rename Fr _ _ _ _ => F0
  rename Top _ _ _ _ _ _ => T0
  rename Frag.In _ _ => KX
  rename Heap.IsList _ _ _ => hL
  rename IntsAre _ _ => hI
  rename ¬ (_ < _) => hlen
  rename Shared.gens _ = _ => hg
  refine wpAny_mono (law09_body KX (topRead_of T0) hL hI (by omega) (by rfl) (by simp only [depth_deeper, depth_caller]; decide) (by simp only [units_deeper, units_caller]; decide) (Around.frames_deeper rfl) (law_start0 _ F0 (lk1 (by rfl))) (fun s' b H S' => law_end S' hg (by intro _; rfl) (by with_unfolding_all exact postW_of (by rfl) (by exact w_eq_bool (w_res rfl) w_lit) (by rfl)))) (fun _ _ q => q) (fun _ _ q => q.elim)
