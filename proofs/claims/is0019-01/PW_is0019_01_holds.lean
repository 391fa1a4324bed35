import PyProof.Rows.All
import Wide.All
import OpenK.AllK
import Wide.FinOn
import PySem.Challenge.RW_is0019_01
set_option Elab.async false
set_option linter.all false
section
open PySem PySem.W PyProof.Rows
set_option Elab.async false
namespace Mine

/-- values as the laws speak of them -/
inductive V where
  | none
  | bool (b : Bool)
  | int (i : Int)
  | str (s : List Nat)
  | obj (k : Nat)
  | list (xs : List V)
  | tup (xs : List V)
  | sset (xs : List (List Nat))
  | g (v : Value)
  | rng (a b c : Int)

noncomputable instance : Inhabited V := ⟨.none⟩

noncomputable abbrev Fields := List (Nat × V)
inductive Ob where
  | inst (c : Addr) (fs : Fields)
  | cell (xs : List V)
noncomputable abbrev St := List Ob
/-- where the state's objects lie; and what else may turn, and so is no value's -/
structure Phi where
  objs : List (Addr × Addr)
  bad : List Addr
noncomputable def muts (φ : Phi) : List Addr := φ.objs.map (·.2) ++ φ.bad

noncomputable def big : Nat := 1048576
noncomputable def txt (l : List Nat) : Str := ⟨l.toArray⟩
noncomputable def TxtOk (l : List Nat) : Prop := l.length ≤ big ∧ ∀ c ∈ l, c < 0x110000

/-- a set of texts, as the library has it -/
noncomputable def StrSetOf (W : World) (o : Obj) (S : Str → Bool) (n : Nat) : Prop := ∀ prog : Program, o.SetObjOf (strKind prog W) S n
noncomputable def member (xs : List (List Nat)) (k : Str) : Bool := decide (k.cps.toList ∈ xs)

mutual
noncomputable def Rep (W : World) (φ : Phi) (h : Heap) : V → Value → Prop
  | .none, v => v = .none
  | .bool b, v => v = .bool b
  | .int i, v => ∃ t, v = .int i t
  | .str s, v => TxtOk s ∧ ∃ t, v = .str (txt s) t
  | .obj k, v => ∃ p, φ.objs[k]? = some p ∧ v = .ref p.1
  | .list xs, v => xs.length ≤ big ∧ ∃ a vs n, v = .ref a ∧ a ∉ muts φ ∧ h.get? a = some ⟨.type "list", none, .seq (List.toArray vs) n, #[]⟩ ∧ Reps W φ h xs vs
  | .tup xs, v => xs.length ≤ big ∧ ∃ a vs n, v = .ref a ∧ a ∉ muts φ ∧ h.get? a = some ⟨.type "tuple", none, .seq (List.toArray vs) n, #[]⟩ ∧ Reps W φ h xs vs
  | .sset xs, v => ∃ a o n, v = .ref a ∧ a ∉ muts φ ∧ h.get? a = some o ∧ StrSetOf W o (member xs) n ∧ n < 4096
  | .g w, v => v = w
  | .rng a b c, v => ∃ r x y z, v = .ref r ∧ r ∉ muts φ ∧ h.get? r = some ⟨.type "range", none, .fields #[.int a x, .int b y, .int c z], #[]⟩
noncomputable def Reps (W : World) (φ : Phi) (h : Heap) : List V → List Value → Prop
  | [], vs => vs = []
  | x :: xs, vs => ∃ v r, vs = v :: r ∧ Rep W φ h x v ∧ Reps W φ h xs r
end

/-- nothing that stood is turned, but the objects that may turn -/
noncomputable def Keep (φ : Phi) (own : List Addr) (h h' : Heap) : Prop := ∀ b o, h.get? b = some o → b ∉ muts φ → b ∉ own → h'.get? b = some o
noncomputable def Grow (φ : Phi) (h : Heap) (φ' : Phi) : Prop := ∃ ψ β, φ'.objs = φ.objs ++ ψ ∧ φ'.bad = φ.bad ++ β ∧ (∀ p ∈ ψ, h.get? p.2 = none) ∧ ∀ b ∈ β, h.get? b = none
noncomputable def Ext (h h' : Heap) : Prop := ∀ b o, h.get? b = some o → h'.get? b = some o

theorem Ext.refl (h : Heap) : Ext h h := fun _ _ e => e
theorem Ext.trans {a b c : Heap} (x : Ext a b) (y : Ext b c) : Ext a c := fun _ _ e => y _ _ (x _ _ e)
theorem Ext.keep {φ : Phi} {own : List Addr} {h h' : Heap} (x : Ext h h') : Keep φ own h h' := fun _ _ e _ _ => x _ _ e
theorem Grow.refl (φ : Phi) (h : Heap) : Grow φ h φ := ⟨[], [], (List.append_nil _).symm, (List.append_nil _).symm, (fun _ hp => nomatch hp), fun _ hp => nomatch hp⟩
theorem Grow.mem {φ φ' : Phi} {h : Heap} (x : Grow φ h φ') {b : Addr} (n : b ∈ muts φ) : b ∈ muts φ' := by
  obtain ⟨ψ, β, e1, e2, _, _⟩ := x
  unfold muts at n ⊢
  rw [e1, e2, List.map_append]
  rcases List.mem_append.mp n with n | n
  · exact List.mem_append_left _ (List.mem_append_left _ n)
  · exact List.mem_append_right _ (List.mem_append_left _ n)
theorem Grow.back {φ φ' : Phi} {h : Heap} (x : Grow φ h φ') {b : Addr} (n : b ∈ muts φ') : b ∈ muts φ ∨ h.get? b = none := by
  obtain ⟨ψ, β, e1, e2, hψ, hβ⟩ := x
  unfold muts at n ⊢
  rw [e1, e2, List.map_append] at n
  rcases List.mem_append.mp n with n | n <;> rcases List.mem_append.mp n with n | n
  · exact .inl (List.mem_append_left _ n)
  · obtain ⟨p, hp, rfl⟩ := List.mem_map.mp n; exact .inr (hψ p hp)
  · exact .inl (List.mem_append_right _ n)
  · exact .inr (hβ _ n)
theorem Grow.notmem {φ φ' : Phi} {h : Heap} (x : Grow φ h φ') {b : Addr} {o : Obj} (e : h.get? b = some o) (n : b ∉ muts φ) : b ∉ muts φ' := fun m => by
  rcases x.back m with m | m
  · exact n m
  · rw [m] at e; cases e
theorem Grow.at {φ φ' : Phi} {h : Heap} (x : Grow φ h φ') {k : Nat} {p : Addr × Addr} (e : φ.objs[k]? = some p) : φ'.objs[k]? = some p := by
  obtain ⟨ψ, β, e1, _⟩ := x
  have : k < φ.objs.length := by
    rcases Nat.lt_or_ge k φ.objs.length with h | h
    · exact h
    · rw [List.getElem?_eq_none h] at e; cases e
  rw [e1, List.getElem?_append_left this]; exact e
theorem Grow.trans {a b c : Phi} {h h' : Heap} {own : List Addr} (x : Grow a h b) (k : Keep a own h h') (ho : ∀ o ∈ own, o ∉ muts c) (y : Grow b h' c) (hm : ∀ m ∈ muts a, (h'.get? m).isSome) : Grow a h c := by
  have back : ∀ m, m ∈ muts c → h'.get? m = none → h.get? m = none := fun m mc e' => by
    cases e : h.get? m with
    | none => rfl
    | some o =>
      by_cases q : m ∈ muts a
      · have := hm _ q; rw [e'] at this; cases this
      · have w := k _ _ e q fun z => ho _ z mc
        rw [e'] at w; cases w
  obtain ⟨ψ, β, e1, e2, hψ, hβ⟩ := x
  obtain ⟨ψ', β', f1, f2, hψ', hβ'⟩ := y
  refine ⟨ψ ++ ψ', β ++ β', by rw [f1, e1, List.append_assoc], by rw [f2, e2, List.append_assoc], fun p hp => ?_, fun p hp => ?_⟩
  · rcases List.mem_append.mp hp with hp | hp
    · exact hψ p hp
    · refine back _ ?_ (hψ' p hp)
      unfold muts; rw [f1]
      exact List.mem_append_left _ (List.mem_map_of_mem (List.mem_append_right _ hp))
  · rcases List.mem_append.mp hp with hp | hp
    · exact hβ p hp
    · refine back _ ?_ (hβ' p hp)
      unfold muts; rw [f2]
      exact List.mem_append_right _ (List.mem_append_right _ hp)

/-- an object that no value is -/
noncomputable def Loose (o : Obj) : Prop := (∃ es n, o.data = .dict es n) ∨ (∃ v, o.data = .cell v) ∨ ∃ vs, o.data = .fields vs ∧ o.cls ≠ .type "range"
noncomputable def Own (h : Heap) (own : List Addr) : Prop := ∀ b ∈ own, ∃ o, h.get? b = some o ∧ Loose o
theorem Own.nil (h : Heap) : Own h [] := fun _ m => nomatch m
theorem Own.ne {h : Heap} {own : List Addr} (O : Own h own) {a : Addr} {o : Obj} (e : h.get? a = some o) (n : ¬ Loose o) : a ∉ own := fun m => by
  obtain ⟨o', e', q⟩ := O a m
  rw [e] at e'; cases e'
  exact n q
theorem tight_seq {c : Value} {d : Option Addr} {xs : Array Value} {n : Nat} {sl} : ¬ Loose ⟨c, d, .seq xs n, sl⟩ := fun q => by
  rcases q with ⟨_, _, q⟩ | ⟨_, q⟩ | ⟨_, q, _⟩ <;> cases q
theorem tight_set {o : Obj} {es n t} (hd : o.data = .set es n t) : ¬ Loose o := fun q => by
  rcases q with ⟨_, _, q⟩ | ⟨_, q⟩ | ⟨_, q, _⟩ <;> (rw [hd] at q; cases q)
theorem tight_range {d : Option Addr} {xs : Array Value} {sl} : ¬ Loose ⟨.type "range", d, .fields xs, sl⟩ := fun q => by
  rcases q with ⟨_, _, q⟩ | ⟨_, q⟩ | ⟨_, _, q⟩
  · cases q
  · cases q
  · exact q rfl
theorem tight_plain {c : Value} {d : Option Addr} {sl} : ¬ Loose ⟨c, d, .plain, sl⟩ := fun q => by
  rcases q with ⟨_, _, q⟩ | ⟨_, q⟩ | ⟨_, q, _⟩ <;> cases q

mutual
theorem Rep.mono {W : World} {φ φ' : Phi} {h h' : Heap} {own : List Addr} (G : Grow φ h φ') (K : Keep φ own h h') (O : Own h own) : ∀ {x : V} {v : Value}, Rep W φ h x v → Rep W φ' h' x v
  | .none, _, r => by rw [Rep] at r ⊢; exact r
  | .bool _, _, r => by rw [Rep] at r ⊢; exact r
  | .int _, _, r => by rw [Rep] at r ⊢; exact r
  | .str _, _, r => by rw [Rep] at r ⊢; exact r
  | .obj _, _, r => by
    rw [Rep] at r ⊢
    obtain ⟨p, a, b⟩ := r
    exact ⟨p, G.at a, b⟩
  | .list xs, _, r => by
    rw [Rep] at r ⊢
    obtain ⟨l, a, vs, n, e, m, ho, q⟩ := r
    exact ⟨l, a, vs, n, e, G.notmem ho m, K _ _ ho m (O.ne ho tight_seq), Reps.mono G K O q⟩
  | .tup xs, _, r => by
    rw [Rep] at r ⊢
    obtain ⟨l, a, vs, n, e, m, ho, q⟩ := r
    exact ⟨l, a, vs, n, e, G.notmem ho m, K _ _ ho m (O.ne ho tight_seq), Reps.mono G K O q⟩
  | .sset xs, _, r => by
    rw [Rep] at r ⊢
    obtain ⟨a, o, n, e, m, ho, q, q'⟩ := r
    obtain ⟨_, es, ep, t, hd, _⟩ := q default
    exact ⟨a, o, n, e, G.notmem ho m, K _ _ ho m (O.ne ho (tight_set hd)), q, q'⟩
  | .g _, _, r => by rw [Rep] at r ⊢; exact r
  | .rng _ _ _, _, r => by
    rw [Rep] at r ⊢
    obtain ⟨a, x, y, z, e, m, ho⟩ := r
    exact ⟨a, x, y, z, e, G.notmem ho m, K _ _ ho m (O.ne ho tight_range)⟩
theorem Reps.mono {W : World} {φ φ' : Phi} {h h' : Heap} {own : List Addr} (G : Grow φ h φ') (K : Keep φ own h h') (O : Own h own) : ∀ {xs : List V} {vs : List Value}, Reps W φ h xs vs → Reps W φ' h' xs vs
  | [], _, r => by rw [Reps] at r ⊢; exact r
  | _ :: _, _, r => by
    rw [Reps] at r ⊢
    obtain ⟨v, q, e, a, b⟩ := r
    exact ⟨v, q, e, Rep.mono G K O a, Reps.mono G K O b⟩
end
theorem Rep.ext {W : World} {φ : Phi} {h h' : Heap} (x : Ext h h') {v : V} {u : Value} (r : Rep W φ h v u) : Rep W φ h' v u := r.mono (.refl _ _) (x.keep (own := [])) (.nil _)
theorem Reps.ext {W : World} {φ : Phi} {h h' : Heap} (x : Ext h h') {v : List V} {u : List Value} (r : Reps W φ h v u) : Reps W φ h' v u := r.mono (.refl _ _) (x.keep (own := [])) (.nil _)
theorem Reps.len {W : World} {φ : Phi} {h : Heap} : ∀ {xs : List V} {vs : List Value}, Reps W φ h xs vs → vs.length = xs.length
  | [], _, r => by rw [Reps] at r; subst r; rfl
  | _ :: _, _, r => by
    rw [Reps] at r
    obtain ⟨v, q, rfl, _, b⟩ := r
    simp [Reps.len b]
theorem Reps.app {W : World} {φ : Phi} {h : Heap} : ∀ {xs ys : List V} {vs ws : List Value}, Reps W φ h xs vs → Reps W φ h ys ws → Reps W φ h (xs ++ ys) (vs ++ ws)
  | [], _, _, _, r, q => by rw [Reps] at r; subst r; exact q
  | _ :: _, _, _, _, r, q => by
    rw [Reps] at r
    obtain ⟨v, k, rfl, a, b⟩ := r
    show Reps _ _ _ (_ :: (_ ++ _)) (_ :: (_ ++ _))
    rw [Reps]
    exact ⟨_, _, rfl, a, Reps.app b q⟩
theorem Reps.get {W : World} {φ : Phi} {h : Heap} : ∀ {xs : List V} {vs : List Value}, Reps W φ h xs vs → ∀ {i : Nat} {x : V}, xs[i]? = some x → ∃ v, vs[i]? = some v ∧ Rep W φ h x v
  | [], _, _, _, _, e => by simp at e
  | _ :: _, _, r, i, x, e => by
    rw [Reps] at r
    obtain ⟨v, k, rfl, a, b⟩ := r
    cases i with
    | zero => simp at e; subst e; exact ⟨v, rfl, a⟩
    | succ i => simp at e; simpa using Reps.get b e
theorem Reps.drop {W : World} {φ : Phi} {h : Heap} : ∀ {xs : List V} {vs : List Value} (n : Nat), Reps W φ h xs vs → Reps W φ h (xs.drop n) (vs.drop n)
  | _, _, 0, r => r
  | [], _, _ + 1, r => by rw [Reps] at r; subst r; simp [Reps]
  | _ :: _, _, n + 1, r => by
    rw [Reps] at r
    obtain ⟨v, k, rfl, a, b⟩ := r
    exact Reps.drop n b
theorem Reps.take {W : World} {φ : Phi} {h : Heap} : ∀ {xs : List V} {vs : List Value} (n : Nat), Reps W φ h xs vs → Reps W φ h (xs.take n) (vs.take n)
  | _, _, 0, _ => by simp [Reps]
  | [], _, _ + 1, r => by rw [Reps] at r; subst r; simp [Reps]
  | _ :: _, _, n + 1, r => by
    rw [Reps] at r
    obtain ⟨v, k, rfl, a, b⟩ := r
    simp only [List.take_succ_cons]
    rw [Reps]
    exact ⟨_, _, rfl, a, Reps.take n b⟩

/-- what may turn too -/
noncomputable def Phi.ban (φ : Phi) (B : List Addr) : Phi := ⟨φ.objs, φ.bad ++ B⟩
theorem Grow.ban (φ : Phi) {h : Heap} {B : List Addr} (hb : ∀ b ∈ B, h.get? b = none) : Grow φ h (φ.ban B) := ⟨[], B, (List.append_nil _).symm, rfl, (fun _ hp => nomatch hp), hb⟩
theorem muts_ban {φ : Phi} {B : List Addr} {b : Addr} : b ∈ muts (φ.ban B) ↔ b ∈ muts φ ∨ b ∈ B := by
  unfold muts Phi.ban; simp only [List.mem_append, or_assoc]
mutual
theorem Rep.unban {W : World} {φ : Phi} {h : Heap} {B : List Addr} : ∀ {x : V} {v : Value}, Rep W (φ.ban B) h x v → Rep W φ h x v
  | .none, _, r => by rw [Rep] at r ⊢; exact r
  | .bool _, _, r => by rw [Rep] at r ⊢; exact r
  | .int _, _, r => by rw [Rep] at r ⊢; exact r
  | .str _, _, r => by rw [Rep] at r ⊢; exact r
  | .obj _, _, r => by rw [Rep] at r ⊢; exact r
  | .list xs, _, r => by
    rw [Rep] at r ⊢
    obtain ⟨l, a, vs, n, e, m, ho, q⟩ := r
    exact ⟨l, a, vs, n, e, fun z => m (muts_ban.mpr (.inl z)), ho, Reps.unban q⟩
  | .tup xs, _, r => by
    rw [Rep] at r ⊢
    obtain ⟨l, a, vs, n, e, m, ho, q⟩ := r
    exact ⟨l, a, vs, n, e, fun z => m (muts_ban.mpr (.inl z)), ho, Reps.unban q⟩
  | .sset xs, _, r => by
    rw [Rep] at r ⊢
    obtain ⟨a, o, n, e, m, q⟩ := r
    exact ⟨a, o, n, e, fun z => m (muts_ban.mpr (.inl z)), q⟩
  | .g _, _, r => by rw [Rep] at r ⊢; exact r
  | .rng _ _ _, _, r => by
    rw [Rep] at r ⊢
    obtain ⟨a, x, y, z, e, m, ho⟩ := r
    exact ⟨a, x, y, z, e, fun t => m (muts_ban.mpr (.inl t)), ho⟩
theorem Reps.unban {W : World} {φ : Phi} {h : Heap} {B : List Addr} : ∀ {xs : List V} {vs : List Value}, Reps W (φ.ban B) h xs vs → Reps W φ h xs vs
  | [], _, r => by rw [Reps] at r ⊢; exact r
  | _ :: _, _, r => by
    rw [Reps] at r ⊢
    obtain ⟨v, q, e, a, b⟩ := r
    exact ⟨v, q, e, Rep.unban a, Reps.unban b⟩
end

end Mine
end

section
open PySem PySem.W PyProof.Rows
set_option Elab.async false
set_option maxRecDepth 100000
namespace Mine

inductive Bop where | add | sub | mul | fdiv | mod | shr
  deriving DecidableEq
noncomputable def Bop.py : Bop → Operator
  | .add => .Add | .sub => .Sub | .mul => .Mult | .fdiv => .FloorDiv | .mod => .Mod | .shr => .RShift

noncomputable def rept (l : List Nat) (n : Nat) : List Nat := (List.replicate n l).flatten

theorem dead {α : Type} {r : α} {C : Prop} (e : none = some r) : C := nomatch e
noncomputable def int1 {α : Type} (a : V) (k : Int → Option α) : Option α := match a with
  | .int x => k x
  | _ => none
noncomputable def asS {α : Type} (a : V) (k : List Nat → Option α) : Option α := match a with
  | .str l => k l
  | _ => none
noncomputable def asL {α : Type} (a : V) (k : List V → Option α) : Option α := match a with
  | .list l => k l
  | _ => none
theorem int1_el {α : Type} {a : V} {k : Int → Option α} {r : α} {m : V → Prop} (e : int1 a k = some r) (kk : ∀ x, k x = some r → m (.int x)) : m a := by
  cases a with
  | int x => exact kk x e
  | _ => exact dead e
theorem asS_el {α : Type} {a : V} {k : List Nat → Option α} {r : α} {m : V → Prop} (e : asS a k = some r) (kk : ∀ x, k x = some r → m (.str x)) : m a := by
  cases a with
  | str x => exact kk x e
  | _ => exact dead e
theorem asL_el {α : Type} {a : V} {k : List V → Option α} {r : α} {m : V → Prop} (e : asL a k = some r) (kk : ∀ x, k x = some r → m (.list x)) : m a := by
  cases a with
  | list x => exact kk x e
  | _ => exact dead e
/-- both are whole numbers -/
noncomputable def int2 {α : Type} (a b : V) (k : Int → Int → Option α) : Option α := int1 a fun x => int1 b fun y => k x y
theorem int2_some {α : Type} {a b : V} {k : Int → Int → Option α} {r : α} (e : int2 a b k = some r) : ∃ x y, a = .int x ∧ b = .int y ∧ k x y = some r :=
  int1_el (m := fun a => ∃ x y, a = .int x ∧ b = .int y ∧ k x y = some r) e fun x e => int1_el (m := fun b => ∃ x' y, V.int x = .int x' ∧ b = .int y ∧ k x' y = some r) e fun y e => ⟨x, y, rfl, rfl, e⟩
noncomputable def addV (a b : V) : Option V := match a with
  | .int x => int1 b fun y => some (.int (x + y))
  | .str x => asS b fun y => if x.length + y.length ≤ big then some (.str (x ++ y)) else none
  | .list x => asL b fun y => if x.length + y.length ≤ big then some (.list (x ++ y)) else none
  | _ => none
noncomputable def mulV (a b : V) : Option V := asS a fun x => int1 b fun n => if 0 ≤ n ∧ n ≤ 1000 ∧ x.length ≤ 1000 then some (.str (rept x n.toNat)) else none
noncomputable def binV (o : Bop) (a b : V) : Option V := match o with
  | .add => addV a b
  | .sub => int2 a b fun x y => some (.int (x - y))
  | .mul => mulV a b
  | .fdiv => int2 a b fun x y => if 0 < y ∧ y < 1073741824 then some (.int (x.fdiv y)) else none
  | .mod => int2 a b fun x y => if 0 < y then some (.int (x.fmod y)) else none
  | .shr => int2 a b fun x y => if 0 ≤ y then some (.int (x.fdiv (2 ^ y.toNat))) else none

theorem txt_length (l : List Nat) : (txt l).length = l.length := by simp [txt, Str.length]
theorem big_le : big ≤ sizeLine := by rw [sizeLine_eq]; unfold big; omega
theorem txt_app (a b : List Nat) : txt a ++ txt b = txt (a ++ b) := by
  apply Str.ext'
  show ((txt a).cps ++ (txt b).cps) = _
  simp [txt]
theorem fits_of_lt {x : Int} (h1 : 0 ≤ x) (h2 : x < 2 ^ 62) : (decide (x < -(2 ^ 63 : Int)) || decide (x ≥ 2 ^ 63)) = false := by
  rw [decide_eq_false (by omega), decide_eq_false (by omega)]; rfl

theorem foldl_app (n : Nat) (x : Array Nat) : ∀ acc : Array Nat, ((List.replicate n x).foldl (· ++ ·) acc).toList = acc.toList ++ (List.replicate n x.toList).flatten := by
  induction n with
  | zero => intro acc; simp
  | succ n ih => intro acc; rw [List.replicate_succ, List.foldl_cons, ih, List.replicate_succ, List.flatten_cons, Array.toList_append, List.append_assoc]
theorem txt_mul (a : List Nat) {n : Int} (h : 0 ≤ n) : Txt.mul (txt a) n = txt (rept a n.toNat) := by
  apply Str.ext'
  unfold Txt.mul rept
  by_cases h1 : n < 1
  · rw [if_pos h1, show n.toNat = 0 by omega]; rfl
  · rw [if_neg h1]
    split
    · rename_i q
      rcases Bool.or_eq_true_iff.mp q with q | q
      · have : n = 1 := by simpa using q
        subst this
        simp [txt]
      · have : a = [] := by
          rw [beq_iff_eq, txt_length] at q
          exact List.length_eq_zero_iff.mp q
        subst this
        simp [txt]
    · apply Array.ext'
      rw [foldl_app]
      simp [txt]
theorem rept_length (a : List Nat) (n : Nat) : (rept a n).length = n * a.length := by
  unfold rept
  induction n with
  | zero => simp
  | succ n ih => rw [List.replicate_succ, List.flatten_cons, List.length_append, ih, Nat.succ_mul]; omega

section
variable {prog : Program} {w : World} {A : Around} {E : Value → Shared → Prop} {s : Shared} {φ : Phi} {Q : Value → Shared → Prop}

noncomputable abbrev Gives1 (w : World) (φ : Phi) (s : Shared) (r : V) (Q : Value → Shared → Prop) : Prop := ∀ v' h' k, Ext s.heap h' → Rep w φ h' r v' → Q v' { s with heap := h', toks := k }

theorem Gives1.same {r : V} {v : Value} (h : Gives1 w φ s r Q) (e : Rep w φ s.heap r v) : Q v s := h v s.heap s.toks (.refl _) e
theorem Gives1.tok {r : V} {v : Value} {k : Nat} (h : Gives1 w φ s r Q) (e : Rep w φ s.heap r v) : Q v { s with toks := k } := h v s.heap k (.refl _) e

theorem Ext.push (h : Heap) (o : Obj) : Ext h (h.push o) := fun _ _ e => Heap.get?_push_of_some _ e
theorem fresh_notin {h : Heap} (hm : ∀ m ∈ muts φ, (h.get? m).isSome) : h.objs.size ∉ muts φ := fun q => by
  obtain ⟨o, ho⟩ := Option.isSome_iff_exists.mp (hm _ q)
  exact absurd (Heap.lt_size ho) (Nat.lt_irrefl _)

theorem rep_int {h : Heap} (a : Int) (t : Tok) : Rep w φ h (.int a) (.int a t) := by rw [Rep]; exact ⟨_, rfl⟩
theorem rep_txt {h : Heap} {l : List Nat} (ok : TxtOk l) (t : Tok) : Rep w φ h (.str l) (.str (txt l) t) := by rw [Rep]; exact ⟨ok, _, rfl⟩
theorem rep_bo {h : Heap} (b : Bool) : Rep w φ h (.bool b) (.bool b) := by rw [Rep]
theorem int_el {h : Heap} {a : Int} {v : Value} {m : Value → Prop} (r : Rep w φ h (.int a) v) (k : ∀ t, m (.int a t)) : m v := by
  rw [Rep] at r; obtain ⟨t, rfl⟩ := r; exact k t
theorem str_el {h : Heap} {l : List Nat} {v : Value} {m : Value → Prop} (r : Rep w φ h (.str l) v) (k : ∀ t, TxtOk l → m (.str (txt l) t)) : m v := by
  rw [Rep] at r; obtain ⟨ok, t, rfl⟩ := r; exact k t ok
theorem list_el {h : Heap} {xs : List V} {v : Value} {m : Value → Prop} (r : Rep w φ h (.list xs) v) (k : ∀ a vs n, xs.length ≤ big → a ∉ muts φ → h.get? a = some ⟨.type "list", none, .seq (List.toArray vs) n, #[]⟩ → Reps w φ h xs vs → m (.ref a)) : m v := by
  rw [Rep] at r; obtain ⟨hl, a, vs, n, rfl, nm, ho, q⟩ := r; exact k a vs n hl nm ho q
theorem two_el {h : Heap} {a b r : V} {va vb : Value} {k : Int → Int → Option V} {m : Value → Value → Prop} (e : int2 a b k = some r) (ra : Rep w φ h a va) (rb : Rep w φ h b vb) (kk : ∀ x y t u, k x y = some r → m (.int x t) (.int y u)) : m va vb := by
  obtain ⟨x, y, rfl, rfl, e⟩ := int2_some e
  exact int_el (m := fun va => m va vb) ra fun t => int_el (m := fun vb => m (.int x t) vb) rb fun u => kk x y t u e
theorem ite_el {α : Type} {c : Prop} {_ : Decidable c} {v r : α} {C : Prop} (e : (if c then some v else none) = some r) (k : c → v = r → C) : C := by
  by_cases q : c
  · rw [if_pos q] at e; exact k q (Option.some.inj e)
  · rw [if_neg q] at e; cases e
theorem add_str_op {a b : List Nat} {r : V} {va vb : Value} (e : addV (.str a) (.str b) = some r) (ra : Rep w φ s.heap (.str a) va) (rb : Rep w φ s.heap (.str b) vb) (h : Gives1 w φ s r Q) : wpAny (model prog w) A (binaryOp .Add va vb) Q E s :=
  ite_el e fun q e => str_el (m := fun va => wpAny _ A (binaryOp _ va vb) Q E s) ra fun t ta => str_el (m := fun vb => wpAny _ A (binaryOp _ (.str (txt a) t) vb) Q E s) rb fun u tb => by
    refine add_str (fun t' tk => ?_) (by rw [txt_length, txt_length]; exact Nat.le_trans q big_le)
    rw [txt_app]
    exact h.tok (e ▸ rep_txt ⟨by rw [List.length_append]; exact q, fun c hc => (List.mem_append.mp hc).elim (ta.2 c) (tb.2 c)⟩ _)
theorem add_list_op {a b : List V} {r : V} {va vb : Value} (hm : ∀ m ∈ muts φ, (s.heap.get? m).isSome) (e : addV (.list a) (.list b) = some r) (ra : Rep w φ s.heap (.list a) va) (rb : Rep w φ s.heap (.list b) vb) (h : Gives1 w φ s r Q) : wpAny (model prog w) A (binaryOp .Add va vb) Q E s :=
  ite_el e fun q e => list_el (m := fun va => wpAny _ A (binaryOp _ va vb) Q E s) ra fun x vs n _ _ ho ra => list_el (m := fun vb => wpAny _ A (binaryOp _ (.ref x) vb) Q E s) rb fun y us n' _ _ ho' rb => by
    refine P.add_list ho ho' (h _ _ _ (Ext.push _ _) ?_) (by simp only [List.size_toArray]; rw [ra.len, rb.len]; exact Nat.le_trans q big_le)
    rw [← e, Rep]
    refine ⟨by rw [List.length_append]; exact q, _, vs ++ us, 0, rfl, fresh_notin hm, ?_, (Reps.app ra rb).ext (Ext.push _ _)⟩
    rw [Heap.get?_push_size _ rfl, List.append_toArray]
theorem mul_op {a : List Nat} {n : Int} {r : V} {va vb : Value} (e : mulV (.str a) (.int n) = some r) (ra : Rep w φ s.heap (.str a) va) (rb : Rep w φ s.heap (.int n) vb) (h : Gives1 w φ s r Q) : wpAny (model prog w) A (binaryOp .Mult va vb) Q E s :=
  ite_el e fun q e => str_el (m := fun va => wpAny _ A (binaryOp _ va vb) Q E s) ra fun t ta => int_el (m := fun vb => wpAny _ A (binaryOp _ (.str (txt a) t) vb) Q E s) rb fun u => by
    have hl : (rept a n.toNat).length ≤ big := by
      rw [rept_length]
      exact Nat.le_trans (Nat.mul_le_mul (Int.toNat_le.mpr q.2.1) q.2.2) (by decide)
    refine SB.mul (prog := prog) ⟨fits_of_lt q.1 (Int.lt_of_le_of_lt q.2.1 (by decide)), fun h1 h2 h3 => ?_, fun h1 h2 => ?_⟩ fun t' k => ?_
    · rw [txt_length] at h3
      clear h hl e ta
      have h4 : (2 ^ 63 - 1) / (1000 : Int) ≤ (2 ^ 63 - 1) / n := by
        apply Int.le_ediv_of_mul_le (by omega)
        have : (2 ^ 63 - 1) / (1000 : Int) * n ≤ (2 ^ 63 - 1) / (1000 : Int) * 1000 := Int.mul_le_mul_of_nonneg_left q.2.1 (by decide)
        exact Int.le_trans this (by decide)
      have : (a.length : Int) ≤ 1000 := by omega
      have h5 : (1000 : Int) < (2 ^ 63 - 1) / (1000 : Int) := by decide
      omega
    · rw [txt_length]
      have h3 : a.length * n.toNat ≤ big := by rw [Nat.mul_comm, ← rept_length]; exact hl
      exact decide_eq_false (Nat.not_lt.mpr (Nat.le_trans h3 big_le))
    · rw [txt_mul a q.1]
      refine h.tok (e ▸ rep_txt ⟨hl, fun c hc => ?_⟩ _)
      obtain ⟨l, hl, hc⟩ := List.mem_flatten.mp hc
      rw [(List.mem_replicate.mp hl).2] at hc
      exact ta.2 c hc
theorem bin_op (o : Bop) {a b r : V} {va vb : Value} (hm : ∀ m ∈ muts φ, (s.heap.get? m).isSome) (e : binV o a b = some r) (ra : Rep w φ s.heap a va) (rb : Rep w φ s.heap b vb) (h : Gives1 w φ s r Q) :
    wpAny (model prog w) A (binaryOp o.py va vb) Q E s := by
  cases o with
  | sub => exact two_el (m := fun va vb => wpAny _ A (binaryOp _ va vb) Q E s) e ra rb fun x y t u e => P.sub_int (h.tok (Option.some.inj e ▸ rep_int _ _))
  | fdiv => exact two_el (m := fun va vb => wpAny _ A (binaryOp _ va vb) Q E s) e ra rb fun x y t u e => ite_el e fun q e => floordiv_int (Int.ne_of_gt q.1) (h.tok (e ▸ rep_int _ _)) (.inl (PyProof.noPylong_small (by omega)))
  | mod => exact two_el (m := fun va vb => wpAny _ A (binaryOp _ va vb) Q E s) e ra rb fun x y t u e => ite_el e fun q e => mod_int' (Int.ne_of_gt q) (h.tok (e ▸ rep_int _ _))
  | shr => exact two_el (m := fun va vb => wpAny _ A (binaryOp _ va vb) Q E s) e ra rb fun x y t u e => ite_el e fun q e => rshift_int q (h.tok (e ▸ rep_int _ _))
  | add =>
    cases a with
    | int a => exact int1_el (m := fun b => Rep w φ s.heap b vb → wpAny _ A (binaryOp _ va vb) Q E s) e (fun b e rb => int_el (m := fun va => wpAny _ A (binaryOp _ va vb) Q E s) ra fun t => int_el (m := fun vb => wpAny _ A (binaryOp _ (.int a t) vb) Q E s) rb fun u => P.add_int (h.tok (Option.some.inj e ▸ rep_int _ _))) rb
    | str a => exact asS_el (m := fun b => Rep w φ s.heap b vb → wpAny _ A (binaryOp _ va vb) Q E s) e (fun b e rb => add_str_op e ra rb h) rb
    | list a => exact asL_el (m := fun b => Rep w φ s.heap b vb → wpAny _ A (binaryOp _ va vb) Q E s) e (fun b e rb => add_list_op hm e ra rb h) rb
    | _ => exact dead e
  | mul => exact asS_el (m := fun a => Rep w φ s.heap a va → wpAny _ A (binaryOp _ va vb) Q E s) e (fun a e ra => int1_el (m := fun b => Rep w φ s.heap b vb → wpAny _ A (binaryOp _ va vb) Q E s) e (fun n e rb => mul_op e ra rb h) rb) ra

mutual
noncomputable def flat : V → Option PyData
  | .none => some .none
  | .bool b => some (.bool b)
  | .int i => some (.int i)
  | .str s => some (.str (txt s))
  | .list xs => (flats xs).map .list
  | _ => none
noncomputable def flats : List V → Option (List PyData)
  | [] => some []
  | x :: xs => (flat x).bind fun d => (flats xs).map (d :: ·)
end
mutual
theorem flat_reads {h : Heap} : ∀ {x : V} {d : PyData} {v : Value}, flat x = some d → Rep w φ h x v → d.canLay0 = true ∧ ∃ as, Reads h v d as
  | .none, _, _, e, r => by simp only [flat, Option.some.injEq] at e; subst e; rw [Rep] at r; subst r; exact ⟨rfl, _, .none⟩
  | .bool b, _, _, e, r => by simp only [flat, Option.some.injEq] at e; subst e; rw [Rep] at r; subst r; exact ⟨rfl, _, .bool _⟩
  | .int i, _, _, e, r => by simp only [flat, Option.some.injEq] at e; subst e; rw [Rep] at r; obtain ⟨t, rfl⟩ := r; exact ⟨rfl, _, .int _ _⟩
  | .str l, _, _, e, r => by
    simp only [flat, Option.some.injEq] at e; subst e; rw [Rep] at r; obtain ⟨ok, t, rfl⟩ := r
    refine ⟨?_, _, .str _ _⟩
    show PyData.strOk (txt l) = true
    unfold PyData.strOk txt
    rw [List.all_toArray]
    exact List.all_eq_true.mpr fun c hc => decide_eq_true (ok.2 c hc)
  | .list xs, _, _, e, r => by
    simp only [flat, Option.map_eq_some_iff] at e
    obtain ⟨ds, e, rfl⟩ := e
    rw [Rep] at r
    obtain ⟨_, a, vs, n, rfl, _, ho, q⟩ := r
    obtain ⟨c, as, z⟩ := flats_reads e q
    exact ⟨c, _, .list ho rfl rfl (by simpa using z)⟩
  | .obj _, _, _, e, _ => by simp [flat] at e
  | .tup _, _, _, e, _ => by simp [flat] at e
  | .sset _, _, _, e, _ => by simp [flat] at e
  | .g _, _, _, e, _ => by simp [flat] at e
  | .rng _ _ _, _, _, e, _ => by simp [flat] at e
theorem flats_reads {h : Heap} : ∀ {xs : List V} {ds : List PyData} {vs : List Value}, flats xs = some ds → Reps w φ h xs vs → PyData.canLayAll0 ds = true ∧ ∃ as, ReadsAll h vs ds as
  | [], _, _, e, r => by simp only [flats, Option.some.injEq] at e; subst e; rw [Reps] at r; subst r; exact ⟨rfl, _, .nil⟩
  | x :: xs, _, _, e, r => by
    simp only [flats, Option.bind_eq_some_iff, Option.map_eq_some_iff] at e
    obtain ⟨d, e1, ds, e2, rfl⟩ := e
    rw [Reps] at r
    obtain ⟨v, q, rfl, r1, r2⟩ := r
    obtain ⟨c1, a1, z1⟩ := flat_reads e1 r1
    obtain ⟨c2, a2, z2⟩ := flats_reads e2 r2
    exact ⟨by show (_ && _) = true; rw [c1, c2]; rfl, _, .cons z1 z2⟩
end

/-- equality, where both are of one kind -/
noncomputable def eqV : V → V → Option Bool
  | .none, .none => some true
  | .bool a, .bool b => some (a == b)
  | .int a, .int b => some (a == b)
  | .str a, .str b => some (a == b)
  | _, _ => none
noncomputable def eqVs : List V → List V → Option Bool
  | [], [] => some true
  | x :: xs, y :: ys => (eqV x y).bind fun p => (eqVs xs ys).map fun q => p && q
  | [], _ :: _ => some false
  | _ :: _, [] => some false
/-- no list within, all of kinds that compare -/
noncomputable def plainV : V → Bool
  | .none | .bool _ | .int _ | .str _ => true
  | _ => false
noncomputable def eqL : V → V → Option Bool
  | .list xs, .list ys => if xs.all plainV && ys.all plainV then eqVs xs ys else none
  | x, y => eqV x y

theorem txt_inj {a b : List Nat} (h : txt a = txt b) : a = b := by
  have := congrArg (fun x => x.cps.toList) h
  simpa [txt] using this
theorem txt_beq (a b : List Nat) : (txt a == txt b) = (a == b) := by
  rw [Bool.eq_iff_iff, beq_iff_eq, beq_iff_eq]
  exact ⟨txt_inj, fun h => by rw [h]⟩

theorem eqV_flat : ∀ {a b : V} {r : Bool}, eqV a b = some r → ∃ da db, flat a = some da ∧ flat b = some db ∧ PyData.eqv da db = r ∧ da.depth = 0 := by
  intro a b r e
  cases a <;> cases b <;> simp only [eqV, reduceCtorEq, Option.some.injEq] at e <;> subst e <;> refine ⟨_, _, rfl, rfl, ?_, rfl⟩
  · rfl
  · rfl
  · rfl
  · show (txt _ == txt _) = _
    exact txt_beq _ _
theorem plain_flat {a : V} (h : plainV a = true) : ∃ d, flat a = some d ∧ d.depth = 0 := by
  cases a <;> first | (cases h; done) | exact ⟨_, rfl, rfl⟩
theorem plains_flat : ∀ {xs : List V}, xs.all plainV = true → ∃ ds, flats xs = some ds ∧ PyData.depthAll ds = 0
  | [], _ => ⟨[], rfl, rfl⟩
  | x :: xs, h => by
    rw [List.all_cons, Bool.and_eq_true] at h
    obtain ⟨d, e1, z1⟩ := plain_flat h.1
    obtain ⟨ds, e2, z2⟩ := plains_flat h.2
    refine ⟨d :: ds, by simp [flats, e1, e2], ?_⟩
    show max d.depth (PyData.depthAll ds) = 0
    rw [z1, z2]; rfl
theorem eqVs_flat : ∀ {xs ys : List V} {r : Bool} {ds es : List PyData}, eqVs xs ys = some r → flats xs = some ds → flats ys = some es → PyData.eqvAll ds es = r
  | [], [], _, _, _, e, h1, h2 => by simp only [flats, Option.some.injEq, eqVs] at *; subst h1 h2 e; rfl
  | x :: xs, [], _, _, _, e, h1, h2 => by
    simp only [flats, Option.some.injEq, eqVs, Option.bind_eq_some_iff, Option.map_eq_some_iff] at *
    obtain ⟨_, _, _, _, rfl⟩ := h1
    subst h2 e; rfl
  | [], y :: ys, _, _, _, e, h1, h2 => by
    simp only [flats, Option.some.injEq, eqVs, Option.bind_eq_some_iff, Option.map_eq_some_iff] at *
    obtain ⟨_, _, _, _, rfl⟩ := h2
    subst h1 e; rfl
  | x :: xs, y :: ys, _, _, _, e, h1, h2 => by
    simp only [flats, eqVs, Option.bind_eq_some_iff, Option.map_eq_some_iff] at *
    obtain ⟨d, a1, ds, a2, rfl⟩ := h1
    obtain ⟨d', b1, ds', b2, rfl⟩ := h2
    obtain ⟨p, c1, q, c2, rfl⟩ := e
    obtain ⟨da, db, f1, f2, f3, _⟩ := eqV_flat c1
    rw [a1] at f1; rw [b1] at f2; cases f1; cases f2
    show (_ && _) = _
    rw [f3, eqVs_flat c2 a2 b2]
theorem eqL_flat {a b : V} {r : Bool} (e : eqL a b = some r) : ∃ da db, flat a = some da ∧ flat b = some db ∧ PyData.eqv da db = r ∧ da.depth ≤ 1 := by
  by_cases h : ∃ xs ys, a = .list xs ∧ b = .list ys
  · obtain ⟨xs, ys, rfl, rfl⟩ := h
    simp only [eqL] at e
    split at e
    · rename_i q
      rw [Bool.and_eq_true] at q
      obtain ⟨ds, f1, z1⟩ := plains_flat q.1
      obtain ⟨es, f2, z2⟩ := plains_flat q.2
      refine ⟨.list ds, .list es, by simp [flat, f1], by simp [flat, f2], eqVs_flat e f1 f2, ?_⟩
      show PyData.depthAll ds + 1 ≤ 1
      rw [z1]; exact Nat.le_refl _
    · cases e
  · have : eqL a b = eqV a b := by
      unfold eqL
      split
      · exact absurd ⟨_, _, rfl, rfl⟩ h
      · rfl
    rw [this] at e
    obtain ⟨da, db, f1, f2, f3, f4⟩ := eqV_flat e
    exact ⟨da, db, f1, f2, f3, by rw [f4]; exact Nat.zero_le _⟩

theorem eq_op {a b : V} {r : Bool} {va vb : Value} (hu : A.units + 2 < cLine) (e : eqL a b = some r) (ra : Rep w φ s.heap a va) (rb : Rep w φ s.heap b vb) (h : Q (.bool r) s) :
    wpAny (model prog w) A (compareOp .Eq va vb) Q E s := by
  obtain ⟨da, db, f1, f2, rfl, f4⟩ := eqL_flat e
  obtain ⟨c1, _, r1⟩ := flat_reads f1 ra
  obtain ⟨c2, _, r2⟩ := flat_reads f2 rb
  exact SeqAt.compareEq_reads r1 r2 c1 c2 (by have := Nat.min_le_left da.depth db.depth; omega) h
theorem ne_op {a b : V} {r : Bool} {va vb : Value} (hu : A.units + 2 < cLine) (e : eqL a b = some r) (ra : Rep w φ s.heap a va) (rb : Rep w φ s.heap b vb) (h : Q (.bool (!r)) s) :
    wpAny (model prog w) A (compareOp .NotEq va vb) Q E s := by
  obtain ⟨da, db, f1, f2, rfl, f4⟩ := eqL_flat e
  obtain ⟨c1, _, r1⟩ := flat_reads f1 ra
  obtain ⟨c2, _, r2⟩ := flat_reads f2 rb
  exact SeqAt.compareNe_reads r1 r2 c1 c2 (by have := Nat.min_le_left da.depth db.depth; omega) h
end
end Mine
end

section
open PySem PySem.W PyProof.Rows
set_option Elab.async false
set_option maxRecDepth 100000
namespace Mine

/-- a cut of a list, as Python cuts -/
noncomputable def cut {α : Type} (xs : List α) (lo hi : Option Int) : List α :=
  (xs.drop (lo.elim 0 (clipAt xs.length))).take (hi.elim xs.length (clipAt xs.length) - lo.elim 0 (clipAt xs.length))
noncomputable def idxV (o x : V) : Option V := match x with
  | .int i => (match o with
    | .str l => (seqIndex? i l.length).bind fun k => (l[k]?).map fun c => .str [c]
    | .list xs => (seqIndex? i xs.length).bind fun k => xs[k]?
    | .tup xs => (seqIndex? i xs.length).bind fun k => xs[k]?
    | _ => none)
  | _ => none
noncomputable def partV : V → Option (Option Int)
  | .none => some none
  | .int i => some (some i)
  | _ => none
noncomputable def sliceV (o : V) (lo hi : Option Int) : Option V := match o with
  | .str l => some (.str (cut l lo hi))
  | .list xs => some (.list (cut xs lo hi))
  | _ => none

theorem cut_length_le {α : Type} (xs : List α) (lo hi : Option Int) : (cut xs lo hi).length ≤ xs.length := by
  unfold cut
  rw [List.length_take, List.length_drop]; omega
theorem mem_cut {α : Type} {xs : List α} {lo hi : Option Int} {x : α} (h : x ∈ cut xs lo hi) : x ∈ xs := List.mem_of_mem_drop (List.mem_of_mem_take h)
theorem seqIndex_as {i : Int} {n k : Nat} (e : seqIndex? i n = some k) : (0 ≤ (if i < 0 then i + (n : Int) else i) ∧ (if i < 0 then i + (n : Int) else i) < n) ∧ (if i < 0 then i + (n : Int) else i).toNat = k :=
  ite_el e fun q e => ⟨⟨of_decide_eq_true (Bool.and_eq_true_iff.mp q).1, of_decide_eq_true (Bool.and_eq_true_iff.mp q).2⟩, e⟩
theorem seqIndex_lt {i : Int} {n k : Nat} (e : seqIndex? i n = some k) : k < n ∧ -(n : Int) ≤ i ∧ i < n := by
  obtain ⟨⟨a, b⟩, rfl⟩ := seqIndex_as e
  clear e
  split at a <;> rename_i h
  · rw [if_pos h] at b ⊢; omega
  · rw [if_neg h] at b ⊢; omega

theorem fits_of {i : Int} (h1 : -(2 ^ 63 : Int) ≤ i) (h2 : i < 2 ^ 63) : (decide (i < -(2 ^ 63 : Int)) || decide (i ≥ 2 ^ 63)) = false := by
  rw [decide_eq_false (by omega), decide_eq_false (by omega)]; rfl

theorem slice_txt (l : List Nat) (lo hi : Option Int) : Txt.slice (txt l) lo hi = txt (cut l lo hi) := by
  have key : Builtin.Str.strSliceIndices lo hi 1 (txt l).length = (List.range (hi.elim l.length (clipAt l.length) - lo.elim 0 (clipAt l.length))).map (lo.elim 0 (clipAt l.length) + ·) := by
    rw [txt_length]
    have : Builtin.Str.strSliceIndices lo hi 1 l.length = sliceRange ((lo.elim 0 (clipAt l.length) : Nat) : Int) ((hi.elim l.length (clipAt l.length) : Nat) : Int) 1 := by
      cases lo <;> cases hi <;> simp [Builtin.Str.strSliceIndices, clipAt_cast]
    rw [this, sliceRange_one]
  have full : ((Builtin.Str.strSliceIndices lo hi 1 (txt l).length).filterMap ((txt l).cps[·]?)) = cut l lo hi := by
    rw [key, pick_run]
    simp [txt, cut]
  unfold Txt.slice
  split
  · rename_i q
    simp only [beq_self_eq_true, Bool.true_and, beq_iff_eq] at q
    rw [key, List.length_map, List.length_range, txt_length] at q
    have hb : hi.elim l.length (clipAt l.length) ≤ l.length := by
      cases hi with
      | none => exact Nat.le_refl _
      | some i => have := clipAt_cast l.length i; simp only [Option.elim]; omega
    have : cut l lo hi = l := by
      unfold cut
      by_cases z : l = []
      · subst z; simp
      · have : 0 < l.length := List.length_pos_iff.mpr z
        have h0 : lo.elim 0 (clipAt l.length) = 0 := by omega
        rw [h0, List.drop_zero]
        exact List.take_of_length_le (by omega)
    rw [this]
  · rw [full]; rfl

section
variable {prog : Program} {w : World} {A : Around} {E : Value → Shared → Prop} {s : Shared} {φ : Phi} {Q : Value → Shared → Prop} {value slice : Expr}

theorem lt_op {a b : Int} {va vb : Value} (ra : Rep w φ s.heap (.int a) va) (rb : Rep w φ s.heap (.int b) vb) (h : Q (.bool (decide (a < b))) s) : wpAny (model prog w) A (compareOp .Lt va vb) Q E s := by
  exact int_el (m := fun va => wpAny _ A (compareOp _ va vb) Q E s) ra fun t => int_el (m := fun vb => wpAny _ A (compareOp _ (.int a t) vb) Q E s) rb fun u => P.lt_int h
theorem le_op {a b : Int} {va vb : Value} (ra : Rep w φ s.heap (.int a) va) (rb : Rep w φ s.heap (.int b) vb) (h : Q (.bool (decide (a ≤ b))) s) : wpAny (model prog w) A (compareOp .LtE va vb) Q E s := by
  exact int_el (m := fun va => wpAny _ A (compareOp _ va vb) Q E s) ra fun t => int_el (m := fun vb => wpAny _ A (compareOp _ (.int a t) vb) Q E s) rb fun u => P.le_int h
theorem gt_op {a b : Int} {va vb : Value} (ra : Rep w φ s.heap (.int a) va) (rb : Rep w φ s.heap (.int b) vb) (h : Q (.bool (decide (a > b))) s) : wpAny (model prog w) A (compareOp .Gt va vb) Q E s := by
  exact int_el (m := fun va => wpAny _ A (compareOp _ va vb) Q E s) ra fun t => int_el (m := fun vb => wpAny _ A (compareOp _ (.int a t) vb) Q E s) rb fun u => P.gt_int h
theorem ge_op {a b : Int} {va vb : Value} (ra : Rep w φ s.heap (.int a) va) (rb : Rep w φ s.heap (.int b) vb) (h : Q (.bool (decide (a ≥ b))) s) : wpAny (model prog w) A (compareOp .GtE va vb) Q E s := by
  exact int_el (m := fun va => wpAny _ A (compareOp _ va vb) Q E s) ra fun t => int_el (m := fun vb => wpAny _ A (compareOp _ (.int a t) vb) Q E s) rb fun u => P.ge_int h

theorem idx_str {l : List Nat} {i : Int} {k : Nat} {r : V} {vo vi : Value} (hsl : ∀ o v, subscripted slice false o v = operate [o, v] (getItem o v)) (e1 : seqIndex? i l.length = some k) (e : (l[k]?).map (fun c => V.str [c]) = some r) (ro : Rep w φ s.heap (.str l) vo) (ri : Rep w φ s.heap (.int i) vi) (h : Gives1 w φ s r Q) :
    wpAny (model prog w) A (subscriptTail value slice vo vi) Q E s :=
  str_el (m := fun vo => wpAny _ A (subscriptTail value slice vo vi) Q E s) ro fun t ok => int_el (m := fun vi => wpAny _ A (subscriptTail value slice (.str (txt l) t) vi) Q E s) ri fun u => by
    obtain ⟨c, e2, rfl⟩ := Option.map_eq_some_iff.mp e
    obtain ⟨h1, h2, h3⟩ := seqIndex_lt e1
    have hl : l.length ≤ 1048576 := ok.1
    refine tail_any (typeIs_str _ _ _) F.slot_str_getitem.lookup (P.getItem_str (c := c) (fits_of (by omega) (by omega)) ?_ (h.tok (rep_txt ⟨by show 1 ≤ big; decide, fun d hd => by rw [List.mem_singleton.mp hd]; exact ok.2 _ (List.mem_of_getElem? e2)⟩ _))) (hsl _ _)
    rw [txt_length, e1]; exact List.getElem?_toArray.trans e2
theorem idx_list {xs : List V} {i : Int} {k : Nat} {r : V} {vo vi : Value} (hsl : ∀ o v, subscripted slice false o v = operate [o, v] (getItem o v)) (e1 : seqIndex? i xs.length = some k) (e : xs[k]? = some r) (ro : Rep w φ s.heap (.list xs) vo) (ri : Rep w φ s.heap (.int i) vi) (h : Gives1 w φ s r Q) :
    wpAny (model prog w) A (subscriptTail value slice vo vi) Q E s :=
  list_el (m := fun vo => wpAny _ A (subscriptTail value slice vo vi) Q E s) ro fun a vs n hl _ ho rs => int_el (m := fun vi => wpAny _ A (subscriptTail value slice (.ref a) vi) Q E s) ri fun u => by
    obtain ⟨h1, h2, h3⟩ := seqIndex_lt e1
    obtain ⟨⟨q1, q2⟩, q3⟩ := seqIndex_as e1
    obtain ⟨v, e3, rv⟩ := rs.get e
    have hL : s.heap.IsList a vs.toArray := ⟨_, ho, rfl, _, rfl⟩
    have hsz : vs.toArray.size = xs.length := List.size_toArray.trans rs.len
    have e3 : vs.toArray[k]? = some v := List.getElem?_toArray.trans e3
    have hl : xs.length ≤ 1048576 := hl
    refine tail_any hL.typeIs slot_list_getitem.lookup ?_ (hsl _ _)
    by_cases h0 : i < 0
    · rw [if_pos h0] at q3
      exact wpAny_getItem_list_neg hL h0 (by rw [hsz]; exact h2) (by omega) (x := v) (by rw [hsz, q3]; exact e3) (h.same rv)
    · rw [if_neg h0] at q3
      exact wpAny_getItem_list hL (by omega) (by omega) (by rw [q3]; exact e3) (h.same rv)
/-- an item at a place -/
theorem idx_op {o i r : V} {vo vi : Value} (hsl : ∀ o v, subscripted slice false o v = operate [o, v] (getItem o v)) (e : idxV o i = some r) (ro : Rep w φ s.heap o vo) (ri : Rep w φ s.heap i vi) (h : Gives1 w φ s r Q) :
    wpAny (model prog w) A (subscriptTail value slice vo vi) Q E s := by
  cases i with
  | int i =>
    cases o with
    | str l => obtain ⟨k, e1, e⟩ := Option.bind_eq_some_iff.mp (show _ = some r from e); exact idx_str hsl e1 e ro ri h
    | list xs => obtain ⟨k, e1, e⟩ := Option.bind_eq_some_iff.mp (show _ = some r from e); exact idx_list hsl e1 e ro ri h
    | tup xs =>
      obtain ⟨k, e1, e⟩ := Option.bind_eq_some_iff.mp (show _ = some r from e)
      refine int_el (m := fun vi => wpAny _ A (subscriptTail value slice vo vi) Q E s) ri fun u => ?_
      rw [Rep] at ro
      obtain ⟨hl, a, vs, n, rfl, m, ho, rs⟩ := ro
      obtain ⟨h1, h2, h3⟩ := seqIndex_lt e1
      have hl : xs.length ≤ 1048576 := hl
      obtain ⟨v, e3, rv⟩ := rs.get e
      exact item_tupleT (t := a) (l := vs) (k := i) ⟨_, ho, rfl, _, rfl⟩ (by omega) (by omega) (j := k) (by rw [rs.len]; exact e1) e3 (h.same rv) (hsl _ _)
    | _ => exact dead e
  | _ => exact dead e


theorem keptExt (h : Heap) : KeptH (Ext h) := fun _ ob a => a.trans (Ext.push _ ob)
/-- a cut of a text -/
theorem slice_str_op {l : List Nat} {t : Tok} {vl vu : Value} {lo hi : Option Int} (ok : TxtOk l) (pl : IsPart vl lo) (pu : IsPart vu hi)
    (hsl : ∀ o v, subscripted slice false o v = operate [v, o] (getItem o v)) (h : Gives1 w φ s (.str (cut l lo hi)) Q) :
    wpAny (model prog w) A (subscriptTail value slice (.str (txt l) t) (.ref s.heap.objs.size)) Q E { s with heap := s.heap.push { cls := .type "slice", data := .fields #[vl, vu, .none] } } := by
  have fin : ∀ h' t' k, Ext s.heap h' → Q (.str (Txt.slice (txt l) lo hi) t') { s with heap := h', toks := k } := fun h' t' k x => by
    rw [slice_txt]
    refine h _ _ _ x ?_
    rw [Rep]
    exact ⟨⟨Nat.le_trans (cut_length_le _ _ _) ok.1, fun c hc => ok.2 c (mem_cut hc)⟩, _, rfl⟩
  have sz : (txt l).length ≤ sizeLine := by rw [txt_length]; exact Nat.le_trans ok.1 big_le
  have ht : ∀ r, letTemporaryGo value (.str (txt l) t) r = pure () := fun r => by cases value <;> rfl
  cases pl with
  | none =>
    cases pu with
    | none => exact tail_of_ItemOn (SBH.sliceItem_nn (keptExt _) (Ext.refl _) fin sz) (hsl _ _) ht
    | int => exact tail_of_ItemOn (SBH.sliceItem_ns (keptExt _) (Ext.refl _) fin sz) (hsl _ _) ht
  | int =>
    cases pu with
    | none => exact tail_of_ItemOn (SBH.sliceItem_sn (keptExt _) (Ext.refl _) fin sz) (hsl _ _) ht
    | int => exact tail_of_ItemOn (SBH.sliceItem_ss (keptExt _) (Ext.refl _) fin sz) (hsl _ _) ht

theorem rep_new_list {h : Heap} {xs : List V} {vs : List Value} (hm : ∀ m ∈ muts φ, (h.get? m).isSome) (hl : xs.length ≤ big) (r : Reps w φ h xs vs) : Rep w φ (h.push { cls := .type "list", data := .seq vs.toArray }) (.list xs) (.ref h.objs.size) := by
  rw [Rep]
  exact ⟨hl, _, vs, 0, rfl, fresh_notin hm, Heap.get?_push_size _ rfl, r.ext (Ext.push _ _)⟩
theorem rep_new_tup {h : Heap} {xs : List V} {vs : List Value} (hm : ∀ m ∈ muts φ, (h.get? m).isSome) (hl : xs.length ≤ big) (r : Reps w φ h xs vs) : Rep w φ (h.push { cls := .type "tuple", data := .seq vs.toArray }) (.tup xs) (.ref h.objs.size) := by
  rw [Rep]
  exact ⟨hl, _, vs, 0, rfl, fresh_notin hm, Heap.get?_push_size _ rfl, r.ext (Ext.push _ _)⟩
theorem muts_ext {h h' : Heap} (x : Ext h h') (hm : ∀ m ∈ muts φ, (h.get? m).isSome) : ∀ m ∈ muts φ, (h'.get? m).isSome := fun m q => by
  obtain ⟨o, e⟩ := Option.isSome_iff_exists.mp (hm m q)
  rw [x _ _ e]; rfl

/-- a cut of a list -/
theorem slice_list_op {xs : List V} {v vl vu : Value} {lo hi : Option Int} (hm : ∀ m ∈ muts φ, (s.heap.get? m).isSome) (ro : Rep w φ s.heap (.list xs) v) (pl : IsPart vl lo) (pu : IsPart vu hi)
    (hsl : ∀ o v, subscripted slice false o v = operate [v, o] (getItem o v)) (h : Gives1 w φ s (.list (cut xs lo hi)) Q) :
    wpAny (model prog w) A (subscriptTail value slice v (.ref s.heap.objs.size)) Q E { s with heap := s.heap.push { cls := .type "slice", data := .fields #[vl, vu, .none] } } := by
  simp only [Rep] at ro
  obtain ⟨hl, a, vs, n, rfl, m, ho, rs⟩ := ro
  have hL : s.heap.IsList a vs.toArray := ⟨_, ho, rfl, _, rfl⟩
  have hL' : (s.heap.push { cls := .type "slice", data := .fields #[vl, vu, .none] }).IsList a vs.toArray := hL.push _
  refine tail_any (Heap.IsList.typeIs (s := { s with heap := s.heap.push { cls := .type "slice", data := .fields #[vl, vu, .none] } }) hL') slot_list_getitem.lookup
    (wpAny_getItem_list_slice hL' (Heap.IsSliceOf.new ..) pl pu .none (by simp) ?_ (by rw [List.size_toArray, rs.len]; exact Nat.le_trans hl big_le)) (hsl _ _)
  refine h _ _ _ ((Ext.push _ _).trans (Ext.push _ _)) ?_
  rw [slicePick_plain]
  refine rep_new_list (muts_ext (Ext.push _ _) hm) (Nat.le_trans (cut_length_le _ _ _) hl) ?_
  unfold cut
  have e : vs.toArray.size = xs.length := by rw [List.size_toArray, rs.len]
  rw [e]
  exact ((rs.drop _).take _).ext (Ext.push _ _)
theorem slice_op {o r : V} {vo vl vu : Value} {lo hi : Option Int} (hm : ∀ m ∈ muts φ, (s.heap.get? m).isSome) (e : sliceV o lo hi = some r) (ro : Rep w φ s.heap o vo) (pl : IsPart vl lo) (pu : IsPart vu hi)
    (hsl : ∀ o v, subscripted slice false o v = operate [v, o] (getItem o v)) (h : Gives1 w φ s r Q) :
    wpAny (model prog w) A (subscriptTail value slice vo (.ref s.heap.objs.size)) Q E { s with heap := s.heap.push { cls := .type "slice", data := .fields #[vl, vu, .none] } } := by
  cases o with
  | str l => exact str_el (m := fun vo => wpAny (model prog w) A (subscriptTail value slice vo (.ref s.heap.objs.size)) Q E { s with heap := s.heap.push { cls := .type "slice", data := .fields #[vl, vu, .none] } }) ro fun t ok => slice_str_op ok pl pu hsl (Option.some.inj e ▸ h)
  | list xs => exact slice_list_op hm ro pl pu hsl (Option.some.inj e ▸ h)
  | _ => exact dead e
end
end Mine
end

section
open PySem PySem.W PyProof.Rows
set_option Elab.async false
set_option maxRecDepth 100000
namespace Mine

/-- is it in the list (one kind all through) -/
noncomputable def inL (x : V) : List V → Option Bool
  | [] => some false
  | y :: ys => (eqV y x).bind fun p => (inL x ys).map fun q => p || q
noncomputable def inV (x c : V) : Option Bool := match c with
  | .list ys => inL x ys
  | .str l => asS x fun s => match s with | [ch] => some (decide (ch ∈ l)) | _ => none
  | .sset xs => asS x fun l => some (decide (l ∈ xs))
  | _ => none

inductive Bi where | len | min2 | max2 | isb
  deriving DecidableEq
noncomputable def Bi.id : Bi → String
  | .len => "len" | .min2 => "min" | .max2 => "max" | .isb => "isinstance"
noncomputable def lenV (x : V) : Option V := match x with
  | .str l => some (.int l.length)
  | .list xs => some (.int xs.length)
  | _ => none
noncomputable def isBoolT (g : Value) : Bool := match g with
  | .type t => decide (t = "bool")
  | _ => false
noncomputable def isbV (x y : V) : Option V := match x with
  | .bool _ => (match y with | .g g => if isBoolT g = true then some (.bool true) else none | _ => none)
  | _ => none
noncomputable def arg1 (xs : List V) (k : V → Option V) : Option V := match xs with
  | [x] => k x
  | _ => none
noncomputable def arg2 (xs : List V) (k : V → V → Option V) : Option V := match xs with
  | [x, y] => k x y
  | _ => none
theorem arg1_el {W : World} {φ : Phi} {h : Heap} {vs : List Value} {r : V} {xs : List V} {k : V → Option V} {m : List Value → Prop} (rs : Reps W φ h xs vs) (e : arg1 xs k = some r) (kk : ∀ x v, Rep W φ h x v → k x = some r → m [v]) : m vs := by
  cases xs with
  | nil => exact dead e
  | cons x l => cases l with
    | nil => simp only [Reps] at rs; obtain ⟨v, _, rfl, rx, rfl⟩ := rs; exact kk x v rx e
    | cons _ _ => exact dead e
theorem arg2_el {W : World} {φ : Phi} {h : Heap} {vs : List Value} {r : V} {xs : List V} {k : V → V → Option V} {m : List Value → Prop} (rs : Reps W φ h xs vs) (e : arg2 xs k = some r) (kk : ∀ x y v u, Rep W φ h x v → Rep W φ h y u → k x y = some r → m [v, u]) : m vs := by
  cases xs with
  | nil => exact dead e
  | cons x l => cases l with
    | nil => exact dead e
    | cons y l => cases l with
      | nil => simp only [Reps] at rs; obtain ⟨v, _, rfl, rx, u, _, rfl, ry, rfl⟩ := rs; exact kk x y v u rx ry e
      | cons _ _ => exact dead e
noncomputable def biV (b : Bi) (xs : List V) : Option V := match b with
  | .len => arg1 xs lenV
  | .min2 => arg2 xs fun x y => int2 x y fun a b => some (.int (min a b))
  | .max2 => arg2 xs fun x y => int2 x y fun a b => some (.int (max a b))
  | .isb => arg2 xs isbV

/-- the texts of a list of texts -/
noncomputable def textsOf : List V → Option (List (List Nat))
  | [] => some []
  | x :: r => asS x fun l => (textsOf r).map (l :: ·)
inductive Sm where | join | starts | ends
  deriving DecidableEq
noncomputable def Sm.name : Sm → Str
  | .join => Str.ofString "join" | .starts => Str.ofString "startswith" | .ends => Str.ofString "endswith"
noncomputable def Sm.id : Sm → String
  | .join => "str.join" | .starts => "str.startswith" | .ends => "str.endswith"
noncomputable def isPre (y x : List Nat) : Bool := decide (x.take y.length = y)
noncomputable def isSuf (y x : List Nat) : Bool := decide (y.length ≤ x.length ∧ x.drop (x.length - y.length) = y)
noncomputable def smV (m : Sm) (x y : V) : Option V := asS x fun l => match m with
  | .join => match l with
    | [] => asL y fun ys => (textsOf ys).bind fun ts => if ts.flatten.length ≤ big then some (.str ts.flatten) else none
    | _ :: _ => none
  | .starts => asS y fun t => some (.bool (isPre t l))
  | .ends => asS y fun t => some (.bool (isSuf t l))
noncomputable def rngV (xs : List V) : Option V := match xs with
  | [] => none
  | x :: xs => match xs with
    | [] => int1 x fun b => some (.rng 0 b 1)
    | y :: xs => match xs with
      | [] => int2 x y fun a b => some (.rng a b 1)
      | z :: xs => match xs with
        | [] => int2 x y fun a b => int1 z fun c => if c = 1 ∨ c = -1 then some (.rng a b c) else none
        | _ :: _ => none

theorem lt63 {n : Nat} (h : n ≤ big) : (n : Int) < 2 ^ 63 := by unfold big at h; omega
theorem reps_texts {W : World} {φ : Phi} {h : Heap} : ∀ {ys : List V} {vs : List Value} {ts : List (List Nat)}, textsOf ys = some ts → Reps W φ h ys vs → StrsAre vs (ts.map txt) ∧ ∀ t ∈ ts, TxtOk t
  | [], _, _, e, r => by
    cases e; rw [Reps] at r; subst r; exact ⟨.nil, fun _ m => nomatch m⟩
  | y :: ys, _, ts, e, r => by
    rw [Reps] at r
    obtain ⟨v, q, rfl, r1, r2⟩ := r
    refine asS_el (m := fun y => Rep W φ h y v → StrsAre (v :: q) (ts.map txt) ∧ ∀ t ∈ ts, TxtOk t) e (fun l e r1 => ?_) r1
    obtain ⟨us, e', rfl⟩ := Option.map_eq_some_iff.mp e
    obtain ⟨a, b⟩ := reps_texts e' r2
    exact str_el (m := fun v => StrsAre (v :: q) ((l :: us).map txt) ∧ ∀ t ∈ l :: us, TxtOk t) r1 fun t ok => ⟨.cons _ _ a, fun t m => (List.mem_cons.mp m).elim (fun e => e ▸ ok) (b t)⟩
theorem glued_empty : ∀ ts : List (List Nat), Txt.join (txt []) (ts.map txt) = txt ts.flatten := by
  intro ts
  have step : ∀ (l : List (List Nat)) (acc : Array Nat), (((l.map txt).foldl (fun acc p => acc ++ (txt []).cps ++ p.cps) acc)).toList = acc.toList ++ l.flatten := by
    intro l
    induction l with
    | nil => intro acc; simp
    | cons x l ih =>
      intro acc
      rw [List.map_cons, List.foldl_cons, ih]
      simp [txt]
  apply Str.ext'
  apply Array.ext'
  unfold Txt.join Builtin.Str.glued
  cases ts with
  | nil => rfl
  | cons x l =>
    show (((l.map txt).foldl (fun acc p => acc ++ (txt []).cps ++ p.cps) (txt x).cps)).toList = _
    rw [step]
    simp [txt]
theorem starts_txt (x y : List Nat) : Txt.startswith (txt x) (txt y) = isPre y x := by
  unfold Txt.startswith isPre
  rw [StrLaws.subAt_eq, txt_length, txt_length, Bool.eq_iff_iff]
  simp only [txt, List.drop_zero, Bool.and_eq_true, decide_eq_true_eq, beq_iff_eq]
  constructor
  · exact fun h => h.2
  · intro h
    refine ⟨?_, h⟩
    have := congrArg List.length h
    rw [List.length_take] at this; omega
theorem ends_txt (x y : List Nat) : Txt.endswith (txt x) (txt y) = isSuf y x := by
  unfold Txt.endswith isSuf
  rw [StrLaws.subAt_eq, txt_length, txt_length, Bool.eq_iff_iff]
  simp only [txt, Bool.and_eq_true, decide_eq_true_eq, beq_iff_eq, Nat.zero_add]
  constructor
  · rintro ⟨a, b⟩
    refine ⟨a, ?_⟩
    rw [List.take_of_length_le (by rw [List.length_drop]; omega)] at b
    exact b
  · rintro ⟨a, b⟩
    refine ⟨a, ?_⟩
    rw [List.take_of_length_le (by rw [List.length_drop]; omega)]
    exact b

section
variable {prog : Program} {w : World} {A : Around} {E : Value → Shared → Prop} {s : Shared} {φ : Phi} {Q : Value → Shared → Prop}

theorem inL_flat {x : V} : ∀ {ys : List V} {r : Bool}, inL x ys = some r → ys = [] ∨ ∃ d ds, flat x = some d ∧ flats ys = some ds ∧ d.depth = 0 ∧ (ds.any fun y => PyData.eqv y d) = r
  | [], _, _ => .inl rfl
  | y :: ys, r, e => .inr (by
    simp only [inL, Option.bind_eq_some_iff, Option.map_eq_some_iff] at e
    obtain ⟨p, e1, q, e2, rfl⟩ := e
    obtain ⟨dy, d, f1, f2, rfl, hz⟩ := eqV_flat e1
    have hzd : d.depth = 0 := by
      cases y <;> cases x <;> simp only [eqV, reduceCtorEq] at e1 <;> simp only [flat, Option.some.injEq] at f2 <;> subst f2 <;> rfl
    rcases inL_flat e2 with rfl | ⟨d', ds, g1, g2, _, rfl⟩
    · refine ⟨d, [dy], f2, by simp [flats, f1], hzd, ?_⟩
      simp only [inL, Option.some.injEq] at e2
      subst e2
      simp
    · rw [f2] at g1; cases g1
      exact ⟨d, dy :: ds, f2, by simp [flats, f1, g2], hzd, by simp⟩)

theorem one_sign {l : List Nat} {k : Nat → Option Bool} {r : Bool} (e : (match l with | [c] => k c | _ => none) = some r) : ∃ c, l = [c] ∧ k c = some r := by
  cases l with
  | nil => exact dead e
  | cons c l => cases l with
    | nil => exact ⟨c, rfl, e⟩
    | cons _ _ => exact dead e
theorem in_both {x c : V} {r : Bool} {vx vc : Value} {Q' : Value → Shared → Prop} (hu : A.units + 3 < cLine) (e : inV x c = some r) (rx : Rep w φ s.heap x vx) (rc : Rep w φ s.heap c vc) (h : ∀ k, Q (.bool r) { s with toks := k }) (h' : ∀ k, Q' (.bool (!r)) { s with toks := k }) :
    wpAny (model prog w) A (compareOp .In vx vc) Q E s ∧ wpAny (model prog w) A (compareOp .NotIn vx vc) Q' E s := by
  cases c with
  | list ys =>
    rcases inL_flat e with rfl | ⟨d, ds, f1, f2, hz, hr⟩
    · cases e
      refine list_el (m := fun vc => wpAny (model prog w) A (compareOp .In vx vc) Q E s ∧ wpAny (model prog w) A (compareOp .NotIn vx vc) Q' E s) rc fun a vs n _ _ ho q => ?_
      rw [Reps] at q; subst q
      exact ⟨SeqAt.in_listAt (fun _ => false) ⟨_, ho, rfl, _, rfl⟩ (fun y hy => absurd hy (by simp)) (by simpa using h s.toks), SeqAt.notIn_listAt (fun _ => false) ⟨_, ho, rfl, _, rfl⟩ (fun y hy => absurd hy (by simp)) (by simpa using h' s.toks)⟩
    · obtain ⟨c1, _, r1⟩ := flat_reads f1 rx
      obtain ⟨c2, _, r2⟩ := flat_reads (x := .list ys) (d := .list ds) (congrArg (Option.map PyData.list) f2) rc
      have hu' : A.units + 3 + d.depth < cLine := by rw [hz]; exact hu
      exact ⟨SeqAt.in_list_reads r2 r1 c2 c1 (by rw [hz]; omega) (by rw [hr]; exact h s.toks), SeqAt.notIn_list_reads r2 r1 c2 c1 (by rw [hz]; omega) (by rw [hr]; exact h' s.toks)⟩
  | str l =>
    refine asS_el (m := fun x => Rep w φ s.heap x vx → wpAny (model prog w) A (compareOp .In vx vc) Q E s ∧ wpAny (model prog w) A (compareOp .NotIn vx vc) Q' E s) e (fun y e rx => ?_) rx
    obtain ⟨c, rfl, e⟩ := one_sign e
    cases e
    refine str_el (m := fun vx => wpAny (model prog w) A (compareOp .In vx vc) Q E s ∧ wpAny (model prog w) A (compareOp .NotIn vx vc) Q' E s) rx fun t _ => str_el (m := fun vc => wpAny (model prog w) A (compareOp .In (.str (txt [c]) t) vc) Q E s ∧ wpAny (model prog w) A (compareOp .NotIn (.str (txt [c]) t) vc) Q' E s) rc fun u _ => ?_
    have z : decide (c ∈ (txt l).cps.toList) = decide (c ∈ l) := decide_eq_decide.mpr (by simp [txt])
    exact ⟨P.in_str (by rw [show (txt [c]) = (⟨#[c]⟩ : Str) from rfl, StrLaws.found_one, z]; exact h s.toks), P.notIn_str (by rw [show (txt [c]) = (⟨#[c]⟩ : Str) from rfl, StrLaws.found_one, z]; exact h' s.toks)⟩
  | sset xs =>
    refine asS_el (m := fun x => Rep w φ s.heap x vx → wpAny (model prog w) A (compareOp .In vx vc) Q E s ∧ wpAny (model prog w) A (compareOp .NotIn vx vc) Q' E s) e (fun l e rx => ?_) rx
    cases e
    refine str_el (m := fun vx => wpAny (model prog w) A (compareOp .In vx vc) Q E s ∧ wpAny (model prog w) A (compareOp .NotIn vx vc) Q' E s) rx fun t _ => ?_
    rw [Rep] at rc
    obtain ⟨a, o, n, rfl, m, ho, q, hn⟩ := rc
    have z : member xs (txt l) = decide (l ∈ xs) := rfl
    exact ⟨wpAny_inSet_of (knd := strKind prog w) (strKind_is _ _ _ _) rfl ((q prog).setOf ho hn) (by rw [z]; exact h _), wpAny_notInSet_of (knd := strKind prog w) (strKind_is _ _ _ _) rfl ((q prog).setOf ho hn) (by rw [z]; exact h' _)⟩
  | _ => exact dead e
theorem in_op {x c : V} {r : Bool} {vx vc : Value} (hu : A.units + 3 < cLine) (e : inV x c = some r) (rx : Rep w φ s.heap x vx) (rc : Rep w φ s.heap c vc) (h : ∀ k, Q (.bool r) { s with toks := k }) :
    wpAny (model prog w) A (compareOp .In vx vc) Q E s := (in_both (Q' := fun _ _ => True) hu e rx rc h fun _ => trivial).1
theorem notin_op {x c : V} {r : Bool} {vx vc : Value} (hu : A.units + 3 < cLine) (e : inV x c = some r) (rx : Rep w φ s.heap x vx) (rc : Rep w φ s.heap c vc) (h : ∀ k, Q (.bool (!r)) { s with toks := k }) :
    wpAny (model prog w) A (compareOp .NotIn vx vc) Q E s := (in_both (Q := fun _ _ => True) hu e rx rc (fun _ => trivial) h).2

theorem len_op {x r : V} {v : Value} (e : lenV x = some r) (rx : Rep w φ s.heap x v) (h : Gives1 w φ s r Q) : wpAny (model prog w) A (call (.builtin "len") [v]) Q E s := by
  cases x with
  | str l =>
    refine str_el (m := fun v => wpAny (model prog w) A (call (.builtin "len") [v]) Q E s) rx fun t ok => P.len_str (by rw [txt_length]; exact Int.not_le.mpr (lt63 ok.1)) ?_
    rw [txt_length]
    exact h.tok (Option.some.inj e ▸ rep_int _ _)
  | list xs =>
    refine list_el (m := fun v => wpAny (model prog w) A (call (.builtin "len") [v]) Q E s) rx fun a us n hl m ho q => ?_
    have hsz : us.toArray.size = xs.length := List.size_toArray.trans q.len
    refine PyProof.Rows.len_list (items := us.toArray) ⟨_, ho, rfl, _, rfl⟩ (by rw [hsz]; exact lt63 hl) ?_
    rw [hsz]
    exact h.tok (Option.some.inj e ▸ rep_int _ _)
  | _ => exact dead e
theorem isb_op {x y r : V} {v u : Value} (e : isbV x y = some r) (rx : Rep w φ s.heap x v) (ry : Rep w φ s.heap y u) (h : Gives1 w φ s r Q) : wpAny (model prog w) A (call (.builtin "isinstance") [v, u]) Q E s := by
  cases x with
  | bool b => cases y with
    | g g =>
      refine ite_el (show (if isBoolT g = true then some (V.bool true) else none) = some r from e) fun z e' => ?_
      clear e
      obtain rfl : g = .type "bool" := by
        cases g with
        | type t => rw [of_decide_eq_true z]
        | _ => cases z
      simp only [Rep] at rx ry; subst rx ry
      cases e'
      exact call_isinstance_yes (Tx := "bool") rfl F.isi_meta_bool (by rw [isSubtype_type]; kernel_rfl) (h.same (rep_bo _))
    | _ => exact dead e
  | _ => exact dead e
theorem ite_min {a b : Int} {t u : Tok} {h : Heap} : Rep w φ h (.int (min a b)) (if a > b then .int b u else .int a t) := by
  split
  · rename_i q; rw [Int.min_def, if_neg (Int.not_le.mpr q)]; exact rep_int _ _
  · rename_i q; rw [Int.min_def, if_pos (Int.not_lt.mp q)]; exact rep_int _ _
theorem ite_max {a b : Int} {t u : Tok} {h : Heap} : Rep w φ h (.int (max a b)) (if b > a then .int b u else .int a t) := by
  split
  · rename_i q; rw [Int.max_def, if_pos (Int.le_of_lt q)]; exact rep_int _ _
  · rename_i q
    rw [Int.max_def]
    split
    · rename_i q2; rw [Int.le_antisymm q2 (Int.not_lt.mp q)]; exact rep_int _ _
    · exact rep_int _ _
theorem bi_op (b : Bi) {xs : List V} {r : V} {vs : List Value} (hh : A.handled = none) (e : biV b xs = some r) (rs : Reps w φ s.heap xs vs) (h : Gives1 w φ s r Q) :
    wpAny (model prog w) A (call (.builtin b.id) vs) Q E s := by
  cases b with
  | len => exact arg1_el (m := fun vs => wpAny (model prog w) A (call (.builtin _) vs) Q E s) rs e fun x v rx e => len_op e rx h
  | min2 =>
    refine arg2_el (m := fun vs => wpAny (model prog w) A (call (.builtin _) vs) Q E s) rs e fun x y v u rx ry e => two_el (m := fun v u => wpAny (model prog w) A (call (.builtin _) [v, u]) Q E s) e rx ry fun a b t u e => ?_
    exact min_two_ints hh fun h' tk x => h _ _ _ x (Option.some.inj e ▸ ite_min)
  | max2 =>
    refine arg2_el (m := fun vs => wpAny (model prog w) A (call (.builtin _) vs) Q E s) rs e fun x y v u rx ry e => two_el (m := fun v u => wpAny (model prog w) A (call (.builtin _) [v, u]) Q E s) e rx ry fun a b t u e => ?_
    exact max_two_ints hh fun h' tk x => h _ _ _ x (Option.some.inj e ▸ ite_max)
  | isb => exact arg2_el (m := fun vs => wpAny (model prog w) A (call (.builtin _) vs) Q E s) rs e fun x y v u rx ry e => isb_op e rx ry h

theorem join_op {ys : List V} {r : V} {t : Tok} {vy : Value} (e : ((textsOf ys).bind fun ts => if ts.flatten.length ≤ big then some (V.str ts.flatten) else none) = some r) (ry : Rep w φ s.heap (.list ys) vy) (h : Gives1 w φ s r Q) : wpAny (model prog w) A (call (.builtin "str.join") [.str (txt []) t, vy]) Q E s := by
  obtain ⟨ts, e1, e⟩ := Option.bind_eq_some_iff.mp e
  refine ite_el e fun z e => list_el (m := fun vy => wpAny (model prog w) A (call (.builtin "str.join") [.str (txt []) t, vy]) Q E s) ry fun a us n hl m ho q => ?_
  obtain ⟨sa, ok⟩ := reps_texts e1 q
  have len : ((ts.map txt).map (·.length)).sum = ts.flatten.length := by
    rw [List.length_flatten, List.map_map]
    congr 1
  refine join_list (items := us.toArray) ⟨_, ho, rfl, _, rfl⟩ (by simpa using sa) ?_ fun t' k => ?_
  · rw [len, txt_length]; unfold big at z; simp only [List.length_nil, Nat.mul_zero]; omega
  · rw [glued_empty]
    refine h.tok (e ▸ rep_txt ⟨z, fun c hc => ?_⟩ _)
    obtain ⟨l, hl, hc⟩ := List.mem_flatten.mp hc
    exact (ok l hl).2 c hc
theorem sm_op (m : Sm) {x y r : V} {vx vy : Value} (e : smV m x y = some r) (rx : Rep w φ s.heap x vx) (ry : Rep w φ s.heap y vy) (h : Gives1 w φ s r Q) :
    wpAny (model prog w) A (call (.builtin m.id) [vx, vy]) Q E s := by
  refine asS_el (m := fun x => Rep w φ s.heap x vx → wpAny (model prog w) A (call (.builtin m.id) [vx, vy]) Q E s) e (fun l e rx => str_el (m := fun vx => wpAny (model prog w) A (call (.builtin m.id) [vx, vy]) Q E s) rx fun t _ => ?_) rx
  cases m with
  | join =>
    cases l with
    | nil => exact asL_el (m := fun y => Rep w φ s.heap y vy → wpAny (model prog w) A (call (.builtin _) [.str (txt []) t, vy]) Q E s) e (fun ys e ry => join_op e ry h) ry
    | cons _ _ => exact dead e
  | starts =>
    refine asS_el (m := fun y => Rep w φ s.heap y vy → wpAny (model prog w) A (call (.builtin _) [.str (txt l) t, vy]) Q E s) e (fun y e ry => str_el (m := fun vy => wpAny (model prog w) A (call (.builtin _) [.str (txt l) t, vy]) Q E s) ry fun u _ => SC.startswith ?_) ry
    rw [starts_txt]
    exact h.same (Option.some.inj e ▸ rep_bo _)
  | ends =>
    refine asS_el (m := fun y => Rep w φ s.heap y vy → wpAny (model prog w) A (call (.builtin _) [.str (txt l) t, vy]) Q E s) e (fun y e ry => str_el (m := fun vy => wpAny (model prog w) A (call (.builtin _) [.str (txt l) t, vy]) Q E s) ry fun u _ => SC.endswith ?_) ry
    rw [ends_txt]
    exact h.same (Option.some.inj e ▸ rep_bo _)
theorem rep_rng {h : Heap} {a b c : Int} {t u v : Tok} (hm : ∀ m ∈ muts φ, (h.get? m).isSome) : Rep w φ (h.push { cls := .type "range", data := .fields #[.int a t, .int b u, .int c v] }) (.rng a b c) (.ref h.objs.size) := by
  rw [Rep]; exact ⟨_, _, _, _, rfl, fresh_notin hm, Heap.get?_push_size _ rfl⟩
theorem rng_op {xs : List V} {r : V} {vs : List Value} (hm : ∀ m ∈ muts φ, (s.heap.get? m).isSome) (e : rngV xs = some r) (rs : Reps w φ s.heap xs vs) (h : Gives1 w φ s r Q) :
    wpAny (model prog w) A (call (.type "range") vs) Q E s := by
  cases xs with
  | nil => exact dead e
  | cons x xs =>
    rw [Reps] at rs; obtain ⟨vx, vs, rfl, rx, rs⟩ := rs
    cases xs with
    | nil =>
      rw [Reps] at rs; subst rs
      exact int1_el (m := fun x => Rep w φ s.heap x vx → wpAny (model prog w) A (call (.type "range") [vx]) Q E s) e (fun b e rx => int_el (m := fun vx => wpAny (model prog w) A (call (.type "range") [vx]) Q E s) rx fun t => call_range_1 (h _ _ _ (Ext.push _ _) (Option.some.inj e ▸ rep_rng hm))) rx
    | cons y xs =>
      rw [Reps] at rs; obtain ⟨vy, vs, rfl, ry, rs⟩ := rs
      cases xs with
      | nil =>
        rw [Reps] at rs; subst rs
        exact two_el (m := fun vx vy => wpAny (model prog w) A (call (.type "range") [vx, vy]) Q E s) e rx ry fun a b t u e => call_range_2 (h _ _ _ (Ext.push _ _) (Option.some.inj e ▸ rep_rng hm))
      | cons z xs =>
        rw [Reps] at rs; obtain ⟨vz, vs, rfl, rz, rs⟩ := rs
        cases xs with
        | nil =>
          rw [Reps] at rs; subst rs
          refine two_el (m := fun vx vy => wpAny (model prog w) A (call (.type "range") [vx, vy, vz]) Q E s) e rx ry fun a b t u e => int1_el (m := fun z => Rep w φ s.heap z vz → wpAny (model prog w) A (call (.type "range") [.int a t, .int b u, vz]) Q E s) e (fun c e rz => int_el (m := fun vz => wpAny (model prog w) A (call (.type "range") [.int a t, .int b u, vz]) Q E s) rz fun v => ite_el e fun q e => ?_) rz
          exact call_range_3 (by omega) (h _ _ _ (Ext.push _ _) (e ▸ rep_rng hm)) (.inl (PyProof.noPylong_small (by omega)))
        | cons _ _ => exact dead e
end
end Mine
end

section
open PySem PySem.W PyProof.Rows PySem.Calls
set_option Elab.async false
set_option maxRecDepth 100000
namespace Mine

/-- the names of the attributes -/
structure Names where
  an : Nat → Str
  inj : ∀ i j, an i = an j → i = j

noncomputable def FieldsRep (N : Names) (W : World) (φ : Phi) (h : Heap) : Fields → List DictEntry → Prop
  | [], es => es = []
  | (k, v) :: fs, es => ∃ e r, es = e :: r ∧ (∃ t, e.key = .str (N.an k) t) ∧ Rep W φ h v e.val ∧ handedIn e.val = true ∧ FieldsRep N W φ h fs r

noncomputable def ObOk (N : Names) (W : World) (φ : Phi) (h : Heap) (p : Addr × Addr) : Ob → Prop
  | .inst c fs => fs.length ≤ 100 ∧ h.get? p.1 = some ⟨.ref c, some p.2, .plain, #[]⟩ ∧ ∃ es n, h.get? p.2 = some (dictOf es n) ∧ FieldsRep N W φ h fs es
  | .cell xs => xs.length ≤ big ∧ p.1 = p.2 ∧ ∃ vs n, h.get? p.1 = some ⟨.type "list", none, .seq (List.toArray vs) n, #[]⟩ ∧ Reps W φ h xs vs

structure Rel (N : Names) (W : World) (h₀ : Heap) (σ : St) (φ : Phi) (h : Heap) : Prop where
  base : Ext h₀ h
  len : φ.objs.length = σ.length
  apart : ∀ b ∈ muts φ, h₀.get? b = none
  nodup : (φ.objs.map (·.2)).Nodup
  bads : ∀ b ∈ φ.bad, (h.get? b).isSome
  obs : ∀ (k : Nat) (ob : Ob) (p : Addr × Addr), σ[k]? = some ob → φ.objs[k]? = some p → ObOk N W φ h p ob

section
variable {N : Names} {W : World} {h₀ h h' : Heap} {σ : St} {φ φ' : Phi}

theorem FieldsRep.mono {own : List Addr} (G : Grow φ h φ') (K : Keep φ own h h') (O : Own h own) : ∀ {fs : Fields} {es : List DictEntry}, FieldsRep N W φ h fs es → FieldsRep N W φ' h' fs es
  | [], _, r => r
  | (_, _) :: _, _, ⟨e, r, a, b, c, d, f⟩ => ⟨e, r, a, b, c.mono G K O, d, FieldsRep.mono G K O f⟩
theorem FieldsRep.len : ∀ {fs : Fields} {es : List DictEntry}, FieldsRep N W φ h fs es → es.length = fs.length
  | [], _, r => by subst r; rfl
  | (_, _) :: _, _, ⟨e, r, a, _, _, _, f⟩ => by subst a; simp [FieldsRep.len f]

theorem Rel.mut_some (R : Rel N W h₀ σ φ h) : ∀ m ∈ muts φ, (h.get? m).isSome := fun m q => by
  rcases List.mem_append.mp q with q | q
  · obtain ⟨p, hp, rfl⟩ := List.mem_map.mp q
    obtain ⟨k, hk, e⟩ := List.getElem_of_mem hp
    have e' : φ.objs[k]? = some p := by rw [List.getElem?_eq_getElem hk, e]
    obtain ⟨ob, hob⟩ : ∃ ob, σ[k]? = some ob := ⟨σ[k]'(by rw [← R.len]; exact hk), List.getElem?_eq_getElem _⟩
    have := R.obs k ob p hob e'
    cases ob with
    | inst c fs => obtain ⟨_, _, es, n, a, _⟩ := this; rw [a]; rfl
    | cell xs => obtain ⟨_, e, vs, n, a, _⟩ := this; rw [← e, a]; rfl
  · exact R.bads m q
theorem Rel.ext (R : Rel N W h₀ σ φ h) (x : Ext h h') : Rel N W h₀ σ φ h' where
  base := R.base.trans x
  len := R.len
  apart := R.apart
  nodup := R.nodup
  bads := fun b hb => by
    obtain ⟨o, e⟩ := Option.isSome_iff_exists.mp (R.bads b hb)
    rw [x _ _ e]; rfl
  obs := fun k ob p a b => by
    have := R.obs k ob p a b
    cases ob with
    | inst c fs => obtain ⟨l, c, es, n, d, f⟩ := this; exact ⟨l, x _ _ c, es, n, x _ _ d, f.mono (.refl _ _) (x.keep (own := [])) (.nil _)⟩
    | cell xs => obtain ⟨l, e, vs, n, d, f⟩ := this; exact ⟨l, e, vs, n, x _ _ d, f.ext x⟩
theorem Rel.base_notmut (R : Rel N W h₀ σ φ h) {b : Addr} {o : Obj} (e : h₀.get? b = some o) : b ∉ muts φ := fun q => by
  rw [R.apart b q] at e; cases e

/-- a keep that names the own objects too keeps the state's objects -/
theorem Rel.own (R : Rel N W h₀ σ φ h) {own : List Addr} (K : Keep φ own h h') (O : Own h own) (ob : ∀ b ∈ own, h₀.get? b = none) (km : ∀ m ∈ muts φ, h'.get? m = h.get? m) : Rel N W h₀ σ φ h' where
  base := fun b o e => K _ _ (R.base _ _ e) (R.base_notmut e) fun m => by rw [ob b m] at e; cases e
  len := R.len
  apart := R.apart
  nodup := R.nodup
  bads := fun b hb => by rw [km b (List.mem_append_right _ hb)]; exact R.bads b hb
  obs := fun k ob p a b => by
    have hp : p.2 ∈ muts φ := List.mem_append_left _ (List.mem_map_of_mem (List.mem_of_getElem? b))
    have := R.obs k ob p a b
    cases ob with
    | inst c fs =>
      obtain ⟨l, c, es, n, d, f⟩ := this
      refine ⟨l, ?_, es, n, (km _ hp).trans d, f.mono (.refl _ _) K O⟩
      by_cases q : p.1 ∈ muts φ
      · rw [km _ q]; exact c
      · exact K _ _ c q (O.ne c tight_plain)
    | cell xs => obtain ⟨l, e, vs, n, d, f⟩ := this; exact ⟨l, e, vs, n, by rw [e, km _ hp, ← e]; exact d, f.mono (.refl _ _) K O⟩
theorem Rel.ban {B : List Addr} (R : Rel N W h₀ σ φ h) (K : Ext h h') (hb : ∀ b ∈ B, h.get? b = none) (hb' : ∀ b ∈ B, (h'.get? b).isSome) : Rel N W h₀ σ (φ.ban B) h' where
  base := R.base.trans K
  len := R.len
  apart := fun b m => by
    rcases muts_ban.mp m with m | m
    · exact R.apart b m
    · cases e : h₀.get? b with
      | none => rfl
      | some o => have := R.base _ _ e; rw [hb b m] at this; cases this
  nodup := R.nodup
  bads := fun b m => by
    rcases List.mem_append.mp m with m | m
    · obtain ⟨o, e⟩ := Option.isSome_iff_exists.mp (R.bads b m)
      rw [K _ _ e]; rfl
    · exact hb' b m
  obs := fun k ob p a b => by
    have := R.obs k ob p a b
    have G := Grow.ban φ (h := h) hb
    cases ob with
    | inst c fs => obtain ⟨l, c, es, n, d, f⟩ := this; exact ⟨l, K _ _ c, es, n, K _ _ d, f.mono G (K.keep (own := [])) (.nil _)⟩
    | cell xs => obtain ⟨l, e, vs, n, d, f⟩ := this; exact ⟨l, e, vs, n, K _ _ d, f.mono G (K.keep (own := [])) (.nil _)⟩
end

/-! fields -/
noncomputable def getF (fs : Fields) (a : Nat) : Option V := (fs.find? (·.1 == a)).map (·.2)
noncomputable def setF : Fields → Nat → V → Fields
  | [], a, v => [(a, v)]
  | (k, x) :: r, a, v => if k = a then (a, v) :: r else (k, x) :: setF r a v

theorem isStr_iff {x y : Str} {t : Tok} : (Value.str x t).isStr y = decide (x = y) := by
  show (x == y) = _
  rw [Bool.eq_iff_iff, beq_iff_eq, decide_eq_true_iff]
section
variable {N : Names} {W : World} {h : Heap} {φ : Phi}
theorem getF_rep {a : Nat} {v : V} : ∀ {fs : Fields} {es : List DictEntry}, FieldsRep N W φ h fs es → getF fs a = some v → ∃ e, es.find? (·.key.isStr (N.an a)) = some e ∧ Rep W φ h v e.val ∧ handedIn e.val = true
  | [], _, _, q => by simp [getF] at q
  | (k, x) :: fs, _, ⟨e, r, rfl, ⟨t, ek⟩, rv, hd, f⟩, q => by
    unfold getF at q
    by_cases c : k = a
    · subst c
      simp only [List.find?_cons, beq_self_eq_true, Option.map_some, Option.some.injEq] at q
      subst q
      refine ⟨e, ?_, rv, hd⟩
      rw [List.find?_cons, ek, isStr_iff, decide_eq_true rfl]
    · have : (k == a) = false := beq_eq_false_iff_ne.mpr c
      rw [List.find?_cons, this] at q
      obtain ⟨e', h1, h2⟩ := getF_rep f q
      refine ⟨e', ?_, h2⟩
      rw [List.find?_cons, ek, isStr_iff, decide_eq_false (fun z => c (N.inj _ _ z))]
      exact h1
theorem noRef {fs : Fields} {es : List DictEntry} : FieldsRep N W φ h fs es → es.any (·.refKey) = false := by
  induction fs generalizing es with
  | nil => intro r; cases r; rfl
  | cons p fs ih =>
    obtain ⟨k, x⟩ := p
    rintro ⟨e, r, rfl, ⟨t, ek⟩, _, _, f⟩
    rw [List.any_cons, ih f]
    simp [DictEntry.refKey, ek]
theorem getL_isSome {fs : Fields} {es : List DictEntry} (r : FieldsRep N W φ h fs es) (name : Str) : (getL name es).isSome = true := by
  unfold getL
  split
  · rfl
  · rw [noRef r]; rfl
theorem putL_rep {a : Nat} {v : V} {u : Value} {hsh : Int} {tk : Tok} (rv : Rep W φ h v u) (hd : handedIn u = true) : ∀ {fs : Fields} {es : List DictEntry}, FieldsRep N W φ h fs es → FieldsRep N W φ h (setF fs a v) (putL (N.an a) hsh (.str (N.an a) tk) u es)
  | [], _, r => by subst r; exact ⟨_, [], rfl, ⟨tk, rfl⟩, rv, hd, rfl⟩
  | (k, x) :: fs, _, ⟨e, r, rfl, ⟨t, ek⟩, rx, hx, f⟩ => by
    unfold setF putL
    by_cases c : k = a
    · subst c
      rw [if_pos rfl, ek, isStr_iff, decide_eq_true rfl, if_pos rfl]
      exact ⟨_, r, rfl, ⟨t, rfl⟩, rv, hd, f⟩
    · rw [if_neg c, ek, isStr_iff, decide_eq_false (fun z => c (N.inj _ _ z)), if_neg (by decide)]
      exact ⟨e, _, rfl, ⟨t, ek⟩, rx, hx, putL_rep rv hd f⟩
theorem setF_length (fs : Fields) (a : Nat) (v : V) : (setF fs a v).length ≤ fs.length + 1 := by
  induction fs with
  | nil => exact Nat.le_refl _
  | cons p r ih =>
    obtain ⟨k, x⟩ := p
    unfold setF
    split <;> simp only [List.length_cons] <;> omega
end

/-- what a class must be for its instances to be plain -/
structure PlainCls (N : Names) (K : Frag) (C : Addr) (as : List Nat) : Prop where
  get : ∀ n, plainGet K C n = true
  set : findIn K (.ref C) "__setattr__" = some (some (.builtin "object.__setattr__"))
  over : plainOver K C = true
  dict : hasDictIn K C = true
  attr : ∀ a ∈ as, (∃ x, findIn K (.ref C) (N.an a) = some x ∧ noGet K x = true) ∧ takerIn K C (N.an a) = some none

section
variable {prog : Program} {w : World} {A : Around} {E : Value → Shared → Prop} {s : Shared} {K : Frag} {N : Names} {h₀ : Heap} {σ : St} {φ : Phi} {C : Addr} {as : List Nat} {fs : Fields} {k a : Nat} {p : Addr × Addr}

theorem inst_at {c : Addr} (o : ObOk N w φ s.heap p (.inst c fs)) : ∃ es n, s.heap.get? p.2 = some (dictOf es n) ∧ FieldsRep N w φ s.heap fs es ∧ InstAt s.heap p.1 ⟨.ref c, some p.2, .plain, #[]⟩ c (some (dictOf es n)) := by
  obtain ⟨_, a, es, n, b, c⟩ := o
  exact ⟨es, n, b, c, a, rfl, rfl, b⟩

theorem get_op {v : V} {expr : Bool} {Q : Value → Shared → Prop} (X : K.In s.heap) (P : PlainCls N K C as) (ha : a ∈ as) (o : ObOk N w φ s.heap p (.inst C fs)) (e : getF fs a = some v) (h : Gives1 w φ s v Q) :
    wpAny (model prog w) A (getAttr (.ref p.1) (N.an a) expr) Q E s := by
  obtain ⟨es, n, _, f, I⟩ := inst_at o
  obtain ⟨en, e1, rv, hd⟩ := getF_rep f e
  obtain ⟨⟨x, hx, hg⟩, _⟩ := P.attr a ha
  refine get_value X I (plainGet_of (P.get (N.an a))).1 (findObj_own P.dict hx hg ?_) hd (h.tok rv)
  show getL (N.an a) es = _
  unfold getL
  rw [e1]

theorem set_raw {x C dx : Addr} {es : List DictEntry} {n : Nat} {name : Str} {v : Value} {Q : Unit → Shared → Prop} (X : K.In s.heap) (I : InstAt s.heap x ⟨.ref C, some dx, .plain, #[]⟩ C (some (dictOf es n)))
    (hd : s.heap.get? dx = some (dictOf es n)) (hs : findIn K (.ref C) "__setattr__" = some (some (.builtin "object.__setattr__"))) (hp : plainOver K C = true) (ht : takerIn K C name = some none) (hh : hasDictIn K C = true) (hl : (getL name es).isSome = true) (hz : es.length ≤ 1000)
    (h : ∀ hsh tk, (s.heap.update dx (Obj.putName name hsh (.str name tk) v)).get? dx = some (dictOf (putL name hsh (.str name tk) v es) (putN name es n)) → ∀ k, Q () { s with heap := s.heap.update dx (Obj.putName name hsh (.str name tk) v), toks := k }) :
    wpAny (model prog w) A (setAttr (.ref x) name v) Q E s := by
  refine set_plain X I hs (osa_open (s := { s with toks := s.toks + 1 }) X I hp ht fun b => ?_)
  obtain ⟨cd, hc, hd'⟩ := any_some (show (clsIn K C).any (·.hasDict) = true from hh)
  have hx := I.at_
  refine wpAny_bind (wpAny_pure (wpAny_bind (wpAny_bind (wpAny_loadPart (s := { s with toks := s.toks + 1 }) hx (wpAny_bind (looks_clsIn (M := model prog w) X hc _ _ _ _ (fun _ _ e => e) ?_))))))
  rw [hd']
  refine wpAny_pure (a := some dx) (wpAny_bind (wpAny_pure (wpAny_bind ?_)))
  unfold nsSet
  refine wpAny_bind (wpAny_bind (wpAny_askSetting (wpAny_pure (wpAny_bind (wpAny_mkText (wpAny_bind (wpAny_loadPart (s := { s with toks := s.toks + 1 + 1 }) hd ?_)))))))
  have c : (!es.toArray.any (·.key.isStr name) && es.toArray.any (·.refKey)) = false := by
    rw [← Array.any_toList, ← Array.any_toList]
    unfold getL at hl
    split at hl
    · rename_i en he
      rw [List.any_eq_true.mpr ⟨en, List.mem_of_find?_eq_some he, List.find?_some he⟩]; rfl
    · split at hl
      · cases hl
      · rename_i z; rw [Bool.not_eq_true] at z; rw [z, Bool.and_false]
  simp only [dictOf]
  rw [aRefKeyMayBeTheName_at, c]
  refine wpAny_updatePart hd ?_
  have D' : (s.heap.update dx (Obj.putName name (PyData.keyHash w.params name) (.str name (s.toks + 1)) v)).get? dx = some (dictOf (putL name (PyData.keyHash w.params name) (.str name (s.toks + 1)) v es) (putN name es n)) := by
    have := Heap.get?_update_self (h := s.heap) (Obj.putName name (PyData.keyHash w.params name) (.str name (s.toks + 1)) v) hd (by rw [putName_dict]; rfl)
    rw [this, putName_dict]
  refine wpAny_bind (wpAny_lookBehind D' (pastItsLine_dict ?_) ?_)
  · rw [List.size_toArray, sizeLine_eq]
    have : ∀ l : List DictEntry, (putL name (PyData.keyHash w.params name) (.str name (s.toks + 1)) v l).length ≤ l.length + 1 := fun l => by
      induction l with
      | nil => exact Nat.le_refl _
      | cons e r ih => unfold putL; split <;> simp only [List.length_cons] <;> omega
    have := this es
    omega
  · exact wpAny_pure (h _ _ D' _)

theorem set_op {v : V} {u : Value} {Q : Unit → Shared → Prop} (X : K.In s.heap) (P : PlainCls N K C as) (ha : a ∈ as) (R : Rel N w h₀ σ φ s.heap) (hk : σ[k]? = some (.inst C fs)) (hp : φ.objs[k]? = some p) (hlen : fs.length < 100) (rv : Rep w φ s.heap v u) (hh : handedIn u = true)
    (h : ∀ h' tk, Keep φ [] s.heap h' → Rel N w h₀ (σ.set k (.inst C (setF fs a v))) φ h' → Q () { s with heap := h', toks := tk }) :
    wpAny (model prog w) A (setAttr (.ref p.1) (N.an a) u) Q E s := by
  have o := R.obs k _ p hk hp
  obtain ⟨es, n, hd, f, I⟩ := inst_at o
  obtain ⟨_, ht⟩ := P.attr a ha
  have hm : p.2 ∈ muts φ := List.mem_append_left _ (List.mem_map_of_mem (List.mem_of_getElem? hp))
  refine set_raw X I hd P.set P.over ht P.dict (getL_isSome f _) (by rw [f.len]; omega) fun hsh tk D' tk' => ?_
  have keep : Keep φ [] s.heap (s.heap.update p.2 (Obj.putName (N.an a) hsh (.str (N.an a) tk) u)) := fun b o e nb _ => (Heap.get?_update_ne _ _ _ _ (fun q : b = p.2 => nb (q ▸ hm))).trans e
  refine h _ _ keep ?_
  have gr := Grow.refl φ s.heap
  refine ⟨fun b o e => keep _ _ (R.base _ _ e) (R.base_notmut e) List.not_mem_nil, by rw [List.length_set]; exact R.len, R.apart, R.nodup, fun b hb => ?_, fun j ob q hj hq => ?_⟩
  · by_cases c : b = p.2
    · rw [c, D']; rfl
    · rw [Heap.get?_update_ne _ _ _ _ c]; exact R.bads b hb
  by_cases c : k = j
  · subst c
    rw [hp] at hq; cases hq
    have hlt : k < σ.length := by
      rcases Nat.lt_or_ge k σ.length with z | z
      · exact z
      · rw [List.getElem?_eq_none z] at hk; cases hk
    rw [List.getElem?_set_self hlt] at hj
    cases hj
    refine ⟨Nat.le_trans (setF_length _ _ _) hlen, ?_, _, _, D', putL_rep (rv.mono gr keep (.nil _)) hh (f.mono gr keep (.nil _))⟩
    exact (Heap.get?_update_ne _ _ _ _ (fun q : p.1 = p.2 => by have := I.at_; rw [q, hd] at this; cases this)).trans I.at_
  · rw [List.getElem?_set_ne c] at hj
    have oj := R.obs j ob q hj hq
    have ne2 : q.2 ≠ p.2 := fun z => by
      have nd := R.nodup
      have i1 : (φ.objs.map (·.2))[k]? = some p.2 := by simp [hp]
      have i2 : (φ.objs.map (·.2))[j]? = some p.2 := by simp [hq, z]
      exact c ((List.getElem?_inj (by
        rcases Nat.lt_or_ge k (φ.objs.map (·.2)).length with y | y
        · exact y
        · rw [List.getElem?_eq_none y] at i1; cases i1) nd).mp (i1.trans i2.symm))
    cases ob with
    | inst c' fs' =>
      obtain ⟨l, b, es', n', d, f'⟩ := oj
      exact ⟨l, (Heap.get?_update_ne _ _ _ _ (fun z : q.1 = p.2 => by rw [z, hd] at b; cases b)).trans b, es', n', (Heap.get?_update_ne _ _ _ _ ne2).trans d, f'.mono gr keep (.nil _)⟩
    | cell xs =>
      obtain ⟨l, e, vs, n', d, f'⟩ := oj
      exact ⟨l, e, vs, n', (Heap.get?_update_ne _ _ _ _ (fun z : q.1 = p.2 => ne2 (e ▸ z))).trans d, f'.mono gr keep (.nil _)⟩
end
end Mine
end

section
open PySem PySem.W PyProof.Rows PySem.Calls
set_option Elab.async false
set_option maxRecDepth 100000
namespace Mine

noncomputable def own (env : Env) : List Addr := env.locals :: env.cells.map (·.2)

structure Fra (W : World) (h₀ : Heap) (φ : Phi) (env : Env) (vars : List Str) (ρ : List (Option V)) (h : Heap) : Prop where
  fn : env.scope.kind = .function
  ns : ∃ m, h.Ns env.locals m ∧ ∀ (i : Nat) (v : V) (n : Str), ρ[i]? = some (some v) → vars[i]? = some n → env.kindOf n = some .local → ∃ u, m n = some u ∧ Rep W φ h v u
  all : ∀ n c, (n, c) ∈ env.cells → ∃ v, h.IsCell c v
  has : ∀ n, env.kindOf n = some .cell → (env.cells.lookup n).isSome
  cell : ∀ (i : Nat) (v : V) (n : Str) (c : Addr), ρ[i]? = some (some v) → vars[i]? = some n → env.kindOf n = some .cell → env.cells.lookup n = some c → ∃ u, h.IsCell c (some u) ∧ Rep W φ h v u
  apart : ∀ (n n' : Str) (c : Addr), (n, c) ∈ env.cells → (n', c) ∈ env.cells → n = n'
  fresh : ∀ b ∈ own env, h₀.get? b = none
  notm : ∀ b ∈ own env, b ∉ muts φ

section
variable {N : Names} {prog : Program} {W w : World} {h₀ h h' : Heap} {σ : St} {φ φ' : Phi} {env : Env} {vars : List Str} {ρ : List (Option V)} {A : Around} {E : Value → Shared → Prop} {s : Shared}

theorem Fra.own_ok (F : Fra W h₀ φ env vars ρ h) : Own h (own env) := fun b hb => by
  rcases List.mem_cons.mp hb with rfl | hb
  · obtain ⟨m, ⟨o, es, ep, e, d, _⟩, _⟩ := F.ns
    exact ⟨o, e, .inl ⟨es, ep, d⟩⟩
  · obtain ⟨⟨n, c⟩, hc, rfl⟩ := List.mem_map.mp hb
    obtain ⟨v, o, e, d⟩ := F.all n c hc
    exact ⟨o, e, .inr (.inl ⟨v, d⟩)⟩
theorem Fra.own_some (F : Fra W h₀ φ env vars ρ h) : ∀ b ∈ own env, ∃ o, h.get? b = some o := fun b hb => let ⟨o, e, _⟩ := F.own_ok b hb; ⟨o, e⟩

theorem Ns.at1 {a : Addr} {m} (x : h.Ns a m) (e : ∀ o, h.get? a = some o → h'.get? a = some o) : h'.Ns a m := let ⟨o, es, ep, y, r⟩ := x; ⟨o, es, ep, e _ y, r⟩
theorem Cell.at1 {a : Addr} {v} (x : h.IsCell a v) (e : ∀ o, h.get? a = some o → h'.get? a = some o) : h'.IsCell a v := let ⟨o, y, d⟩ := x; ⟨o, e _ y, d⟩

theorem Fra.keep {ow : List Addr} (F : Fra W h₀ φ env vars ρ h) (G : Grow φ h φ') (K : Keep φ ow h h') (O : Own h ow) (ap : ∀ b ∈ own env, b ∉ ow) : Fra W h₀ φ' env vars ρ h' where
  fn := F.fn
  ns := by
    obtain ⟨m, a, b⟩ := F.ns
    refine ⟨m, Ns.at1 a fun o e => K _ _ e (F.notm _ List.mem_cons_self) (ap _ List.mem_cons_self), fun i v n x y z => ?_⟩
    obtain ⟨u, p, q⟩ := b i v n x y z
    exact ⟨u, p, q.mono G K O⟩
  all := fun n c x => by
    have hm : c ∈ own env := List.mem_cons_of_mem _ (List.mem_map_of_mem x)
    obtain ⟨v, y⟩ := F.all n c x
    exact ⟨v, Cell.at1 y fun o e => K _ _ e (F.notm _ hm) (ap _ hm)⟩
  has := F.has
  cell := fun i v n c x y z t => by
    have hm : c ∈ own env := List.mem_cons_of_mem _ (List.mem_map_of_mem (mem_of_lookup t))
    obtain ⟨u, p, q⟩ := F.cell i v n c x y z t
    exact ⟨u, Cell.at1 p fun o e => K _ _ e (F.notm _ hm) (ap _ hm), q.mono G K O⟩
  apart := F.apart
  fresh := F.fresh
  notm := fun b hb => let ⟨_, e⟩ := F.own_some b hb; G.notmem e (F.notm b hb)
theorem Fra.keep0 (F : Fra W h₀ φ env vars ρ h) (G : Grow φ h φ') (K : Keep φ [] h h') : Fra W h₀ φ' env vars ρ h' := F.keep G K (.nil _) fun _ _ m => nomatch m
theorem Fra.ext (F : Fra W h₀ φ env vars ρ h) (x : Ext h h') : Fra W h₀ φ env vars ρ h' := F.keep0 (.refl _ _) x.keep

noncomputable def varOk (sc : Scope) (n : Str) : Bool := sc.names.lookup n == some .local || sc.names.lookup n == some .cell
theorem varOk_cases {n : Str} (h : varOk env.scope n = true) : env.kindOf n = some .local ∨ env.kindOf n = some .cell := by
  unfold varOk at h
  rw [Bool.or_eq_true, beq_iff_eq, beq_iff_eq] at h
  exact h

theorem Fra.load {i : Nat} {v : V} {n : Str} {Q : Value → Shared → Prop} (F : Fra w h₀ φ env vars ρ s.heap) (hv : ρ[i]? = some (some v)) (hn : vars[i]? = some n) (hk : varOk env.scope n = true)
    (h : ∀ u, Rep w φ s.heap v u → Q u s) : wpAny (model prog w) A (loadName env n) Q E s := by
  rcases varOk_cases hk with k | k
  · obtain ⟨m, a, b⟩ := F.ns
    obtain ⟨u, p, q⟩ := b i v n hv hn k
    exact wpAny_loadName_local F.fn k a p (h u q)
  · obtain ⟨c, hc⟩ := Option.isSome_iff_exists.mp (F.has n k)
    obtain ⟨u, p, q⟩ := F.cell i v n c hv hn k hc
    exact wpAny_loadName_cell F.fn k hc p (h u q)

theorem vars_inj (nd : vars.Nodup) {i j : Nat} {n : Str} (a : vars[i]? = some n) (b : vars[j]? = some n) : i = j := by
  have : i < vars.length := by
    rcases Nat.lt_or_ge i vars.length with h | h
    · exact h
    · rw [List.getElem?_eq_none h] at a; cases a
  exact (List.getElem?_inj this nd).mp (a.trans b.symm)

/-- nothing but the own is turned -/
noncomputable def KeepO (ow : List Addr) (h h' : Heap) : Prop := ∀ b o, h.get? b = some o → b ∉ ow → h'.get? b = some o
theorem KeepO.keep {ow : List Addr} (k : KeepO ow h h') : Keep φ ow h h' := fun b o e _ n => k b o e n
theorem setOpt {i j : Nat} {v x : V} (e : (ρ.set i (some v))[j]? = some (some x)) : (i = j ∧ x = v) ∨ (i ≠ j ∧ ρ[j]? = some (some x)) := by
  rw [List.getElem?_set] at e
  split at e
  · split at e
    · cases e; exact .inl ⟨‹_›, rfl⟩
    · cases e
  · exact .inr ⟨‹_›, e⟩

theorem Fra.store {i : Nat} {v : V} {u : Value} {n : Str} {Q : Unit → Shared → Prop} (F : Fra w h₀ φ env vars ρ s.heap) (R : Rel N w h₀ σ φ s.heap) (nd : vars.Nodup) (hn : vars[i]? = some n) (hk : varOk env.scope n = true)
    (rv : Rep w φ s.heap v u)
    (h : ∀ h' tk, KeepO (own env) s.heap h' → Fra w h₀ φ env vars (ρ.set i (some v)) h' → Rel N w h₀ σ φ h' → Q () { s with heap := h', toks := tk }) : wpAny (model prog w) A (storeName env n u) Q E s := by
  have O := F.own_ok
  rcases varOk_cases hk with k | k
  · obtain ⟨m, a, b⟩ := F.ns
    refine wpAny_storeName_local k a (fun h' hn' hs' => ?_) (by rw [F.fn]; rfl)
    have hm : env.locals ∈ own env := List.mem_cons_self
    have K' : KeepO (own env) s.heap h' := fun b o e nb => hs'.extBut b o (fun q => nb (q ▸ hm)) e
    have K : Keep φ (own env) s.heap h' := K'.keep
    have cellne : ∀ c v, s.heap.IsCell c v → c ≠ env.locals := fun c v ⟨o, e, d⟩ q => by
      obtain ⟨o', _, _, e', d', _⟩ := a
      rw [q, e'] at e; cases e; rw [d] at d'; cases d'
    have C : ∀ c v, s.heap.IsCell c v → h'.IsCell c v := fun c v x => x.sameBut hs' (cellne c v x)
    refine h h' _ K' ⟨F.fn, ⟨_, hn', fun j x n' e y z => ?_⟩, fun n c x => ?_, F.has, fun j x n' c e y z t => ?_, F.apart, F.fresh, F.notm⟩ (R.own K O F.fresh fun m q => hs'.2 m fun z => F.notm _ hm (z ▸ q))
    · rcases setOpt e with ⟨rfl, rfl⟩ | ⟨ne, e⟩
      · rw [hn] at y; cases y
        exact ⟨u, if_pos rfl, rv.mono (.refl _ _) K O⟩
      · obtain ⟨u', p, q⟩ := b j x n' e y z
        have hne : n' ≠ n := fun z' => ne (vars_inj nd hn (z' ▸ y))
        refine ⟨u', ?_, q.mono (.refl _ _) K O⟩
        rw [if_neg hne]; exact p
    · obtain ⟨v, y⟩ := F.all n c x; exact ⟨v, C _ _ y⟩
    · rcases setOpt e with ⟨rfl, rfl⟩ | ⟨ne, e⟩
      · rw [hn] at y; cases y; rw [k] at z; cases z
      · obtain ⟨u', p, q⟩ := F.cell j x n' c e y z t
        exact ⟨u', C _ _ p, q.mono (.refl _ _) K O⟩
  · obtain ⟨c, hc⟩ := Option.isSome_iff_exists.mp (F.has n k)
    have hcm := mem_of_lookup hc
    obtain ⟨v₀, hv₀⟩ := F.all n c hcm
    have hm : c ∈ own env := List.mem_cons_of_mem _ (List.mem_map_of_mem hcm)
    refine wpAny_storeName_cell F.fn k hc hv₀ fun h' hc' hs' => ?_
    have K' : KeepO (own env) s.heap h' := fun b o e nb => hs'.extBut b o (fun q => nb (q ▸ hm)) e
    have K : Keep φ (own env) s.heap h' := K'.keep
    obtain ⟨m, a, b⟩ := F.ns
    have hLc : env.locals ≠ c := fun q => by
      obtain ⟨o', _, _, e', d', _⟩ := a
      obtain ⟨o, e, d⟩ := hv₀
      rw [← q, e'] at e; cases e; rw [d] at d'; cases d'
    refine h h' s.toks K' ⟨F.fn, ⟨m, a.sameBut hs' hLc, fun j x n' e y z => ?_⟩, fun n' c' x => ?_, F.has, fun j x n' c' e y z t => ?_, F.apart, F.fresh, F.notm⟩ (R.own K O F.fresh fun m q => hs'.2 m fun z => F.notm _ hm (z ▸ q))
    · rcases setOpt e with ⟨rfl, rfl⟩ | ⟨ne, e⟩
      · rw [hn] at y; cases y; rw [k] at z; cases z
      · obtain ⟨u', p, q⟩ := b j x n' e y z
        exact ⟨u', p, q.mono (.refl _ _) K O⟩
    · by_cases q : c' = c
      · exact ⟨_, q ▸ hc'⟩
      · obtain ⟨v, y⟩ := F.all n' c' x; exact ⟨v, y.sameBut hs' q⟩
    · rcases setOpt e with ⟨rfl, rfl⟩ | ⟨ne, e⟩
      · rw [hn] at y; cases y; rw [hc] at t; cases t
        exact ⟨u, hc', rv.mono (.refl _ _) K O⟩
      · obtain ⟨u', p, q⟩ := F.cell j x n' c' e y z t
        have : c' ≠ c := fun w => ne (vars_inj nd hn (by rw [y, F.apart _ _ _ hcm (w ▸ mem_of_lookup t)]))
        exact ⟨u', p.sameBut hs' this, q.mono (.refl _ _) K O⟩
end
end Mine
end

section
open PySem PySem.W PyProof.Rows PySem.Calls
set_option Elab.async false
set_option maxRecDepth 100000
namespace Mine

inductive Cop where | eq | ne | lt | le | gt | ge | isin | notin
deriving DecidableEq
noncomputable def Cop.py : Cop → CmpOp
  | .eq => .Eq | .ne => .NotEq | .lt => .Lt | .le => .LtE | .gt => .Gt | .ge => .GtE | .isin => .In | .notin => .NotIn
noncomputable def cmpV (o : Cop) (a b : V) : Option Bool := match o with
  | .eq => eqL a b
  | .ne => (eqL a b).map (!·)
  | .lt => int2 a b fun x y => some (decide (x < y))
  | .le => int2 a b fun x y => some (decide (x ≤ y))
  | .gt => int2 a b fun x y => some (decide (x > y))
  | .ge => int2 a b fun x y => some (decide (x ≥ y))
  | .isin => inV a b
  | .notin => (inV a b).map (!·)

/-- expressions -/
inductive X where
  | non | bool (b : Bool) | int (i : Int) | str (l : List Nat)
  | loc (i : Nat)
  | glob (i : Nat)
  | bin (o : Bop) (a b : X)
  | cmp (o : Cop) (a b : X)
  | conj (xs : List X) | disj (xs : List X) | not (a : X) | neg (a : X)
  | ife (c a b : X)
  | idx (a i : X)
  | slc (a lo hi : X)
  | lst (xs : List X) | tup (xs : List X)
  | attr (a : X) (n : Nat)
  | cat (k : Nat)
  | bi (b : Bi) (xs : List X)
  | rng (xs : List X)
  | mkset (a : X)
  | sm (m : Sm) (a b : X)
  | call (f : Nat) (xs : List X)
  | scall (f : Nat) (xs : List X)
  | meth (a : X) (m : Nat) (xs : List X)
  | new (c : Nat)
  | comp (x : X) (v : Nat) (it : X) (cs : List X)
  | enum (x : X) (i j : Nat) (it : X) (cs : List X)

/-- what stands at the top of a program's module -/
structure Pg where
  an : Nat → Str
  gls : List (Str × V)
  fns : List Str
  mt : List (Addr × Nat × Nat)
  cl : List (Str × Addr × Nat)
  cat : List (Str × Addr × Str × V)
  cs : List Addr
  ats : List Nat

noncomputable abbrev Sem1 := List V → St → Option (V × St)
structure Sg where
  P : Pg
  Φ : Nat → Sem1
  Ψ : Nat → List V → Option V
noncomputable abbrev Rho := List (Option V)

noncomputable def Pg.meth (P : Pg) (c : Addr) (m : Nat) : Option Nat := (P.mt.find? fun e => e.1 == c && e.2.1 == m).map (·.2.2)

noncomputable def iterV : V → Option (List V)
  | .list xs => some xs
  | .str l => some (l.map fun c => .str [c])
  | .rng a b c => if -1 ≤ a ∧ a ≤ 1000000 ∧ -1 ≤ b ∧ b ≤ 1000000 then
      if c = 1 then some ((List.range (b - a).toNat).map fun (i : Nat) => V.int (a + (i : Int) * 1)) else if c = -1 then some ((List.range (a - b).toNat).map fun (i : Nat) => V.int (a + (i : Int) * (-1))) else none
    else none
  | _ => none
noncomputable def enumV (n : Nat) : List V → List V
  | [] => []
  | x :: r => .tup [.int n, x] :: enumV (n + 1) r

noncomputable def asList : V → Option (List V)
  | .list xs => some xs
  | _ => none
noncomputable def boolOf : V → Option Bool
  | .bool b => some b
  | _ => none

/-- a comprehension's items -/
noncomputable def compL (test : V → Option Bool) (elt : V → Option V) : List V → Option (List V)
  | [] => some []
  | x :: r => (test x).bind fun t => if t then (elt x).bind fun y => (compL test elt r).map (y :: ·) else compL test elt r

noncomputable def setV : V → Option V
  | .list xs => if xs.length ≤ 1000 then (textsOf xs).map .sset else none
  | _ => none
noncomputable def newV (G : Sg) (c : Nat) (σ : St) : Option (V × St) :=
  (G.P.cl[c]?).bind fun e => (G.Φ e.2.2 [.obj σ.length] (σ ++ [.inst e.2.1 []])).bind fun r => match r.1 with | .none => some (.obj σ.length, r.2) | _ => none
noncomputable def methV (G : Sg) (σ : St) (o : V) (m : Nat) (vs : List V) : Option (V × St) :=
  match o with
  | .obj k => match σ[k]? with
    | some (.inst c fs) => if (getF fs m).isNone then (G.P.meth c m).bind fun f => G.Φ f (o :: vs) σ else none
    | _ => none
  | _ => none
noncomputable def attrV (P : Pg) (σ : St) (o : V) (a : Nat) : Option V :=
  match o with
  | .obj k => match σ[k]? with
    | some (.inst c fs) => if P.cs.contains c && P.ats.contains a then getF fs a else none
    | _ => none
  | _ => none

mutual
noncomputable def ev (G : Sg) (ρ : Rho) (σ : St) : X → Option (V × St)
  | .non => some (.none, σ)
  | .bool b => some (.bool b, σ)
  | .int i => some (.int i, σ)
  | .str l => some (.str l, σ)
  | .loc i => (ρ[i]?).bind fun v => v.map (·, σ)
  | .glob i => (G.P.gls[i]?).map fun e => (e.2, σ)
  | .bin o a b => (ev G ρ σ a).bind fun p => (ev G ρ p.2 b).bind fun q => (binV o p.1 q.1).map (·, q.2)
  | .cmp o a b => (ev G ρ σ a).bind fun p => (ev G ρ p.2 b).bind fun q => (cmpV o p.1 q.1).map (.bool ·, q.2)
  | .conj xs => (evC G true ρ σ xs).map fun p => (.bool p.1, p.2)
  | .disj xs => (evC G false ρ σ xs).map fun p => (.bool p.1, p.2)
  | .not a => (ev G ρ σ a).bind fun p => (boolOf p.1).map fun b => (.bool (!b), p.2)
  | .neg a => (ev G ρ σ a).bind fun p => match p.1 with | .int i => some (.int (-i), p.2) | _ => none
  | .ife c a b => (ev G ρ σ c).bind fun p => (boolOf p.1).bind fun t => if t then ev G ρ p.2 a else ev G ρ p.2 b
  | .idx a i => (ev G ρ σ a).bind fun p => (ev G ρ p.2 i).bind fun q => (idxV p.1 q.1).map (·, q.2)
  | .slc a lo hi => (ev G ρ σ a).bind fun p => (ev G ρ p.2 lo).bind fun q => (ev G ρ q.2 hi).bind fun r => (partV q.1).bind fun l => (partV r.1).bind fun u => (sliceV p.1 l u).map (·, r.2)
  | .lst xs => (evs G ρ σ xs).map fun p => (.list p.1, p.2)
  | .tup xs => (evs G ρ σ xs).map fun p => (.tup p.1, p.2)
  | .attr a n => (ev G ρ σ a).bind fun p => (attrV G.P p.2 p.1 n).map (·, p.2)
  | .cat k => (G.P.cat[k]?).map fun e => (e.2.2.2, σ)
  | .bi b xs => (evs G ρ σ xs).bind fun p => (biV b p.1).map (·, p.2)
  | .rng xs => (evs G ρ σ xs).bind fun p => (rngV p.1).map (·, p.2)
  | .mkset a => (ev G ρ σ a).bind fun p => (setV p.1).map (·, p.2)
  | .sm m a b => (ev G ρ σ a).bind fun p => (ev G ρ p.2 b).bind fun q => (smV m p.1 q.1).map (·, q.2)
  | .call f xs => (evs G ρ σ xs).bind fun p => (G.Ψ f p.1).map (·, p.2)
  | .scall f xs => (evs G ρ σ xs).bind fun p => G.Φ f p.1 p.2
  | .meth a m xs => (ev G ρ σ a).bind fun p => (evs G ρ p.2 xs).bind fun q => methV G q.2 p.1 m q.1
  | .new c => newV G c σ
  | .comp x v it cs => (ev G ρ σ it).bind fun p => (iterV p.1).bind fun its =>
      (compL (fun i => (evC G true (ρ.set v (some i)) p.2 cs).map (·.1)) (fun i => (ev G (ρ.set v (some i)) p.2 x).map (·.1)) its).map fun l => (.list l, p.2)
  | .enum x i j it cs => (ev G ρ σ it).bind fun p => (asList p.1).bind fun its =>
      (compL (fun v => match v with | .tup [a, b] => (evC G true ((ρ.set i (some a)).set j (some b)) p.2 cs).map (·.1) | _ => none)
        (fun v => match v with | .tup [a, b] => (ev G ((ρ.set i (some a)).set j (some b)) p.2 x).map (·.1) | _ => none) (enumV 0 its)).map fun l => (.list l, p.2)
noncomputable def evs (G : Sg) (ρ : Rho) (σ : St) : List X → Option (List V × St)
  | [] => some ([], σ)
  | x :: xs => (ev G ρ σ x).bind fun p => (evs G ρ p.2 xs).map fun q => (p.1 :: q.1, q.2)
noncomputable def evC (G : Sg) (u : Bool) (ρ : Rho) (σ : St) : List X → Option (Bool × St)
  | [] => some (u, σ)
  | x :: xs => (ev G ρ σ x).bind fun p => (boolOf p.1).bind fun b => if b = u then evC G u ρ p.2 xs else some (!u, p.2)
end

mutual
noncomputable def pureX : X → Bool
  | .non | .bool _ | .int _ | .str _ | .loc _ | .glob _ | .cat _ => true
  | .bin _ a b | .cmp _ a b | .idx a b | .sm _ a b => pureX a && pureX b
  | .conj xs | .disj xs | .lst xs | .tup xs | .bi _ xs | .rng xs | .call _ xs => pureXs xs
  | .not a | .neg a | .attr a _ | .mkset a => pureX a
  | .ife a b c | .slc a b c => pureX a && pureX b && pureX c
  | .scall _ _ | .meth _ _ _ | .new _ => false
  | .comp x _ it cs | .enum x _ _ it cs => pureX x && pureX it && pureXs cs
noncomputable def pureXs : List X → Bool
  | [] => true
  | x :: xs => pureX x && pureXs xs
end

theorem bind_some {α β : Type} {x : Option α} {f : α → Option β} {b : β} (h : x.bind f = some b) : ∃ a, x = some a ∧ f a = some b := Option.bind_eq_some_iff.mp h
theorem map_some {α β : Type} {x : Option α} {f : α → β} {b : β} (h : x.map f = some b) : ∃ a, x = some a ∧ f a = b := Option.map_eq_some_iff.mp h

theorem bind1 {α β : Type} {x : Option α} {f : α → Option β} {b : β} {C : Prop} (h : x.bind f = some b) (k : ∀ a, x = some a → f a = some b → C) : C := let ⟨a, p, q⟩ := bind_some h; k a p q
theorem bind2 {α γ β : Type} {x : Option (α × γ)} {f : α × γ → Option β} {b : β} {C : Prop} (h : x.bind f = some b) (k : ∀ v s, x = some (v, s) → f (v, s) = some b → C) : C := let ⟨a, p, q⟩ := bind_some h; k a.1 a.2 p q
theorem bind3 {α γ δ β : Type} {x : Option (α × γ × δ)} {f : α × γ × δ → Option β} {b : β} {C : Prop} (h : x.bind f = some b) (k : ∀ v s t, x = some (v, s, t) → f (v, s, t) = some b → C) : C := let ⟨a, p, q⟩ := bind_some h; k a.1 a.2.1 a.2.2 p q
theorem map1 {α β : Type} {x : Option α} {f : α → β} {b : β} {C : Prop} (h : x.map f = some b) (k : ∀ a, x = some a → f a = b → C) : C := let ⟨a, p, q⟩ := map_some h; k a p q
theorem eqE {α : Type} [BEq α] [LawfulBEq α] {a b : α} {m : α → Prop} (h : (a == b) = true) (k : m b) : m a := eq_of_beq h ▸ k
theorem eqE' {α : Type} [BEq α] [LawfulBEq α] {a b : α} {m : α → Prop} (h : (a == b) = true) (k : m a) : m b := eq_of_beq h ▸ k

theorem and2 {a b : Bool} (h : (a && b) = true) : a = true ∧ b = true := Bool.and_eq_true_iff.mp h
theorem and3 {a b c : Bool} (h : (a && b && c) = true) : (a = true ∧ b = true) ∧ c = true := ⟨and2 (and2 h).1, (and2 h).2⟩
theorem and2E {a b : Bool} {C : Prop} (h : (a && b) = true) (k : a = true → b = true → C) : C := k (and2 h).1 (and2 h).2
theorem and3E {a b c : Bool} {C : Prop} (h : (a && b && c) = true) (k : a = true → b = true → c = true → C) : C := k (and3 h).1.1 (and3 h).1.2 (and3 h).2
theorem snd_eq {α β : Type} {a b : α} {x y : β} (e : some (a, x) = some (b, y)) : x = y := congrArg Prod.snd (Option.some.inj e)
mutual
theorem pure_st {G : Sg} {ρ : Rho} : ∀ {x : X} {σ σ' : St} {v : V}, pureX x = true → ev G ρ σ x = some (v, σ') → σ' = σ := by
  intro x σ σ' v p e
  cases x <;> (try (cases p; done))
  case non => exact (snd_eq e).symm
  case bool => exact (snd_eq e).symm
  case int => exact (snd_eq e).symm
  case str => exact (snd_eq e).symm
  case loc => exact bind1 e fun _ _ e => map1 e fun _ _ e => (congrArg Prod.snd e).symm
  case glob => exact map1 e fun _ _ e => (congrArg Prod.snd e).symm
  case cat => exact map1 e fun _ _ e => (congrArg Prod.snd e).symm
  case bin o a b => exact bind2 e fun _ _ h1 e => bind2 e fun _ _ h2 e => map1 e fun _ _ e => (congrArg Prod.snd e).symm.trans ((pure_st (and2 p).2 h2).trans (pure_st (and2 p).1 h1))
  case cmp o a b => exact bind2 e fun _ _ h1 e => bind2 e fun _ _ h2 e => map1 e fun _ _ e => (congrArg Prod.snd e).symm.trans ((pure_st (and2 p).2 h2).trans (pure_st (and2 p).1 h1))
  case idx a b => exact bind2 e fun _ _ h1 e => bind2 e fun _ _ h2 e => map1 e fun _ _ e => (congrArg Prod.snd e).symm.trans ((pure_st (and2 p).2 h2).trans (pure_st (and2 p).1 h1))
  case sm o a b => exact bind2 e fun _ _ h1 e => bind2 e fun _ _ h2 e => map1 e fun _ _ e => (congrArg Prod.snd e).symm.trans ((pure_st (and2 p).2 h2).trans (pure_st (and2 p).1 h1))
  case conj xs => exact map1 e fun _ h1 e => (congrArg Prod.snd e).symm.trans (pure_stC p h1)
  case disj xs => exact map1 e fun _ h1 e => (congrArg Prod.snd e).symm.trans (pure_stC p h1)
  case lst xs => exact map1 e fun _ h1 e => (congrArg Prod.snd e).symm.trans (pure_sts p h1)
  case tup xs => exact map1 e fun _ h1 e => (congrArg Prod.snd e).symm.trans (pure_sts p h1)
  case bi b xs => exact bind1 e fun _ h1 e => map1 e fun _ _ e => (congrArg Prod.snd e).symm.trans (pure_sts p h1)
  case rng xs => exact bind1 e fun _ h1 e => map1 e fun _ _ e => (congrArg Prod.snd e).symm.trans (pure_sts p h1)
  case call f xs => exact bind1 e fun _ h1 e => map1 e fun _ _ e => (congrArg Prod.snd e).symm.trans (pure_sts p h1)
  case not a => exact bind1 e fun _ h1 e => map1 e fun _ _ e => (congrArg Prod.snd e).symm.trans (pure_st (x := a) p h1)
  case attr a n => exact bind1 e fun _ h1 e => map1 e fun _ _ e => (congrArg Prod.snd e).symm.trans (pure_st (x := a) p h1)
  case mkset a => exact bind1 e fun _ h1 e => map1 e fun _ _ e => (congrArg Prod.snd e).symm.trans (pure_st (x := a) p h1)
  case neg a => obtain ⟨⟨_, _⟩, h1, e⟩ := bind_some e; split at e <;> cases e; exact pure_st (x := a) p h1
  case ife a b c =>
    refine bind2 e fun _ _ h1 e => bind1 e fun t _ e => ?_
    cases t
    · exact (pure_st (and3 p).2 e).trans (pure_st (and3 p).1.1 h1)
    · exact (pure_st (and3 p).1.2 e).trans (pure_st (and3 p).1.1 h1)
  case slc a b c => exact bind2 e fun _ _ h1 e => bind2 e fun _ _ h2 e => bind2 e fun _ _ h3 e => bind1 e fun _ _ e => bind1 e fun _ _ e => map1 e fun _ _ e => (congrArg Prod.snd e).symm.trans ((pure_st (and3 p).2 h3).trans ((pure_st (and3 p).1.2 h2).trans (pure_st (and3 p).1.1 h1)))
  case comp x v it cs => exact bind2 e fun _ _ h1 e => bind1 e fun _ _ e => map1 e fun _ _ e => (congrArg Prod.snd e).symm.trans (pure_st (and3 p).1.2 h1)
  case enum x v j it cs => exact bind2 e fun _ _ h1 e => bind1 e fun _ _ e => map1 e fun _ _ e => (congrArg Prod.snd e).symm.trans (pure_st (and3 p).1.2 h1)
theorem pure_sts {G : Sg} {ρ : Rho} : ∀ {xs : List X} {σ σ' : St} {vs : List V}, pureXs xs = true → evs G ρ σ xs = some (vs, σ') → σ' = σ := by
  intro xs σ σ' vs p e
  cases xs with
  | nil => exact (snd_eq e).symm
  | cons x xs => exact bind2 e fun _ _ h1 e => map1 e fun _ h2 e => (congrArg Prod.snd e).symm.trans ((pure_sts (and2 p).2 h2).trans (pure_st (and2 p).1 h1))
theorem pure_stC {G : Sg} {ρ : Rho} {u : Bool} : ∀ {xs : List X} {σ σ' : St} {b : Bool}, pureXs xs = true → evC G u ρ σ xs = some (b, σ') → σ' = σ := by
  intro xs σ σ' b p e
  cases xs with
  | nil => exact (snd_eq e).symm
  | cons x xs =>
    refine bind2 e fun _ _ h1 e => bind1 e fun t _ e => ?_
    by_cases q : t = u
    · rw [if_pos q] at e; exact (pure_stC (and2 p).2 e).trans (pure_st (and2 p).1 h1)
    · rw [if_neg q] at e; exact (snd_eq e).symm.trans (pure_st (and2 p).1 h1)
end
end Mine
end

section
open PySem PySem.W PyProof.Rows PySem.Calls
set_option Elab.async false
set_option maxRecDepth 100000
namespace Mine

structure Cx where
  sc : Scope
  vars : List Str
  P : Pg

noncomputable def dunder : Str := "__debug__"
noncomputable def glOk (sc : Scope) (n : Str) : Bool := sc.names.lookup n == some .globalImplicit && !(n == ("__debug__" : Str))
noncomputable def relS (sc outer : Scope) : Scope :=
  { sc with names := sc.names.map fun (n, k) => if (k == .free && outer.kind == .function && outer.names.lookup n == some .cell) then (n, .cell) else (n, k) }
noncomputable def notStar (e : Expr) : Bool := !(e.ctorIdx == 22)
noncomputable def isSlice (e : Expr) : Bool := e.ctorIdx == 26
noncomputable def Bi.nm : Bi → Str := fun b => b.id
/-- a comprehension's scope: its own names are the ones it binds, what it takes from around it stands in cells -/
noncomputable def scopeOk (sc outer : Scope) (own : List Str) : Bool :=
  sc.kind == .function && (sc.names.all fun (n, k) => k != .cell && (if k == .local then own.contains n || n == (".0" : Str) else true) && (if k == .free then outer.names.lookup n == some .cell else true) && sc.names.lookup n == some k)
  && own.all fun n => sc.names.lookup n == some .local
noncomputable def noFold (e : Expr) : Bool := !(e.ctorIdx == 7)
noncomputable def isNon (x : X) : Bool := x.ctorIdx == 0

theorem pk_inv {n k : Nat} {f : n = k → Bool} (h : (if h : n = k then f h else false) = true) : ∃ q : n = k, f q = true := by
  by_cases q : n = k
  · rw [dif_pos q] at h; exact ⟨q, h⟩
  · rw [dif_neg q] at h; cases h
noncomputable def pkConst (e : Expr) (kf : Const → Bool) : Bool := if h : e.ctorIdx = 19 then Expr.Constant.elim (motive_1 := fun _ => Bool) e h (fun k _ _ => kf k) else false
theorem pkConst_el {e : Expr} {kf : Const → Bool} {m : Expr → Prop} (h : pkConst e kf = true) (kk : ∀ k n p, kf k = true → m (.Constant k n p)) : m e :=
  let ⟨q, h'⟩ := pk_inv h; Expr.Constant.elim (motive_1 := fun e => ∀ (q : e.ctorIdx = 19), Expr.Constant.elim (motive_1 := fun _ => Bool) e q (fun k _ _ => kf k) = true → m e) e q (fun k n p _ h => kk k n p h) q h'
noncomputable def pkName (e : Expr) (kf : Str → Bool) : Bool := if h : e.ctorIdx = 23 then Expr.Name.elim (motive_1 := fun _ => Bool) e h (fun n _ => kf n) else false
theorem pkName_el {e : Expr} {kf : Str → Bool} {m : Expr → Prop} (h : pkName e kf = true) (kk : ∀ n p, kf n = true → m (.Name n p)) : m e :=
  let ⟨q, h'⟩ := pk_inv h; Expr.Name.elim (motive_1 := fun e => ∀ (q : e.ctorIdx = 23), Expr.Name.elim (motive_1 := fun _ => Bool) e q (fun n _ => kf n) = true → m e) e q (fun n p _ h => kk n p h) q h'
noncomputable def pkBinOp (e : Expr) (kf : Expr → Operator → Expr → Bool) : Bool := if h : e.ctorIdx = 2 then Expr.BinOp.elim (motive_1 := fun _ => Bool) e h (fun l o r _ => kf l o r) else false
theorem pkBinOp_el {e : Expr} {kf : Expr → Operator → Expr → Bool} {m : Expr → Prop} (h : pkBinOp e kf = true) (kk : ∀ l o r p, kf l o r = true → m (.BinOp l o r p)) : m e :=
  let ⟨q, h'⟩ := pk_inv h; Expr.BinOp.elim (motive_1 := fun e => ∀ (q : e.ctorIdx = 2), Expr.BinOp.elim (motive_1 := fun _ => Bool) e q (fun l o r _ => kf l o r) = true → m e) e q (fun l o r p _ h => kk l o r p h) q h'
noncomputable def pkCompare (e : Expr) (kf : Expr → List CmpOp → List Expr → Bool) : Bool := if h : e.ctorIdx = 15 then Expr.Compare.elim (motive_1 := fun _ => Bool) e h (fun l o r _ => kf l o r) else false
theorem pkCompare_el {e : Expr} {kf : Expr → List CmpOp → List Expr → Bool} {m : Expr → Prop} (h : pkCompare e kf = true) (kk : ∀ l o r p, kf l o r = true → m (.Compare l o r p)) : m e :=
  let ⟨q, h'⟩ := pk_inv h; Expr.Compare.elim (motive_1 := fun e => ∀ (q : e.ctorIdx = 15), Expr.Compare.elim (motive_1 := fun _ => Bool) e q (fun l o r _ => kf l o r) = true → m e) e q (fun l o r p _ h => kk l o r p h) q h'
noncomputable def pkBoolOp (e : Expr) (kf : BoolOp → List Expr → Bool) : Bool := if h : e.ctorIdx = 0 then Expr.BoolOp.elim (motive_1 := fun _ => Bool) e h (fun o es _ => kf o es) else false
theorem pkBoolOp_el {e : Expr} {kf : BoolOp → List Expr → Bool} {m : Expr → Prop} (h : pkBoolOp e kf = true) (kk : ∀ o es p, kf o es = true → m (.BoolOp o es p)) : m e :=
  let ⟨q, h'⟩ := pk_inv h; Expr.BoolOp.elim (motive_1 := fun e => ∀ (q : e.ctorIdx = 0), Expr.BoolOp.elim (motive_1 := fun _ => Bool) e q (fun o es _ => kf o es) = true → m e) e q (fun o es p _ h => kk o es p h) q h'
noncomputable def pkUnaryOp (e : Expr) (kf : UnaryOp → Expr → Bool) : Bool := if h : e.ctorIdx = 3 then Expr.UnaryOp.elim (motive_1 := fun _ => Bool) e h (fun o x _ => kf o x) else false
theorem pkUnaryOp_el {e : Expr} {kf : UnaryOp → Expr → Bool} {m : Expr → Prop} (h : pkUnaryOp e kf = true) (kk : ∀ o x p, kf o x = true → m (.UnaryOp o x p)) : m e :=
  let ⟨q, h'⟩ := pk_inv h; Expr.UnaryOp.elim (motive_1 := fun e => ∀ (q : e.ctorIdx = 3), Expr.UnaryOp.elim (motive_1 := fun _ => Bool) e q (fun o x _ => kf o x) = true → m e) e q (fun o x p _ h => kk o x p h) q h'
noncomputable def pkIfExp (e : Expr) (kf : Expr → Expr → Expr → Bool) : Bool := if h : e.ctorIdx = 5 then Expr.IfExp.elim (motive_1 := fun _ => Bool) e h (fun t a b _ => kf t a b) else false
theorem pkIfExp_el {e : Expr} {kf : Expr → Expr → Expr → Bool} {m : Expr → Prop} (h : pkIfExp e kf = true) (kk : ∀ t a b p, kf t a b = true → m (.IfExp t a b p)) : m e :=
  let ⟨q, h'⟩ := pk_inv h; Expr.IfExp.elim (motive_1 := fun e => ∀ (q : e.ctorIdx = 5), Expr.IfExp.elim (motive_1 := fun _ => Bool) e q (fun t a b _ => kf t a b) = true → m e) e q (fun t a b p _ h => kk t a b p h) q h'
noncomputable def pkSubscript (e : Expr) (kf : Expr → Expr → Bool) : Bool := if h : e.ctorIdx = 21 then Expr.Subscript.elim (motive_1 := fun _ => Bool) e h (fun v s _ => kf v s) else false
theorem pkSubscript_el {e : Expr} {kf : Expr → Expr → Bool} {m : Expr → Prop} (h : pkSubscript e kf = true) (kk : ∀ v s p, kf v s = true → m (.Subscript v s p)) : m e :=
  let ⟨q, h'⟩ := pk_inv h; Expr.Subscript.elim (motive_1 := fun e => ∀ (q : e.ctorIdx = 21), Expr.Subscript.elim (motive_1 := fun _ => Bool) e q (fun v s _ => kf v s) = true → m e) e q (fun v s p _ h => kk v s p h) q h'
noncomputable def pkSlice (e : Expr) (kf : Option Expr → Option Expr → Option Expr → Bool) : Bool := if h : e.ctorIdx = 26 then Expr.Slice.elim (motive_1 := fun _ => Bool) e h (fun l u st _ => kf l u st) else false
theorem pkSlice_el {e : Expr} {kf : Option Expr → Option Expr → Option Expr → Bool} {m : Expr → Prop} (h : pkSlice e kf = true) (kk : ∀ l u st p, kf l u st = true → m (.Slice l u st p)) : m e :=
  let ⟨q, h'⟩ := pk_inv h; Expr.Slice.elim (motive_1 := fun e => ∀ (q : e.ctorIdx = 26), Expr.Slice.elim (motive_1 := fun _ => Bool) e q (fun l u st _ => kf l u st) = true → m e) e q (fun l u st p _ h => kk l u st p h) q h'
noncomputable def pkList (e : Expr) (kf : List Expr → Bool) : Bool := if h : e.ctorIdx = 24 then Expr.List.elim (motive_1 := fun _ => Bool) e h (fun es _ => kf es) else false
theorem pkList_el {e : Expr} {kf : List Expr → Bool} {m : Expr → Prop} (h : pkList e kf = true) (kk : ∀ es p, kf es = true → m (.List es p)) : m e :=
  let ⟨q, h'⟩ := pk_inv h; Expr.List.elim (motive_1 := fun e => ∀ (q : e.ctorIdx = 24), Expr.List.elim (motive_1 := fun _ => Bool) e q (fun es _ => kf es) = true → m e) e q (fun es p _ h => kk es p h) q h'
noncomputable def pkTuple (e : Expr) (kf : List Expr → Bool) : Bool := if h : e.ctorIdx = 25 then Expr.Tuple.elim (motive_1 := fun _ => Bool) e h (fun es _ _ => kf es) else false
theorem pkTuple_el {e : Expr} {kf : List Expr → Bool} {m : Expr → Prop} (h : pkTuple e kf = true) (kk : ∀ es k p, kf es = true → m (.Tuple es k p)) : m e :=
  let ⟨q, h'⟩ := pk_inv h; Expr.Tuple.elim (motive_1 := fun e => ∀ (q : e.ctorIdx = 25), Expr.Tuple.elim (motive_1 := fun _ => Bool) e q (fun es _ _ => kf es) = true → m e) e q (fun es k p _ h => kk es k p h) q h'
noncomputable def pkAttribute (e : Expr) (kf : Expr → Str → Pos → Bool) : Bool := if h : e.ctorIdx = 20 then Expr.Attribute.elim (motive_1 := fun _ => Bool) e h (fun o nm p => kf o nm p) else false
theorem pkAttribute_el {e : Expr} {kf : Expr → Str → Pos → Bool} {m : Expr → Prop} (h : pkAttribute e kf = true) (kk : ∀ o nm p, kf o nm p = true → m (.Attribute o nm p)) : m e :=
  let ⟨q, h'⟩ := pk_inv h; Expr.Attribute.elim (motive_1 := fun e => ∀ (q : e.ctorIdx = 20), Expr.Attribute.elim (motive_1 := fun _ => Bool) e q (fun o nm p => kf o nm p) = true → m e) e q (fun o nm p _ h => kk o nm p h) q h'
noncomputable def pkCall (e : Expr) (kf : Expr → List Expr → List Keyword → Pos → Bool) : Bool := if h : e.ctorIdx = 16 then Expr.Call.elim (motive_1 := fun _ => Bool) e h (fun f es ks p => kf f es ks p) else false
theorem pkCall_el {e : Expr} {kf : Expr → List Expr → List Keyword → Pos → Bool} {m : Expr → Prop} (h : pkCall e kf = true) (kk : ∀ f es ks p, kf f es ks p = true → m (.Call f es ks p)) : m e :=
  let ⟨q, h'⟩ := pk_inv h; Expr.Call.elim (motive_1 := fun e => ∀ (q : e.ctorIdx = 16), Expr.Call.elim (motive_1 := fun _ => Bool) e q (fun f es ks p => kf f es ks p) = true → m e) e q (fun f es ks p _ h => kk f es ks p h) q h'
noncomputable def pkListComp (e : Expr) (kf : Expr → List Comprehension → Scope → Bool) : Bool := if h : e.ctorIdx = 8 then Expr.ListComp.elim (motive_1 := fun _ => Bool) e h (fun el gs sc _ => kf el gs sc) else false
theorem pkListComp_el {e : Expr} {kf : Expr → List Comprehension → Scope → Bool} {m : Expr → Prop} (h : pkListComp e kf = true) (kk : ∀ el gs sc p, kf el gs sc = true → m (.ListComp el gs sc p)) : m e :=
  let ⟨q, h'⟩ := pk_inv h; Expr.ListComp.elim (motive_1 := fun e => ∀ (q : e.ctorIdx = 8), Expr.ListComp.elim (motive_1 := fun _ => Bool) e q (fun el gs sc _ => kf el gs sc) = true → m e) e q (fun el gs sc p _ h => kk el gs sc p h) q h'
noncomputable def pkCBool (e : Const) (kf : Bool → Bool) : Bool := if h : e.ctorIdx = 1 then Const.bool.elim (motive := fun _ => Bool) e h (fun b => kf b) else false
theorem pkCBool_el {e : Const} {kf : Bool → Bool} {m : Const → Prop} (h : pkCBool e kf = true) (kk : ∀ b, kf b = true → m (.bool b)) : m e :=
  let ⟨q, h'⟩ := pk_inv h; Const.bool.elim (motive := fun e => ∀ (q : e.ctorIdx = 1), Const.bool.elim (motive := fun _ => Bool) e q (fun b => kf b) = true → m e) e q (fun b _ h => kk b h) q h'
noncomputable def pkCInt (e : Const) (kf : Int → Bool) : Bool := if h : e.ctorIdx = 2 then Const.int.elim (motive := fun _ => Bool) e h (fun i => kf i) else false
theorem pkCInt_el {e : Const} {kf : Int → Bool} {m : Const → Prop} (h : pkCInt e kf = true) (kk : ∀ i, kf i = true → m (.int i)) : m e :=
  let ⟨q, h'⟩ := pk_inv h; Const.int.elim (motive := fun e => ∀ (q : e.ctorIdx = 2), Const.int.elim (motive := fun _ => Bool) e q (fun i => kf i) = true → m e) e q (fun i _ h => kk i h) q h'
noncomputable def pkCStr (e : Const) (kf : Str → Bool) : Bool := if h : e.ctorIdx = 5 then Const.str.elim (motive := fun _ => Bool) e h (fun s => kf s) else false
theorem pkCStr_el {e : Const} {kf : Str → Bool} {m : Const → Prop} (h : pkCStr e kf = true) (kk : ∀ s, kf s = true → m (.str s)) : m e :=
  let ⟨q, h'⟩ := pk_inv h; Const.str.elim (motive := fun e => ∀ (q : e.ctorIdx = 5), Const.str.elim (motive := fun _ => Bool) e q (fun s => kf s) = true → m e) e q (fun s _ h => kk s h) q h'

theorem any_el {α : Type} {x : Option α} {f : α → Bool} {C : Prop} (h : x.any f = true) (k : ∀ e, x = some e → f e = true → C) : C := by
  cases x with
  | none => cases h
  | some e => exact k e rfl h
theorem pkListComp_at {el : Expr} {gs : List Comprehension} {sc : Scope} {p : Pos} {kf : Expr → List Comprehension → Scope → Bool} (h : pkListComp (.ListComp el gs sc p) kf = true) : kf el gs sc = true := h
noncomputable def one {α : Type} (l : List α) (f : α → Bool) : Bool := match l with | [x] => f x | _ => false
theorem one_el {α : Type} {l : List α} {kf : α → Bool} {m : List α → Prop} (h : one l kf = true) (k : ∀ x, kf x = true → m [x]) : m l := by
  cases l with
  | nil => cases h
  | cons x r => cases r with
    | nil => exact k x h
    | cons _ _ => cases h
theorem nil_el {α : Type} {l : List α} {m : List α → Prop} (h : l.isEmpty = true) (k : m []) : m l := by
  cases l with
  | nil => exact k
  | cons _ _ => cases h
noncomputable def pkCallN (e : Expr) (f : Str → List Expr → Bool) : Bool := pkCall e fun g es ks _ => ks.isEmpty && pkName g fun n => f n es
theorem pkCallN_el {e : Expr} {kf : Str → List Expr → Bool} {m : Expr → Prop} (h : pkCallN e kf = true) (k : ∀ n p es q, kf n es = true → m (.Call (.Name n p) es [] q)) : m e :=
  pkCall_el h fun g es ks q h => and2E h fun h1 h2 => nil_el (m := fun ks => m (.Call g es ks q)) h1 (pkName_el (m := fun g => m (.Call g es [] q)) h2 fun n p h => k n p es q h)
noncomputable def pkCallA (e : Expr) (f : Expr → Str → Pos → List Expr → Pos → Bool) : Bool := pkCall e fun g es ks q => ks.isEmpty && pkAttribute g fun o nm p => f o nm p es q
theorem pkCallA_el {e : Expr} {kf : Expr → Str → Pos → List Expr → Pos → Bool} {m : Expr → Prop} (h : pkCallA e kf = true) (k : ∀ o nm p es q, kf o nm p es q = true → m (.Call (.Attribute o nm p) es [] q)) : m e :=
  pkCall_el h fun g es ks q h => and2E h fun h1 h2 => nil_el (m := fun ks => m (.Call g es ks q)) h1 (pkAttribute_el (m := fun g => m (.Call g es [] q)) h2 fun o nm p h => k o nm p es q h)
noncomputable def baseOk (e : Expr) : Bool := !(pkCallN e fun _ es => es.isEmpty)
noncomputable def pkGen (gs : List Comprehension) (f : Expr → Expr → List Expr → Bool) : Bool := one gs fun g => decide (g.is_async = 0) && f g.target g.iter g.ifs
theorem pkGen_el {gs : List Comprehension} {kf : Expr → Expr → List Expr → Bool} {m : List Comprehension → Prop} (h : pkGen gs kf = true) (k : ∀ t i fs, kf t i fs = true → m [⟨t, i, fs, 0⟩]) : m gs :=
  one_el h fun g h => and2E h fun h1 h2 => by
    obtain ⟨t, i, fs, a⟩ := g
    cases (of_decide_eq_true h1 : a = 0)
    exact k _ _ _ h2
noncomputable def pkPair (e : Expr) (f : Str → Str → Bool) : Bool := pkTuple e fun es => match es with | [] => false | a :: r => one r fun b => pkName a fun n => pkName b fun m => f n m
theorem pkPair_el {e : Expr} {kf : Str → Str → Bool} {m : Expr → Prop} (h : pkPair e kf = true) (k : ∀ n n' p q x r, kf n n' = true → m (.Tuple [.Name n p, .Name n' q] x r)) : m e := by
  refine pkTuple_el h fun es x r h => ?_
  cases es with
  | nil => cases h
  | cons a l => exact one_el (m := fun l => m (.Tuple (a :: l) x r)) h fun b h => pkName_el (m := fun a => m (.Tuple [a, b] x r)) h fun n p h => pkName_el (m := fun b => m (.Tuple [.Name n p, b] x r)) h fun n' q h => k n n' p q x r h

mutual
noncomputable def okX (c : Cx) : X → Expr → Bool
  | .non, e => pkConst e fun k => k.ctorIdx == 0
  | .bool b, e => pkConst e fun k => pkCBool k fun b' => b == b'
  | .int i, e => pkConst e fun k => pkCInt k fun i' => i == i'
  | .str l, e => pkConst e fun k => pkCStr k fun s => s == txt l && decide (l.length ≤ 1000) && l.all (· < 0x110000)
  | .loc i, e => pkName e fun n => c.vars[i]? == some n && varOk c.sc n && !(n == ("__debug__" : Str))
  | .glob i, e => pkName e fun n => (c.P.gls[i]?).any (fun g => g.1 == n) && glOk c.sc n
  | .bin o a b, e => pkBinOp e fun l op r => op == o.py && okX c a l && okX c b r
  | .cmp o a b, e => pkCompare e fun l ops rs => one ops fun op => one rs fun r => op == o.py && !behindInMarks op r && okX c a l && okX c b r
  | .conj xs, e => pkBoolOp e fun op es => op == .And && !xs.isEmpty && okXs c xs es
  | .disj xs, e => pkBoolOp e fun op es => op == .Or && !xs.isEmpty && okXs c xs es
  | .not a, e => pkUnaryOp e fun op x => op == .Not && okX c a x
  | .neg a, e => pkUnaryOp e fun op x => op == .USub && okX c a x
  | .ife t a b, e => pkIfExp e fun t' a' b' => okX c t t' && okX c a a' && okX c b b'
  | .idx a i, e => pkSubscript e fun v s => !isSlice s && okX c a v && okX c i s
  | .slc a lo hi, e => pkSubscript e fun v s => pkSlice s fun l u st => st.isNone && (okX c a v && (match l with | some e => okX c lo e | none => isNon lo) && (match u with | some e => okX c hi e | none => isNon hi))
  | .lst xs, e => pkList e fun es => okXs c xs es && decide (xs.length ≤ 1000)
  | .tup xs, e => pkTuple e fun es => okXs c xs es && decide (xs.length ≤ 1000)
  | .attr a n, e => pkAttribute e fun o nm _ => baseOk o && nm == c.P.an n && okX c a o
  | .cat k, e => pkAttribute e fun o nm _ => pkName o fun n => (c.P.cat[k]?).any (fun q => q.1 == n && q.2.2.1 == nm) && glOk c.sc n
  | .bi b xs, e => pkCallN e fun n es => n == b.nm && glOk c.sc n && okXs c xs es
  | .rng xs, e => pkCallN e fun n es => n == ("range" : Str) && glOk c.sc n && okXs c xs es
  | .mkset a, e => pkCallN e fun n es => one es fun x => n == ("set" : Str) && glOk c.sc n && notStar x && okX c a x
  | .sm m a b, e => pkCallA e fun o nm ap es p => one es fun x => baseOk o && nm == m.name && ap.endLine == p.line && notStar x && okX c a o && okX c b x
  | .call f xs, e => pkCallN e fun n es => c.P.fns[f]? == some n && glOk c.sc n && okXs c xs es
  | .scall f xs, e => pkCallN e fun n es => c.P.fns[f]? == some n && glOk c.sc n && okXs c xs es
  | .meth a m xs, e => pkCallA e fun o nm ap es p => baseOk o && nm == c.P.an m && ap.endLine == p.line && decide (es.length < 29) && pureXs xs && okX c a o && okXs c xs es
  | .new k, e => pkCallN e fun n es => es.isEmpty && ((c.P.cl[k]?).any (fun q => q.1 == n) && glOk c.sc n)
  | .comp x v it cs, e => pkListComp e fun el gs sc => pkGen gs fun t i fs => pkName t fun n =>
      c.vars[v]? == some n && scopeOk sc c.sc [n] && noFold i && pureX x && pureXs cs && okX c it i && okX ⟨relS sc c.sc, c.vars, c.P⟩ x el && okXs ⟨relS sc c.sc, c.vars, c.P⟩ cs fs
  | .enum x v v' it cs, e => pkListComp e fun el gs sc => pkGen gs fun t d fs => pkPair t fun n n' => pkCallN d fun g es => one es fun i =>
      g == ("enumerate" : Str) && glOk c.sc g && notStar i && v != v' && c.vars[v]? == some n && c.vars[v']? == some n' && scopeOk sc c.sc [n, n'] && pureX x && pureXs cs && okX c it i && okX ⟨relS sc c.sc, c.vars, c.P⟩ x el && okXs ⟨relS sc c.sc, c.vars, c.P⟩ cs fs
noncomputable def okXs (c : Cx) : List X → List Expr → Bool
  | [], es => es.isEmpty
  | x :: xs, es => match es with | e :: r => notStar e && okX c x e && okXs c xs r | [] => false
end
theorem isNon_el {x : X} {m : X → Prop} (h : isNon x = true) (k : m .non) : m x := X.non.elim (motive_1 := m) x (eq_of_beq h) k
theorem okXs_nil {c : Cx} {es : List Expr} {m : List Expr → Prop} (h : okXs c [] es = true) (k : m []) : m es := nil_el h k
theorem okXs_cons {c : Cx} {x : X} {xs : List X} {es : List Expr} {m : List Expr → Prop} (h : okXs c (x :: xs) es = true) (k : ∀ e r, notStar e = true → okX c x e = true → okXs c xs r = true → m (e :: r)) : m es := by
  cases es with
  | nil => cases h
  | cons e r => exact and3E h fun a b d => k e r a b d
theorem okXs_one {c : Cx} {x : X} {e : Expr} (h1 : notStar e = true) (h2 : okX c x e = true) : okXs c [x] [e] = true := by
  show (notStar e && okX c x e && true) = true
  rw [h1, h2]; rfl
end Mine
end

section
open PySem PySem.W PyProof.Rows PySem.Calls
set_option Elab.async false
set_option maxRecDepth 100000
namespace Mine

noncomputable def AOk (n : Nat) (A : Around) : Prop := A.handled = none ∧ A.depth + n ≤ 900 ∧ A.units + 4 * n + 100 ≤ cLine
theorem AOk.mono {n m : Nat} {A : Around} (h : AOk n A) (l : m ≤ n) : AOk m A := ⟨h.1, by have := h.2.1; omega, by have := h.2.2; omega⟩
theorem AOk.deeper {n : Nat} {A : Around} {env : Env} (h : AOk (n + 1) A) : AOk n (A.deeper env) := ⟨h.1, by have := h.2.1; show A.depth + 1 + n ≤ 900; omega, by have := h.2.2; show A.units + 3 + 4 * n + 100 ≤ cLine; omega⟩

/-- a step: what may have been turned -/
structure Stp (pu : Bool) (φ : Phi) (h : Heap) (φ' : Phi) (h' : Heap) : Prop where
  grow : Grow φ h φ'
  keep : Keep φ [] h h'
  pu : pu = true → φ' = φ ∧ Ext h h'

section
variable {N : Names} {prog : Program} {w : World} {h₀ h h' : Heap} {σ σ' σ₂ : St} {φ φ' φ₂ : Phi} {env : Env} {vars : List Str} {ρ : Rho} {A : Around} {E : Value → Shared → Prop} {s : Shared}

theorem Stp.refl (p : Bool) (φ : Phi) (h : Heap) : Stp p φ h φ h := ⟨.refl _ _, (Ext.refl h).keep, fun _ => ⟨rfl, .refl h⟩⟩
theorem Stp.ext (p : Bool) {φ : Phi} {h h' : Heap} (x : Ext h h') : Stp p φ h φ h' := ⟨.refl _ _, x.keep, fun _ => ⟨rfl, x⟩⟩
theorem Keep.trans0 {a b : Phi} {h h' h'' : Heap} (G : Grow a h b) (x : Keep a [] h h') (y : Keep b [] h' h'') : Keep a [] h h'' := fun c o e n _ => y _ _ (x _ _ e n List.not_mem_nil) (G.notmem e n) List.not_mem_nil
theorem Stp.trans {p q : Bool} {h'' : Heap} (x : Stp p φ h φ' h') (R : Rel N w h₀ σ φ' h') (y : Stp q φ' h' φ₂ h'') : Stp (p && q) φ h φ₂ h'' :=
  ⟨x.grow.trans x.keep (fun _ m => nomatch m) y.grow fun m hm => R.mut_some m (x.grow.mem hm), x.keep.trans0 x.grow y.keep, fun e => by
    rw [Bool.and_eq_true] at e
    obtain ⟨a, b⟩ := x.pu e.1; obtain ⟨c, d⟩ := y.pu e.2
    exact ⟨c.trans a, b.trans d⟩⟩
theorem Stp.of {p q : Bool} (x : Stp p φ h φ' h') (l : q = true → p = true) : Stp q φ h φ' h' := ⟨x.grow, x.keep, fun e => x.pu (l e)⟩
theorem Stp.rep {p : Bool} {v : V} {u : Value} (x : Stp p φ h φ' h') (r : Rep w φ h v u) : Rep w φ' h' v u := r.mono x.grow x.keep (.nil _)
theorem Stp.reps {p : Bool} {v : List V} {u : List Value} (x : Stp p φ h φ' h') (r : Reps w φ h v u) : Reps w φ' h' v u := r.mono x.grow x.keep (.nil _)
theorem Stp.fra {p : Bool} (x : Stp p φ h φ' h') (F : Fra w h₀ φ env vars ρ h) : Fra w h₀ φ' env vars ρ h' := F.keep0 x.grow x.keep

/-- what holds after an expression -/
noncomputable abbrev Aft (N : Names) (w : World) (h₀ : Heap) (pu : Bool) (σ' : St) (v : V) (φ : Phi) (s : Shared) (Q : Value → Shared → Prop) : Prop :=
  ∀ φ' h' tk u, Stp pu φ s.heap φ' h' → Rel N w h₀ σ' φ' h' → Rep w φ' h' v u → Q u { s with heap := h', toks := tk }
noncomputable abbrev Afts (N : Names) (w : World) (h₀ : Heap) (pu : Bool) (σ' : St) (vs : List V) (φ : Phi) (s : Shared) (Q : List Value → Shared → Prop) : Prop :=
  ∀ φ' h' tk us, Stp pu φ s.heap φ' h' → Rel N w h₀ σ' φ' h' → Reps w φ' h' vs us → Q us { s with heap := h', toks := tk }
noncomputable abbrev AftB (N : Names) (w : World) (h₀ : Heap) (pu : Bool) (σ' : St) (b : Bool) (φ : Phi) (s : Shared) (Q : Bool → Shared → Prop) : Prop :=
  ∀ φ' h' tk, Stp pu φ s.heap φ' h' → Rel N w h₀ σ' φ' h' → Q b { s with heap := h', toks := tk }

theorem Aft.gives {pu : Bool} {v : V} {Q : Value → Shared → Prop} (R : Rel N w h₀ σ φ s.heap) (h : Aft N w h₀ pu σ v φ s Q) : Gives1 w φ s v Q := fun _ _ _ x r => h _ _ _ _ (Stp.ext _ x) (R.ext x) r

/-- a function's contract -/
noncomputable def FnOk (prog : Program) (w : World) (N : Names) (h₀ : Heap) (n : Nat) (f : Value) (M : Sem1) : Prop :=
  ∀ (A : Around) (s : Shared) (σ σ' : St) (φ : Phi) (xs : List V) (vs : List Value) (r : V) (R : Result → Shared → Prop),
    AOk n A → Rel N w h₀ σ φ s.heap → Reps w φ s.heap xs vs → M xs σ = some (r, σ') → Aft N w h₀ false σ' r φ s (fun u => R (.ok (.ret u))) → codeAny (model prog w) A (.call f ⟨vs, []⟩) R s
noncomputable def PureOk (prog : Program) (w : World) (N : Names) (h₀ : Heap) (n : Nat) (f : Value) (M : List V → Option V) : Prop :=
  ∀ (A : Around) (s : Shared) (σ : St) (φ : Phi) (xs : List V) (vs : List Value) (r : V) (R : Result → Shared → Prop),
    AOk n A → Rel N w h₀ σ φ s.heap → Reps w φ s.heap xs vs → M xs = some r → Aft N w h₀ true σ r φ s (fun u => R (.ok (.ret u))) → codeAny (model prog w) A (.call f ⟨vs, []⟩) R s
theorem FnOk.mono {n m : Nat} {f : Value} {M : Sem1} (x : FnOk prog w N h₀ n f M) (l : n ≤ m) : FnOk prog w N h₀ m f M := fun A s σ σ' φ xs vs r R a => x A s σ σ' φ xs vs r R (a.mono l)
theorem PureOk.mono {n m : Nat} {f : Value} {M : List V → Option V} (x : PureOk prog w N h₀ n f M) (l : n ≤ m) : PureOk prog w N h₀ m f M := fun A s σ φ xs vs r R a => x A s σ φ xs vs r R (a.mono l)
theorem FnOk.call {n : Nat} {f : Value} {M : Sem1} (x : FnOk prog w N h₀ n f M) (A : Around) (E : Value → Shared → Prop) (s : Shared) (σ σ' : St) (φ : Phi) (xs : List V) (vs : List Value) (r : V) (Q : Value → Shared → Prop)
    (a : AOk n A) (R : Rel N w h₀ σ φ s.heap) (rs : Reps w φ s.heap xs vs) (e : M xs σ = some (r, σ')) (h : Aft N w h₀ false σ' r φ s Q) : wpAny (model prog w) A (PySem.call f vs) Q E s :=
  wpAny_call (x A s σ σ' φ xs vs r _ a R rs e h)
theorem PureOk.call {n : Nat} {f : Value} {M : List V → Option V} (x : PureOk prog w N h₀ n f M) (A : Around) (E : Value → Shared → Prop) (s : Shared) (σ : St) (φ : Phi) (xs : List V) (vs : List Value) (r : V) (Q : Value → Shared → Prop)
    (a : AOk n A) (R : Rel N w h₀ σ φ s.heap) (rs : Reps w φ s.heap xs vs) (e : M xs = some r) (h : Aft N w h₀ true σ r φ s Q) : wpAny (model prog w) A (PySem.call f vs) Q E s :=
  wpAny_call (x A s σ φ xs vs r _ a R rs e h)

noncomputable def Glob (h₀ : Heap) (ga ba : Addr) (n : Str) (u : Value) : Prop := ∃ mg mb, h₀.Ns ga mg ∧ h₀.Ns ba mb ∧ (mg n = some u ∨ (mg n = none ∧ mb n = some u))
noncomputable def IsFn (h : Heap) (a : Addr) : Prop := ∃ o fd, h.get? a = some o ∧ o.data = .func fd

structure Base (G : Sg) (prog : Program) (w : World) (N : Names) (h₀ : Heap) (K : Frag) (ga ba : Addr) (n : Nat) : Prop where
  an : ∀ i, G.P.an i = N.an i
  X : K.In h₀
  gl : ∀ (i : Nat) (g : Str × V), G.P.gls[i]? = some g → ∃ u, Glob h₀ ga ba g.1 u ∧ Rep w ⟨[], []⟩ h₀ g.2 u
  bi : ∀ b : Bi, Glob h₀ ga ba b.nm (.builtin b.id)
  rg : Glob h₀ ga ba "range" (.type "range")
  st : Glob h₀ ga ba "set" (.type "set")
  en : Glob h₀ ga ba "enumerate" (.type "enumerate")
  cat : ∀ (k : Nat) (q : Str × Addr × Str × V), G.P.cat[k]? = some q → ∃ mc u, Glob h₀ ga ba q.1 (.ref q.2.1) ∧ readsIn K q.2.1 mc = true ∧ findCls K (.ref q.2.1) mc q.2.2.1 = some (.val u) ∧ handedIn u = true ∧ Rep w ⟨[], []⟩ h₀ q.2.2.2 u
  pc : ∀ C ∈ G.P.cs, PlainCls N K C G.P.ats
  fn : ∀ (f : Nat) (nm : Str), G.P.fns[f]? = some nm → ∃ a, Glob h₀ ga ba nm (.ref a) ∧ IsFn h₀ a ∧ FnOk prog w N h₀ n (.ref a) (G.Φ f) ∧ PureOk prog w N h₀ n (.ref a) (G.Ψ f)
  mt : ∀ C m f, G.P.meth C m = some f → ∃ a, (∀ nm, plainGet K C nm = true) ∧ findIn K (.ref C) (N.an m) = some (some (.ref a)) ∧ typeIn K (.ref a) = some (.type "function") ∧ IsFn h₀ a ∧ FnOk prog w N h₀ n (.ref a) (G.Φ f)
  cl : ∀ (k : Nat) (q : Str × Addr × Nat), G.P.cl[k]? = some q → Glob h₀ ga ba q.1 (.ref q.2.1) ∧ ∃ fI, makesIn K q.2.1 = true ∧ keepIn K (.ref q.2.1) = true ∧ findIn K (.ref q.2.1) "__init__" = some (some (.ref fI)) ∧ typeIn K (.ref fI) = some (.type "function") ∧ ∃ k, k + 1 ≤ n ∧ FnOk prog w N h₀ k (.ref fI) (G.Φ q.2.2)

theorem Ns.ext {h h' : Heap} {a : Addr} {m} (x : h.Ns a m) (e : Ext h h') : h'.Ns a m := Ns.at1 x fun _ y => e _ _ y
theorem Glob.load {ga ba : Addr} {n : Str} {u : Value} {Q : Value → Shared → Prop} (g : Glob h₀ ga ba n u) (e : Ext h₀ s.heap) (hg : env.globals = ga) (hb : env.builtins = ba) (h : Q u s) : wpAny (model prog w) A (loadGlobal env n) Q E s := by
  obtain ⟨mg, mb, a, b, c⟩ := g
  subst hg hb
  rcases c with c | ⟨c, d⟩
  · exact loadGlobal_global (Ns.ext a e) c h
  · exact loadGlobal_builtin (Ns.ext a e) c (Ns.ext b e) d h
theorem glOk_of {sc : Scope} {n : Str} (h : glOk sc n = true) : sc.names.lookup n = some .globalImplicit ∧ (n == ("__debug__" : Str)) = false := by
  unfold glOk at h
  rw [Bool.and_eq_true, beq_iff_eq, Bool.not_eq_true'] at h
  exact h
theorem Glob.name {ga ba : Addr} {n : Str} {u : Value} {pos : Pos} {Q : Value → Shared → Prop} (g : Glob h₀ ga ba n u) (e : Ext h₀ s.heap) (hg : env.globals = ga) (hb : env.builtins = ba) (hk : env.scope.kind = .function)
    (ok : glOk env.scope n = true) (h : Q u s) : wpAny (model prog w) A (eval (.Name n pos) env) Q E s := by
  obtain ⟨a, b⟩ := glOk_of ok
  exact Name_function_global hk a (g.load e hg hb h) b

theorem base_rep {v : V} {u : Value} (R : Rel N w h₀ σ φ h) (r : Rep w ⟨[], []⟩ h₀ v u) : Rep w φ h v u :=
  r.mono (own := []) ⟨φ.objs, φ.bad, rfl, rfl, (fun p hp => R.apart _ (List.mem_append_left _ (List.mem_map_of_mem hp))), fun b hb => R.apart b (List.mem_append_right _ hb)⟩ (Ext.keep R.base) (.nil _)

theorem args_plain {f : Value} {ts : List (Bool × Sem Value)} {Q : Args → Shared → Prop} (hp : ts.all (fun t => !t.1) = true) (h : wpAny (model prog w) A (spliced ts) (fun vs s' => Q ⟨vs, []⟩ s') E s) : wpAny (model prog w) A (evalArgs f true ts []) Q E s := by
  cases ts with
  | nil =>
    unfold evalArgs
    show wpAny _ A (spliced [] >>= _) Q E s
    refine wpAny_bind (wpAny_mono h (fun vs s' h' => ?_) fun _ _ x => x)
    exact wpAny_bind (wpAny_pure (wpAny_holding (wpAny_bind (wpAny_pure (wpAny_bind (wpAny_pure (wpAny_pure h')))))))
  | cons t ts =>
    obtain ⟨b, x⟩ := t
    simp only [List.all_cons, Bool.and_eq_true, Bool.not_eq_true'] at hp
    obtain ⟨rfl, _⟩ := hp
    exact evalArgs_plain h

noncomputable def plainArgs (es : List Expr) (env : Env) : List (Bool × Sem Value) := es.map fun e => (false, eval e env)
theorem star_of {e : Expr} {r : List Expr} {env : Env} (h : notStar e = true) : starEach (e :: r) env = (false, eval e env) :: starEach r env := by
  cases e <;> first | rfl | cases h
theorem back_plain {pos : Pos} {env : Env} : ∀ {es : List Expr}, es.all notStar = true → backTo pos (starEach es env) = plainArgs es env
  | [], _ => rfl
  | e :: r, h => by
    rw [List.all_cons, Bool.and_eq_true] at h
    have ih := back_plain (pos := pos) (env := env) h.2
    rw [star_of h.1]
    show (false, _) :: backTo pos (starEach r env) = _
    rw [ih]; rfl
theorem plainArgs_all (es : List Expr) (env : Env) : (plainArgs es env).all (fun t => !t.1) = true := by
  simp [plainArgs]
theorem plainArgs_any (es : List Expr) (env : Env) : (plainArgs es env).any (fun t => t.1) = false := by
  simp [plainArgs]
end
end Mine
end

section
open PySem PySem.W PyProof.Rows PySem.Calls
set_option Elab.async false
set_option maxRecDepth 100000
namespace Mine
section
variable {N : Names} {prog : Program} {w : World} {h₀ h h' : Heap} {σ σ' σ₂ : St} {φ φ' φ₂ : Phi} {env : Env} {vars : List Str} {ρ : Rho} {A : Around} {E : Value → Shared → Prop} {s : Shared} {G : Sg} {K : Frag} {ga ba : Addr} {n : Nat}

theorem cmp_op (o : Cop) {a b : V} {r : Bool} {va vb : Value} {Q : Value → Shared → Prop} (hu : A.units + 3 < cLine) (e : cmpV o a b = some r) (ra : Rep w φ s.heap a va) (rb : Rep w φ s.heap b vb) (h : ∀ k, Q (.bool r) { s with toks := k }) :
    wpAny (model prog w) A (compareOp o.py va vb) Q E s := by
  cases o with
  | eq => exact eq_op (by omega) e ra rb (h _)
  | ne => obtain ⟨r', e', rfl⟩ := map_some e; exact ne_op (by omega) e' ra rb (h _)
  | lt => obtain ⟨x, y, rfl, rfl, e⟩ := int2_some e; cases e; exact lt_op ra rb (h _)
  | le => obtain ⟨x, y, rfl, rfl, e⟩ := int2_some e; cases e; exact le_op ra rb (h _)
  | gt => obtain ⟨x, y, rfl, rfl, e⟩ := int2_some e; cases e; exact gt_op ra rb (h _)
  | ge => obtain ⟨x, y, rfl, rfl, e⟩ := int2_some e; cases e; exact ge_op ra rb (h _)
  | isin => exact in_op hu e ra rb h
  | notin => obtain ⟨r', e', rfl⟩ := map_some e; exact notin_op hu e' ra rb h

theorem hsl_of {sl : Expr} (h : isSlice sl = false) (o v : Value) : subscripted sl false o v = operate [o, v] (getItem o v) := by
  cases sl <;> first | rfl | cases h

theorem base_of {o : Expr} {name : Str} (h : baseOk o = true) : attributeBase o name env (eval o env) = eval o env := by
  cases o <;> try rfl
  rename_i f es ks p
  cases f <;> try rfl
  cases es <;> try rfl
  cases ks <;> try rfl
  cases h

theorem Call_meth {o : Expr} {name : Str} {apos pos : Pos} {args : List Expr} {Q : Value → Shared → Prop} (hbase : baseOk o = true) (hst : args.all notStar = true) (hlen : args.length < 29) (hline : (apos.endLine == pos.line) = true)
    (h : wpAny (model prog w) A (eval o env) (fun ov s₁ => ∀ pl, wpAny (model prog w) A (getMethod ov name pl) (fun fx s₂ => wpAny (model prog w) A (callWith pos fx.1 fx.2 (plainArgs args env) []) Q E s₂) E s₁) E s) :
    wpAny (model prog w) A (eval (.Call (.Attribute o name apos) args [] pos) env) Q E s := by
  rw [arm_eval_Call, base_of hbase, back_plain hst]
  refine wpAny_bind (wpAny_mono h (fun ov s₁ h₁ => ?_) fun _ _ e => e)
  refine wpAny_bind (wpAny_standAt ?_)
  have hform : methodCallForm (args.length + ([] : List Keyword).length) (plainArgs args env) (backToKw pos (keywordEach [] env)) = true := by
    unfold methodCallForm
    rw [plainArgs_all]
    simp [backToKw, keywordEach]
    omega
  have hpos : methodCallPos true o env apos pos = pure pos := by unfold methodCallPos; simp [hline]
  unfold methodCall
  rw [hform]
  exact wpAny_bind (wpAny_holding (wpAny_mono (h₁ _) (fun fx s₂ h₂ => wpAny_bind (wpAny_of_eq hpos h₂)) fun _ _ x => x))

theorem callB {pos : Pos} {id : String} {first : List Value} {es : List Expr} {Q : Value → Shared → Prop}
    (h : wpAny (model prog w) A (spliced (plainArgs es env)) (fun vs s₁ => wpAny (model prog w) A (call (.builtin id) (first ++ vs)) Q E s₁) E s) : wpAny (model prog w) A (callWith pos (.builtin id) first (plainArgs es env) []) Q E s :=
  callWith_builtin (plainArgs_any _ _) (args_plain (plainArgs_all _ _) h)
theorem callT {pos : Pos} {T : String} {es : List Expr} {Q : Value → Shared → Prop}
    (h : wpAny (model prog w) A (spliced (plainArgs es env)) (fun vs s₁ => wpAny (model prog w) A (call (.type T) vs) Q E s₁) E s) : wpAny (model prog w) A (callWith pos (.type T) [] (plainArgs es env) []) Q E s :=
  callWith_excType (plainArgs_any _ _) (args_plain (plainArgs_all _ _) h)
theorem callF {pos : Pos} {a : Addr} {first : List Value} {es : List Expr} {Q : Value → Shared → Prop} (f : IsFn h₀ a)
    (h : wpAny (model prog w) A (spliced (plainArgs es env)) (fun vs s₁ => Ext h₀ s₁.heap ∧ wpAny (model prog w) A (call (.ref a) (first ++ vs)) Q E s₁) E s) : wpAny (model prog w) A (callWith pos (.ref a) first (plainArgs es env) []) Q E s := by
  obtain ⟨o, fd, e, d⟩ := f
  exact callWith_function (args_plain (plainArgs_all _ _) (wpAny_mono h (fun vs s₁ h₁ => ⟨⟨h₁.1 _ _ e, d⟩, h₁.2⟩) fun _ _ x => x))
theorem callName {x : Str} {p pos : Pos} {es : List Expr} {Q : Value → Shared → Prop} (hst : es.all notStar = true)
    (h : wpAny (model prog w) A (eval (.Name x p) env) (fun f s₁ => wpAny (model prog w) A (callWith pos f [] (plainArgs es env) []) Q E s₁) E s) : wpAny (model prog w) A (eval (.Call (.Name x p) es [] pos) env) Q E s := by
  refine wpAny_Call_NameR ?_
  rw [back_plain hst]; exact h

theorem str_meth (m : Sm) {x : V} {r : V} {y : V} {v : Value} {l : List Nat} {pl : Sem Bool} {Q : Value × List Value → Shared → Prop} (rx : Rep w φ s.heap (.str l) v) (h : Q (.builtin m.id, [v]) s) : wpAny (model prog w) A (getMethod v m.name pl) Q E s := by
  simp only [Rep] at rx
  obtain ⟨ok, t, rfl⟩ := rx
  cases m
  · have h : Q (.builtin "str.join", [.str (txt l) t]) s := h
    show wpAny _ _ (getMethod _ ("join" : Str) pl) _ _ _
    with_reducible exact GM.join h
  · have h : Q (.builtin "str.startswith", [.str (txt l) t]) s := h
    show wpAny _ _ (getMethod _ ("startswith" : Str) pl) _ _ _
    with_reducible exact GM.startswith h
  · have h : Q (.builtin "str.endswith", [.str (txt l) t]) s := h
    show wpAny _ _ (getMethod _ ("endswith" : Str) pl) _ _ _
    with_reducible exact GM.endswith h

theorem inst_meth {C : Addr} {fs : Fields} {m f k : Nat} {p : Addr × Addr} {pl : Sem Bool} {Q : Value × List Value → Shared → Prop} (B : Base G prog w N h₀ K ga ba n) (R : Rel N w h₀ σ φ s.heap) (hk : σ[k]? = some (.inst C fs)) (hp : φ.objs[k]? = some p) (hn : getF fs m = none) (hm : G.P.meth C m = some f)
    (h : ∀ a, IsFn h₀ a → FnOk prog w N h₀ n (.ref a) (G.Φ f) → Q (.ref a, [.ref p.1]) s) : wpAny (model prog w) A (getMethod (.ref p.1) (N.an m) pl) Q E s := by
  obtain ⟨a, g, hf, ht, hI, hC⟩ := B.mt C m f hm
  obtain ⟨es, q, hd, fr, I⟩ := inst_at (R.obs k _ p hk hp)
  have X : K.In s.heap := B.X.keeps R.base
  refine method_fn X I (plainGet_of (g (N.an m))).1 (plainGet_of (g (N.an m))).2 hf ht ?_ (h a hI hC)
  show (lookIn (N.an m) (dictOf es q)).map _ = _
  rw [lookIn_dict]
  have : getL (N.an m) es = some none := by
    unfold getL
    have none : es.find? (·.key.isStr (N.an m)) = none := by
      clear hd I hk
      induction fs generalizing es with
      | nil => cases fr; rfl
      | cons x fs ih =>
        obtain ⟨k', v⟩ := x
        obtain ⟨e, r, rfl, ⟨t, ek⟩, _, _, fr⟩ := fr
        unfold getF at hn
        rw [List.find?_cons] at hn
        by_cases c : k' = m
        · subst c; simp at hn
        · have c' : (k' == m) = false := beq_eq_false_iff_ne.mpr c
          rw [c'] at hn
          rw [List.find?_cons, ek, isStr_iff, decide_eq_false (fun z => c (N.inj _ _ z))]
          exact ih hn _ fr
    rw [none, noRef fr]; rfl
  rw [this]; rfl
end
end Mine
end

section
open PySem PySem.W PyProof.Rows PySem.Calls
set_option Elab.async false
set_option maxRecDepth 100000
namespace Mine

structure Cxt (G : Sg) (c : Cx) (env : Env) (ga ba : Addr) : Prop where
  P : c.P = G.P
  sc : env.scope = c.sc
  ga : env.globals = ga
  ba : env.builtins = ba
  nd : c.vars.Nodup
  dot : (".0" : Str) ∉ c.vars

section
variable {N : Names} {prog : Program} {w : World} {h₀ h h' h₁ : Heap} {σ σ' σ₁ σ₂ : St} {φ φ' φ₁ φ₂ : Phi} {env : Env} {vars : List Str} {ρ : Rho} {A : Around} {E : Value → Shared → Prop} {s : Shared} {G : Sg} {K : Frag} {ga ba : Addr} {n : Nat} {c : Cx}

theorem Aft.fin {p pu : Bool} {v : V} {Q : Value → Shared → Prop} {tk : Tok} (h : Aft N w h₀ pu σ' v φ s Q) (S : Stp p φ s.heap φ₁ h₁) (R : Rel N w h₀ σ' φ₁ h₁) (le : pu = true → p = true) : Gives1 w φ₁ { s with heap := h₁, toks := tk } v Q := fun v' h' k x r =>
  h φ₁ h' k v' ⟨S.grow, S.keep.trans0 S.grow x.keep, fun e => let ⟨a, b⟩ := S.pu (le e); ⟨a, b.trans x⟩⟩ (R.ext x) r
theorem Aft.then {p q pu : Bool} {v : V} {Q : Value → Shared → Prop} {tk : Tok} (h : Aft N w h₀ pu σ' v φ s Q) (S : Stp p φ s.heap φ₁ h₁) (R : Rel N w h₀ σ₁ φ₁ h₁) (le : pu = true → p = true ∧ q = true) : Aft N w h₀ q σ' v φ₁ { s with heap := h₁, toks := tk } Q := fun φ' h' tk u S' R' r =>
  h φ' h' tk u ((S.trans R S').of fun e => by rw [(le e).1, (le e).2]; rfl) R' r

theorem uOk {A : Around} (a : AOk n A) : A.units + 3 < cLine := by have := a.2.2; omega

theorem truthy_of {M : Model} {v : V} {b : Bool} {u : Value} {Q : Bool → Shared → Prop} (e : boolOf v = some b) (r : Rep w φ s.heap v u) (h : Q b s) : wpAny M A (truthy u) Q E s := by
  cases v <;> simp only [boolOf, reduceCtorEq, Option.some.injEq] at e
  subst e
  rw [Rep] at r; subst r
  exact wpAny_truthy_bool h

theorem rep_bool (b : Bool) (h : Heap) : Rep w φ h (.bool b) (.bool b) := by rw [Rep]

theorem attr_op {v o : V} {a : Nat} {u : Value} {expr : Bool} {Q : Value → Shared → Prop} (B : Base G prog w N h₀ K ga ba n) (R : Rel N w h₀ σ φ s.heap) (e : attrV G.P σ o a = some v) (r : Rep w φ s.heap o u) (h : Gives1 w φ s v Q) :
    wpAny (model prog w) A (getAttr u (N.an a) expr) Q E s := by
  unfold attrV at e
  split at e
  · split at e
    · split at e
      · rename_i k _ C fs hk q
        rw [Bool.and_eq_true] at q
        rw [Rep] at r
        obtain ⟨p, hp, rfl⟩ := r
        exact get_op (B.X.keeps R.base) (B.pc C (List.contains_iff_mem.mp q.1)) (List.contains_iff_mem.mp q.2) (R.obs k _ p hk hp) e h
      · cases e
    · cases e
  · cases e

theorem part_of {v : V} {o : Option Int} {u : Value} {h : Heap} (e : partV v = some o) (r : Rep w φ h v u) : IsPart u o := by
  cases v <;> simp only [partV, reduceCtorEq, Option.some.injEq] at e
  · subst e; rw [Rep] at r; subst r; exact .none
  · subst e; rw [Rep] at r; obtain ⟨t, rfl⟩ := r; exact .int _ _

theorem okXs_star : ∀ {xs : List X} {es : List Expr}, okXs c xs es = true → es.all notStar = true ∧ es.length = xs.length
  | [], es, h => by
    cases es with
    | nil => exact ⟨rfl, rfl⟩
    | cons _ _ => cases h
  | x :: xs, es, h => by
    cases es with
    | nil => cases h
    | cons e r =>
      have h := and3 h
      obtain ⟨a, b⟩ := okXs_star h.2
      exact ⟨by rw [List.all_cons, h.1.1, a]; rfl, by simp [b]⟩

theorem evs_len : ∀ {xs : List X} {σ σ' : St} {vs : List V}, evs G ρ σ xs = some (vs, σ') → vs.length = xs.length
  | [], _, _, _, e => by cases e; rfl
  | x :: xs, _, _, _, e => by
    obtain ⟨⟨_, _⟩, h1, e⟩ := bind_some e; obtain ⟨⟨_, _⟩, h2, e⟩ := map_some e; cases e
    simp [evs_len h2]

/-! what is told elsewhere of the longer steps -/
noncomputable def MkSet (prog : Program) (w : World) : Prop := ∀ (A : Around) (E : Value → Shared → Prop) (s : Shared) (φ : Phi) (v r : V) (u : Value) (Q : Value → Shared → Prop), A.handled = none → (∀ m ∈ muts φ, (s.heap.get? m).isSome) → setV v = some r → Rep w φ s.heap v u → Gives1 w φ s r Q →
  wpAny (model prog w) A (call (.type "set") [u]) Q E s
noncomputable def NewOk (prog : Program) (w : World) (G : Sg) (N : Names) (h₀ : Heap) (K : Frag) (ga ba : Addr) (n : Nat) : Prop := ∀ (A : Around) (E : Value → Shared → Prop) (s : Shared) (σ σ' : St) (φ : Phi) (k : Nat) (v : V) (q : Str × Addr × Nat) (Q : Value → Shared → Prop),
  AOk n A → Rel N w h₀ σ φ s.heap → G.P.cl[k]? = some q → newV G k σ = some (v, σ') → Aft N w h₀ false σ' v φ s Q → wpAny (model prog w) A (call (.ref q.2.1) []) Q E s
end
end Mine
end

section
open PySem PySem.W PyProof.Rows PySem.Calls
set_option Elab.async false
set_option maxRecDepth 100000
namespace Mine
open Builtin.Range in
theorem rangeSize_up (a b : Int) : rangeSize a b 1 = ((b - a).toNat : Int) := by
  unfold rangeSize
  rw [if_pos (by decide)]
  split
  · rw [Int.ediv_one]; omega
  · omega
open Builtin.Range in
theorem rangeSize_down (a b : Int) : rangeSize a b (-1) = ((a - b).toNat : Int) := by
  unfold rangeSize
  rw [if_neg (by decide)]
  split
  · rw [show -(-1 : Int) = 1 from rfl, Int.ediv_one]; omega
  · omega

section
variable {N : Names} {prog : Program} {w : World} {h₀ h h' h₁ : Heap} {φ : Phi} {A : Around} {E : Value → Shared → Prop} {s : Shared}

noncomputable def zips : List String := ["enumerate", "zip", "dict_itemiterator", "dict_reverseitemiterator", "odict_iterator", "itertools.zip_longest", "itertools.pairwise"]
noncomputable def NotZip (o : Obj) : Prop := ∃ n, o.cls = .type n ∧ zips.contains n = false
/-- an iterator over given values -/
structure Src (prog : Program) (w : World) (A : Around) (φ : Phi) (h₁ : Heap) (I : Addr) (its : List V) (h₂ : Heap) (fp : List Addr) (P : Nat → Value → Prop) (St : Nat → Heap → Prop) : Prop where
  walks : Walks prog w A I fp [I] its.length P St
  start : St 0 h₂
  new : h₁.get? I = none
  fps : ∀ b ∈ fp, b = I ∨ (∃ o, h₁.get? b = some o ∧ b ∉ muts φ ∧ ¬ Loose o)
  item : ∀ i v x, P i v → its[i]? = some x → Rep w φ h₁ x v
  ext : Ext h₁ h₂
  size : I < h₂.objs.size
  few : its.length ≤ big
  there : ∃ o, h₂.get? I = some o
  stays : ∀ i h, St i h → ∃ o, h.get? I = some o ∧ Loose o ∧ NotZip o

theorem push_lt (h : Heap) (o : Obj) : h.objs.size < (h.push o).objs.size := by rw [Heap.size_push]; exact Nat.lt_succ_self _
theorem size_none (h : Heap) : h.get? h.objs.size = none := by
  cases e : h.get? h.objs.size with
  | none => rfl
  | some o => exact absurd (Heap.lt_size e) (Nat.lt_irrefl _)

theorem Reps.at {xs : List V} {vs : List Value} (r : Reps w φ h xs vs) {i : Nat} {x : V} {v : Value} (a : xs[i]? = some x) (b : vs[i]? = some v) : Rep w φ h x v := by
  obtain ⟨v', e, q⟩ := r.get a
  rw [b] at e; cases e; exact q

noncomputable abbrev SrcTo (prog : Program) (w : World) (A : Around) (φ : Phi) (its : List V) (Q : Value → Shared → Prop) (s : Shared) : Prop := ∀ I h₂ fp P St, Src prog w A φ s.heap I its h₂ fp P St → Q (.ref I) { s with heap := h₂ }
theorem src_list {xs : List V} {u : Value} {Q : Value → Shared → Prop} (hh : A.handled = none) (r : Rep w φ s.heap (.list xs) u) (h : SrcTo prog w A φ xs Q s) : wpAny (model prog w) A (pyIter u) Q E s :=
  list_el (m := fun u => wpAny (model prog w) A (pyIter u) Q E s) r fun a vs n hl m ho q => by
    have hL : s.heap.IsList a vs.toArray := ⟨_, ho, rfl, _, rfl⟩
    have W := Walks.list (prog := prog) (w := w) hh s.heap.objs.size a (Nat.ne_of_lt (Heap.lt_size ho)) vs.toArray
    rw [show vs.toArray.size = xs.length from List.size_toArray.trans q.len] at W
    exact wpAny_pyIter_list hL (h _ _ _ _ _ ⟨W, ⟨⟨_, Heap.get?_push_size _ rfl, rfl, rfl⟩, hL.push _⟩, size_none _, fun b hb => (List.mem_cons.mp hb).elim .inl fun hb => .inr ⟨_, List.mem_singleton.mp hb ▸ ho, List.mem_singleton.mp hb ▸ m, tight_seq⟩,
      fun i v x p e => q.at e (List.getElem?_toArray.symm.trans p), Ext.push _ _, push_lt _ _, hl, ⟨_, Heap.get?_push_size _ rfl⟩, fun i h st => let ⟨o, a, b, d⟩ := st.1; ⟨o, a, .inr (.inr ⟨_, d, by rw [b]; decide⟩), _, b, by decide⟩⟩)
theorem txt_get (l : List Nat) (i : Nat) : (txt l).cps[i]? = l[i]? := List.getElem?_toArray
theorem src_str {l : List Nat} {u : Value} {Q : Value → Shared → Prop} (hh : A.handled = none) (r : Rep w φ s.heap (.str l) u) (h : SrcTo prog w A φ (l.map fun c => .str [c]) Q s) : wpAny (model prog w) A (pyIter u) Q E s :=
  str_el (m := fun u => wpAny (model prog w) A (pyIter u) Q E s) r fun t ok => by
    have its : (txt l).cps.size = (l.map fun c => V.str [c]).length := by rw [List.length_map]; exact List.size_toArray
    have item : ∀ i v x, SignAt (txt l) i v → (l.map fun c => V.str [c])[i]? = some x → Rep w φ s.heap x v := fun i v x p e => by
      obtain ⟨c, u, hc, rfl⟩ := p
      rw [List.getElem?_map] at e
      obtain ⟨d, hd, rfl⟩ := Option.map_eq_some_iff.mp e
      cases hd.symm.trans ((txt_get l i).symm.trans hc)
      exact rep_txt ⟨by show 1 ≤ big; decide, fun x hx => by rw [List.mem_singleton.mp hx]; exact ok.2 _ (List.mem_of_getElem? hd)⟩ u
    have few : (l.map fun c => V.str [c]).length ≤ big := by rw [List.length_map]; exact ok.1
    cases ha : (txt l).cps.all (· < 128)
    · have W := Walks.strWide (prog := prog) (w := w) hh s.heap.objs.size (txt l) t
      rw [its] at W
      exact wpAny_pyIter_wide ha (h _ _ _ _ _ ⟨W, ⟨_, Heap.get?_push_size _ rfl, rfl, rfl⟩, size_none _, fun b hb => .inl (List.mem_singleton.mp hb), item, Ext.push _ _, push_lt _ _, few, ⟨_, Heap.get?_push_size _ rfl⟩, fun i h st => let ⟨o, a, b, d⟩ := st; ⟨o, a, .inr (.inr ⟨_, d, by rw [b]; decide⟩), _, b, by decide⟩⟩)
    · have W := Walks.strAscii (prog := prog) (w := w) hh s.heap.objs.size (txt l) t
      rw [its] at W
      exact wpAny_pyIter_ascii ha (h _ _ _ _ _ ⟨W, ⟨_, Heap.get?_push_size _ rfl, rfl, rfl⟩, size_none _, fun b hb => .inl (List.mem_singleton.mp hb), item, Ext.push _ _, push_lt _ _, few, ⟨_, Heap.get?_push_size _ rfl⟩, fun i h st => let ⟨o, a, b, d⟩ := st; ⟨o, a, .inr (.inr ⟨_, d, by rw [b]; decide⟩), _, b, by decide⟩⟩)
theorem rng_small {a b c : Int} {k : Nat} (hc : c = 1 ∨ c = -1) (sz : Builtin.Range.rangeSize a b c = (k : Int)) (hk : k ≤ 1000001) (h1 : -1 ≤ a ∧ a ≤ 1000000 ∧ -1 ≤ b ∧ b ≤ 1000000) : Builtin.Range.small a b c = true := by
  unfold Builtin.Range.small
  rw [sz]
  simp only [Builtin.Range.rangeFitsLong]
  clear sz
  rcases hc with rfl | rfl <;> simp <;> omega
theorem src_rng {a b c : Int} {k : Nat} {u : Value} {Q : Value → Shared → Prop} (hh : A.handled = none) (hc : c = 1 ∨ c = -1) (sz : Builtin.Range.rangeSize a b c = (k : Int)) (hk : k ≤ 1000001) (h1 : -1 ≤ a ∧ a ≤ 1000000 ∧ -1 ≤ b ∧ b ≤ 1000000) (r : Rep w φ s.heap (.rng a b c) u) (h : SrcTo prog w A φ ((List.range k).map fun (i : Nat) => V.int (a + (i : Int) * c)) Q s) : wpAny (model prog w) A (pyIter u) Q E s := by
  rw [Rep] at r
  obtain ⟨r, x, y, z, rfl, m, ho⟩ := r
  have W := Walks.range (prog := prog) (w := w) hh s.heap.objs.size a c k
  have ln : ((List.range k).map fun (i : Nat) => V.int (a + (i : Int) * c)).length = k := by rw [List.length_map, List.length_range]
  rw [← ln] at W
  refine wpAny_pyIter_range ho (rng_small hc sz hk h1) (h _ _ _ _ _ ⟨W, ?_, size_none _, fun b hb => .inl (List.mem_singleton.mp hb), fun i v x p e => ?_, Ext.push _ _, push_lt _ _, by rw [ln]; exact Nat.le_trans hk (by decide), ⟨_, Heap.get?_push_size _ rfl⟩, fun i h st => ⟨_, st, .inr (.inr ⟨_, rfl, (show Value.type "range_iterator" ≠ Value.type "range" by decide)⟩), _, rfl, by decide⟩⟩)
  · have := Heap.get?_push_size s.heap (o := ({ cls := .type "range_iterator", data := .fields #[rawInt a, rawInt (Builtin.Range.rangeSize a b c), rawInt c] } : Obj)) rfl
    show (Heap.push _ _).get? _ = _
    rw [this, sz, ln]; simp
  · obtain ⟨t, rfl⟩ := p
    rw [List.getElem?_map] at e
    obtain ⟨d, hd, rfl⟩ := Option.map_eq_some_iff.mp e
    obtain ⟨_, rfl⟩ := List.getElem?_eq_some_iff.mp hd
    rw [List.getElem_range]; exact rep_int _ _
theorem rng_cases {a b c : Int} {its : List V} {m : Int → List V → Prop} (e : iterV (.rng a b c) = some its) (k1 : (-1 ≤ a ∧ a ≤ 1000000 ∧ -1 ≤ b ∧ b ≤ 1000000) → m 1 ((List.range (b - a).toNat).map fun (i : Nat) => V.int (a + (i : Int) * 1))) (k2 : (-1 ≤ a ∧ a ≤ 1000000 ∧ -1 ≤ b ∧ b ≤ 1000000) → m (-1) ((List.range (a - b).toNat).map fun (i : Nat) => V.int (a + (i : Int) * (-1)))) : m c its := by
  replace e : (if -1 ≤ a ∧ a ≤ 1000000 ∧ -1 ≤ b ∧ b ≤ 1000000 then
      if c = 1 then some ((List.range (b - a).toNat).map fun (i : Nat) => V.int (a + (i : Int) * 1)) else if c = -1 then some ((List.range (a - b).toNat).map fun (i : Nat) => V.int (a + (i : Int) * (-1))) else none
    else none) = some its := e
  by_cases bd : -1 ≤ a ∧ a ≤ 1000000 ∧ -1 ≤ b ∧ b ≤ 1000000
  · rw [if_pos bd] at e
    by_cases hc : c = 1
    · rw [if_pos hc] at e; rw [hc, ← Option.some.inj e]; exact k1 bd
    · rw [if_neg hc] at e
      exact ite_el e fun hc e => by rw [hc, ← e]; exact k2 bd
  · rw [if_neg bd] at e; exact dead e
theorem src_of {v : V} {its : List V} {u : Value} {Q : Value → Shared → Prop} (hh : A.handled = none) (e : iterV v = some its) (r : Rep w φ s.heap v u)
    (h : ∀ I h₂ fp P St, Src prog w A φ s.heap I its h₂ fp P St → Q (.ref I) { s with heap := h₂ }) : wpAny (model prog w) A (pyIter u) Q E s := by
  cases v with
  | list xs => cases e; exact src_list hh r h
  | str l => cases e; exact src_str hh r h
  | rng a b c => exact rng_cases (m := fun c its => Rep w φ s.heap (.rng a b c) u → SrcTo prog w A φ its Q s → wpAny (model prog w) A (pyIter u) Q E s) e (fun bd => src_rng hh (.inl rfl) (rangeSize_up a b) (by clear h r e; omega) bd) (fun bd => src_rng hh (.inr rfl) (rangeSize_down a b) (by clear h r e; omega) bd) r h
  | _ => exact dead e
end
end Mine
end

section
open PySem PySem.W PyProof.Rows PySem.Calls
set_option Elab.async false
set_option maxRecDepth 100000
namespace Mine

noncomputable def closL (env : Env) : List (Str × NameKind) → List (Str × Addr) → List (Str × Addr)
  | [], acc => acc
  | (n, k) :: r, acc => if k == .free then closL env r ((n, (env.cells.lookup n).getD 0) :: acc) else closL env r acc

theorem lookup_isSome_of_mem {α : Type} : ∀ {l : List (Str × α)} {n : Str} {c : α}, (n, c) ∈ l → (l.lookup n).isSome
  | (k, v) :: r, n, c, h => by
    rw [List.lookup_cons]
    cases e : n == k with
    | true => rfl
    | false =>
      rcases List.mem_cons.mp h with q | q
      · cases q; simp at e
      · exact lookup_isSome_of_mem q

section
variable {N : Names} {prog : Program} {w : World} {h₀ h h' h₁ : Heap} {σ : St} {φ : Phi} {env : Env} {vars : List Str} {ρ ρ' : Rho} {A : Around} {E : Value → Shared → Prop} {s : Shared}

theorem mem_clos : ∀ {names : List (Str × NameKind)} {acc : List (Str × Addr)} {n : Str} {c : Addr}, (n, c) ∈ closL env names acc → (n, c) ∈ acc ∨ ((n, .free) ∈ names ∧ c = (env.cells.lookup n).getD 0)
  | [], acc, n, c, h => .inl h
  | (m, k) :: r, acc, n, c, h => by
    unfold closL at h
    split at h
    · rename_i q
      rw [beq_iff_eq] at q; subst q
      rcases mem_clos h with h | ⟨a, b⟩
      · rcases List.mem_cons.mp h with h | h
        · cases h; exact .inr ⟨List.mem_cons_self, rfl⟩
        · exact .inl h
      · exact .inr ⟨List.mem_cons_of_mem _ a, b⟩
    · rcases mem_clos h with h | ⟨a, b⟩
      · exact .inl h
      · exact .inr ⟨List.mem_cons_of_mem _ a, b⟩
theorem clos_acc : ∀ {names : List (Str × NameKind)} {acc : List (Str × Addr)} {x : Str × Addr}, x ∈ acc → x ∈ closL env names acc
  | [], acc, _, h => h
  | (m, k) :: r, acc, x, h => by
    unfold closL
    split
    · exact clos_acc (List.mem_cons_of_mem _ h)
    · exact clos_acc h
theorem clos_has : ∀ {names : List (Str × NameKind)} {acc : List (Str × Addr)} {n : Str}, (n, NameKind.free) ∈ names → ∃ c, (n, c) ∈ closL env names acc
  | (m, k) :: r, acc, n, h => by
    unfold closL
    rcases List.mem_cons.mp h with q | q
    · cases q
      rw [if_pos (by rfl)]
      exact ⟨_, clos_acc List.mem_cons_self⟩
    · split
      · exact clos_has q
      · exact clos_has q

theorem closure_go (f : Str × NameKind → List (Str × Addr) → Sem (ForInStep (List (Str × Addr)))) (hf : ∀ n k cs, f (n, k) cs = if k == .free then (do let c ← cellOf env n; pure (.yield ((n, c) :: cs))) else pure (.yield cs)) :
    ∀ (names : List (Str × NameKind)) (acc : List (Str × Addr)), (∀ n, (n, NameKind.free) ∈ names → (env.cells.lookup n).isSome) → forIn names acc f = (pure (closL env names acc) : Sem _)
  | [], acc, _ => by rw [List.forIn_nil]; rfl
  | (n, k) :: r, acc, h => by
    rw [List.forIn_cons, hf]
    unfold closL
    have ih := fun acc => closure_go f hf r acc fun m q => h m (List.mem_cons_of_mem _ q)
    split
    · rename_i q
      rw [beq_iff_eq] at q; subst q
      obtain ⟨c, hc⟩ := Option.isSome_iff_exists.mp (h n List.mem_cons_self)
      have : cellOf env n = pure c := by unfold cellOf; rw [hc]
      rw [this, hc]
      simp only [pure_bind]
      exact ih _
    · simp only [pure_bind]
      exact ih _
theorem closureFor_eq {scope : Scope} (h : ∀ n, (n, NameKind.free) ∈ scope.names → (env.cells.lookup n).isSome) : closureFor scope env = pure (closL env scope.names []) := by
  unfold closureFor
  simp only
  rw [closure_go (env := env) _ (fun n k cs => by cases q : k == NameKind.free <;> simp [q]) scope.names [] h]
  rfl

structure ScOk (sc outer : Scope) (ownn : List Str) : Prop where
  fn : sc.kind = .function
  kinds : ∀ n k, (n, k) ∈ sc.names → k ≠ .cell ∧ (k = .local → n ∈ ownn ∨ n = (".0" : Str)) ∧ (k = .free → outer.names.lookup n = some .cell) ∧ sc.names.lookup n = some k
  ownn : ∀ n ∈ ownn, sc.names.lookup n = some .local
theorem scOk_of {sc outer : Scope} {ownn : List Str} (h : scopeOk sc outer ownn = true) : ScOk sc outer ownn := by
  unfold scopeOk at h
  rw [Bool.and_eq_true, Bool.and_eq_true, beq_iff_eq, List.all_eq_true, List.all_eq_true] at h
  refine ⟨h.1.1, fun n k m => ?_, fun n m => beq_iff_eq.mp (h.2 n m)⟩
  have := h.1.2 _ m
  simp only [Bool.and_eq_true, beq_iff_eq, bne_iff_ne] at this
  obtain ⟨⟨⟨a, b⟩, c⟩, d⟩ := this
  exact ⟨a, fun e => by rw [if_pos e] at b; exact (Bool.or_eq_true _ _ ▸ b).imp List.contains_iff_mem.mp beq_iff_eq.mp, fun e => by rw [if_pos e] at c; exact beq_iff_eq.mp c, d⟩

theorem mem_of_lookup' {α : Type} {l : List (Str × α)} {n : Str} {c : α} (h : l.lookup n = some c) : (n, c) ∈ l := mem_of_lookup h

theorem lookup_map_snd {α : Type} (g : Str → α → α) : ∀ (l : List (Str × α)) (n : Str), (l.map fun x => (x.1, g x.1 x.2)).lookup n = (l.lookup n).map (g n)
  | [], n => rfl
  | (k, v) :: r, n => by
    rw [List.map_cons, List.lookup_cons, List.lookup_cons]
    cases e : n == k with
    | true => rw [beq_iff_eq] at e; subst e; rfl
    | false => exact lookup_map_snd g r n

theorem comp_kind {sc : Scope} {cl : List (Str × Addr)} {C : Addr} (hf : env.scope.kind = .function) (n : Str) :
    (compEnvC sc cl C env).kindOf n = (sc.names.lookup n).map fun k => if k == .free && env.scope.names.lookup n == some .cell then .cell else k := by
  show (sc.names.map _).lookup n = _
  rw [← lookup_map_snd (fun n k => if k == .free && env.scope.names.lookup n == some .cell then .cell else k) sc.names n]
  congr 1
  apply List.map_congr_left
  rintro ⟨m, k⟩ _
  simp only [hf, Env.kindOf]
  cases k <;> simp
  all_goals (split <;> rfl)

theorem Fra.comp {sc : Scope} {ownn : List Str} {C : Addr} {m : Str → Option Value} (F : Fra w h₀ φ env vars ρ h) (so : ScOk sc env.scope ownn) (hC : h.Ns C m) (fresh : h₀.get? C = none) (nm : C ∉ muts φ) (dot : (".0" : Str) ∉ vars)
    (own1 : ∀ (i : Nat) (x : V) (n' : Str), ρ'[i]? = some (some x) → vars[i]? = some n' → n' ∈ ownn → ∃ u, m n' = some u ∧ Rep w φ h x u)
    (oth : ∀ (i : Nat) (x : V) (n' : Str), ρ'[i]? = some (some x) → vars[i]? = some n' → n' ∉ ownn → ρ[i]? = some (some x)) :
    Fra w h₀ φ (compEnvC sc (closL env sc.names []) C env) vars ρ' h := by
  have kind := comp_kind (sc := sc) (cl := closL env sc.names []) (C := C) F.fn
  have isLoc : ∀ n, (compEnvC sc (closL env sc.names []) C env).kindOf n = some .local → n ∈ ownn ∨ n = (".0" : Str) := fun n e => by
    rw [kind] at e
    obtain ⟨k, a, b⟩ := map_some e
    split at b
    · cases b
    · subst b; exact (so.kinds n _ (mem_of_lookup a)).2.1 rfl
  have isCell : ∀ n, (compEnvC sc (closL env sc.names []) C env).kindOf n = some .cell → (n, NameKind.free) ∈ sc.names ∧ env.kindOf n = some .cell ∧ n ∉ ownn := fun n e => by
    rw [kind] at e
    obtain ⟨k, a, b⟩ := map_some e
    have km := so.kinds n k (mem_of_lookup a)
    split at b
    · rename_i q
      rw [Bool.and_eq_true, beq_iff_eq, beq_iff_eq] at q
      obtain ⟨rfl, q⟩ := q
      exact ⟨mem_of_lookup a, q, fun z => by have := so.ownn n z; rw [a] at this; cases this⟩
    · subst b; exact absurd rfl km.1
  have mem : ∀ n c, (n, c) ∈ closL env sc.names [] → env.kindOf n = some .cell ∧ env.cells.lookup n = some c := fun n c z => by
    rcases mem_clos z with z | ⟨z, e⟩
    · exact absurd z List.not_mem_nil
    · have := (so.kinds n _ z).2.2.1 rfl
      refine ⟨this, ?_⟩
      obtain ⟨c', hc⟩ := Option.isSome_iff_exists.mp (F.has n this)
      rw [hc] at e ⊢; rw [e]; rfl
  refine ⟨so.fn, ⟨m, hC, fun i v n a b c => by
      rcases isLoc n c with q | q
      · exact own1 i v n a b q
      · exact absurd (q ▸ List.mem_of_getElem? b) dot⟩, fun n c z => F.all n c (mem_of_lookup (mem n c z).2), fun n z => ?_, fun i v n c a b z t => ?_, fun n n' c z z' => F.apart n n' c (mem_of_lookup (mem n c z).2) (mem_of_lookup (mem n' c z').2), fun b hb => ?_, fun b hb => ?_⟩
  · obtain ⟨c, hc⟩ := clos_has (env := env) (acc := []) (isCell n z).1
    exact lookup_isSome_of_mem hc
  · obtain ⟨_, k, ne⟩ := isCell n z
    have := (mem n c (mem_of_lookup t)).2
    exact F.cell i v n c (oth i v n a b ne) b k this
  · rcases List.mem_cons.mp hb with rfl | hb
    · exact fresh
    · obtain ⟨⟨n, c⟩, hc, rfl⟩ := List.mem_map.mp hb
      exact F.fresh _ (List.mem_cons_of_mem _ (List.mem_map_of_mem (mem_of_lookup (mem n c hc).2)))
  · rcases List.mem_cons.mp hb with rfl | hb
    · exact nm
    · obtain ⟨⟨n, c⟩, hc, rfl⟩ := List.mem_map.mp hb
      exact F.notm _ (List.mem_cons_of_mem _ (List.mem_map_of_mem (mem_of_lookup (mem n c hc).2)))
theorem comp_scope {sc : Scope} {cl : List (Str × Addr)} {C : Addr} : (compEnvC sc cl C env).scope = relS sc env.scope := rfl
end
end Mine
end

section
open PySem PySem.W PyProof.Rows PySem.Calls
set_option Elab.async false
set_option maxRecDepth 100000
namespace Mine

noncomputable abbrev testsOf (ifs : List Expr) (cenv : Env) : Sem Bool := forIn ifs true fun c r => if r = true then do let ok ← isTrue c cenv (eval c cenv); pure (ForInStep.yield ok) else pure (ForInStep.yield r)
noncomputable abbrev cenvOf (sc : Scope) (C : Addr) (env : Env) : Env := compEnvC sc (closL env sc.names []) C env

section
variable {N : Names} {prog : Program} {w : World} {h₀ h h' h₁ h₂ : Heap} {σ : St} {φ : Phi} {env : Env} {vars : List Str} {ρ ρ' : Rho} {A : Around} {E : Value → Shared → Prop} {s : Shared}

/-- what is told of a comprehension's parts -/
structure Parts (prog : Program) (w : World) (N : Names) (h₀ : Heap) (A : Around) (σ : St) (env : Env) (vars : List Str) (sc : Scope) (elt : Expr) (ifs : List Expr) (setv : V → Rho) (test : V → Option Bool) (eltv : V → Option V) : Prop where
  test : ∀ (φ : Phi) (C : Addr) (x : V) (t : Bool) (s' : Shared) (Q' : Bool → Shared → Prop) (E' : Value → Shared → Prop), test x = some t → Rel N w h₀ σ φ s'.heap → Fra w h₀ φ (cenvOf sc C env) vars (setv x) s'.heap →
    (∀ h'' tk, Ext s'.heap h'' → Q' t { s' with heap := h'', toks := tk }) → wpAny (model prog w) A (testsOf ifs (cenvOf sc C env)) Q' E' s'
  elt : ∀ (φ : Phi) (C : Addr) (x y : V) (s' : Shared) (Q' : Value → Shared → Prop) (E' : Value → Shared → Prop), eltv x = some y → Rel N w h₀ σ φ s'.heap → Fra w h₀ φ (cenvOf sc C env) vars (setv x) s'.heap →
    (∀ h'' tk u, Ext s'.heap h'' → Rep w φ h'' y u → Q' u { s' with heap := h'', toks := tk }) → wpAny (model prog w) A (eval elt (cenvOf sc C env)) Q' E' s'

theorem compL_cons {test : V → Option Bool} {eltv : V → Option V} {x : V} {r l : List V} (h : compL test eltv (x :: r) = some l) :
    ∃ t, test x = some t ∧ (t = true → ∃ y l', eltv x = some y ∧ compL test eltv r = some l' ∧ l = y :: l') ∧ (t = false → compL test eltv r = some l) := by
  unfold compL at h
  obtain ⟨t, a, h⟩ := bind_some h
  refine ⟨t, a, fun e => ?_, fun e => ?_⟩
  · rw [e, if_pos rfl] at h
    obtain ⟨y, b, h⟩ := bind_some h
    obtain ⟨l', c, rfl⟩ := map_some h
    exact ⟨y, l', b, c, rfl⟩
  · rw [e, if_neg (by decide)] at h; exact h

theorem compL_len {test : V → Option Bool} {eltv : V → Option V} : ∀ {r l : List V}, compL test eltv r = some l → l.length ≤ r.length
  | [], _, h => by unfold compL at h; cases h; exact Nat.le_refl _
  | x :: r, l, h => by
    obtain ⟨t, _, b, c⟩ := compL_cons h
    cases t with
    | true => obtain ⟨y, l', _, q, rfl⟩ := b rfl; have := compL_len q; simp only [List.length_cons]; omega
    | false => have := compL_len (c rfl); simp only [List.length_cons]; omega

theorem sub_step {i n : Nat} (h : i < n) : n + 1 - (i + 1) < n + 1 - i := by omega
theorem Fra.one {sc : Scope} {nm : Str} {v : Nat} {C : Addr} {m : Str → Option Value} {x : V} {u : Value} (F : Fra w h₀ φ env vars ρ h) (so : ScOk sc env.scope [nm]) (hv : vars[v]? = some nm) (nd : vars.Nodup) (hC : h.Ns C m) (hm : m nm = some u) (r : Rep w φ h x u) (fresh : h₀.get? C = none) (nmut : C ∉ muts φ) (dot : (".0" : Str) ∉ vars) :
    Fra w h₀ φ (cenvOf sc C env) vars (ρ.set v (some x)) h :=
  F.comp so hC fresh nmut dot (fun i y n' a b c => by
      rw [List.mem_singleton] at c; subst c
      have := vars_inj nd hv b; subst this
      rcases setOpt a with ⟨_, rfl⟩ | ⟨ne, _⟩
      · exact ⟨u, hm, r⟩
      · exact absurd rfl ne)
    fun i y n' a b c => by
      rcases setOpt a with ⟨rfl, _⟩ | ⟨_, e⟩
      · rw [hv] at b; cases b; exact absurd (List.mem_singleton_self _) c
      · exact e

/-- what brings a comprehension's items, one a turn -/
structure Taker (prog : Program) (w : World) (N : Names) (h₀ : Heap) (A : Around) (φ : Phi) (s : Shared) (env : Env) (vars : List Str) (sc : Scope) (I : Addr) (B0 : List Addr) (its : List V) (setv : V → Rho) (h₂ : Heap) (St : Nat → Heap → Prop) (Asg : Env → (Value → Shared → Prop) → Value → (Shared → Prop) → Shared → Prop) : Prop where
  start : St 0 h₂
  ext : Ext s.heap h₂
  new : ∀ b ∈ B0, s.heap.get? b = none
  below : ∀ b ∈ B0, b < h₂.objs.size
  few : its.length ≤ big
  frame : ∀ i h h', St i h → (∀ b o, b < h₂.objs.size → h.get? b = some o → h'.get? b = some o) → St i h'
  there : ∀ i h, St i h → ∀ b ∈ B0, (h.get? b).isSome
  take : ∀ (C : Addr) (B : List Addr) (i : Nat) (s' : Shared) (m' : Str → Option Value) (QN : Option Value → Shared → Prop) (QI : Shared → Prop) (EE : Value → Shared → Prop), h₂.objs.size ≤ C → h₀.get? C = none → C ∉ muts (φ.ban B) → Grow φ s.heap (φ.ban B) → i < its.length → St i s'.heap → s'.heap.Ns C m' → Ext s.heap s'.heap → (∀ v s1, Asg (cenvOf sc C env) EE v QI s1 → QN (some v) s1) →
    (∀ x hc tk m'', its[i]? = some x → St (i + 1) hc → hc.Ns C m'' → (∀ b o, b ≠ C → b ∉ B0 → s'.heap.get? b = some o → hc.get? b = some o) → Fra w h₀ (φ.ban B) (cenvOf sc C env) vars (setv x) hc → QI { s' with heap := hc, toks := tk }) → wpAny (model prog w) A (pyNext (.ref I)) QN EE s'
  fin : ∀ (s' : Shared) (QN : Option Value → Shared → Prop) (EE : Value → Shared → Prop), St its.length s'.heap → (∀ h₁ tk, (∀ b o, b ∉ B0 → s'.heap.get? b = some o → h₁.get? b = some o) → QN none { s' with heap := h₁, toks := tk }) → wpAny (model prog w) A (pyNext (.ref I)) QN EE s'
  self : ∀ i (s' : Shared) (Q : Value → Shared → Prop) (E : Value → Shared → Prop), St i s'.heap → Q (.ref I) s' → wpAny (model prog w) A (pyIter (.ref I)) Q E s'

/-- what holds ahead of each turn of a comprehension -/
inductive CInv (w : World) (φ : Phi) (B : List Addr) (St : Nat → Heap → Prop) (test : V → Option Bool) (eltv : V → Option V) (its l : List V) (D C : Addr) (s : Shared) (k : Nat) (s' : Shared) : Prop where
  | mk (h' : Heap) (tk : Tok) (m' : Str → Option Value) (i : Nat) (ys : Array Value) (done rest : List V) (e : s' = { s with heap := h', toks := tk }) (st : St i h') (acc : h'.PlainList D ys) (ns : h'.Ns C m') (hi : i ≤ its.length) (ek : k = its.length + 1 - i) (x : Ext s.heap h') (rs : Reps w (φ.ban B) h' done ys.toList) (sz : ys.size ≤ i) (c : compL test eltv (its.drop i) = some rest) (el : l = done ++ rest)

section
variable {elt : Expr} {ifs : List Expr} {sc : Scope} {its l : List V} {I D C : Addr} {B0 : List Addr} {St : Nat → Heap → Prop} {Asg : Env → (Value → Shared → Prop) → Value → (Shared → Prop) → Shared → Prop} {test : V → Option Bool} {eltv : V → Option V} {setv : V → Rho}

theorem not_muts (R : Rel N w h₀ σ φ h) {b : Addr} (e : h.get? b = none) : b ∉ muts φ := fun m => by have := R.mut_some b m; rw [e] at this; cases this
theorem not_base (R : Rel N w h₀ σ φ h) {b : Addr} (e : h.get? b = none) : h₀.get? b = none := by
  cases q : h₀.get? b with
  | none => rfl
  | some o => rw [R.base _ _ q] at e; cases e
theorem own_ns {H : Heap} {m : Str → Option Value} (h : H.Ns C m) : Own H [C] := fun b hb => by
  obtain ⟨o, es, ep, e, d, _⟩ := h
  rw [List.mem_singleton.mp hb]; exact ⟨o, e, .inl ⟨es, ep, d⟩⟩
theorem mem_ban {B : List Addr} {b : Addr} (h : b ∈ B) : b ∈ muts (φ.ban B) := muts_ban.mpr (.inr h)
theorem fits_big {a i n : Nat} (h1 : a ≤ i) (h2 : i < n) (h3 : n ≤ big) : a ≤ sizeLine := Nat.le_trans h1 (Nat.le_trans (Nat.le_of_lt h2) (Nat.le_trans h3 big_le))
theorem reps_push {B : List Addr} {h₅ h₆ : Heap} {ys : Array Value} {done : List V} {y : V} {uy : Value} (hD : D ∈ B) (r : Reps w (φ.ban B) h₅ done ys.toList) (ry : Rep w (φ.ban B) h₅ y uy) (hs : h₅.SameBut D h₆) : Reps w (φ.ban B) h₆ (done ++ [y]) (ys.push uy).toList := by
  rw [Array.toList_push]
  exact Reps.mono (own := []) (h := h₅) (.refl _ _) (fun b o e nm _ => hs.extBut b o (fun q => nm (q ▸ mem_ban hD)) e) (.nil _) (Reps.app r (by rw [Reps]; exact ⟨uy, [], rfl, ry, by rw [Reps]⟩))

theorem comp_turn (T : Parts prog w N h₀ A σ env vars sc elt ifs setv test eltv) (K : Taker prog w N h₀ A φ s env vars sc I B0 its setv h₂ St Asg) (R : Rel N w h₀ σ φ s.heap) (hD : h₂.objs.size ≤ D) (hC : h₂.objs.size ≤ C) (hDC : D ≠ C) (noD : s.heap.get? D = none) (noC : s.heap.get? C = none) (hl : l.length ≤ big)
    {RD : Shared → Prop} (post : ∀ h' tk m', h'.Ns C m' → Ext s.heap h' → Rep w φ h' (.list l) (.ref D) → RD { s with heap := h', toks := tk })
    {k : Nat} {s' : Shared} (J : CInv w φ (D :: B0) St test eltv its l D C s k s') {EE : Value → Shared → Prop} {QN : Option Value → Shared → Prop} {QI : Shared → Prop} {QT : Bool → Shared → Prop} {QA QL : Value → Shared → Prop}
    (some_ : ∀ v s1, Asg (cenvOf sc C env) EE v QI s1 → QN (some v) s1) (none_ : ∀ s1, RD s1 → QN none s1)
    (qi : ∀ s1, wpAny (model prog w) A (testsOf ifs (cenvOf sc C env)) QT EE s1 → QI s1)
    (qt : ∀ s1, wpAny (model prog w) A (eval elt (cenvOf sc C env)) QA EE s1 → QT true s1)
    (qa : ∀ x s1, wpAny (model prog w) A (call (.builtin "list.append") [.ref D, x]) QL EE s1 → QA x s1)
    (ql : ∀ u s1, (∃ k', k' < k ∧ CInv w φ (D :: B0) St test eltv its l D C s k' s1) → QL u s1) (qf : ∀ s1, (∃ k', k' < k ∧ CInv w φ (D :: B0) St test eltv its l D C s k' s1) → QT false s1) :
    wpAny (model prog w) A (pyNext (.ref I)) QN EE s' := by
  obtain ⟨H, tk, m', i, ys, done, rest, rfl, st, acc, hn, hi, rfl, hx, hr, hys, hc, hle⟩ := J
  have nB : ∀ b ∈ D :: B0, s.heap.get? b = none := fun b hb => (List.mem_cons.mp hb).elim (fun e => e ▸ noD) (K.new b)
  have DB : D ∉ B0 := fun q => Nat.lt_irrefl _ (Nat.lt_of_le_of_lt hD (K.below D q))
  have CB : C ∉ B0 := fun q => Nat.lt_irrefl _ (Nat.lt_of_le_of_lt hC (K.below C q))
  have nC : ∀ {b}, b < h₂.objs.size → b ≠ C := fun lt q => Nat.lt_irrefl _ (Nat.lt_of_le_of_lt hC (q ▸ lt))
  have nD : ∀ {b}, b < h₂.objs.size → b ≠ D := fun lt q => Nat.lt_irrefl _ (Nat.lt_of_le_of_lt hD (q ▸ lt))
  have lt₁ : ∀ {b o}, s.heap.get? b = some o → b < h₂.objs.size := fun e => Heap.lt_size (K.ext _ _ e)
  have nI : ∀ {b o}, s.heap.get? b = some o → b ∉ B0 := fun e q => by rw [K.new _ q] at e; cases e
  by_cases hlt : i < its.length
  · have CM : C ∉ muts (φ.ban (D :: B0)) := fun m => (muts_ban.mp m).elim (not_muts R noC) fun m => (List.mem_cons.mp m).elim (Ne.symm hDC) CB
    refine K.take C (D :: B0) i { s with heap := H, toks := tk } m' QN QI EE hC (not_base R noC) CM (Grow.ban φ nB) hlt st hn hx some_ fun x hc2 tk2 m2 hxi st2 hn2 step F2 => qi _ ?_
    have hdrop : its.drop i = x :: its.drop (i + 1) := by
      rw [List.drop_eq_getElem_cons hlt, Option.some.inj ((List.getElem?_eq_getElem hlt).symm.trans hxi)]
    rw [hdrop] at hc
    obtain ⟨t, ht, ct, cf⟩ := compL_cons hc
    have x2 : Ext s.heap hc2 := fun b o e => step b o (nC (lt₁ e)) (nI e) (hx b o e)
    have acc2 : hc2.PlainList D ys := acc.at fun o e => step D o hDC DB e
    have r2 : Reps w (φ.ban (D :: B0)) hc2 done ys.toList := Reps.mono (own := [C]) (h := H) (.refl _ _) (fun b o e nm nb => step b o (fun q => nb (List.mem_singleton.mpr q)) (fun q => nm (mem_ban (List.mem_cons_of_mem _ q))) e) (own_ns hn) hr
    have isI : ∀ {H' : Heap} {j : Nat}, St j H' → H'.PlainList D ys → ∀ b ∈ D :: B0, (H'.get? b).isSome := fun sj hd b hb => (List.mem_cons.mp hb).elim (fun e => by obtain ⟨n, q⟩ := hd; rw [e, q]; rfl) (K.there _ _ sj b)
    refine T.test _ C x t _ _ _ ht (R.ban x2 nB (isI st2 acc2)) F2 fun h₄ tk₄ x₄ => ?_
    have st4 : St (i + 1) h₄ := K.frame _ _ _ st2 fun c o _ e => x₄ c o e
    have acc4 : h₄.PlainList D ys := acc2.at fun o e => x₄ D o e
    cases t with
    | false => exact qf _ ⟨_, sub_step hlt, h₄, tk₄, m2, i + 1, ys, done, rest, rfl, st4, acc4, Ns.ext hn2 x₄, hlt, rfl, x2.trans x₄, r2.ext x₄, Nat.le_succ_of_le hys, cf rfl, hle⟩
    | true =>
      obtain ⟨y, l', hy, hl', rfl⟩ := ct rfl
      refine qt _ (T.elt _ C x y _ _ _ hy (R.ban (x2.trans x₄) nB (isI st4 acc4)) (F2.ext x₄) fun h₅ tk₅ uy x₅ ry => qa _ _ ?_)
      have x45 := x₄.trans x₅
      refine wpAny_list_append_plain (hsz := fits_big hys hlt K.few) (acc4.at fun o e => x₅ D o e) fun h₆ hl₆ hs₆ => ql _ _ ?_
      exact ⟨_, sub_step hlt, h₆, tk₅, m2, i + 1, ys.push uy, done ++ [y], l', rfl, K.frame _ _ _ st2 fun b o lt e => hs₆.extBut b o (nD lt) (x45 _ _ e), hl₆, (Ns.ext hn2 x45).sameBut hs₆ (Ne.symm hDC), hlt, rfl,
        fun b o e => hs₆.extBut b o (nD (lt₁ e)) (x45 _ _ (x2 _ _ e)), reps_push List.mem_cons_self (r2.ext x45) ry hs₆, by rw [Array.size_push]; exact Nat.succ_le_succ hys, hl', by rw [hle, List.append_assoc]; rfl⟩
  · cases Nat.le_antisymm hi (Nat.le_of_not_lt hlt)
    refine K.fin _ _ _ st fun h₁ tk₁ hk₁ => none_ _ (post h₁ tk₁ m' (Ns.at1 hn fun o e => hk₁ _ o CB e) (fun b o e => hk₁ b o (nI e) (hx b o e)) ?_)
    rw [List.drop_of_length_le (Nat.le_refl _)] at hc
    cases hc
    rw [List.append_nil] at hle
    subst hle
    obtain ⟨n, e⟩ := acc.at fun o e => hk₁ D o DB e
    rw [Rep]
    exact ⟨hl, D, ys.toList, n, rfl, not_muts R noD, e, Reps.unban (B := D :: B0) (Reps.mono (own := []) (h := H) (.refl _ _) (fun b o e nm _ => hk₁ b o (fun q => nm (mem_ban (List.mem_cons_of_mem _ q))) e) (.nil _) hr)⟩

theorem comp_core {pos : Pos} {target iter : Expr} {ow : List Str} {tk₂ : Tok} {RR : Value → Addr → Result → Shared → Prop} (so : ScOk sc env.scope ow) (R : Rel N w h₀ σ φ s.heap)
    (T : Parts prog w N h₀ A σ env vars sc elt ifs setv test eltv) (K : Taker prog w N h₀ A φ s env vars sc I B0 its setv h₂ St Asg) (hl : compL test eltv its = some l)
    (lp : ∀ (J : Nat → Shared → Prop) (R : Result → Shared → Prop) (D : Addr) (cenv : Env), (∀ k s1, J k s1 → ∀ EE QN QI QT QA QL, (∀ v s1, Asg cenv EE v QI s1 → QN (some v) s1) → (∀ s1, R (.ok .next) s1 → QN none s1) →
        (∀ s1, wpAny (model prog w) A (testsOf ifs cenv) QT EE s1 → QI s1) → (∀ s1, wpAny (model prog w) A (eval elt cenv) QA EE s1 → QT true s1) →
        (∀ x s1, wpAny (model prog w) A (call (.builtin "list.append") [.ref D, x]) QL EE s1 → QA x s1) →
        (∀ (u : Value) s1, (∃ k', k' < k ∧ J k' s1) → QL u s1) → (∀ s1, (∃ k', k' < k ∧ J k' s1) → QT false s1) → wpAny (model prog w) A (pyNext (.ref I)) QN EE s1) →
      ∀ k s1, J k s1 → codeAny (model prog w) A (.compLoop (.ListComp elt [⟨target, iter, ifs, 0⟩] sc pos) 0 (.ref I) (.ref D) cenv) R s1)
    (post : ∀ D C h' tk m', s.heap.get? C = none → C < h'.objs.size → D ≠ C → h'.Ns C m' → Ext s.heap h' → Rep w φ h' (.list l) (.ref D) → RR (.ref D) C (.ok .next) { s with heap := h', toks := tk }) :
    wpAny (model prog w) A (newList []) (fun acc s₃ => wpAny (model prog w) A (newFunctionEnv sc env.globals (closL env sc.names []) [] env.qual none .none (some env)) (fun cenv s₄ =>
      codeAny (model prog w) A (.compStart (.ListComp elt [⟨target, iter, ifs, 0⟩] sc pos) 0 (.ref I) acc { cenv with scope := relabel sc env }) (RR acc cenv.locals) s₄) E s₃) E { s with heap := h₂, toks := tk₂ } := by
  refine wpAny_newObj_type (wpAny_newFunctionEnv (fun y hy => (so.kinds y.1 y.2 hy).1) (fun y hy => nomatch hy) (fun h₃ hns₁ hsb₁ => ?_) so.fn)
  dsimp only at hns₁ hsb₁ ⊢
  generalize hH2 : h₂.push { cls := .type "list", dict := none, data := .seq ([] : List Value).toArray } = H2 at hns₁ hsb₁ ⊢
  obtain ⟨D, hDD⟩ : ∃ D, D = h₂.objs.size := ⟨_, rfl⟩
  obtain ⟨C, hCC⟩ : ∃ C, C = H2.objs.size := ⟨_, rfl⟩
  rw [← hDD]; rw [← hCC] at hns₁ hsb₁ ⊢
  have hDC' : C = D + 1 := by rw [hCC, ← hH2, Heap.size_push, hDD]
  have hDC : D ≠ C := hDC' ▸ (Nat.succ_ne_self D).symm
  have hD : h₂.objs.size ≤ D := Nat.le_of_eq hDD.symm
  have hC : h₂.objs.size ≤ C := hDC' ▸ Nat.le_succ_of_le hD
  have none_of : ∀ {b}, h₂.objs.size ≤ b → s.heap.get? b = none := fun {b} hb => by
    cases q : s.heap.get? b with
    | none => rfl
    | some o => exact absurd (Heap.lt_size (K.ext _ _ q)) (Nat.not_lt.mpr hb)
  have neC : ∀ {b}, b < h₂.objs.size → b ≠ C := fun lt q => Nat.lt_irrefl _ (Nat.lt_of_le_of_lt hC (q ▸ lt))
  have old : ∀ b o, h₂.get? b = some o → h₃.get? b = some o := fun b o e => hsb₁.extBut b o (neC (Heap.lt_size e)) (Heap.get?_push_of_some _ (hH2 ▸ Heap.get?_push_of_some _ e))
  have st : St 0 h₃ := K.frame _ _ _ K.start fun b o _ e => old b o e
  have acc : h₃.PlainList D #[] := ⟨_, hsb₁.extBut _ _ hDC (Heap.get?_push_of_some _ (by rw [← hH2, hDD]; exact Heap.get?_push_size _ rfl))⟩
  have loop : ∀ tk, codeAny (model prog w) A (.compLoop (.ListComp elt [⟨target, iter, ifs, 0⟩] sc pos) 0 (.ref I) (.ref D) (cenvOf sc C env)) (RR (.ref D) C) { s with heap := h₃, toks := tk } := fun tk₀ =>
    lp (CInv w φ (D :: B0) St test eltv its l D C s) _ D _ (fun k s1 J EE QN QI QT QA QL a b c d e f g => comp_turn T K R hD hC hDC (none_of hD) (none_of hC) (Nat.le_trans (compL_len hl) K.few) (fun h' tk m' hn x r => post D C h' tk m' (none_of hC) hn.lt hDC hn x r) J a b c d e f g) (its.length + 1) _
      ⟨h₃, tk₀, _, 0, #[], [], l, rfl, st, acc, hns₁, Nat.zero_le _, rfl, K.ext.trans old, by rw [Reps], Nat.zero_le _, hl, rfl⟩
  exact codeAny_compStart_list (loop _) (K.self 0 _ _ _ st (loop _))
end
/-- the taker of a plain name -/
noncomputable abbrev AsgN (prog : Program) (w : World) (A : Around) (target : Expr) (cenv : Env) (EE : Value → Shared → Prop) (v : Value) (QI : Shared → Prop) (s1 : Shared) : Prop := wpAny (model prog w) A (assign target cenv v) (fun _ s2 => QI s2) EE s1
theorem tk_name {sc : Scope} {nm : Str} {px : Pos} {v : Nat} {its : List V} {I : Addr} {fp : List Addr} {P : Nat → Value → Prop} {St : Nat → Heap → Prop} (so : ScOk sc env.scope [nm]) (hv : vars[v]? = some nm) (nd : vars.Nodup) (dot : (".0" : Str) ∉ vars) (F : Fra w h₀ φ env vars ρ s.heap) (S : Src prog w A φ s.heap I its h₂ fp P St) :
    Taker prog w N h₀ A φ s env vars sc I [I] its (fun x => ρ.set v (some x)) h₂ St (AsgN prog w A (.Name nm px)) where
  start := S.start
  ext := S.ext
  new := fun b hb => by rw [List.mem_singleton.mp hb]; exact S.new
  below := fun b hb => by rw [List.mem_singleton.mp hb]; exact S.size
  few := S.few
  frame := fun i h h' st k => S.walks.frame _ _ _ st fun b hb o e => k b o (by
    rcases S.fps b hb with rfl | ⟨o', e', _⟩
    · exact S.size
    · exact Heap.lt_size (S.ext _ _ e')) e
  there := fun i h st b hb => by obtain ⟨o, e, _⟩ := S.stays i h st; rw [List.mem_singleton.mp hb, e]; rfl
  take := fun C B i s' m' QN QI EE hC fC CM G hlt st hn hx some_ hQ => by
    have neC : ∀ {b}, b < h₂.objs.size → b ≠ C := fun lt q => Nat.lt_irrefl _ (Nat.lt_of_le_of_lt hC (q ▸ lt))
    have lt₁ : ∀ {b o}, s.heap.get? b = some o → b < h₂.objs.size := fun e => Heap.lt_size (S.ext _ _ e)
    have kindn : (cenvOf sc C env).kindOf nm = some .local := by rw [comp_kind F.fn, so.ownn nm (List.mem_singleton_self _)]; rfl
    refine S.walks.item i _ _ _ hlt st fun u h₁ tk₁ hP st₁ hk₁ => some_ _ _ ?_
    refine wpAny_assign_Name (wpAny_storeName_local kindn (Ns.at1 hn fun o e => hk₁ _ o (fun q => neC S.size (List.mem_singleton.mp q).symm) e) (fun h₂' hn₂ hs₂ => ?_) (by show (sc.kind == .class || (sc.kind == .module && _)) = false; rw [so.fn]; rfl))
    have hxi := List.getElem?_eq_getElem hlt
    have x₂ : Ext s.heap h₂' := fun b o e => hs₂.extBut b o (neC (lt₁ e)) (hk₁ b o (fun q => by rw [List.mem_singleton.mp q, S.new] at e; cases e) (hx b o e))
    refine hQ _ h₂' _ _ hxi (S.walks.frame _ _ _ st₁ fun b hb o e => hs₂.extBut b o (neC ?_) e) hn₂ (fun b o n1 n2 e => hs₂.extBut b o n1 (hk₁ b o n2 e))
      ((F.keep0 G (x₂.keep)).one so hv nd hn₂ (if_pos rfl) ((S.item i u _ hP hxi).mono G (x₂.keep (own := [])) (.nil _)) fC CM dot)
    rcases S.fps b hb with rfl | ⟨o', e', _⟩
    · exact S.size
    · exact lt₁ e'
  fin := fun s' QN EE st k => S.walks.done _ _ _ st fun h₁ tk hk => k h₁ tk hk
  self := S.walks.self
theorem lp_name {elt iter : Expr} {nm : Str} {px : Pos} {ifs : List Expr} {sc : Scope} {pos : Pos} {I : Addr} (J : Nat → Shared → Prop) (R : Result → Shared → Prop) (D : Addr) (cenv : Env) (turn : ∀ k s1, J k s1 → ∀ EE QN QI QT QA QL, (∀ v s1, AsgN prog w A (.Name nm px) cenv EE v QI s1 → QN (some v) s1) → (∀ s1, R (.ok .next) s1 → QN none s1) →
        (∀ s1, wpAny (model prog w) A (testsOf ifs cenv) QT EE s1 → QI s1) → (∀ s1, wpAny (model prog w) A (eval elt cenv) QA EE s1 → QT true s1) →
        (∀ x s1, wpAny (model prog w) A (call (.builtin "list.append") [.ref D, x]) QL EE s1 → QA x s1) →
        (∀ (u : Value) s1, (∃ k', k' < k ∧ J k' s1) → QL u s1) → (∀ s1, (∃ k', k' < k ∧ J k' s1) → QT false s1) → wpAny (model prog w) A (pyNext (.ref I)) QN EE s1)
    (k : Nat) (s1 : Shared) (h : J k s1) : codeAny (model prog w) A (.compLoop (.ListComp elt [⟨.Name nm px, iter, ifs, 0⟩] sc pos) 0 (.ref I) (.ref D) cenv) R s1 :=
  codeAny_compLoop_tests J (fun k s1 hJ => turn k s1 hJ _ _ _ _ _ _ (fun _ _ z => z) (fun _ z => z) (fun _ z => z) (fun _ z => z) (fun _ _ z => z) (fun _ _ z => z) (fun _ z => z)) k h
end
end Mine
end

section
open PySem PySem.W PyProof.Rows PySem.Calls
set_option Elab.async false
set_option maxRecDepth 100000
namespace Mine
section
variable {N : Names} {prog : Program} {w : World} {h₀ h h' h₁ : Heap} {σ σ' σ₁ σ₂ : St} {φ φ' φ₁ φ₂ : Phi} {env : Env} {vars : List Str} {ρ : Rho} {A : Around} {E : Value → Shared → Prop} {s : Shared} {G : Sg} {K : Frag} {ga ba : Addr} {n : Nat} {c : Cx}

theorem boolOp1 {pos : Pos} {op : BoolOp} {x : Sem Value} {Q : Value → Shared → Prop} (h : wpAny (model prog w) A x Q E s) : wpAny (model prog w) A (boolOp pos op [x]) Q E s := h
theorem boolOp2 {pos : Pos} {u : Bool} {x y : Sem Value} {r : List (Sem Value)} {Q : Value → Shared → Prop}
    (h : wpAny (model prog w) A x (fun v s₁ => ∃ b, v = .bool b ∧ if b = u then wpAny (model prog w) A (boolOp pos (if u then .And else .Or) (y :: r)) Q E s₁ else Q v s₁) E s) :
    wpAny (model prog w) A (boolOp pos (if u then .And else .Or) (x :: y :: r)) Q E s := by
  cases u
  · show wpAny (model prog w) A (do
      let v ← x
      standAt pos
      let t ← holding [v] (truthy v)
      match BoolOp.Or, t with
      | .And, false | .Or, true => pure v
      | _, _ => boolOp pos .Or (y :: r)) Q E s
    refine wpAny_bind (wpAny_mono h (fun v s₁ h₁ => wpAny_bind (wpAny_standAt (wpAny_bind (wpAny_holding ?_)))) fun _ _ x => x)
    obtain ⟨b, rfl, h₁⟩ := h₁
    refine wpAny_truthy_bool ?_
    cases b
    · exact h₁
    · exact wpAny_pure h₁
  · show wpAny (model prog w) A (do
      let v ← x
      standAt pos
      let t ← holding [v] (truthy v)
      match BoolOp.And, t with
      | .And, false | .Or, true => pure v
      | _, _ => boolOp pos .And (y :: r)) Q E s
    refine wpAny_bind (wpAny_mono h (fun v s₁ h₁ => wpAny_bind (wpAny_standAt (wpAny_bind (wpAny_holding ?_)))) fun _ _ x => x)
    obtain ⟨b, rfl, h₁⟩ := h₁
    refine wpAny_truthy_bool ?_
    cases b
    · exact wpAny_pure h₁
    · exact h₁

theorem allTrue_nil {u : Bool} {Q : Bool → Shared → Prop} (h : Q u s) : wpAny (model prog w) A (allTrue (if u then .And else .Or) [] env) Q E s := by cases u <;> exact wpAny_pure h
theorem allTrue_cons {u : Bool} {e : Expr} {r : List Expr} {Q : Bool → Shared → Prop}
    (h : wpAny (model prog w) A (isTrue e env (eval e env)) (fun b s₁ => if b = u then wpAny (model prog w) A (allTrue (if u then .And else .Or) r env) Q E s₁ else Q (!u) s₁) E s) :
    wpAny (model prog w) A (allTrue (if u then .And else .Or) (e :: r) env) Q E s := by
  cases u
  · show wpAny (model prog w) A (do
      match BoolOp.Or, ← isTrue e env (eval e env) with
      | .And, false => pure false
      | .Or, true => pure true
      | _, _ => allTrue .Or r env) Q E s
    refine wpAny_bind (wpAny_mono h (fun b s₁ h₁ => ?_) fun _ _ x => x)
    cases b
    · exact h₁
    · exact wpAny_pure h₁
  · show wpAny (model prog w) A (do
      match BoolOp.And, ← isTrue e env (eval e env) with
      | .And, false => pure false
      | .Or, true => pure true
      | _, _ => allTrue .And r env) Q E s
    refine wpAny_bind (wpAny_mono h (fun b s₁ h₁ => ?_) fun _ _ x => x)
    cases b
    · exact wpAny_pure h₁
    · exact h₁

theorem bool_rep {v : V} {b : Bool} {u : Value} {h : Heap} (e : boolOf v = some b) (r : Rep w φ h v u) : u = .bool b ∧ v = .bool b := by
  cases v <;> simp only [boolOf, reduceCtorEq, Option.some.injEq] at e
  subst e; rw [Rep] at r; exact ⟨r, rfl⟩
end
end Mine
end

section
open PySem PySem.W PyProof.Rows PySem.Calls
set_option Elab.async false
set_option maxRecDepth 100000
namespace Mine

structure Pre (G : Sg) (N : Names) (w : World) (h₀ : Heap) (ga ba : Addr) (n : Nat) (c : Cx) (env : Env) (A : Around) (ρ : Rho) (σ : St) (φ : Phi) (s : Shared) : Prop where
  cx : Cxt G c env ga ba
  a : AOk n A
  R : Rel N w h₀ σ φ s.heap
  F : Fra w h₀ φ env c.vars ρ s.heap

noncomputable def opOf (u : Bool) : BoolOp := if u then .And else .Or

section
variable (G : Sg) (prog : Program) (w : World) (N : Names) (h₀ : Heap) (ga ba : Addr) (n : Nat)

noncomputable def EvOk (x : X) : Prop := ∀ (c : Cx) (env : Env) (e : Expr) (ρ : Rho) (σ σ' : St) (v : V) (φ : Phi) (s : Shared) (A : Around) (E : Value → Shared → Prop) (Q : Value → Shared → Prop),
  okX c x e = true → Pre G N w h₀ ga ba n c env A ρ σ φ s → ev G ρ σ x = some (v, σ') → Aft N w h₀ (pureX x) σ' v φ s Q → wpAny (model prog w) A (eval e env) Q E s
noncomputable def TsOk (x : X) : Prop := ∀ (c : Cx) (env : Env) (e : Expr) (ρ : Rho) (σ σ' : St) (v : V) (b : Bool) (φ : Phi) (s : Shared) (A : Around) (E : Value → Shared → Prop) (Q : Bool → Shared → Prop),
  okX c x e = true → Pre G N w h₀ ga ba n c env A ρ σ φ s → ev G ρ σ x = some (v, σ') → boolOf v = some b → AftB N w h₀ (pureX x) σ' b φ s Q → wpAny (model prog w) A (isTrue e env (eval e env)) Q E s
noncomputable def EvsOk (xs : List X) : Prop := ∀ (c : Cx) (env : Env) (es : List Expr) (ρ : Rho) (σ σ' : St) (vs : List V) (φ : Phi) (s : Shared) (A : Around) (E : Value → Shared → Prop) (Q : List Value → Shared → Prop),
  okXs c xs es = true → Pre G N w h₀ ga ba n c env A ρ σ φ s → evs G ρ σ xs = some (vs, σ') → Afts N w h₀ (pureXs xs) σ' vs φ s Q → wpAny (model prog w) A (spliced (plainArgs es env)) Q E s
noncomputable def EvCOk (xs : List X) : Prop := ∀ (c : Cx) (env : Env) (es : List Expr) (pos : Pos) (u : Bool) (ρ : Rho) (σ σ' : St) (b : Bool) (φ : Phi) (s : Shared) (A : Around) (E : Value → Shared → Prop) (Q : Value → Shared → Prop),
  okXs c xs es = true → xs.isEmpty = false → Pre G N w h₀ ga ba n c env A ρ σ φ s → evC G u ρ σ xs = some (b, σ') → Aft N w h₀ (pureXs xs) σ' (.bool b) φ s Q → wpAny (model prog w) A (boolOp pos (if u then .And else .Or) (evalEach es env)) Q E s
noncomputable def AllOk (xs : List X) : Prop := ∀ (c : Cx) (env : Env) (es : List Expr) (u : Bool) (ρ : Rho) (σ σ' : St) (b : Bool) (φ : Phi) (s : Shared) (A : Around) (E : Value → Shared → Prop) (Q : Bool → Shared → Prop),
  okXs c xs es = true → Pre G N w h₀ ga ba n c env A ρ σ φ s → evC G u ρ σ xs = some (b, σ') → AftB N w h₀ (pureXs xs) σ' b φ s Q → wpAny (model prog w) A (allTrue (if u then .And else .Or) es env) Q E s
noncomputable def ForOk (xs : List X) : Prop := ∀ (c : Cx) (env : Env) (es : List Expr) (ρ : Rho) (σ σ' : St) (b : Bool) (φ : Phi) (s : Shared) (A : Around) (E : Value → Shared → Prop) (Q : Bool → Shared → Prop),
  okXs c xs es = true → Pre G N w h₀ ga ba n c env A ρ σ φ s → evC G true ρ σ xs = some (b, σ') → AftB N w h₀ (pureXs xs) σ' b φ s Q → wpAny (model prog w) A (testsOf es env) Q E s
end

section
variable {N : Names} {prog : Program} {w : World} {h₀ h h' h₁ : Heap} {σ σ' σ₁ σ₂ : St} {φ φ' φ₁ φ₂ : Phi} {env : Env} {vars : List Str} {ρ : Rho} {A : Around} {E : Value → Shared → Prop} {s : Shared} {G : Sg} {K : Frag} {ga ba : Addr} {n : Nat} {c : Cx}

theorem Pre.step {p : Bool} {tk : Tok} (P : Pre G N w h₀ ga ba n c env A ρ σ φ s) (S : Stp p φ s.heap φ₁ h₁) (R : Rel N w h₀ σ₁ φ₁ h₁) : Pre G N w h₀ ga ba n c env A ρ σ₁ φ₁ { s with heap := h₁, toks := tk } := ⟨P.cx, P.a, R, S.fra P.F⟩

theorem not_of_b : ∀ {b : Bool}, (!b) = true → b = false
  | false, _ => rfl
theorem mapA {α : Type} {x : Option α} {g : α → V} {v : V} {pu : Bool} {Q : Value → Shared → Prop} {C : Prop} (e : x.map (fun a => (g a, σ₁)) = some (v, σ')) (h : Aft N w h₀ pu σ' v φ s Q) (k : ∀ a, x = some a → Aft N w h₀ pu σ₁ (g a) φ s Q → C) : C := by
  obtain ⟨a, p, q⟩ := map_some e
  cases q; exact k a p h
theorem mapT {α : Type} {x : Option α} {g : α → Bool} {v : V} {b : Bool} {pu : Bool} {Q : Bool → Shared → Prop} {C : Prop} (e : x.map (fun a => (V.bool (g a), σ₁)) = some (v, σ')) (eb : boolOf v = some b) (h : AftB N w h₀ pu σ' b φ s Q) (k : ∀ a, x = some a → AftB N w h₀ pu σ₁ (g a) φ s Q → C) : C := by
  obtain ⟨a, p, q⟩ := map_some e
  cases q; cases eb; exact k a p h
theorem mapA2 {α : Type} {x : Option (α × St)} {f : α × St → V × St} {v : V} {pu : Bool} {Q : Value → Shared → Prop} {C : Prop} (e : x.map f = some (v, σ')) (h : Aft N w h₀ pu σ' v φ s Q) (k : ∀ a τ, x = some (a, τ) → Aft N w h₀ pu (f (a, τ)).2 (f (a, τ)).1 φ s Q → C) : C := by
  obtain ⟨a, p, q⟩ := map_some e
  refine k a.1 a.2 p ?_
  rw [show f (a.1, a.2) = (v, σ') from q]; exact h
theorem mapAs {v : V} {x : Option (List V × St)} {vs : List V} {pu : Bool} {Q : List Value → Shared → Prop} {C : Prop} (e : x.map (fun q => (v :: q.1, q.2)) = some (vs, σ')) (h : Afts N w h₀ pu σ' vs φ s Q) (k : ∀ l τ, x = some (l, τ) → Afts N w h₀ pu τ (v :: l) φ s Q → C) : C := by
  obtain ⟨a, p, q⟩ := map_some e
  cases q; exact k a.1 a.2 p h
theorem and_l {p q : Bool} : (p && q) = true → p = true := fun h => (Bool.and_eq_true _ _ ▸ h).1
theorem and_lr {p q : Bool} (h : (p && q) = true) : p = true ∧ q = true := Bool.and_eq_true _ _ ▸ h


theorem s_nil : (EvsOk G prog w N h₀ ga ba n) [] := fun c env es ρ σ σ' vs φ s A E Q ok P e h => by
  cases e
  refine okXs_nil (m := fun es => wpAny _ A (spliced (plainArgs es env)) Q E s) ok ?_
  exact spliced_nil (h φ s.heap s.toks [] (.refl _ _ _) P.R (by rw [Reps]))
theorem s_cons {x : X} {xs : List X} (hx : (EvOk G prog w N h₀ ga ba n) x) (hs : (EvsOk G prog w N h₀ ga ba n) xs) : (EvsOk G prog w N h₀ ga ba n) (x :: xs) := fun c env es ρ σ σ' vs φ s A E Q ok P e h => by
  refine okXs_cons (m := fun es => wpAny _ A (spliced (plainArgs es env)) Q E s) ok fun e' r _ o1 o2 => ?_
  refine bind2 e fun v1 σ1 e1 e => ?_; refine mapAs e h fun v2 σ2 e2 h => ?_
  refine spliced_cons (hx _ _ _ _ _ _ _ _ _ _ _ _ o1 P e1 fun φ1 h1 t1 u1 S1 R1 r1 => hs _ _ _ _ _ _ _ _ _ _ _ _ o2 (P.step S1 R1) e2 fun φ2 h2 t2 us S2 R2 r2 => ?_)
  exact h φ2 h2 t2 _ (S1.trans R1 S2) R2 (by rw [Reps]; exact ⟨_, _, rfl, S2.rep r1, r2⟩)

theorem s_two {α : Type} {a b : X} {v1 v2 : V} {σ1 : St} {c : Cx} {env : Env} {ea eb : Expr} {ρ : Rho} {σ σ2 : St} {φ : Phi} {s : Shared} {A : Around} {E : Value → Shared → Prop} {Q : Value → Value → Shared → Prop} (ha : (EvOk G prog w N h₀ ga ba n) a) (hb : (EvOk G prog w N h₀ ga ba n) b) (oa : okX c a ea = true) (ob : okX c b eb = true)
    (P : Pre G N w h₀ ga ba n c env A ρ σ φ s) (e1 : ev G ρ σ a = some (v1, σ1)) (e2 : ev G ρ σ1 b = some (v2, σ2))
    (h : ∀ φ' h' tk u1 u2, Stp (pureX a && pureX b) φ s.heap φ' h' → Rel N w h₀ σ2 φ' h' → Rep w φ' h' v1 u1 → Rep w φ' h' v2 u2 → Q u1 u2 { s with heap := h', toks := tk }) :
    wpAny (model prog w) A (eval ea env) (fun u1 s1 => wpAny (model prog w) A (eval eb env) (fun u2 s2 => Q u1 u2 s2) E s1) E s :=
  ha _ _ _ _ _ _ _ _ _ _ _ _ oa P e1 fun φ1 h1 t1 u1 S1 R1 r1 => hb _ _ _ _ _ _ _ _ _ _ _ _ ob (P.step S1 R1) e2 fun φ2 h2 t2 u2 S2 R2 r2 => h φ2 h2 t2 u1 u2 (S1.trans R1 S2) R2 (S2.rep r1) r2

theorem s_bin {o : Bop} {a b : X} (ha : (EvOk G prog w N h₀ ga ba n) a) (hb : (EvOk G prog w N h₀ ga ba n) b) : (EvOk G prog w N h₀ ga ba n) (.bin o a b) := fun c env e ρ σ σ' v φ s A E Q ok P e h => by
  refine pkBinOp_el (m := fun z => wpAny _ A (eval z env) Q E s) ok fun x op y p okk => and3E okk fun o1 oa ob => eqE (m := fun z => wpAny _ A (eval (.BinOp x z y p) env) Q E s) o1 ?_
  refine bind2 e fun v1 σ1 e1 e => ?_; refine bind2 e fun v2 σ2 e2 e => ?_; refine mapA e h fun r e3 h => ?_
  exact wpAny_BinOp (s_two (α := Unit) ha hb oa ob P e1 e2 fun φ' h' tk u1 u2 S R r1 r2 => bin_op o R.mut_some e3 r1 r2 (h.fin S R id))

theorem s_cmp {o : Cop} {a b : X} (ha : (EvOk G prog w N h₀ ga ba n) a) (hb : (EvOk G prog w N h₀ ga ba n) b) : (EvOk G prog w N h₀ ga ba n) (.cmp o a b) := fun c env e ρ σ σ' v φ s A E Q ok P e h => by
  refine pkCompare_el (m := fun z => wpAny _ A (eval z env) Q E s) ok fun x ops ys p k1 => one_el (m := fun z => wpAny _ A (eval (.Compare x z ys p) env) Q E s) k1 fun op k2 => one_el (m := fun z => wpAny _ A (eval (.Compare x [op] z p) env) Q E s) k2 fun y okk => and3E okk fun o1 oa ob => and2E o1 fun o1 om => eqE (m := fun z => wpAny _ A (eval (.Compare x [z] [y] p) env) Q E s) o1 ?_
  have om := not_of_b (eq_of_beq o1 ▸ om)
  refine bind2 e fun v1 σ1 e1 e => ?_; refine bind2 e fun v2 σ2 e2 e => ?_; refine mapA e h fun r e3 h => ?_
  exact wpAny_Compare1 (s_two (α := Unit) ha hb oa ob P e1 e2 fun φ' h' tk u1 u2 S R r1 r2 => cmp_op o (uOk P.a) e3 r1 r2 fun k => h _ _ _ _ S R (rep_bool _ _)) om
theorem t_cmp {o : Cop} {a b : X} (ha : (EvOk G prog w N h₀ ga ba n) a) (hb : (EvOk G prog w N h₀ ga ba n) b) : (TsOk G prog w N h₀ ga ba n) (.cmp o a b) := fun c env e ρ σ σ' v b' φ s A E Q ok P e eb h => by
  refine pkCompare_el (m := fun z => wpAny _ A (isTrue z env (eval z env)) Q E s) ok fun x ops ys p k1 => one_el (m := fun z => wpAny _ A (isTrue (.Compare x z ys p) env (eval (.Compare x z ys p) env)) Q E s) k1 fun op k2 => one_el (m := fun z => wpAny _ A (isTrue (.Compare x [op] z p) env (eval (.Compare x [op] z p) env)) Q E s) k2 fun y okk => and3E okk fun o1 oa ob => and2E o1 fun o1 om => eqE (m := fun z => wpAny _ A (isTrue (.Compare x [z] [y] p) env (eval (.Compare x [z] [y] p) env)) Q E s) o1 ?_
  have om := not_of_b (eq_of_beq o1 ▸ om)
  refine bind2 e fun v1 σ1 e1 e => ?_; refine bind2 e fun v2 σ2 e2 e => ?_; refine mapT e eb h fun r e3 h => ?_
  exact wpAny_isTrue_Compare1 (s_two (α := Unit) ha hb oa ob P e1 e2 fun φ' h' tk u1 u2 S R r1 r2 => cmp_op o (uOk P.a) e3 r1 r2 fun k => wpAny_truthy_bool (h _ _ _ S R)) om

noncomputable def plainK (k : Nat) : Bool := !(k == 0) && !(k == 3) && !(k == 5) && !(k == 15)
theorem isTrue_plain {e : Expr} (h : plainK e.ctorIdx = true) (env : Env) : isTrue e env (eval e env) = (do let v ← eval e env; standAt e.pos; holding [v] (truthy v)) := by
  cases e <;> first | rfl | cases h
theorem t_of {x : X} (hx : (EvOk G prog w N h₀ ga ba n) x) (he : ∀ c e, okX c x e = true → plainK e.ctorIdx = true) : (TsOk G prog w N h₀ ga ba n) x := fun c env e ρ σ σ' v b φ s A E Q ok P e1 eb h =>
  wpAny_isTrue_value (hx _ _ _ _ _ _ _ _ _ _ _ _ ok P e1 fun φ' h' tk u S R r => truthy_of eb r (h φ' h' tk S R)) (isTrue_plain (he c e ok) env)

theorem s_not {a : X} (ha : (EvOk G prog w N h₀ ga ba n) a) : (EvOk G prog w N h₀ ga ba n) (.not a) := fun c env e ρ σ σ' v φ s A E Q ok P e h => by
  refine pkUnaryOp_el (m := fun z => wpAny _ A (eval z env) Q E s) ok fun op x p okk => and2E okk fun o1 oa => eqE (m := fun z => wpAny _ A (eval (.UnaryOp z x p) env) Q E s) o1 ?_
  refine bind2 e fun v1 σ1 e1 e => ?_; refine mapA e h fun r e3 h => ?_
  exact wpAny_UnaryOp (ha _ _ _ _ _ _ _ _ _ _ _ _ oa P e1 fun φ' h' tk u S R r1 => not_of (truthy_of e3 r1 (h _ _ _ _ S R (rep_bool _ _))))
theorem t_not {a : X} (ha : (TsOk G prog w N h₀ ga ba n) a) : (TsOk G prog w N h₀ ga ba n) (.not a) := fun c env e ρ σ σ' v b φ s A E Q ok P e eb h => by
  refine pkUnaryOp_el (m := fun z => wpAny _ A (isTrue z env (eval z env)) Q E s) ok fun op x p okk => and2E okk fun o1 oa => eqE (m := fun z => wpAny _ A (isTrue (.UnaryOp z x p) env (eval (.UnaryOp z x p) env)) Q E s) o1 ?_
  refine bind2 e fun v1 σ1 e1 e => ?_; refine mapT e eb h fun r e3 h => ?_
  exact wpAny_isTrue_Not (ha _ _ _ _ _ _ _ _ _ _ _ _ _ oa P e1 e3 fun φ' h' tk S R => h _ _ _ S R)
theorem s_neg {a : X} (ha : (EvOk G prog w N h₀ ga ba n) a) : (EvOk G prog w N h₀ ga ba n) (.neg a) := fun c env e ρ σ σ' v φ s A E Q ok P e h => by
  refine pkUnaryOp_el (m := fun z => wpAny _ A (eval z env) Q E s) ok fun op x p okk => and2E okk fun o1 oa => eqE (m := fun z => wpAny _ A (eval (.UnaryOp z x p) env) Q E s) o1 ?_
  refine bind2 e fun v1 σ1 e1 e => ?_
  split at e <;> cases e
  rename_i i q
  dsimp only at q; subst q
  refine wpAny_UnaryOp (ha _ _ _ _ _ _ _ _ _ _ _ _ oa P e1 fun φ' h' tk u S R r1 => ?_)
  rw [Rep] at r1; obtain ⟨t, rfl⟩ := r1
  exact PySem.P.neg_int (h _ _ _ _ S R (by rw [Rep]; exact ⟨_, rfl⟩))
theorem s_ife {a b d : X} (ha : (TsOk G prog w N h₀ ga ba n) a) (hb : (EvOk G prog w N h₀ ga ba n) b) (hd : (EvOk G prog w N h₀ ga ba n) d) : (EvOk G prog w N h₀ ga ba n) (.ife a b d) := fun c env e ρ σ σ' v φ s A E Q ok P e h => by
  refine pkIfExp_el (m := fun z => wpAny _ A (eval z env) Q E s) ok fun x y z p okk => and3E okk fun oa ob od => ?_
  refine bind2 e fun v1 σ1 e1 e => ?_; refine bind1 e fun t e2 e => ?_
  refine wpAny_IfExp (ha _ _ _ _ _ _ _ _ _ _ _ _ _ oa P e1 e2 fun φ1 h1 t1 S1 R1 => ?_)
  have le : pureX (.ife a b d) = true → pureX a = true ∧ pureX b = true ∧ pureX d = true := fun z => by
    have z := and3 z; exact ⟨z.1.1, z.1.2, z.2⟩
  cases t with
  | true => exact hb _ _ _ _ _ _ _ _ _ _ _ _ ob (P.step S1 R1) e (h.then S1 R1 fun z => ⟨(le z).1, (le z).2.1⟩)
  | false => exact hd _ _ _ _ _ _ _ _ _ _ _ _ od (P.step S1 R1) e (h.then S1 R1 fun z => ⟨(le z).1, (le z).2.2⟩)
theorem AftB.then {p q pu : Bool} {b : Bool} {Q : Bool → Shared → Prop} {tk : Tok} (h : AftB N w h₀ pu σ' b φ s Q) (S : Stp p φ s.heap φ₁ h₁) (R : Rel N w h₀ σ₁ φ₁ h₁) (le : pu = true → p = true ∧ q = true) : AftB N w h₀ q σ' b φ₁ { s with heap := h₁, toks := tk } Q := fun φ' h' tk S' R' =>
  h φ' h' tk ((S.trans R S').of fun e => by rw [(le e).1, (le e).2]; rfl) R'
theorem t_ife {a b d : X} (ha : (TsOk G prog w N h₀ ga ba n) a) (hb : (TsOk G prog w N h₀ ga ba n) b) (hd : (TsOk G prog w N h₀ ga ba n) d) : (TsOk G prog w N h₀ ga ba n) (.ife a b d) := fun c env e ρ σ σ' v b' φ s A E Q ok P e eb h => by
  refine pkIfExp_el (m := fun z => wpAny _ A (isTrue z env (eval z env)) Q E s) ok fun x y z p okk => and3E okk fun oa ob od => ?_
  refine bind2 e fun v1 σ1 e1 e => ?_; refine bind1 e fun t e2 e => ?_
  have le : pureX (.ife a b d) = true → pureX a = true ∧ pureX b = true ∧ pureX d = true := fun z => by
    have z := and3 z; exact ⟨z.1.1, z.1.2, z.2⟩
  show wpAny _ A (do if ← isTrue _ env (eval _ env) then isTrue _ env (eval _ env) else isTrue _ env (eval _ env)) Q E s
  refine wpAny_bind (ha _ _ _ _ _ _ _ _ _ _ _ _ _ oa P e1 e2 fun φ1 h1 t1 S1 R1 => ?_)
  cases t with
  | true => exact hb _ _ _ _ _ _ _ _ _ _ _ _ _ ob (P.step S1 R1) e eb (AftB.then h S1 R1 fun z => ⟨(le z).1, (le z).2.1⟩)
  | false => exact hd _ _ _ _ _ _ _ _ _ _ _ _ _ od (P.step S1 R1) e eb (AftB.then h S1 R1 fun z => ⟨(le z).1, (le z).2.2⟩)
theorem s_idx {a b : X} (ha : (EvOk G prog w N h₀ ga ba n) a) (hb : (EvOk G prog w N h₀ ga ba n) b) : (EvOk G prog w N h₀ ga ba n) (.idx a b) := fun c env e ρ σ σ' v φ s A E Q ok P e h => by
  refine pkSubscript_el (m := fun z => wpAny _ A (eval z env) Q E s) ok fun x y p okk => and3E okk fun os oa ob => ?_
  refine bind2 e fun v1 σ1 e1 e => ?_; refine bind2 e fun v2 σ2 e2 e => ?_; refine mapA e h fun r e3 h => ?_
  exact Subscript_ (s_two (α := Unit) ha hb oa ob P e1 e2 fun φ' h' tk u1 u2 S R r1 r2 => idx_op (hsl_of (not_of_b os)) e3 r1 r2 (h.fin S R id))
end
end Mine
end

section
open PySem PySem.W PyProof.Rows PySem.Calls
set_option Elab.async false
set_option maxRecDepth 100000
namespace Mine
section
variable {N : Names} {prog : Program} {w : World} {h₀ h h' h₁ : Heap} {σ σ' σ₁ σ₂ : St} {φ φ' φ₁ φ₂ : Phi} {env : Env} {vars : List Str} {ρ : Rho} {A : Around} {E : Value → Shared → Prop} {s : Shared} {G : Sg} {K : Frag} {ga ba : Addr} {n : Nat} {c : Cx}


theorem mapV {x : Option V} {v : V} {pu : Bool} {Q : Value → Shared → Prop} {C : Prop} (e : x.map (fun a => (a, σ₁)) = some (v, σ')) (h : Aft N w h₀ pu σ' v φ s Q) (k : ∀ a, x = some a → Aft N w h₀ pu σ₁ a φ s Q → C) : C := mapA e h k
theorem s_lit {x : X} {e : Expr} {v : V} {u : Value} {Q : Value → Shared → Prop} (P : Pre G N w h₀ ga ba n c env A ρ σ φ s) (hx : eval e env = pure u) (r : Rep w φ s.heap v u) (h : Aft N w h₀ true σ v φ s Q) : wpAny (model prog w) A (eval e env) Q E s := by
  rw [hx]; exact wpAny_pure (h φ s.heap s.toks u (.refl _ _ _) P.R r)
theorem s_non : (EvOk G prog w N h₀ ga ba n) .non := fun c env e ρ σ σ' v φ s A E Q ok P e1 h => by
  refine pkConst_el (m := fun z => wpAny _ A (eval z env) Q E s) ok fun k _ _ okk => ?_
  cases k <;> try (cases okk; done)
  cases e1
  exact wpAny_pure (h φ s.heap s.toks _ (.refl _ _ _) P.R (by rw [Rep]))
theorem s_bool {b : Bool} : (EvOk G prog w N h₀ ga ba n) (.bool b) := fun c env e ρ σ σ' v φ s A E Q ok P e1 h => by
  refine pkConst_el (m := fun z => wpAny _ A (eval z env) Q E s) ok fun k x p k1 => pkCBool_el (m := fun z => wpAny _ A (eval (.Constant z x p) env) Q E s) k1 fun b' okk => eqE' (m := fun z => wpAny _ A (eval (.Constant (.bool z) x p) env) Q E s) okk ?_
  cases e1
  exact wpAny_pure (h φ s.heap s.toks _ (.refl _ _ _) P.R (by rw [Rep]))
theorem s_int {i : Int} : (EvOk G prog w N h₀ ga ba n) (.int i) := fun c env e ρ σ σ' v φ s A E Q ok P e1 h => by
  refine pkConst_el (m := fun z => wpAny _ A (eval z env) Q E s) ok fun k x p k1 => pkCInt_el (m := fun z => wpAny _ A (eval (.Constant z x p) env) Q E s) k1 fun b' okk => eqE' (m := fun z => wpAny _ A (eval (.Constant (.int z) x p) env) Q E s) okk ?_
  cases e1
  exact wpAny_Constant_int (h φ s.heap _ _ (.refl _ _ _) P.R (by rw [Rep]; exact ⟨_, rfl⟩))
theorem s_str {l : List Nat} : (EvOk G prog w N h₀ ga ba n) (.str l) := fun c env e ρ σ σ' v φ s A E Q ok P e1 h => by
  refine pkConst_el (m := fun z => wpAny _ A (eval z env) Q E s) ok fun k x p k1 => pkCStr_el (m := fun z => wpAny _ A (eval (.Constant z x p) env) Q E s) k1 fun b' okk => and3E okk fun o1 hl ha => eqE (m := fun z => wpAny _ A (eval (.Constant (.str z) x p) env) Q E s) o1 ?_
  cases e1
  exact Constant_str (h φ s.heap _ _ (.refl _ _ _) P.R (by rw [Rep]; exact ⟨⟨Nat.le_trans (of_decide_eq_true hl) (by decide), fun x hx => of_decide_eq_true (List.all_eq_true.mp ha x hx)⟩, _, rfl⟩))
theorem s_loc {i : Nat} : (EvOk G prog w N h₀ ga ba n) (.loc i) := fun c env e ρ σ σ' v φ s A E Q ok P e1 h => by
  refine pkName_el (m := fun z => wpAny _ A (eval z env) Q E s) ok fun x p okk => and3E okk fun hv hk hd => ?_
  refine bind1 e1 fun v' q e2 => mapV e2 h fun v e2 h => ?_
  rw [e2] at q
  exact wpAny_Name (P.F.load q (eq_of_beq hv) (P.cx.sc ▸ hk) fun u r => h φ s.heap s.toks u (.refl _ _ _) P.R r) (not_of_b hd)
theorem s_glob {i : Nat} (B : Base G prog w N h₀ K ga ba n) : (EvOk G prog w N h₀ ga ba n) (.glob i) := fun c env e ρ σ σ' v φ s A E Q ok P e1 h => by
  refine pkName_el (m := fun z => wpAny _ A (eval z env) Q E s) ok fun x p okk => and2E okk fun hv hk => ?_
  rw [P.cx.P] at hv
  refine mapA e1 h fun g q h => any_el hv fun g' q' hv => ?_
  cases q.symm.trans q'
  cases eq_of_beq hv
  obtain ⟨u, gl, r⟩ := B.gl i g q
  exact gl.name P.R.base P.cx.ga P.cx.ba P.F.fn (P.cx.sc ▸ hk) (h φ s.heap s.toks u (.refl _ _ _) P.R (base_rep P.R r))

theorem evs_one {x : X} {v : V} (e : ev G ρ σ x = some (v, σ')) : evs G ρ σ [x] = some ([v], σ') := by
  show (ev G ρ σ x).bind _ = _
  rw [e]; rfl
theorem reps_one {h : Heap} {v : V} {us : List Value} (r : Reps w φ h [v] us) : ∃ u, us = [u] ∧ Rep w φ h v u := by
  rw [Reps] at r
  obtain ⟨u, us', rfl, r, q⟩ := r
  rw [Reps] at q; subst q; exact ⟨u, rfl, r⟩
theorem pureXs_one {x : X} (h : pureX x = true) : pureXs [x] = true := by show (pureX x && true) = true; rw [h]; rfl
theorem smV_str {m : Sm} {a b v : V} (e : smV m a b = some v) : ∃ l, a = .str l := asS_el (m := fun a => ∃ l, a = .str l) e fun l _ => ⟨l, rfl⟩
theorem s_part {x : X} {o : Option Expr} (hx : (EvOk G prog w N h₀ ga ba n) x) (c : Cx) (env : Env) (ρ : Rho) (σ σ' : St) (v : V) (φ : Phi) (s : Shared) (A : Around) (E : Value → Shared → Prop) (Q : Value → Shared → Prop)
    (ok : (match o with | some e => okX c x e | none => isNon x) = true) (P : Pre G N w h₀ ga ba n c env A ρ σ φ s) (e : ev G ρ σ x = some (v, σ')) (h : Aft N w h₀ (pureX x) σ' v φ s Q) : wpAny (model prog w) A (evalPart o env) Q E s := by
  cases o with
  | some e' => exact hx _ _ _ _ _ _ _ _ _ _ _ _ ok P e h
  | none =>
    revert e h
    refine isNon_el (m := fun x => ev G ρ σ x = some (v, σ') → Aft N w h₀ (pureX x) σ' v φ s Q → wpAny (model prog w) A (evalPart none env) Q E s) ok fun e h => ?_
    cases e
    exact wpAny_pure (h φ s.heap s.toks _ (.refl _ _ _) P.R (by rw [Rep]))

theorem s_slc {a b d : X} (ha : (EvOk G prog w N h₀ ga ba n) a) (hb : (EvOk G prog w N h₀ ga ba n) b) (hd : (EvOk G prog w N h₀ ga ba n) d) : (EvOk G prog w N h₀ ga ba n) (.slc a b d) := fun c env e ρ σ σ' v φ s A E Q ok P e h => by
  refine pkSubscript_el (m := fun z => wpAny _ A (eval z env) Q E s) ok fun x y p k1 => pkSlice_el (m := fun z => wpAny _ A (eval (.Subscript x z p) env) Q E s) k1 fun lo' hi' st q k2 => and2E k2 fun k3 k4 => and3E k4 fun oa ob od => ?_
  cases Option.isNone_iff_eq_none.mp k3
  refine bind2 e fun v1 σ1 e1 e => ?_; refine bind2 e fun v2 σ2 e2 e => ?_; refine bind2 e fun v3 σ3 e3 e => ?_
  refine bind1 e fun lo p1 e => ?_; refine bind1 e fun hi p2 e => ?_; refine mapA e h fun r e4 h => ?_
  dsimp only at p1 p2 e4
  refine Subscript_ (ha _ _ _ _ _ _ _ _ _ _ _ _ oa P e1 fun φ1 h1 t1 u1 S1 R1 r1 => wpAny_Slice ?_)
  refine s_part hb _ _ _ _ _ _ _ _ _ _ _ ob (P.step S1 R1) e2 fun φ2 h2 t2 u2 S2 R2 r2 => ?_
  refine s_part hd _ _ _ _ _ _ _ _ _ _ _ od ((P.step S1 R1).step S2 R2) e3 fun φ3 h3 t3 u3 S3 R3 r3 => ?_
  rw [evalPart_none]
  refine wpAny_pure ?_
  have S := (S1.trans R1 S2).trans R2 S3
  have fin := h.fin (tk := t3) S R3 id
  exact slice_op (s := { s with heap := h3, toks := t3 }) R3.mut_some e4 (S3.rep (S2.rep r1)) (part_of p1 (S3.rep r2)) (part_of p2 r3) (fun _ _ => rfl) fin

theorem few_le {xs : List X} {vs : List V} {us : List Value} {h : Heap} (e : evs G ρ σ xs = some (vs, σ')) (l : xs.length ≤ 1000) (r : Reps w φ h vs us) : vs.length ≤ big ∧ us.length ≤ sizeLine := by
  have e1 := evs_len e
  have e2 := r.len
  have := big_le
  have : (1000 : Nat) ≤ big := by decide
  omega
theorem s_lst {xs : List X} (hs : (EvsOk G prog w N h₀ ga ba n) xs) : (EvOk G prog w N h₀ ga ba n) (.lst xs) := fun c env e ρ σ σ' v φ s A E Q ok P e h => by
  refine pkList_el (m := fun z => wpAny _ A (eval z env) Q E s) ok fun es p okk => and2E okk fun oa ol => ?_
  have ol := of_decide_eq_true ol
  refine mapA2 e h fun vs σ1 e1 h => ?_
  refine wpAny_List ?_
  rw [back_plain (okXs_star oa).1]
  refine hs _ _ _ _ _ _ _ _ _ _ _ _ oa P e1 fun φ1 h1 t1 us S1 R1 r1 => ?_
  obtain ⟨l1, l2⟩ := few_le e1 ol r1
  exact ⟨l2, (h.fin (tk := t1) S1 R1 id) _ _ _ (Ext.push _ _) (rep_new_list R1.mut_some l1 r1)⟩
theorem s_tup {xs : List X} (hs : (EvsOk G prog w N h₀ ga ba n) xs) : (EvOk G prog w N h₀ ga ba n) (.tup xs) := fun c env e ρ σ σ' v φ s A E Q ok P e h => by
  refine pkTuple_el (m := fun z => wpAny _ A (eval z env) Q E s) ok fun es k p okk => and2E okk fun oa ol => ?_
  have ol := of_decide_eq_true ol
  refine mapA2 e h fun vs σ1 e1 h => ?_
  refine wpAny_Tuple ?_
  rw [back_plain (okXs_star oa).1]
  refine hs _ _ _ _ _ _ _ _ _ _ _ _ oa P e1 fun φ1 h1 t1 us S1 R1 r1 => ?_
  obtain ⟨l1, l2⟩ := few_le e1 ol r1
  exact ⟨l2, (h.fin (tk := t1) S1 R1 id) _ _ _ (Ext.push _ _) (rep_new_tup R1.mut_some l1 r1)⟩

theorem s_attr {a : X} {m : Nat} (B : Base G prog w N h₀ K ga ba n) (ha : (EvOk G prog w N h₀ ga ba n) a) : (EvOk G prog w N h₀ ga ba n) (.attr a m) := fun c env e ρ σ σ' v φ s A E Q ok P e h => by
  refine pkAttribute_el (m := fun z => wpAny _ A (eval z env) Q E s) ok fun x nm p okk => and3E okk fun ob o1 oa => eqE (m := fun z => wpAny _ A (eval (.Attribute x z p) env) Q E s) o1 ?_
  refine bind2 e fun v1 σ1 e1 e => ?_; refine mapA e h fun r e3 h => ?_
  rw [arm_eval_Attribute, base_of ob]
  refine wpAny_bind (ha _ _ _ _ _ _ _ _ _ _ _ _ oa P e1 fun φ1 h1 t1 u1 S1 R1 r1 => wpAny_bind (wpAny_standAt (wpAny_bind (wpAny_holding ?_))))
  rw [P.cx.P, B.an]
  exact attr_op (s := { s with heap := h1, toks := t1 }) B R1 e3 r1 fun v' h' k x r => wpAny_bind (wpAny_letTemporaryGo (wpAny_pure ((h.fin (tk := t1) S1 R1 id) v' h' k x r)))

theorem s_cat {k : Nat} (B : Base G prog w N h₀ K ga ba n) : (EvOk G prog w N h₀ ga ba n) (.cat k) := fun c env e ρ σ σ' v φ s A E Q ok P e1 h => by
  refine pkAttribute_el (m := fun z => wpAny _ A (eval z env) Q E s) ok fun x nm p k1 => pkName_el (m := fun z => wpAny _ A (eval (.Attribute z nm p) env) Q E s) k1 fun x q okk => and2E okk fun hv hk => ?_
  rw [P.cx.P] at hv
  refine mapA e1 h fun q hq h => any_el hv fun g' q' hv => ?_
  cases hq.symm.trans q'
  refine and2E hv fun h1 h2 => ?_
  cases eq_of_beq h1; cases eq_of_beq h2
  obtain ⟨mc, u, gl, hr, hf, hh, r⟩ := B.cat k q hq
  rw [arm_eval_Attribute, base_of rfl]
  refine wpAny_bind (gl.name P.R.base P.cx.ga P.cx.ba P.F.fn (P.cx.sc ▸ hk) (wpAny_bind (wpAny_standAt (wpAny_bind (wpAny_holding ?_)))))
  exact cls_value (B.X.keeps P.R.base) hr hf hh (wpAny_bind (wpAny_letTemporaryGo (wpAny_pure (h φ s.heap _ u (.refl _ _ _) P.R (base_rep P.R r)))))

theorem s_callv {xs : List X} {c : Cx} {env : Env} {es : List Expr} {nm : Str} {p pos : Pos} {ρ : Rho} {σ σ' : St} {vs : List V} {φ : Phi} {s : Shared} {A : Around} {E : Value → Shared → Prop} {Q : Value → Shared → Prop} {u : Value} (hs : (EvsOk G prog w N h₀ ga ba n) xs) (oa : okXs c xs es = true) (hk : glOk c.sc nm = true)
    (P : Pre G N w h₀ ga ba n c env A ρ σ φ s) (g : Glob h₀ ga ba nm u) (e1 : evs G ρ σ xs = some (vs, σ'))
    (hc : ∀ Q', wpAny (model prog w) A (spliced (plainArgs es env)) (fun us s1 => Ext h₀ s1.heap ∧ wpAny (model prog w) A (call u us) Q' E s1) E s → wpAny (model prog w) A (callWith pos u [] (plainArgs es env) []) Q' E s)
    (h : ∀ φ1 h1 t1 us, Stp (pureXs xs) φ s.heap φ1 h1 → Rel N w h₀ σ' φ1 h1 → Reps w φ1 h1 vs us → wpAny (model prog w) A (call u us) Q E { s with heap := h1, toks := t1 }) :
    wpAny (model prog w) A (eval (.Call (.Name nm p) es [] pos) env) Q E s :=
  callName (okXs_star oa).1 (g.name P.R.base P.cx.ga P.cx.ba P.F.fn (P.cx.sc ▸ hk) (hc _ (hs _ _ _ _ _ _ _ _ _ _ _ _ oa P e1 fun φ1 h1 t1 us S1 R1 r1 => ⟨R1.base, h φ1 h1 t1 us S1 R1 r1⟩)))

theorem s_bi {b : Bi} {xs : List X} (B : Base G prog w N h₀ K ga ba n) (hs : (EvsOk G prog w N h₀ ga ba n) xs) : (EvOk G prog w N h₀ ga ba n) (.bi b xs) := fun c env e ρ σ σ' v φ s A E Q ok P e h => by
  refine pkCallN_el (m := fun z => wpAny _ A (eval z env) Q E s) ok fun x p es q okk => and3E okk fun o1 hk oa => ?_
  cases eq_of_beq o1
  refine bind2 e fun vs σ1 e1 e => ?_; refine mapA e h fun r e3 h => ?_
  exact s_callv hs oa hk P (B.bi b) e1 (fun Q' hq => callB (wpAny_mono hq (fun _ _ z => z.2) fun _ _ z => z)) fun φ1 h1 t1 us S1 R1 r1 => bi_op b P.a.1 e3 r1 (h.fin S1 R1 id)
theorem s_rng {xs : List X} (B : Base G prog w N h₀ K ga ba n) (hs : (EvsOk G prog w N h₀ ga ba n) xs) : (EvOk G prog w N h₀ ga ba n) (.rng xs) := fun c env e ρ σ σ' v φ s A E Q ok P e h => by
  refine pkCallN_el (m := fun z => wpAny _ A (eval z env) Q E s) ok fun x p es q okk => and3E okk fun o1 hk oa => ?_
  cases eq_of_beq o1
  refine bind2 e fun vs σ1 e1 e => ?_; refine mapA e h fun r e3 h => ?_
  exact s_callv hs oa hk P B.rg e1 (fun Q' hq => callT (wpAny_mono hq (fun _ _ z => z.2) fun _ _ z => z)) fun φ1 h1 t1 us S1 R1 r1 => rng_op R1.mut_some e3 r1 (h.fin S1 R1 id)
theorem s_mkset {a : X} (B : Base G prog w N h₀ K ga ba n) (M : MkSet prog w) (ha : (EvOk G prog w N h₀ ga ba n) a) : (EvOk G prog w N h₀ ga ba n) (.mkset a) := fun c env e ρ σ σ' v φ s A E Q ok P e h => by
  refine pkCallN_el (m := fun z => wpAny _ A (eval z env) Q E s) ok fun x p es q k1 => one_el (m := fun z => wpAny _ A (eval (.Call (.Name x p) z [] q) env) Q E s) k1 fun y okk => and3E okk fun o1 hst oa => and2E o1 fun o1 hk => ?_
  cases eq_of_beq o1
  refine bind2 e fun v1 σ1 e1 e => ?_; refine mapA e h fun r e3 h => ?_
  refine s_callv (xs := [a]) (s_cons ha s_nil) (okXs_one hst oa) hk P B.st (vs := [v1]) (σ' := σ1) (evs_one e1) (fun Q' hq => callT (wpAny_mono hq (fun _ _ z => z.2) fun _ _ z => z)) fun φ1 h1 t1 us S1 R1 r1 => ?_
  obtain ⟨u, rfl, r1'⟩ := reps_one r1
  exact M A E _ φ1 v1 _ u Q P.a.1 R1.mut_some e3 r1' (h.fin S1 R1 pureXs_one)
theorem s_sm {m : Sm} {a b : X} (ha : (EvOk G prog w N h₀ ga ba n) a) (hb : (EvOk G prog w N h₀ ga ba n) b) : (EvOk G prog w N h₀ ga ba n) (.sm m a b) := fun c env e ρ σ σ' v φ s A E Q ok P e h => by
  refine pkCallA_el (m := fun z => wpAny _ A (eval z env) Q E s) ok fun o nm ap es p k1 => one_el (m := fun z => wpAny _ A (eval (.Call (.Attribute o nm ap) z [] p) env) Q E s) k1 fun x okk => and3E okk fun o1 oa ob => and3E o1 fun o1 hl hst => and2E o1 fun obs o1 => eqE (m := fun z => wpAny _ A (eval (.Call (.Attribute o z ap) [x] [] p) env) Q E s) o1 ?_
  refine bind2 e fun v1 σ1 e1 e => ?_; refine bind2 e fun v2 σ2 e2 e => ?_; refine mapA e h fun r e3 h => ?_
  dsimp only at e3
  refine Call_meth obs (by rw [List.all_cons, hst]; rfl) (by decide : (1 : Nat) < 29) hl (ha _ _ _ _ _ _ _ _ _ _ _ _ oa P e1 fun φ1 h1 t1 u1 S1 R1 r1 pl => ?_)
  obtain ⟨l, rfl⟩ : ∃ l, v1 = .str l := smV_str e3
  refine str_meth (y := v2) (r := v2) (x := v2) m r1 (callB (s_cons hb s_nil _ _ _ _ _ σ2 [v2] _ _ _ _ _ (okXs_one hst ob) (P.step S1 R1) (evs_one e2) fun φ2 h2 t2 us S2 R2 r2 => ?_))
  obtain ⟨u2, rfl, r2'⟩ := reps_one r2
  exact sm_op m e3 (S2.rep r1) r2' (h.fin (S1.trans R1 S2) R2 fun z => and2E z fun a b => show (_ && pureXs [_]) = true by rw [a, pureXs_one b]; rfl)
theorem s_call {f : Nat} {xs : List X} (B : Base G prog w N h₀ K ga ba n) (hs : (EvsOk G prog w N h₀ ga ba n) xs) : (EvOk G prog w N h₀ ga ba n) (.call f xs) := fun c env e ρ σ σ' v φ s A E Q ok P e h => by
  refine pkCallN_el (m := fun z => wpAny _ A (eval z env) Q E s) ok fun x p es q okk => and3E okk fun hf hk oa => ?_
  have hf := eq_of_beq hf
  rw [P.cx.P] at hf
  refine bind2 e fun vs σ1 e1 e => ?_; refine mapA e h fun r e3 h => ?_
  obtain ⟨a, g, hi, _, hp⟩ := B.fn f _ hf
  exact s_callv hs oa hk P g e1 (fun Q' hq => callF hi hq) fun φ1 h1 t1 us S1 R1 r1 => hp.call A E _ _ φ1 vs us _ Q P.a R1 r1 e3 (h.then S1 R1 fun z => ⟨z, rfl⟩)
theorem s_scall {f : Nat} {xs : List X} (B : Base G prog w N h₀ K ga ba n) (hs : (EvsOk G prog w N h₀ ga ba n) xs) : (EvOk G prog w N h₀ ga ba n) (.scall f xs) := fun c env e ρ σ σ' v φ s A E Q ok P e h => by
  refine pkCallN_el (m := fun z => wpAny _ A (eval z env) Q E s) ok fun x p es q okk => and3E okk fun hf hk oa => ?_
  have hf := eq_of_beq hf
  rw [P.cx.P] at hf
  refine bind2 e fun vs σ1 e1 e => ?_
  obtain ⟨a, g, hi, hp, _⟩ := B.fn f _ hf
  exact s_callv hs oa hk P g e1 (fun Q' hq => callF hi hq) fun φ1 h1 t1 us S1 R1 r1 => hp.call A E _ _ _ φ1 vs us _ Q P.a R1 r1 e (h.then S1 R1 fun z => by cases z)
theorem methV_some {σ : St} {o : V} {m : Nat} {vs : List V} {r : V × St} (e : methV G σ o m vs = some r) : ∃ k C fs f, o = .obj k ∧ σ[k]? = some (.inst C fs) ∧ (getF fs m).isNone = true ∧ G.P.meth C m = some f ∧ G.Φ f (.obj k :: vs) σ = some r := by
  obtain ⟨k, rfl⟩ : ∃ k, o = .obj k := by cases o <;> first | exact ⟨_, rfl⟩ | exact dead e
  unfold methV at e
  dsimp only at e
  cases q : σ[k]? with
  | none => rw [q] at e; cases e
  | some ob =>
    rw [q] at e
    cases ob with
    | inst C fs =>
      dsimp only at e
      by_cases hn : (getF fs m).isNone = true
      · rw [if_pos hn] at e
        obtain ⟨f, hm, e⟩ := bind_some e
        exact ⟨k, C, fs, f, rfl, q, hn, hm, e⟩
      · rw [if_neg hn] at e; cases e
    | _ => cases e
theorem s_meth {a : X} {m : Nat} {xs : List X} (B : Base G prog w N h₀ K ga ba n) (ha : (EvOk G prog w N h₀ ga ba n) a) (hs : (EvsOk G prog w N h₀ ga ba n) xs) : (EvOk G prog w N h₀ ga ba n) (.meth a m xs) := fun c env e ρ σ σ' v φ s A E Q ok P e h => by
  refine pkCallA_el (m := fun z => wpAny _ A (eval z env) Q E s) ok fun o nm ap es p okk => and3E okk fun o1 oa oxs => and3E o1 fun o1 hlen hpu => and3E o1 fun obs o1 hl => eqE (m := fun z => wpAny _ A (eval (.Call (.Attribute o z ap) es [] p) env) Q E s) o1 ?_
  have hlen := of_decide_eq_true hlen
  refine bind2 e fun v1 σ1 e1 e => ?_; refine bind2 e fun vs σ2 e2 e => ?_
  have := pure_sts hpu e2; subst this
  dsimp only at e
  obtain ⟨k, C, fs, f, rfl, hk, hn, hm, e⟩ := methV_some e
  refine Call_meth obs (okXs_star oxs).1 hlen hl (ha _ _ _ _ _ _ _ _ _ _ _ _ oa P e1 fun φ1 h1 t1 u1 S1 R1 r1 pl => ?_)
  have r1' := r1
  rw [Rep] at r1
  obtain ⟨q, hq, rfl⟩ := r1
  rw [P.cx.P, B.an]
  refine inst_meth (s := { s with heap := h1, toks := t1 }) B R1 hk hq (by simpa using hn) hm fun af hi hfn => callF hi (hs _ _ _ _ _ _ _ _ _ _ _ _ oxs (P.step S1 R1) e2 fun φ2 h2 t2 us S2 R2 r2 => ⟨R2.base, ?_⟩)
  exact hfn.call A E _ _ _ φ2 (.obj k :: vs) (.ref q.1 :: us) _ Q P.a R2 (by rw [Reps]; exact ⟨_, _, rfl, S2.rep r1', r2⟩) e (h.then (S1.trans R1 S2) R2 fun z => by cases z)
theorem s_new {k : Nat} (B : Base G prog w N h₀ K ga ba n) (M : NewOk prog w G N h₀ K ga ba n) : (EvOk G prog w N h₀ ga ba n) (.new k) := fun c env e ρ σ σ' v φ s A E Q ok P e h => by
  refine pkCallN_el (m := fun z => wpAny _ A (eval z env) Q E s) ok fun x p es p' k1 => and2E k1 fun k2 k3 => nil_el (m := fun z => wpAny _ A (eval (.Call (.Name x p) z [] p') env) Q E s) k2 (and2E k3 fun hf hk => ?_)
  rw [P.cx.P] at hf
  refine any_el hf fun q hq hf => ?_
  cases eq_of_beq hf
  obtain ⟨g, fI, hm, hkp, _⟩ := B.cl k q hq
  refine callName (es := []) rfl (g.name P.R.base P.cx.ga P.cx.ba P.F.fn (P.cx.sc ▸ hk) ?_)
  have X : K.In s.heap := B.X.keeps P.R.base
  refine callWith_of (P := fun h => K.In h) rfl (keeps_K hkp) (args_plain rfl ?_)
  exact spliced_nil ⟨X, M A E s σ σ' φ k v q Q P.a P.R hq e h⟩
end
end Mine
end

section
open PySem PySem.W PyProof.Rows PySem.Calls
set_option Elab.async false
set_option maxRecDepth 100000
namespace Mine
section
variable {N : Names} {prog : Program} {w : World} {h₀ h h' h₁ : Heap} {σ σ' σ₁ σ₂ : St} {φ φ' φ₁ φ₂ : Phi} {env : Env} {vars : List Str} {ρ : Rho} {A : Around} {E : Value → Shared → Prop} {s : Shared} {G : Sg} {K : Frag} {ga ba : Addr} {n : Nat} {c : Cx}


theorem not_ne : ∀ {t u : Bool}, ¬ t = u → (!u) = t
  | false, false, h => absurd rfl h
  | true, true, h => absurd rfl h
  | false, true, _ => rfl
  | true, false, _ => rfl
theorem evC_end {u t b : Bool} {σ1 : St} (e : (if t = u then evC G u ρ σ1 [] else some (!u, σ1)) = some (b, σ')) : b = t ∧ σ' = σ1 := by
  by_cases q : t = u
  · rw [if_pos q] at e; cases e; exact ⟨q.symm, rfl⟩
  · rw [if_neg q] at e; cases e; exact ⟨not_ne q, rfl⟩
theorem c_cons {x : X} {xs : List X} (hx : (EvOk G prog w N h₀ ga ba n) x) (hs : (EvCOk G prog w N h₀ ga ba n) xs) : (EvCOk G prog w N h₀ ga ba n) (x :: xs) := fun c env es pos u ρ σ σ' b φ s A E Q ok ne P e h => by
  refine okXs_cons (m := fun es => wpAny _ A (boolOp pos (if u then .And else .Or) (evalEach es env)) Q E s) ok fun e' r _ o1 o2 => ?_
  refine bind2 e fun v1 σ1 e1 e => ?_; refine bind1 e fun t e2 e4 => ?_
  dsimp only at e2 e4
  clear e
  have le : pureXs (x :: xs) = true → pureX x = true ∧ pureXs xs = true := fun z => and2 z
  cases xs with
  | nil =>
    refine okXs_nil (m := fun r => wpAny _ A (boolOp pos (if u then .And else .Or) (evalEach (e' :: r) env)) Q E s) o2 ?_
    refine boolOp1 (hx _ _ _ _ _ _ _ _ _ _ _ _ o1 P e1 fun φ1 h1 t1 u1 S1 R1 r1 => ?_)
    obtain ⟨rfl, rfl⟩ := bool_rep e2 r1
    obtain ⟨rfl, rfl⟩ := evC_end e4
    exact h φ1 h1 t1 _ (S1.of fun z => (le z).1) R1 r1
  | cons y ys =>
    have o2' := o2
    refine okXs_cons (m := fun r => okXs c (y :: ys) r = true → wpAny _ A (boolOp pos (if u then .And else .Or) (evalEach (e' :: r) env)) Q E s) o2 (fun e'' r _ _ _ o2 => ?_) o2'
    refine boolOp2 (hx _ _ _ _ _ _ _ _ _ _ _ _ o1 P e1 fun φ1 h1 t1 u1 S1 R1 r1 => ?_)
    obtain ⟨rfl, rfl⟩ := bool_rep e2 r1
    refine ⟨t, rfl, ?_⟩
    split
    · rename_i q
      rw [if_pos q] at e4
      exact hs _ _ _ _ _ _ _ _ _ _ _ _ _ _ o2 rfl (P.step S1 R1) e4 (h.then S1 R1 le)
    · rename_i q
      rw [if_neg q] at e4
      cases e4
      have : (!u) = t := not_ne q
      rw [this] at h
      exact h φ1 h1 t1 _ (S1.of fun z => (le z).1) R1 r1
theorem c_nil : (EvCOk G prog w N h₀ ga ba n) [] := fun c env es pos u ρ σ σ' b φ s A E Q ok ne P e h => by cases ne
theorem a_nil : (AllOk G prog w N h₀ ga ba n) [] := fun c env es u ρ σ σ' b φ s A E Q ok P e h => by
  refine okXs_nil (m := fun es => wpAny _ A (allTrue (if u then .And else .Or) es env) Q E s) ok ?_
  cases e
  exact allTrue_nil (h φ s.heap s.toks (.refl _ _ _) P.R)
theorem a_cons {x : X} {xs : List X} (hx : (TsOk G prog w N h₀ ga ba n) x) (hs : (AllOk G prog w N h₀ ga ba n) xs) : (AllOk G prog w N h₀ ga ba n) (x :: xs) := fun c env es u ρ σ σ' b φ s A E Q ok P e h => by
  refine okXs_cons (m := fun es => wpAny _ A (allTrue (if u then .And else .Or) es env) Q E s) ok fun e' r _ o1 o2 => ?_
  refine bind2 e fun v1 σ1 e1 e => ?_; refine bind1 e fun t e2 e4 => ?_
  dsimp only at e2 e4
  clear e
  have le : pureXs (x :: xs) = true → pureX x = true ∧ pureXs xs = true := fun z => and2 z
  refine allTrue_cons (hx _ _ _ _ _ _ _ _ _ _ _ _ _ o1 P e1 e2 fun φ1 h1 t1 S1 R1 => ?_)
  split
  · rename_i q
    rw [if_pos q] at e4
    exact hs _ _ _ _ _ _ _ _ _ _ _ _ _ o2 (P.step S1 R1) e4 (AftB.then h S1 R1 le)
  · rename_i q
    rw [if_neg q] at e4
    cases e4
    exact h φ1 h1 t1 (S1.of fun z => (le z).1) R1

noncomputable abbrev testF (env : Env) : Expr → Bool → Sem (ForInStep Bool) := fun c r => if r = true then do let ok ← isTrue c env (eval c env); pure (ForInStep.yield ok) else pure (ForInStep.yield r)
theorem for_false : ∀ (es : List Expr) {Q : Bool → Shared → Prop}, Q false s → wpAny (model prog w) A (forIn es false (testF env)) Q E s
  | [], _, h => by rw [List.forIn_nil]; exact wpAny_pure h
  | e :: r, _, h => by
    rw [List.forIn_cons]
    simp only [testF, Bool.false_eq_true, if_false, pure_bind]
    exact for_false r h
theorem f_nil : (ForOk G prog w N h₀ ga ba n) [] := fun c env es ρ σ σ' b φ s A E Q ok P e h => by
  refine okXs_nil (m := fun es => wpAny _ A (testsOf es env) Q E s) ok ?_
  cases e
  show wpAny _ _ (forIn [] true _) _ _ _
  rw [List.forIn_nil]
  exact wpAny_pure (h φ s.heap s.toks (.refl _ _ _) P.R)
theorem f_cons {x : X} {xs : List X} (hx : (TsOk G prog w N h₀ ga ba n) x) (hs : (ForOk G prog w N h₀ ga ba n) xs) : (ForOk G prog w N h₀ ga ba n) (x :: xs) := fun c env es ρ σ σ' b φ s A E Q ok P e h => by
  refine okXs_cons (m := fun es => wpAny _ A (testsOf es env) Q E s) ok fun e' r _ o1 o2 => ?_
  refine bind2 e fun v1 σ1 e1 e => ?_; refine bind1 e fun t e2 e4 => ?_
  dsimp only at e2 e4
  clear e
  have le : pureXs (x :: xs) = true → pureX x = true ∧ pureXs xs = true := fun z => and2 z
  show wpAny _ _ (forIn (e' :: r) true (testF env)) _ _ _
  rw [List.forIn_cons]
  simp only [testF, if_true, bind_assoc, pure_bind]
  refine wpAny_bind (hx _ _ _ _ _ _ _ _ _ _ _ _ _ o1 P e1 e2 fun φ1 h1 t1 S1 R1 => ?_)
  cases t with
  | true => exact hs _ _ _ _ _ _ _ _ _ _ _ _ o2 (P.step S1 R1) e4 (AftB.then h S1 R1 le)
  | false =>
    cases e4
    exact for_false r (h φ1 h1 t1 (S1.of fun z => (le z).1) R1)

theorem s_conj {xs : List X} (hs : (EvCOk G prog w N h₀ ga ba n) xs) : (EvOk G prog w N h₀ ga ba n) (.conj xs) := fun c env e ρ σ σ' v φ s A E Q ok P e h => by
  refine pkBoolOp_el (m := fun z => wpAny _ A (eval z env) Q E s) ok fun x es p okk => and3E okk fun o1 ne oa => eqE (m := fun z => wpAny _ A (eval (.BoolOp z es p) env) Q E s) o1 ?_
  refine mapA2 e h fun b σ1 e1 h => ?_
  rw [arm_eval_BoolOp]
  exact hs _ _ _ _ true _ _ _ _ _ _ _ _ _ oa (not_of_b ne) P e1 h
theorem s_disj {xs : List X} (hs : (EvCOk G prog w N h₀ ga ba n) xs) : (EvOk G prog w N h₀ ga ba n) (.disj xs) := fun c env e ρ σ σ' v φ s A E Q ok P e h => by
  refine pkBoolOp_el (m := fun z => wpAny _ A (eval z env) Q E s) ok fun x es p okk => and3E okk fun o1 ne oa => eqE (m := fun z => wpAny _ A (eval (.BoolOp z es p) env) Q E s) o1 ?_
  refine mapA2 e h fun b σ1 e1 h => ?_
  rw [arm_eval_BoolOp]
  exact hs _ _ _ _ false _ _ _ _ _ _ _ _ _ oa (not_of_b ne) P e1 h
theorem t_conj {xs : List X} (hs : (AllOk G prog w N h₀ ga ba n) xs) : (TsOk G prog w N h₀ ga ba n) (.conj xs) := fun c env e ρ σ σ' v b φ s A E Q ok P e eb h => by
  refine pkBoolOp_el (m := fun z => wpAny _ A (isTrue z env (eval z env)) Q E s) ok fun x es p okk => and3E okk fun o1 ne oa => eqE (m := fun z => wpAny _ A (isTrue (.BoolOp z es p) env (eval (.BoolOp z es p) env)) Q E s) o1 ?_
  obtain ⟨⟨b, σ1⟩, e1, e⟩ := map_some e; cases e
  cases eb
  exact wpAny_isTrue_BoolOp (hs _ _ _ true _ _ _ _ _ _ _ _ _ oa P e1 h)
theorem t_disj {xs : List X} (hs : (AllOk G prog w N h₀ ga ba n) xs) : (TsOk G prog w N h₀ ga ba n) (.disj xs) := fun c env e ρ σ σ' v b φ s A E Q ok P e eb h => by
  refine pkBoolOp_el (m := fun z => wpAny _ A (isTrue z env (eval z env)) Q E s) ok fun x es p okk => and3E okk fun o1 ne oa => eqE (m := fun z => wpAny _ A (isTrue (.BoolOp z es p) env (eval (.BoolOp z es p) env)) Q E s) o1 ?_
  obtain ⟨⟨b, σ1⟩, e1, e⟩ := map_some e; cases e
  cases eb
  exact wpAny_isTrue_BoolOp (hs _ _ _ false _ _ _ _ _ _ _ _ _ oa P e1 h)

theorem parts_of {x : X} {cs : List X} {sc : Scope} {elt : Expr} {ifs : List Expr} {setv : V → Rho} {env : Env} (hx : (EvOk G prog w N h₀ ga ba n) x) (hc : (ForOk G prog w N h₀ ga ba n) cs) (px : pureX x = true) (pc : pureXs cs = true) (cx : Cxt G c env ga ba) (ha : AOk n A)
    (ox : okX ⟨relS sc c.sc, c.vars, c.P⟩ x elt = true) (oc : okXs ⟨relS sc c.sc, c.vars, c.P⟩ cs ifs = true) :
    Parts prog w N h₀ A σ env c.vars sc elt ifs setv (fun i => (evC G true (setv i) σ cs).map (·.1)) (fun i => (ev G (setv i) σ x).map (·.1)) where
  test := fun φ C i t s' Q' E' e R F h => by
    obtain ⟨⟨b, σ1⟩, e1, e⟩ := map_some e; cases e
    have := pure_stC pc e1; subst this
    refine hc ⟨relS sc c.sc, c.vars, c.P⟩ _ ifs _ _ _ _ _ _ _ _ _ oc ⟨⟨cx.P, by rw [comp_scope, cx.sc], cx.ga, cx.ba, cx.nd, cx.dot⟩, ha, R, F⟩ e1 fun φ1 h1 t1 S1 R1 => ?_
    obtain ⟨rfl, x⟩ := S1.pu pc
    exact h h1 t1 x
  elt := fun φ C i y s' Q' E' e R F h => by
    obtain ⟨⟨v, σ1⟩, e1, e⟩ := map_some e; cases e
    have := pure_st px e1; subst this
    refine hx ⟨relS sc c.sc, c.vars, c.P⟩ _ elt _ _ _ _ _ _ _ _ _ ox ⟨⟨cx.P, by rw [comp_scope, cx.sc], cx.ga, cx.ba, cx.nd, cx.dot⟩, ha, R, F⟩ e1 fun φ1 h1 t1 u1 S1 R1 r1 => ?_
    obtain ⟨rfl, x⟩ := S1.pu px
    exact h h1 t1 u1 x r1

theorem noFold_of {e : Expr} (h : noFold e = true) (x : Value) : foldedSetIterable e env x = pure x := by
  cases e <;> first | rfl | cases h

theorem scOk_names {sc outer : Scope} {ow : List Str} (so : ScOk sc outer ow) : ∀ y ∈ sc.names, y.2 = .local → sc.names.lookup y.1 = some .local := fun y hy e => by
  have := (so.kinds y.1 y.2 hy).2.2.2
  rw [e] at this; exact this
theorem scOk_clos {sc : Scope} {ow : List Str} {ρ : Rho} (so : ScOk sc env.scope ow) (F : Fra w h₀ φ env vars ρ h) : closureFor sc env = pure (closL env sc.names []) :=
  closureFor_eq fun n m => F.has n ((so.kinds n _ m).2.2.1 rfl)

/-- a comprehension, whatever its value is for -/
noncomputable def CmOk (G : Sg) (prog : Program) (w : World) (N : Names) (h₀ : Heap) (ga ba : Addr) (n : Nat) (x : X) : Prop := ∀ (c : Cx) (env : Env) (elt : Expr) (gens : List Comprehension) (sc : Scope) (pos : Pos) (use : Option (Value → Sem Unit)) (ρ : Rho) (σ σ' : St) (l : List V) (φ : Phi) (s : Shared) (A : Around) (E : Value → Shared → Prop) (Q : Value → Shared → Prop),
  okX c x (.ListComp elt gens sc pos) = true → Pre G N w h₀ ga ba n c env A ρ σ φ s → ev G ρ σ x = some (.list l, σ') →
  (∀ φ1 D C h' tk m', Stp (pureX x) φ s.heap φ1 h' → Rel N w h₀ σ' φ1 h' → Rep w φ1 h' (.list l) (.ref D) → D ≠ C → C ∉ own env → C ∉ muts φ1 → s.heap.get? C = none → h₀.get? C = none → h'.Ns C m' → Fra w h₀ φ1 env c.vars ρ h' → compPost (model prog w) A E use Q (.ref D) C (.ok .next) { s with heap := h', toks := tk }) →
  wpAny (model prog w) A (comprehension (.ListComp elt gens sc pos) sc env (firstIterPos gens pos) (newList []) (firstAsync gens) (firstIter gens env) use) Q E s

/-- a comprehension's list stands: what is left to tell -/
theorem cm_end {x it : X} {use : Option (Value → Sem Unit)} {D C : Addr} {m' : Str → Option Value} {l : List V} {tk : Tok} {Q : Value → Shared → Prop} (S1 : Stp (pureX it) φ s.heap φ₁ h₁) (R1 : Rel N w h₀ σ' φ₁ h₁) (pu : pureX x = true → pureX it = true) (F : Fra w h₀ φ env vars ρ s.heap)
    (h : ∀ φ1 D C h' tk m', Stp (pureX x) φ s.heap φ1 h' → Rel N w h₀ σ' φ1 h' → Rep w φ1 h' (.list l) (.ref D) → D ≠ C → C ∉ own env → C ∉ muts φ1 → s.heap.get? C = none → h₀.get? C = none → h'.Ns C m' → Fra w h₀ φ1 env vars ρ h' → compPost (model prog w) A E use Q (.ref D) C (.ok .next) { s with heap := h', toks := tk })
    (nC : h₁.get? C = none) (hDC : D ≠ C) (hn : h'.Ns C m') (xx : Ext h₁ h') (r : Rep w φ₁ h' (.list l) (.ref D)) : compPost (model prog w) A E use Q (.ref D) C (.ok .next) { s with heap := h', toks := tk } := by
  have S' : Stp (pureX x) φ s.heap φ₁ h' := ⟨S1.grow, S1.keep.trans0 S1.grow xx.keep, fun e => let ⟨a, b⟩ := S1.pu (pu e); ⟨a, b.trans xx⟩⟩
  have nM := not_muts R1 nC
  refine h φ₁ D C h' tk m' S' (R1.ext xx) r hDC (fun m => ?_) nM ?_ (not_base R1 nC) hn (S'.fra F)
  · obtain ⟨o, e⟩ := (S1.fra F).own_some C m
    rw [nC] at e; cases e
  · cases e : s.heap.get? C with
    | none => rfl
    | some o => have := S1.keep _ _ e (fun q => nM (S1.grow.mem q)) List.not_mem_nil; rw [nC] at this; cases this
theorem cm_comp {x it : X} {v : Nat} {cs : List X} (hx : (EvOk G prog w N h₀ ga ba n) x) (hi : (EvOk G prog w N h₀ ga ba n) it) (hc : (ForOk G prog w N h₀ ga ba n) cs) : CmOk G prog w N h₀ ga ba n (.comp x v it cs) := fun c env elt gens sc pos use ρ σ σ' l φ s A E Q ok P e h => by
  refine pkGen_el (m := fun z => wpAny (model prog w) A (comprehension (.ListComp elt z sc pos) sc env (firstIterPos z pos) (newList []) (firstAsync z) (firstIter z env) use) Q E s) (pkListComp_at ok) fun t i fs k1 => pkName_el (m := fun z => wpAny (model prog w) A (comprehension (.ListComp elt [⟨z, i, fs, 0⟩] sc pos) sc env (firstIterPos [⟨z, i, fs, 0⟩] pos) (newList []) (firstAsync [⟨z, i, fs, 0⟩]) (firstIter [⟨z, i, fs, 0⟩] env) use) Q E s) k1 fun nm p k1 => ?_
  refine and3E k1 fun k1 ox oc => and3E k1 fun k1 pc oi => and3E k1 fun k1 hnf px => and2E k1 fun hv hsc => ?_
  have hv := eq_of_beq hv
  refine bind2 e fun v1 σ1 e1 e => ?_; refine bind1 e fun its e2 e => ?_; refine map1 e fun l' e3 e => ?_
  cases e
  have so : ScOk sc env.scope [nm] := by rw [P.cx.sc]; exact scOk_of hsc
  refine wpAny_comprehension_free rfl (noFold_of hnf) (scOk_clos so P.F) so.fn (scOk_names so) (hi _ _ _ _ _ _ _ _ _ _ _ _ oi P e1 fun φ1 h1 t1 u1 S1 R1 r1 => src_of P.a.1 e2 r1 fun I h₂ fp Pp St S => ?_)
  refine comp_core (s := { s with heap := h1, toks := t1 }) so R1 (parts_of (setv := fun x => ρ.set v (some x)) hx hc px pc P.cx P.a ox oc) (tk_name so hv P.cx.nd P.cx.dot (S1.fra P.F) S) e3 lp_name fun D C h' tk m' nC _ hDC hn xx r => ?_
  exact cm_end (s := s) (x := .comp x v it cs) S1 R1 (fun z => (and3 z).1.2) P.F h nC hDC hn xx r

theorem s_cm {x : X} (hx : CmOk G prog w N h₀ ga ba n x) (hf : ∀ c e, okX c x e = true → ∃ kf, pkListComp e kf = true) (hl : ∀ ρ σ v σ', ev G ρ σ x = some (v, σ') → ∃ l, v = .list l) : (EvOk G prog w N h₀ ga ba n) x := fun c env e ρ σ σ' v φ s A E Q ok P e1 h => by
  obtain ⟨kf, hk⟩ := hf c e ok
  refine pkListComp_el (m := fun z => okX c x z = true → wpAny _ A (eval z env) Q E s) hk (fun elt gens sc pos _ ok => ?_) ok
  obtain ⟨l, rfl⟩ := hl _ _ _ _ e1
  rw [eval_ListComp]
  refine hx _ _ _ _ _ _ _ _ _ _ _ _ _ _ _ _ ok P e1 fun φ1 D C h' tk m' S R r hDC nown nmut noC nC hn F => ⟨m', hn, fun h'' hs => ?_⟩
  have O : Own h' [C] := fun b hb => by
    obtain ⟨o, es, ep, e, d, _⟩ := hn
    rw [List.mem_singleton.mp hb]; exact ⟨o, e, .inl ⟨es, ep, d⟩⟩
  have K : Keep φ1 [C] h' h'' := fun b o e _ nb => hs.extBut b o (fun q => nb (List.mem_singleton.mpr q)) e
  refine h φ1 h'' tk _ ⟨S.grow, fun b o e nm _ => ?_, fun z => ?_⟩ (R.own K O (fun b hb => by rw [List.mem_singleton.mp hb]; exact nC) fun m hm => hs.2 m fun q => nmut (q ▸ hm)) (r.mono (.refl _ _) K O)
  · exact hs.extBut b o (fun q => by rw [q, noC] at e; cases e) (S.keep b o e nm List.not_mem_nil)
  · obtain ⟨a, x⟩ := S.pu z
    exact ⟨a, fun b o e => hs.extBut b o (fun q => by rw [q, noC] at e; cases e) (x b o e)⟩
theorem s_comp {x it : X} {v : Nat} {cs : List X} (hx : CmOk G prog w N h₀ ga ba n (.comp x v it cs)) : (EvOk G prog w N h₀ ga ba n) (.comp x v it cs) :=
  s_cm hx (fun c e ok => ⟨_, ok⟩) fun ρ σ v' σ' e => bind1 e fun _ _ e => bind1 e fun _ _ e => map1 e fun l _ e => ⟨l, (congrArg Prod.fst e).symm⟩
theorem s_enum {x it : X} {i j : Nat} {cs : List X} (hx : CmOk G prog w N h₀ ga ba n (.enum x i j it cs)) : (EvOk G prog w N h₀ ga ba n) (.enum x i j it cs) :=
  s_cm hx (fun c e ok => ⟨_, ok⟩) fun ρ σ v' σ' e => bind1 e fun _ _ e => bind1 e fun _ _ e => map1 e fun l _ e => ⟨l, (congrArg Prod.fst e).symm⟩
end
end Mine
end

section
open PySem PySem.W PyProof.Rows PySem.Calls
set_option Elab.async false
set_option maxRecDepth 100000
namespace Mine
section
variable {N : Names} {prog : Program} {w : World} {h₀ : Heap} {G : Sg} {K : Frag} {ga ba : Addr} {n : Nat}


/-- what is told of the longer steps elsewhere -/
structure Long (G : Sg) (prog : Program) (w : World) (N : Names) (h₀ : Heap) (K : Frag) (ga ba : Addr) (n : Nat) : Prop where
  mkset : MkSet prog w
  new : NewOk prog w G N h₀ K ga ba n
  enum : ∀ (x : X) (i j : Nat) (it : X) (cs : List X), EvOk G prog w N h₀ ga ba n x → EvOk G prog w N h₀ ga ba n it → ForOk G prog w N h₀ ga ba n cs → CmOk G prog w N h₀ ga ba n (.enum x i j it cs)

theorem v_non {c : Cx} {e : Expr} (h : okX c (.non ) e = true) : plainK e.ctorIdx = true := pkConst_el (m := fun z => plainK z.ctorIdx = true) h fun _ _ _ _ => rfl
theorem v_bool {c : Cx} {e : Expr} {b : Bool} (h : okX c (.bool b) e = true) : plainK e.ctorIdx = true := pkConst_el (m := fun z => plainK z.ctorIdx = true) h fun _ _ _ _ => rfl
theorem v_int {c : Cx} {e : Expr} {i : Int} (h : okX c (.int i) e = true) : plainK e.ctorIdx = true := pkConst_el (m := fun z => plainK z.ctorIdx = true) h fun _ _ _ _ => rfl
theorem v_str {c : Cx} {e : Expr} {l : List Nat} (h : okX c (.str l) e = true) : plainK e.ctorIdx = true := pkConst_el (m := fun z => plainK z.ctorIdx = true) h fun _ _ _ _ => rfl
theorem v_loc {c : Cx} {e : Expr} {i : Nat} (h : okX c (.loc i) e = true) : plainK e.ctorIdx = true := pkName_el (m := fun z => plainK z.ctorIdx = true) h fun _ _ _ => rfl
theorem v_glob {c : Cx} {e : Expr} {i : Nat} (h : okX c (.glob i) e = true) : plainK e.ctorIdx = true := pkName_el (m := fun z => plainK z.ctorIdx = true) h fun _ _ _ => rfl
theorem v_bin {c : Cx} {e : Expr} {o : Bop} {a : X} {b : X} (h : okX c (.bin o a b) e = true) : plainK e.ctorIdx = true := pkBinOp_el (m := fun z => plainK z.ctorIdx = true) h fun _ _ _ _ _ => rfl
theorem v_idx {c : Cx} {e : Expr} {a : X} {b : X} (h : okX c (.idx a b) e = true) : plainK e.ctorIdx = true := pkSubscript_el (m := fun z => plainK z.ctorIdx = true) h fun _ _ _ _ => rfl
theorem v_slc {c : Cx} {e : Expr} {a : X} {b : X} {d : X} (h : okX c (.slc a b d) e = true) : plainK e.ctorIdx = true := pkSubscript_el (m := fun z => plainK z.ctorIdx = true) h fun _ _ _ _ => rfl
theorem v_lst {c : Cx} {e : Expr} {xs : List X} (h : okX c (.lst xs) e = true) : plainK e.ctorIdx = true := pkList_el (m := fun z => plainK z.ctorIdx = true) h fun _ _ _ => rfl
theorem v_tup {c : Cx} {e : Expr} {xs : List X} (h : okX c (.tup xs) e = true) : plainK e.ctorIdx = true := pkTuple_el (m := fun z => plainK z.ctorIdx = true) h fun _ _ _ _ => rfl
theorem v_attr {c : Cx} {e : Expr} {a : X} {n : Nat} (h : okX c (.attr a n) e = true) : plainK e.ctorIdx = true := pkAttribute_el (m := fun z => plainK z.ctorIdx = true) h fun _ _ _ _ => rfl
theorem v_cat {c : Cx} {e : Expr} {k : Nat} (h : okX c (.cat k) e = true) : plainK e.ctorIdx = true := pkAttribute_el (m := fun z => plainK z.ctorIdx = true) h fun _ _ _ _ => rfl
theorem v_bi {c : Cx} {e : Expr} {b : Bi} {xs : List X} (h : okX c (.bi b xs) e = true) : plainK e.ctorIdx = true := pkCallN_el (m := fun z => plainK z.ctorIdx = true) h fun _ _ _ _ _ => rfl
theorem v_rng {c : Cx} {e : Expr} {xs : List X} (h : okX c (.rng xs) e = true) : plainK e.ctorIdx = true := pkCallN_el (m := fun z => plainK z.ctorIdx = true) h fun _ _ _ _ _ => rfl
theorem v_mkset {c : Cx} {e : Expr} {a : X} (h : okX c (.mkset a) e = true) : plainK e.ctorIdx = true := pkCallN_el (m := fun z => plainK z.ctorIdx = true) h fun _ _ _ _ _ => rfl
theorem v_sm {c : Cx} {e : Expr} {m : Sm} {a : X} {b : X} (h : okX c (.sm m a b) e = true) : plainK e.ctorIdx = true := pkCallA_el (m := fun z => plainK z.ctorIdx = true) h fun _ _ _ _ _ _ => rfl
theorem v_call {c : Cx} {e : Expr} {f : Nat} {xs : List X} (h : okX c (.call f xs) e = true) : plainK e.ctorIdx = true := pkCallN_el (m := fun z => plainK z.ctorIdx = true) h fun _ _ _ _ _ => rfl
theorem v_scall {c : Cx} {e : Expr} {f : Nat} {xs : List X} (h : okX c (.scall f xs) e = true) : plainK e.ctorIdx = true := pkCallN_el (m := fun z => plainK z.ctorIdx = true) h fun _ _ _ _ _ => rfl
theorem v_meth {c : Cx} {e : Expr} {a : X} {m : Nat} {xs : List X} (h : okX c (.meth a m xs) e = true) : plainK e.ctorIdx = true := pkCallA_el (m := fun z => plainK z.ctorIdx = true) h fun _ _ _ _ _ _ => rfl
theorem v_new {c : Cx} {e : Expr} {k : Nat} (h : okX c (.new k) e = true) : plainK e.ctorIdx = true := pkCallN_el (m := fun z => plainK z.ctorIdx = true) h fun _ _ _ _ _ => rfl
theorem v_comp {c : Cx} {e : Expr} {x : X} {v : Nat} {it : X} {cs : List X} (h : okX c (.comp x v it cs) e = true) : plainK e.ctorIdx = true := pkListComp_el (m := fun z => plainK z.ctorIdx = true) h fun _ _ _ _ _ => rfl
theorem v_enum {c : Cx} {e : Expr} {x : X} {i : Nat} {j : Nat} {it : X} {cs : List X} (h : okX c (.enum x i j it cs) e = true) : plainK e.ctorIdx = true := pkListComp_el (m := fun z => plainK z.ctorIdx = true) h fun _ _ _ _ _ => rfl
theorem t_neg {a : X} (ha : (EvOk G prog w N h₀ ga ba n) a) : (TsOk G prog w N h₀ ga ba n) (.neg a) := fun c env e ρ σ σ' v b φ s A E Q ok P e1 eb h =>
  wpAny_isTrue_value (s_neg ha _ _ _ _ _ _ _ _ _ _ _ _ ok P e1 fun φ' h' tk u S R r => truthy_of eb r (h φ' h' tk S R))
    (pkUnaryOp_el (m := fun e => isTrue e env (eval e env) = (do let v ← eval e env; standAt e.pos; holding [v] (truthy v))) ok fun op x p okk => and2E okk fun o1 _ => eqE (m := fun op => isTrue (.UnaryOp op x p) env (eval (.UnaryOp op x p) env) = (do let v ← eval (.UnaryOp op x p) env; standAt p; holding [v] (truthy v))) o1 rfl)
mutual
theorem sound (B : Base G prog w N h₀ K ga ba n) (L : Long G prog w N h₀ K ga ba n) : ∀ x : X, (EvOk G prog w N h₀ ga ba n) x ∧ (TsOk G prog w N h₀ ga ba n) x
  | .non => ⟨s_non, t_of s_non fun _ _ => v_non⟩
  | .bool _ => ⟨s_bool, t_of s_bool fun _ _ => v_bool⟩
  | .int _ => ⟨s_int, t_of s_int fun _ _ => v_int⟩
  | .str _ => ⟨s_str, t_of s_str fun _ _ => v_str⟩
  | .loc _ => ⟨s_loc, t_of s_loc fun _ _ => v_loc⟩
  | .glob _ => ⟨s_glob B, t_of (s_glob B) fun _ _ => v_glob⟩
  | .bin o a b => have h := s_bin (o := o) (sound B L a).1 (sound B L b).1; ⟨h, t_of h fun _ _ => v_bin⟩
  | .cmp o a b => ⟨s_cmp (sound B L a).1 (sound B L b).1, t_cmp (sound B L a).1 (sound B L b).1⟩
  | .conj xs => ⟨s_conj (sounds B L xs).2.1, t_conj (sounds B L xs).2.2.1⟩
  | .disj xs => ⟨s_disj (sounds B L xs).2.1, t_disj (sounds B L xs).2.2.1⟩
  | .not a => ⟨s_not (sound B L a).1, t_not (sound B L a).2⟩
  | .neg a => ⟨s_neg (sound B L a).1, t_neg (sound B L a).1⟩
  | .ife a b d => ⟨s_ife (sound B L a).2 (sound B L b).1 (sound B L d).1, t_ife (sound B L a).2 (sound B L b).2 (sound B L d).2⟩
  | .idx a b => have h := s_idx (sound B L a).1 (sound B L b).1; ⟨h, t_of h fun _ _ => v_idx⟩
  | .slc a b d => have h := s_slc (sound B L a).1 (sound B L b).1 (sound B L d).1; ⟨h, t_of h fun _ _ => v_slc⟩
  | .lst xs => have h := s_lst (sounds B L xs).1; ⟨h, t_of h fun _ _ => v_lst⟩
  | .tup xs => have h := s_tup (sounds B L xs).1; ⟨h, t_of h fun _ _ => v_tup⟩
  | .attr a m => have h := s_attr (m := m) B (sound B L a).1; ⟨h, t_of h fun _ _ => v_attr⟩
  | .cat k => ⟨s_cat B, t_of (s_cat B) fun _ _ => v_cat⟩
  | .bi b xs => have h := s_bi (b := b) B (sounds B L xs).1; ⟨h, t_of h fun _ _ => v_bi⟩
  | .rng xs => have h := s_rng B (sounds B L xs).1; ⟨h, t_of h fun _ _ => v_rng⟩
  | .mkset a => have h := s_mkset B L.mkset (sound B L a).1; ⟨h, t_of h fun _ _ => v_mkset⟩
  | .sm m a b => have h := s_sm (m := m) (sound B L a).1 (sound B L b).1; ⟨h, t_of h fun _ _ => v_sm⟩
  | .call f xs => have h := s_call (f := f) B (sounds B L xs).1; ⟨h, t_of h fun _ _ => v_call⟩
  | .scall f xs => have h := s_scall (f := f) B (sounds B L xs).1; ⟨h, t_of h fun _ _ => v_scall⟩
  | .meth a m xs => have h := s_meth (m := m) B (sound B L a).1 (sounds B L xs).1; ⟨h, t_of h fun _ _ => v_meth⟩
  | .new k => have h := s_new (k := k) B L.new; ⟨h, t_of h fun _ _ => v_new⟩
  | .comp x v it cs => have h := s_comp (cm_comp (v := v) (sound B L x).1 (sound B L it).1 (sounds B L cs).2.2.2); ⟨h, t_of h fun _ _ => v_comp⟩
  | .enum x i j it cs => have h := s_enum (L.enum x i j it cs (sound B L x).1 (sound B L it).1 (sounds B L cs).2.2.2); ⟨h, t_of h fun _ _ => v_enum⟩
theorem sounds (B : Base G prog w N h₀ K ga ba n) (L : Long G prog w N h₀ K ga ba n) : ∀ xs : List X, (EvsOk G prog w N h₀ ga ba n) xs ∧ (EvCOk G prog w N h₀ ga ba n) xs ∧ (AllOk G prog w N h₀ ga ba n) xs ∧ (ForOk G prog w N h₀ ga ba n) xs
  | [] => ⟨s_nil, c_nil, a_nil, f_nil⟩
  | x :: xs => ⟨s_cons (sound B L x).1 (sounds B L xs).1, c_cons (sound B L x).1 (sounds B L xs).2.1, a_cons (sound B L x).2 (sounds B L xs).2.2.1, f_cons (sound B L x).2 (sounds B L xs).2.2.2⟩
end
noncomputable def isCompX (x : X) : Bool := x.ctorIdx == 27 || x.ctorIdx == 28
theorem isCompX_el {x : X} {m : X → Prop} (h : isCompX x = true) (k1 : ∀ a v it cs, m (.comp a v it cs)) (k2 : ∀ a i j it cs, m (.enum a i j it cs)) : m x := by
  cases e : x.ctorIdx == 27 with
  | true => exact X.comp.elim (motive_1 := m) x (eq_of_beq e) k1
  | false => rw [isCompX, e, Bool.false_or] at h; exact X.enum.elim (motive_1 := m) x (eq_of_beq h) k2
theorem cm_sound (B : Base G prog w N h₀ K ga ba n) (L : Long G prog w N h₀ K ga ba n) {x : X} (h : isCompX x = true) : CmOk G prog w N h₀ ga ba n x := by
  exact isCompX_el (m := fun x => CmOk G prog w N h₀ ga ba n x) h (fun _ _ _ _ => cm_comp (sound B L _).1 (sound B L _).1 (sounds B L _).2.2.2)
    fun _ _ _ _ _ => L.enum _ _ _ _ _ (sound B L _).1 (sound B L _).1 (sounds B L _).2.2.2
end
end Mine
end

section
open PySem PySem.W PyProof.Rows PySem.Calls
set_option Elab.async false
set_option maxRecDepth 100000
namespace Mine

inductive Aop where | add | sub
deriving DecidableEq
noncomputable def Aop.py : Aop → Operator
  | .add => .Add | .sub => .Sub
noncomputable def Aop.run (o : Aop) (x y : V) : Option V := int2 x y fun a b => some (.int (match o with | .add => a + b | .sub => a - b))

/-- statements -/
inductive S where
  | expr (x : X)
  | set (i : Nat) (x : X)
  | setT (is : List Nat) (rev : Bool) (x : X)
  | setA (o : X) (a : Nat) (x : X)
  | augA (o : X) (a : Nat) (op : Aop) (x : X)
  | ite (c : X) (a b : List S)
  | whl (c : X) (b : List S)
  | for1 (i : Nat) (x : X) (b : List S)
  | forT (is : List Nat) (x : X) (b : List S)
  | ret (x : X)

inductive Out where | next | ret (v : V)

noncomputable abbrev Res := Option (Out × Rho × St)

noncomputable def notG : V → Bool
  | .g _ => false
  | _ => true
noncomputable def putA (P : Pg) (σ : St) (o : V) (a : Nat) (v : V) : Option St :=
  match o with
  | .obj k => match σ[k]? with
    | some (.inst c fs) => if P.cs.contains c && P.ats.contains a && notG v && decide (fs.length < 100) then some (σ.set k (.inst c (setF fs a v))) else none
    | _ => none
  | _ => none

noncomputable def loopW (cond : Rho → St → Option (Bool × St)) (body : Rho → St → Res) : Nat → Rho → St → Res
  | 0, _, _ => none
  | n + 1, ρ, σ => (cond ρ σ).bind fun p => if p.1 then (body ρ p.2).bind fun r => match r.1 with
      | .next => loopW cond body n r.2.1 r.2.2
      | .ret v => some (.ret v, r.2)
    else some (.next, ρ, p.2)
noncomputable def loopF (set : V → Rho → Option Rho) (body : Rho → St → Res) : List V → Rho → St → Res
  | [], ρ, σ => some (.next, ρ, σ)
  | v :: vs, ρ, σ => (set v ρ).bind fun ρ' => (body ρ' σ).bind fun r => match r.1 with
      | .next => loopF set body vs r.2.1 r.2.2
      | .ret v => some (.ret v, r.2)
noncomputable def setAll : List Nat → List V → Rho → Option Rho
  | [], vs, ρ => match vs with | [] => some ρ | _ :: _ => none
  | i :: is, vs, ρ => match vs with | v :: vs => setAll is vs (ρ.set i (some v)) | [] => none
noncomputable def setTup (is : List Nat) (rev : Bool) (v : V) (ρ : Rho) : Option Rho :=
  match v with
  | .tup vs => if rev then setAll is.reverse vs.reverse ρ else setAll is vs ρ
  | _ => none

mutual
noncomputable def exS (G : Sg) (n : Nat) : S → Rho → St → Res
  | .expr x, ρ, σ => (ev G ρ σ x).map fun p => (.next, ρ, p.2)
  | .set i x, ρ, σ => (ev G ρ σ x).map fun p => (.next, ρ.set i (some p.1), p.2)
  | .setT is rev x, ρ, σ => (ev G ρ σ x).bind fun p => (setTup is rev p.1 ρ).map fun ρ' => (.next, ρ', p.2)
  | .setA o a x, ρ, σ => (ev G ρ σ x).bind fun p => (ev G ρ p.2 o).bind fun q => (putA G.P q.2 q.1 a p.1).map fun σ' => (.next, ρ, σ')
  | .augA o a op x, ρ, σ => (ev G ρ σ o).bind fun q => (attrV G.P q.2 q.1 a).bind fun old => (ev G ρ q.2 x).bind fun p => (op.run old p.1).bind fun v => (putA G.P p.2 q.1 a v).map fun σ' => (.next, ρ, σ')
  | .ite c a b, ρ, σ => (ev G ρ σ c).bind fun p => (boolOf p.1).bind fun t => if t then exB G n a ρ p.2 else exB G n b ρ p.2
  | .whl c b, ρ, σ => loopW (fun ρ σ => (ev G ρ σ c).bind fun p => (boolOf p.1).map (·, p.2)) (fun ρ σ => exB G n b ρ σ) n ρ σ
  | .for1 i x b, ρ, σ => (ev G ρ σ x).bind fun p => (iterV p.1).bind fun its => loopF (fun v ρ => some (ρ.set i (some v))) (fun ρ σ => exB G n b ρ σ) its ρ p.2
  | .forT is x b, ρ, σ => (ev G ρ σ x).bind fun p => (asList p.1).bind fun its => loopF (fun v ρ => setTup is false v ρ) (fun ρ σ => exB G n b ρ σ) its ρ p.2
  | .ret x, ρ, σ => (ev G ρ σ x).map fun p => (.ret p.1, ρ, p.2)
noncomputable def exB (G : Sg) (n : Nat) : List S → Rho → St → Res
  | [], ρ, σ => some (.next, ρ, σ)
  | t :: r, ρ, σ => (exS G n t ρ σ).bind fun p => match p.1 with
      | .next => exB G n r p.2.1 p.2.2
      | .ret v => some (.ret v, p.2)
end

mutual
noncomputable def pureS : S → Bool
  | .expr x | .set _ x | .setT _ _ x | .ret x => pureX x
  | .setA _ _ _ | .augA _ _ _ _ => false
  | .ite c a b => pureX c && pureB a && pureB b
  | .whl c b => pureX c && pureB b
  | .for1 _ x b | .forT _ x b => pureX x && pureB b
noncomputable def pureB : List S → Bool
  | [] => true
  | t :: r => pureS t && pureB r
end

noncomputable def okV (c : Cx) (i : Nat) (n : Str) : Bool := c.vars[i]? == some n && varOk c.sc n
noncomputable def namesOf : List Expr → (List Str → Bool) → Bool
  | [], f => f []
  | t :: r, f => pkName t fun n => namesOf r fun ns => f (n :: ns)
noncomputable def okVs (c : Cx) : List Nat → List Str → Bool
  | [], ns => ns.isEmpty
  | i :: is, ns => match ns with | n :: ns => okV c i n && okVs c is ns | [] => false
noncomputable def notComp (e : Expr) : Bool := !(e.ctorIdx == 8) && !(e.ctorIdx == 9) && !(e.ctorIdx == 10)
end Mine
end

section
open PySem PySem.W PyProof.Rows PySem.Calls
set_option Elab.async false
set_option maxRecDepth 100000
namespace Mine

noncomputable def swNames (ts : List Expr) (sc : Scope) : List Str :=
  ts.filterMap fun
    | .Name id pos => if sc.names.lookup id == some .local && pos.line == (ts.head?.map (·.pos.line)).getD 0 then some id else none
    | _ => none
noncomputable def swT (ts vs : List Expr) (sc : Scope) : Option (Option (List Str)) :=
  if !(ts.length == 2 || ts.length == 3) || vs.length != ts.length then some none
  else if vs.any (fun | .Starred .. => true | _ => false) then some none
  else if (swNames ts sc).length != ts.length || (swNames ts sc).eraseDups.length != (swNames ts sc).length then some none
  else if vs.all (foldedForSure 8) then some none
  else if vs.all (constantsAlone 8) then none
  else some (some (swNames ts sc))
noncomputable def swS (ts : List Expr) (value : Expr) (sc : Scope) : Option (Option (List Str)) :=
  if h : value.ctorIdx = 25 then Expr.Tuple.elim (motive_1 := fun _ => Option (Option (List Str))) value h fun vs _ _ => swT ts vs sc else some none

theorem ite_or {c : Prop} {_ : Decidable c} {α β : Type} {a r : α} {x : Option α} {f : α → β} {y : β} (h : (if c then some a else x) = some r) (k : x = some r → y = f r) : (if c then f a else y) = f r := by
  by_cases q : c
  · rw [if_pos q] at h ⊢; cases h; rfl
  · rw [if_neg q] at h ⊢; exact k h

theorem swS_eq {ts : List Expr} {k : Nat} {p : Pos} {value : Expr} {env : Env} {r : Option (List Str)} (hf : env.scope.kind = .function) (h : swS ts value env.scope = some r) : swappedStores [.Tuple ts k p] value env = pure r := by
  have hb : (env.blockKind != .function) = false := by unfold Env.blockKind; rw [hf]; rfl
  cases value with
  | Tuple vs k' p' =>
    have h : swT ts vs env.scope = some r := h
    show (if (!(ts.length == 2 || ts.length == 3) || vs.length != ts.length || env.blockKind != .function) = true then pure none else _) = _
    rw [hb, Bool.or_false]
    refine ite_or (f := fun r => (pure r : Sem (Option (List Str)))) h fun h => ?_
    refine ite_or (f := fun r => (pure r : Sem (Option (List Str)))) h fun h => ?_
    refine ite_or (f := fun r => (pure r : Sem (Option (List Str)))) h fun h => ?_
    refine ite_or (f := fun r => (pure r : Sem (Option (List Str)))) h fun h => ?_
    split at h
    · cases h
    · rename_i q; cases h; exact if_neg q
  | _ => cases h; rfl

noncomputable def pkSExpr (e : Stmt) (kf : Expr → Bool) : Bool := if h : e.ctorIdx = 24 then Stmt.Expr.elim (motive_2 := fun _ => Bool) e h (fun e _ => kf e) else false
theorem pkSExpr_el {e : Stmt} {kf : Expr → Bool} {m : Stmt → Prop} (h : pkSExpr e kf = true) (kk : ∀ e p, kf e = true → m (.Expr e p)) : m e :=
  let ⟨q, h'⟩ := pk_inv h; Stmt.Expr.elim (motive_2 := fun e => ∀ (q : e.ctorIdx = 24), Stmt.Expr.elim (motive_2 := fun _ => Bool) e q (fun e _ => kf e) = true → m e) e q (fun e p _ h => kk e p h) q h'
noncomputable def pkAssign (e : Stmt) (kf : List Expr → Expr → Bool) : Bool := if h : e.ctorIdx = 5 then Stmt.Assign.elim (motive_2 := fun _ => Bool) e h (fun ts v _ => kf ts v) else false
theorem pkAssign_el {e : Stmt} {kf : List Expr → Expr → Bool} {m : Stmt → Prop} (h : pkAssign e kf = true) (kk : ∀ ts v p, kf ts v = true → m (.Assign ts v p)) : m e :=
  let ⟨q, h'⟩ := pk_inv h; Stmt.Assign.elim (motive_2 := fun e => ∀ (q : e.ctorIdx = 5), Stmt.Assign.elim (motive_2 := fun _ => Bool) e q (fun ts v _ => kf ts v) = true → m e) e q (fun ts v p _ h => kk ts v p h) q h'
noncomputable def pkAug (e : Stmt) (kf : Expr → Operator → Expr → Bool) : Bool := if h : e.ctorIdx = 7 then Stmt.AugAssign.elim (motive_2 := fun _ => Bool) e h (fun t o v _ => kf t o v) else false
theorem pkAug_el {e : Stmt} {kf : Expr → Operator → Expr → Bool} {m : Stmt → Prop} (h : pkAug e kf = true) (kk : ∀ t o v p, kf t o v = true → m (.AugAssign t o v p)) : m e :=
  let ⟨q, h'⟩ := pk_inv h; Stmt.AugAssign.elim (motive_2 := fun e => ∀ (q : e.ctorIdx = 7), Stmt.AugAssign.elim (motive_2 := fun _ => Bool) e q (fun t o v _ => kf t o v) = true → m e) e q (fun t o v p _ h => kk t o v p h) q h'
noncomputable def pkIf (e : Stmt) (kf : Expr → List Stmt → List Stmt → Bool) : Bool := if h : e.ctorIdx = 12 then Stmt.If.elim (motive_2 := fun _ => Bool) e h (fun e as bs _ => kf e as bs) else false
theorem pkIf_el {e : Stmt} {kf : Expr → List Stmt → List Stmt → Bool} {m : Stmt → Prop} (h : pkIf e kf = true) (kk : ∀ e as bs p, kf e as bs = true → m (.If e as bs p)) : m e :=
  let ⟨q, h'⟩ := pk_inv h; Stmt.If.elim (motive_2 := fun e => ∀ (q : e.ctorIdx = 12), Stmt.If.elim (motive_2 := fun _ => Bool) e q (fun e as bs _ => kf e as bs) = true → m e) e q (fun e as bs p _ h => kk e as bs p h) q h'
noncomputable def pkWhile (e : Stmt) (kf : Expr → List Stmt → List Stmt → Bool) : Bool := if h : e.ctorIdx = 11 then Stmt.While.elim (motive_2 := fun _ => Bool) e h (fun e bs el _ => kf e bs el) else false
theorem pkWhile_el {e : Stmt} {kf : Expr → List Stmt → List Stmt → Bool} {m : Stmt → Prop} (h : pkWhile e kf = true) (kk : ∀ e bs el p, kf e bs el = true → m (.While e bs el p)) : m e :=
  let ⟨q, h'⟩ := pk_inv h; Stmt.While.elim (motive_2 := fun e => ∀ (q : e.ctorIdx = 11), Stmt.While.elim (motive_2 := fun _ => Bool) e q (fun e bs el _ => kf e bs el) = true → m e) e q (fun e bs el p _ h => kk e bs el p h) q h'
noncomputable def pkFor (e : Stmt) (kf : Expr → Expr → List Stmt → List Stmt → Bool) : Bool := if h : e.ctorIdx = 9 then Stmt.For.elim (motive_2 := fun _ => Bool) e h (fun t e bs el _ => kf t e bs el) else false
theorem pkFor_el {e : Stmt} {kf : Expr → Expr → List Stmt → List Stmt → Bool} {m : Stmt → Prop} (h : pkFor e kf = true) (kk : ∀ t e bs el p, kf t e bs el = true → m (.For t e bs el p)) : m e :=
  let ⟨q, h'⟩ := pk_inv h; Stmt.For.elim (motive_2 := fun e => ∀ (q : e.ctorIdx = 9), Stmt.For.elim (motive_2 := fun _ => Bool) e q (fun t e bs el _ => kf t e bs el) = true → m e) e q (fun t e bs el p _ h => kk t e bs el p h) q h'
noncomputable def pkReturn (e : Stmt) (kf : Option Expr → Bool) : Bool := if h : e.ctorIdx = 3 then Stmt.Return.elim (motive_2 := fun _ => Bool) e h (fun e _ => kf e) else false
theorem pkReturn_el {e : Stmt} {kf : Option Expr → Bool} {m : Stmt → Prop} (h : pkReturn e kf = true) (kk : ∀ e p, kf e = true → m (.Return e p)) : m e :=
  let ⟨q, h'⟩ := pk_inv h; Stmt.Return.elim (motive_2 := fun e => ∀ (q : e.ctorIdx = 3), Stmt.Return.elim (motive_2 := fun _ => Bool) e q (fun e _ => kf e) = true → m e) e q (fun e p _ h => kk e p h) q h'

noncomputable def NamesAre : List Expr → List Str → Prop
  | [], ns => ns = []
  | t :: r, ns => ∃ n p ns', t = .Name n p ∧ ns = n :: ns' ∧ NamesAre r ns'
mutual
noncomputable def okS (c : Cx) : S → Stmt → Bool
  | .expr x, t => pkSExpr t fun e => notComp e && okX c x e
  | .set i x, t => pkAssign t fun ts v => one ts fun t => pkName t fun n => okV c i n && (notComp v || isCompX x) && okX c x v
  | .setT is rev x, t => pkAssign t fun ts v => one ts fun t => pkTuple t fun ts =>
      notComp v && namesOf ts (fun ns => okVs c is ns && ((rev == false && swS ts v c.sc == some none) || (rev == true && swS ts v c.sc == some (some ns)))) && okX c x v
  | .setA o a x, t => pkAssign t fun ts v => one ts fun t => pkAttribute t fun oe nm _ => notComp v && nm == c.P.an a && okX c o oe && okX c x v
  | .augA o a op x, t => pkAug t fun t op' v => pkAttribute t fun oe nm _ => op' == op.py && nm == c.P.an a && okX c o oe && okX c x v
  | .ite q a b, t => pkIf t fun e as bs => okX c q e && okB c a as && okB c b bs
  | .whl q b, t => pkWhile t fun e bs el => el.isEmpty && (okX c q e && okB c b bs)
  | .for1 i x b, t => pkFor t fun t e bs el => el.isEmpty && pkName t fun n => okV c i n && noFold e && okX c x e && okB c b bs
  | .forT is x b, t => pkFor t fun t e bs el => el.isEmpty && pkTuple t fun ts => namesOf ts (fun ns => okVs c is ns) && noFold e && okX c x e && okB c b bs
  | .ret x, t => pkReturn t fun e => e.any fun e => okX c x e
noncomputable def okB (c : Cx) : List S → List Stmt → Bool
  | [], ts => ts.isEmpty
  | s :: r, ts => match ts with | t :: q => okS c s t && okB c r q | [] => false
end
theorem okB_nil {c : Cx} {ts : List Stmt} {m : List Stmt → Prop} (h : okB c [] ts = true) (k : m []) : m ts := nil_el h k
theorem okB_cons {c : Cx} {x : S} {xs : List S} {es : List Stmt} {m : List Stmt → Prop} (h : okB c (x :: xs) es = true) (k : ∀ e r, okS c x e = true → okB c xs r = true → m (e :: r)) : m es := by
  cases es with
  | nil => cases h
  | cons e r => exact and2E h fun a b => k e r a b
theorem any_elE {x : Option Expr} {f : Expr → Bool} {m : Option Expr → Prop} (h : x.any f = true) (k : ∀ e, f e = true → m (some e)) : m x := by
  cases x with
  | none => cases h
  | some e => exact k e h
theorem namesOf_el : ∀ {ts : List Expr} {f : List Str → Bool}, namesOf ts f = true → ∃ ns, NamesAre ts ns ∧ f ns = true
  | [], f, h => ⟨[], rfl, h⟩
  | t :: r, f, h => pkName_el (m := fun t => ∃ ns, NamesAre (t :: r) ns ∧ f ns = true) h fun n p h => let ⟨ns, a, b⟩ := namesOf_el h; ⟨n :: ns, ⟨n, p, ns, rfl, rfl, a⟩, b⟩
end Mine
end

section
open PySem PySem.W PyProof.Rows PySem.Calls
set_option Elab.async false
set_option maxRecDepth 100000
namespace Mine

structure StS (pu : Bool) (ow : List Addr) (φ : Phi) (h : Heap) (φ' : Phi) (h' : Heap) : Prop where
  grow : Grow φ h φ'
  keep : Keep φ ow h h'
  pu : pu = true → φ' = φ ∧ ∀ b o, h.get? b = some o → b ∉ ow → h'.get? b = some o

noncomputable def FlowIs (w : World) (φ : Phi) (h : Heap) : Out → Flow → Prop
  | .next, f => f = .next
  | .ret v, f => ∃ u, f = .ret u ∧ Rep w φ h v u

section
variable {N : Names} {prog : Program} {w : World} {h₀ h h' h₁ : Heap} {σ σ' σ₁ σ₂ : St} {φ φ' φ₁ φ₂ : Phi} {env : Env} {vars : List Str} {ρ ρ' ρ₁ : Rho} {A : Around} {E : Value → Shared → Prop} {s : Shared} {G : Sg} {K : Frag} {ga ba : Addr} {n m : Nat} {c : Cx} {o : Out}

noncomputable abbrev AftS (N : Names) (w : World) (h₀ : Heap) (pu : Bool) (o : Out) (ρ' : Rho) (σ' : St) (env : Env) (vars : List Str) (φ : Phi) (s : Shared) (Q : Flow → Shared → Prop) : Prop :=
  ∀ φ' h' tk f, StS pu (own env) φ s.heap φ' h' → Rel N w h₀ σ' φ' h' → Fra w h₀ φ' env vars ρ' h' → FlowIs w φ' h' o f → Q f { s with heap := h', toks := tk }

theorem StS.of {p : Bool} {ow : List Addr} (x : Stp p φ h φ' h') : StS p ow φ h φ' h' := ⟨x.grow, fun b o e n _ => x.keep b o e n List.not_mem_nil, fun e => let ⟨a, b⟩ := x.pu e; ⟨a, fun c o e _ => b c o e⟩⟩
theorem StS.refl (p : Bool) {ow : List Addr} : StS p ow φ h φ h := .of (.refl _ _ _)
theorem StS.weak {p q : Bool} {ow : List Addr} (x : StS p ow φ h φ' h') (l : q = true → p = true) : StS q ow φ h φ' h' := ⟨x.grow, x.keep, fun e => x.pu (l e)⟩
theorem StS.trans {p q : Bool} {ow : List Addr} {h'' : Heap} (x : StS p ow φ h φ' h') (R : Rel N w h₀ σ φ' h') (ho : ∀ o ∈ ow, o ∉ muts φ₂) (y : StS q ow φ' h' φ₂ h'') : StS (p && q) ow φ h φ₂ h'' :=
  ⟨x.grow.trans x.keep ho y.grow fun m hm => R.mut_some m (x.grow.mem hm), fun b o e n1 n2 => y.keep _ _ (x.keep _ _ e n1 n2) (x.grow.notmem e n1) n2, fun e => by
    rw [Bool.and_eq_true] at e
    obtain ⟨a, b⟩ := x.pu e.1; obtain ⟨a', b'⟩ := y.pu e.2
    exact ⟨a'.trans a, fun c o e n => b' _ _ (b _ _ e n) n⟩⟩

theorem AftS.then {p q pu : Bool} {Q : Flow → Shared → Prop} {tk : Tok} (h : AftS N w h₀ pu o ρ' σ' env vars φ s Q) (S : StS p (own env) φ s.heap φ₁ h₁) (R : Rel N w h₀ σ₁ φ₁ h₁) (le : pu = true → p = true ∧ q = true) : AftS N w h₀ q o ρ' σ' env vars φ₁ { s with heap := h₁, toks := tk } Q := fun φ' h' tk f S' R' F' fl =>
  h φ' h' tk f ((S.trans R F'.notm S').weak fun e => by rw [(le e).1, (le e).2]; rfl) R' F' fl
theorem Pre.stepS {p : Bool} {tk : Tok} (P : Pre G N w h₀ ga ba n c env A ρ σ φ s) (R : Rel N w h₀ σ₁ φ₁ h₁) (F : Fra w h₀ φ₁ env c.vars ρ₁ h₁) : Pre G N w h₀ ga ba n c env A ρ₁ σ₁ φ₁ { s with heap := h₁, toks := tk } := ⟨P.cx, P.a, R, F⟩

noncomputable def StOk (G : Sg) (prog : Program) (w : World) (N : Names) (h₀ : Heap) (ga ba : Addr) (n m : Nat) (t : S) : Prop := ∀ (c : Cx) (env : Env) (t' : Stmt) (ρ ρ' : Rho) (σ σ' : St) (o : Out) (φ : Phi) (s : Shared) (A : Around) (E : Value → Shared → Prop) (Q : Flow → Shared → Prop),
  okS c t t' = true → Pre G N w h₀ ga ba n c env A ρ σ φ s → exS G m t ρ σ = some (o, ρ', σ') → AftS N w h₀ (pureS t) o ρ' σ' env c.vars φ s Q → wpAny (model prog w) A (exec t' env) Q E s
noncomputable def BlOk (G : Sg) (prog : Program) (w : World) (N : Names) (h₀ : Heap) (ga ba : Addr) (n m : Nat) (ts : List S) : Prop := ∀ (c : Cx) (env : Env) (ts' : List Stmt) (ρ ρ' : Rho) (σ σ' : St) (o : Out) (φ : Phi) (s : Shared) (A : Around) (E : Value → Shared → Prop) (Q : Flow → Shared → Prop),
  okB c ts ts' = true → Pre G N w h₀ ga ba n c env A ρ σ φ s → exB G m ts ρ σ = some (o, ρ', σ') → AftS N w h₀ (pureB ts) o ρ' σ' env c.vars φ s Q → wpAny (model prog w) A (execs ts' env) Q E s


theorem mapS {α : Type} {x : Option (α × St)} {f : α × St → Out × Rho × St} {pu : Bool} {Q : Flow → Shared → Prop} {C : Prop} (e : x.map f = some (o, ρ', σ')) (h : AftS N w h₀ pu o ρ' σ' env vars φ s Q) (k : ∀ a τ, x = some (a, τ) → AftS N w h₀ pu (f (a, τ)).1 (f (a, τ)).2.1 (f (a, τ)).2.2 env vars φ s Q → C) : C := by
  obtain ⟨a, p, q⟩ := map_some e
  refine k a.1 a.2 p ?_
  rw [show f (a.1, a.2) = (o, ρ', σ') from q]; exact h
theorem mapS1 {α : Type} {x : Option α} {f : α → Out × Rho × St} {pu : Bool} {Q : Flow → Shared → Prop} {C : Prop} (e : x.map f = some (o, ρ', σ')) (h : AftS N w h₀ pu o ρ' σ' env vars φ s Q) (k : ∀ a, x = some a → AftS N w h₀ pu (f a).1 (f a).2.1 (f a).2.2 env vars φ s Q → C) : C := by
  obtain ⟨a, p, q⟩ := map_some e
  refine k a p ?_
  rw [show f a = (o, ρ', σ') from q]; exact h
theorem b_nil : (BlOk G prog w N h₀ ga ba n m) [] := fun c env ts' ρ ρ' σ σ' o φ s A E Q ok P e h => by
  refine okB_nil (m := fun z => wpAny _ A (execs z env) Q E s) ok ?_
  cases e
  exact wpAny_execs_nil (h φ s.heap s.toks _ (.refl _) P.R P.F rfl)
theorem b_cons {t : S} {r : List S} (ht : (StOk G prog w N h₀ ga ba n m) t) (hr : (BlOk G prog w N h₀ ga ba n m) r) : (BlOk G prog w N h₀ ga ba n m) (t :: r) := fun c env ts' ρ ρ' σ σ' o φ s A E Q ok P e h => by
  refine okB_cons (m := fun z => wpAny _ A (execs z env) Q E s) ok fun t' r' o1' o2' => ?_
  refine bind3 e fun o1 ρ1 σ1 e1 e => ?_
  have le : pureB (t :: r) = true → pureS t = true ∧ pureB r = true := fun z => and2 z
  refine wpAny_execs_cons (ht _ _ _ _ _ _ _ _ _ _ _ _ _ o1' P e1 fun φ1 h1 t1 f S1 R1 F1 fl => ?_)
  cases o1 with
  | next =>
    cases fl
    exact hr _ _ _ _ _ _ _ _ _ _ _ _ _ o2' (P.stepS (p := true) R1 F1) e (h.then S1 R1 le)
  | ret v =>
    obtain ⟨u, rfl, r⟩ := fl
    cases e
    exact h φ1 h1 t1 _ (S1.weak fun z => (le z).1) R1 F1 ⟨u, rfl, r⟩

theorem swaps_no {e : Expr} {t : Option Expr} {l : Nat} (h : notComp e = true) : swapsWith e t l env = pure false := by
  cases e <;> first | rfl | cases h

theorem st_expr {x : X} (hx : (EvOk G prog w N h₀ ga ba n) x) : (StOk G prog w N h₀ ga ba n m) (.expr x) := fun c env t' ρ ρ' σ σ' o φ s A E Q ok P e h => by
  refine pkSExpr_el (m := fun z => wpAny _ A (exec z env) Q E s) ok fun x p okk => and2E okk fun o1 o2 => ?_
  refine mapS e h fun v σ1 e1 h => ?_
  refine wpAny_Expr_any (hx _ _ _ _ _ _ _ _ _ _ _ _ o2 P e1 fun φ1 h1 t1 u S1 R1 r1 => h φ1 h1 t1 _ (.of S1) R1 (S1.fra P.F) rfl) ?_ (swaps_no o1)
  unfold interactive; rw [P.F.fn]; rfl
theorem st_ret {x : X} (hx : (EvOk G prog w N h₀ ga ba n) x) : (StOk G prog w N h₀ ga ba n m) (.ret x) := fun c env t' ρ ρ' σ σ' o φ s A E Q ok P e h => by
  refine pkReturn_el (m := fun z => wpAny _ A (exec z env) Q E s) ok fun x p okk => any_elE (m := fun z => wpAny _ A (exec (.Return z p) env) Q E s) okk fun y o1 => ?_
  refine mapS e h fun v σ1 e1 h => ?_
  exact wpAny_Return_some (hx _ _ _ _ _ _ _ _ _ _ _ _ o1 P e1 fun φ1 h1 t1 u S1 R1 r1 => h φ1 h1 t1 _ (.of S1) R1 (S1.fra P.F) ⟨u, rfl, r1⟩)
theorem st_ite {x : X} {a b : List S} (hx : (TsOk G prog w N h₀ ga ba n) x) (ha : (BlOk G prog w N h₀ ga ba n m) a) (hb : (BlOk G prog w N h₀ ga ba n m) b) : (StOk G prog w N h₀ ga ba n m) (.ite x a b) := fun c env t' ρ ρ' σ σ' o φ s A E Q ok P e h => by
  refine pkIf_el (m := fun z => wpAny _ A (exec z env) Q E s) ok fun te y z p okk => and3E okk fun o1 o2 o3 => ?_
  refine bind2 e fun v σ1 e1 e => ?_; refine bind1 e fun t e2 e4 => ?_
  clear e
  dsimp only at e2 e4
  have le : pureS (.ite x a b) = true → pureX x = true ∧ pureB a = true ∧ pureB b = true := fun z => by
    have z := and3 z; exact ⟨z.1.1, z.1.2, z.2⟩
  refine wpAny_If (hx _ _ _ _ _ _ _ _ _ _ _ _ _ o1 P e1 e2 fun φ1 h1 t1 S1 R1 => ?_)
  cases t with
  | true => exact ha _ _ _ _ _ _ _ _ _ _ _ _ _ o2 (P.step S1 R1) e4 (h.then (.of S1) R1 fun z => ⟨(le z).1, (le z).2.1⟩)
  | false => exact hb _ _ _ _ _ _ _ _ _ _ _ _ _ o3 (P.step S1 R1) e4 (h.then (.of S1) R1 fun z => ⟨(le z).1, (le z).2.2⟩)

/-- a name is stored -/
theorem stored {i : Nat} {v : V} {u : Value} {nm : Str} {p : Bool} {tk : Tok} {Q : Unit → Shared → Prop} (P : Pre G N w h₀ ga ba n c env A ρ σ φ s) (ok : okV c i nm = true) (S : StS p (own env) φ s.heap φ₁ h₁) (R : Rel N w h₀ σ₁ φ₁ h₁) (F : Fra w h₀ φ₁ env c.vars ρ₁ h₁) (r : Rep w φ₁ h₁ v u)
    (h : ∀ h' tk, StS p (own env) φ s.heap φ₁ h' → Rel N w h₀ σ₁ φ₁ h' → Fra w h₀ φ₁ env c.vars (ρ₁.set i (some v)) h' → KeepO (own env) h₁ h' → Q () { s with heap := h', toks := tk }) :
    wpAny (model prog w) A (storeName env nm u) Q E { s with heap := h₁, toks := tk } := by
  have ok := and2 ok
  refine F.store (s := { s with heap := h₁, toks := tk }) R P.cx.nd (eq_of_beq ok.1) (P.cx.sc ▸ ok.2) r fun h' tk' K F' R' => h h' tk' ?_ R' F' K
  refine ⟨S.grow, fun b o e n1 n2 => K _ _ (S.keep _ _ e n1 n2) n2, fun z => ?_⟩
  obtain ⟨a, b⟩ := S.pu z
  exact ⟨a, fun b' o e n2 => K _ _ (b _ _ e n2) n2⟩
end
end Mine
end

section
open PySem PySem.W PyProof.Rows PySem.Calls
set_option Elab.async false
set_option maxRecDepth 100000
namespace Mine
section
variable {N : Names} {prog : Program} {w : World} {h₀ h h' h₁ : Heap} {σ σ' σ₁ σ₂ : St} {φ φ' φ₁ φ₂ : Phi} {env : Env} {vars : List Str} {ρ ρ' ρ₁ ρ₂ : Rho} {A : Around} {E : Value → Shared → Prop} {s : Shared} {G : Sg} {K : Frag} {ga ba : Addr} {n m : Nat} {c : Cx} {o : Out}


theorem StS.ext {p : Bool} {ow : List Addr} {h'' : Heap} (x : StS p ow φ h φ' h') (y : Ext h' h'') : StS p ow φ h φ' h'' := ⟨x.grow, fun b o e n1 n2 => y _ _ (x.keep _ _ e n1 n2), fun e => let ⟨a, b⟩ := x.pu e; ⟨a, fun c o e' n => y _ _ (b c o e' n)⟩⟩

theorem pkLC_idx {e : Expr} {kf : Expr → List Comprehension → Scope → Bool} (h : pkListComp e kf = true) : e.ctorIdx = 8 := pkListComp_el (m := fun e => e.ctorIdx = 8) h fun _ _ _ _ _ => rfl
theorem compX_lc {x : X} {e : Expr} (h : isCompX x = true) (ok : okX c x e = true) : e.ctorIdx = 8 :=
  isCompX_el (m := fun x => okX c x e = true → e.ctorIdx = 8) h (fun _ _ _ _ ok => pkLC_idx ok) (fun _ _ _ _ _ ok => pkLC_idx ok) ok
theorem compX_list {x : X} {v : V} (h : isCompX x = true) (e : ev G ρ σ x = some (v, σ')) : ∃ l, v = .list l :=
  isCompX_el (m := fun x => ev G ρ σ x = some (v, σ') → ∃ l, v = .list l) h
    (fun _ _ _ _ e => bind1 e fun _ _ e => bind1 e fun _ _ e => map1 e fun l _ e => ⟨l, (congrArg Prod.fst e).symm⟩)
    (fun _ _ _ _ _ e => bind1 e fun _ _ e => bind1 e fun _ _ e => map1 e fun l _ e => ⟨l, (congrArg Prod.fst e).symm⟩) e
/-- the frame of a comprehension is left behind its store -/
theorem left_set {φ1 : Phi} {C : Addr} {h'' h3 : Heap} {m' : Str → Option Value} {i : Nat} {v : V} {pu : Bool} {tk' : Tok} {Q : Flow → Shared → Prop} (h : AftS N w h₀ pu .next (ρ.set i (some v)) σ' env vars φ s Q) (S : StS pu (own env) φ s.heap φ1 h'') (R : Rel N w h₀ σ' φ1 h'') (F : Fra w h₀ φ1 env vars (ρ.set i (some v)) h'')
    (hn : h''.Ns C m') (nown : C ∉ own env) (nmut : C ∉ muts φ1) (noC : s.heap.get? C = none) (nC : h₀.get? C = none) (hs : h''.SameBut C h3) : Q .next { s with heap := h3, toks := tk' } := by
  have O : Own h'' [C] := fun b hb => by
    obtain ⟨o, es, ep, e, d, _⟩ := hn
    rw [List.mem_singleton.mp hb]; exact ⟨o, e, .inl ⟨es, ep, d⟩⟩
  have K : Keep φ1 [C] h'' h3 := fun b o e _ nb => hs.extBut b o (fun q => nb (List.mem_singleton.mpr q)) e
  have to : ∀ {b o o'}, s.heap.get? b = some o → h''.get? b = some o' → h3.get? b = some o' := fun e e' => hs.extBut _ _ (fun q => by rw [q, noC] at e; cases e) e'
  exact h φ1 h3 _ _ ⟨S.grow, fun b o e n1 n2 => to e (S.keep b o e n1 n2), fun z => let ⟨a, x⟩ := S.pu z; ⟨a, fun b o e n2 => to e (x b o e n2)⟩⟩
    (R.own K O (fun b hb => by rw [List.mem_singleton.mp hb]; exact nC) fun m hm => hs.2 m fun q => nmut (q ▸ hm)) (F.keep (.refl _ _) K O fun b hb q => nown (List.mem_singleton.mp q ▸ hb)) rfl
theorem st_set {i : Nat} {x : X} (hx : (EvOk G prog w N h₀ ga ba n) x) (hc : isCompX x = true → CmOk G prog w N h₀ ga ba n x) : (StOk G prog w N h₀ ga ba n m) (.set i x) := fun c env t' ρ ρ' σ σ' o φ s A E Q ok P e h => by
  refine pkAssign_el (m := fun z => wpAny _ A (exec z env) Q E s) ok fun ts v pos k1 => one_el (m := fun z => wpAny _ A (exec (.Assign z v pos) env) Q E s) k1 fun t k1 => pkName_el (m := fun z => wpAny _ A (exec (.Assign [z] v pos) env) Q E s) k1 fun nm p okk => and3E okk fun ov onc ox => mapS e h fun v1 σ1 e1 h => ?_
  have plain : swapsWith v (some (.Name nm p)) pos.line env = pure false → wpAny (model prog w) A (exec (.Assign [.Name nm p] v pos) env) Q E s := fun hs =>
    wpAny_Assign_Name (hx _ _ _ _ _ _ _ _ _ _ _ _ ox P e1 fun φ1 h1 t1 u S1 R1 r1 => stored P ov (.of S1) R1 (S1.fra P.F) r1 fun h' tk S' R' F' _ => h φ1 h' tk _ S' R' F' rfl) hs
  cases hnc : notComp v with
  | true => exact plain (swaps_no hnc)
  | false =>
    rw [hnc, Bool.false_or] at onc
    obtain ⟨l, hl⟩ := compX_list onc e1
    have hv := compX_lc onc ox
    revert plain ox
    refine Expr.ListComp.elim (motive_1 := fun v => okX c x v = true → (swapsWith v (some (.Name nm p)) pos.line env = pure false → wpAny (model prog w) A (exec (.Assign [.Name nm p] v pos) env) Q E s) → wpAny (model prog w) A (exec (.Assign [.Name nm p] v pos) env) Q E s) v hv fun elt gens sc pos' ox plain => ?_
    obtain ⟨b, hb⟩ : ∃ b, swapsWith (.ListComp elt gens sc pos') (some (.Name nm p)) pos.line env = pure b := ⟨_, rfl⟩
    cases b with
    | false => exact plain hb
    | true =>
      rw [exec_Assign_Name_used _ _ _ _ hb]
      refine wpAny_bind (wpAny_standAt (wpAny_bind ?_))
      show wpAny _ A (do let _ ← comprehension _ sc env _ _ _ _ (some (assign (.Name nm p) env))) _ E s
      refine wpAny_bind (hc onc _ _ _ _ _ _ _ _ _ _ _ _ _ _ _ _ ox P (hl ▸ e1) fun φ1 D C h' tk m' S R r hDC nown nmut noC nC hn F => ?_)
      show wpAny _ A (assign (.Name nm p) env (.ref D)) _ E _
      refine wpAny_assign_Name (stored (tk := tk) P ov (.of S) R F r fun h'' tk' S' R' F' K' => ?_)
      have hn2 : h''.Ns C m' := Ns.at1 hn fun o e => K' _ _ e nown
      exact ⟨m', hn2, fun h3 hs => wpAny_pure (wpAny_pure (left_set (s := s) (i := i) (v := v1) (ρ := ρ) h S' R' (by rw [hl]; exact F') hn2 nown nmut noC nC hs))⟩
/-- each action stores a name -/
noncomputable def Acts (prog : Program) (w : World) (env : Env) : List Str → List (Value → Sem Unit) → Prop
  | [], as => as = []
  | nm :: ns, as => ∃ a r, as = a :: r ∧ (∀ (A : Around) (E : Value → Shared → Prop) (u : Value) (Q : Unit → Shared → Prop) (s : Shared), wpAny (model prog w) A (storeName env nm u) Q E s → wpAny (model prog w) A (a u) Q E s) ∧ Acts prog w env ns r

theorem acts_names {env : Env} : ∀ {ts : List Expr} {ns : List Str}, NamesAre ts ns → Acts prog w env ns ((assignEach ts env).map (·.2)) ∧ (assignEach ts env).length = ns.length ∧ (assignEach ts env).findIdx? (·.1) = none
  | [], ns, h => by cases h; exact ⟨rfl, rfl, rfl⟩
  | t :: r, ns, h => by
    obtain ⟨nm, p, ns', rfl, rfl, h1⟩ := h
    obtain ⟨a, b, d⟩ := acts_names (env := env) h1
    have e : assignEach (.Name nm p :: r) env = (false, assign (.Name nm p) env) :: assignEach r env := rfl
    rw [e]
    exact ⟨⟨_, _, rfl, fun A E u Q s h => wpAny_assign_Name h, a⟩, congrArg (· + 1) b, by rw [List.findIdx?_cons, d]; rfl⟩
theorem acts_bind {env : Env} : ∀ (ns : List Str), Acts prog w env ns (ns.map fun n => bindName env n)
  | [] => rfl
  | nm :: ns => ⟨_, _, rfl, fun A E u Q s h => wpAny_bindName h, acts_bind ns⟩

theorem okVs_nil {ns : List Str} {m : List Str → Prop} (h : okVs c [] ns = true) (k : m []) : m ns := nil_el h k
theorem okVs_cons {i : Nat} {is : List Nat} {ns : List Str} {m : List Str → Prop} (h : okVs c (i :: is) ns = true) (k : ∀ n r, okV c i n = true → okVs c is r = true → m (n :: r)) : m ns := by
  cases ns with
  | nil => cases h
  | cons n r => exact and2E h fun a b => k n r a b
theorem setAll_nil {vs : List V} {ρ ρ' : Rho} {m : List V → Rho → Prop} (h : setAll [] vs ρ = some ρ') (k : m [] ρ) : m vs ρ' := by
  cases vs with
  | nil => cases h; exact k
  | cons _ _ => cases h
theorem setAll_cons {i : Nat} {is : List Nat} {vs : List V} {ρ ρ' : Rho} {m : List V → Prop} (h : setAll (i :: is) vs ρ = some ρ') (k : ∀ v r, setAll is r (ρ.set i (some v)) = some ρ' → m (v :: r)) : m vs := by
  cases vs with
  | nil => cases h
  | cons v r => exact k v r h
theorem okVs_len : ∀ {is : List Nat} {ns : List Str}, okVs c is ns = true → is.length = ns.length
  | [], _, h => okVs_nil (m := fun ns => ([] : List Nat).length = ns.length) h rfl
  | i :: is, _, h => okVs_cons (m := fun ns => (i :: is).length = ns.length) h fun _ _ _ h => congrArg (· + 1) (okVs_len h)
theorem setAll_len : ∀ {is : List Nat} {vs : List V} {ρ ρ' : Rho}, setAll is vs ρ = some ρ' → is.length = vs.length
  | [], _, _, _, h => setAll_nil (m := fun vs _ => ([] : List Nat).length = vs.length) h rfl
  | i :: is, _, _, _, h => setAll_cons (m := fun vs => (i :: is).length = vs.length) h fun _ _ h => congrArg (· + 1) (setAll_len h)
theorem okVs_app : ∀ {is : List Nat} {ns : List Str} {i : Nat} {nm : Str}, okVs c is ns = true → okV c i nm = true → okVs c (is ++ [i]) (ns ++ [nm]) = true
  | [], _, i, nm, h, h' => okVs_nil (m := fun ns => okVs c [i] (ns ++ [nm]) = true) h (show (okV c i nm && true) = true by rw [h']; rfl)
  | j :: is, _, i, nm, h, h' => okVs_cons (m := fun ns => okVs c (j :: (is ++ [i])) (ns ++ [nm]) = true) h fun n r a b => show (okV c j n && okVs c (is ++ [i]) (r ++ [nm])) = true by rw [a, okVs_app b h']; rfl
theorem okVs_rev : ∀ {is : List Nat} {ns : List Str}, okVs c is ns = true → okVs c is.reverse ns.reverse = true
  | [], _, h => okVs_nil (m := fun ns => okVs c [] ns.reverse = true) h rfl
  | j :: is, _, h => okVs_cons (m := fun ns => okVs c (j :: is).reverse ns.reverse = true) h fun n r a b => by
    rw [List.reverse_cons, List.reverse_cons]
    exact okVs_app (okVs_rev b) a
theorem Reps.rev {w : World} {φ : Phi} {h : Heap} : ∀ {vs : List V} {us : List Value}, Reps w φ h vs us → Reps w φ h vs.reverse us.reverse
  | [], _, r => by rw [Reps] at r; subst r; simp [Reps]
  | _ :: _, _, r => by
    rw [Reps] at r
    obtain ⟨u, us, rfl, a, b⟩ := r
    rw [List.reverse_cons, List.reverse_cons]
    exact Reps.app (Reps.rev b) (by rw [Reps]; exact ⟨u, [], rfl, a, by rw [Reps]⟩)

theorem assign_all {Q : Unit → Shared → Prop} {p : Bool} (P : Pre G N w h₀ ga ba n c env A ρ σ φ s) : ∀ {ns : List Str} {as : List (Value → Sem Unit)} {is : List Nat} {vs : List V} {us : List Value} {ρ₁ ρ₂ : Rho} {h₁ : Heap} {tk : Tok}, Acts prog w env ns as → okVs c is ns = true → setAll is vs ρ₁ = some ρ₂ → Reps w φ₁ h₁ vs us →
    StS p (own env) φ s.heap φ₁ h₁ → Rel N w h₀ σ₁ φ₁ h₁ → Fra w h₀ φ₁ env c.vars ρ₁ h₁ →
    (∀ h' tk, StS p (own env) φ s.heap φ₁ h' → Rel N w h₀ σ₁ φ₁ h' → Fra w h₀ φ₁ env c.vars ρ₂ h' → KeepO (own env) h₁ h' → Q () { s with heap := h', toks := tk }) →
    wpAny (model prog w) A (assignInOrder as us) Q E { s with heap := h₁, toks := tk }
  | [], as, is, vs, us, ρ₁, ρ₂, h₁, tk, ac, ok, e, r, S, R, F, h => by
    cases is with
    | cons _ _ => cases ok
    | nil =>
      cases vs with
      | cons _ _ => cases e
      | nil =>
        cases e; cases ac
        exact wpAny_pure (h h₁ tk S R F fun _ _ e _ => e)
  | nm :: ns, as, is, vs, us, ρ₁, ρ₂, h₁, tk, ac, ok, e, r, S, R, F, h => by
    cases is with
    | nil => cases ok
    | cons i is =>
      cases vs with
      | nil => cases e
      | cons v vs =>
        refine and2E ok fun ok1 ok2 => ?_
        obtain ⟨a, as', rfl, ha, ac'⟩ := ac
        rw [Reps] at r
        obtain ⟨u, us', rfl, r1, r2⟩ := r
        show wpAny _ A (do holding us' (a u); assignInOrder as' us') Q E _
        refine wpAny_bind (wpAny_holding (ha A E u _ _ (stored P ok1 S R F r1 fun h' tk' S' R' F' K' => ?_)))
        exact assign_all P ac' ok2 e (r2.mono (.refl _ _) K'.keep F.own_ok) S' R' F' fun h'' tk'' S'' R'' F'' K'' => h h'' tk'' S'' R'' F'' fun b o e nb => K'' _ _ (K' _ _ e nb) nb

theorem extBut_size {h h' : Heap} (x : Heap.ExtBut h.objs.size h h') : Ext h h' := fun b o e => x b o (Nat.ne_of_lt (Heap.lt_size e)) e

theorem setTup_tup {is : List Nat} {rev : Bool} {v : V} {ρ ρ' : Rho} (e : setTup is rev v ρ = some ρ') : ∃ vs, v = .tup vs ∧ setTup is rev (.tup vs) ρ = some ρ' := by
  cases v <;> first | exact ⟨_, rfl, e⟩ | cases e
theorem rep_tup {vs : List V} {u : Value} (r : Rep w φ h (.tup vs) u) : ∃ a us, u = .ref a ∧ h.IsTuple a (List.toArray us) ∧ Reps w φ h vs us := by
  rw [Rep] at r
  obtain ⟨_, a, us, n', rfl, _, ho, q⟩ := r
  exact ⟨a, us, rfl, ⟨_, ho, rfl, _, rfl⟩, q⟩
theorem st_setT {is : List Nat} {rev : Bool} {x : X} (hx : (EvOk G prog w N h₀ ga ba n) x) : (StOk G prog w N h₀ ga ba n m) (.setT is rev x) := fun c env t' ρ ρ' σ σ' o φ s A E Q ok P e h => by
  refine pkAssign_el (m := fun z => wpAny _ A (exec z env) Q E s) ok fun ts v pos k1 => one_el (m := fun z => wpAny _ A (exec (.Assign z v pos) env) Q E s) k1 fun t k1 => pkTuple_el (m := fun z => wpAny _ A (exec (.Assign [z] v pos) env) Q E s) k1 fun ts k p okk => and3E okk fun onc on ox => ?_
  refine bind2 e fun v1 σ1 e1 e => mapS1 e h fun ρ1 e2 h => ?_
  obtain ⟨ns, hns, on⟩ := namesOf_el on
  refine and2E on fun ovs osw => ?_
  obtain ⟨vs, rfl, e2⟩ := setTup_tup e2
  have hsole : swapsWithSole [.Tuple ts k p] v pos.line env = pure false := by unfold swapsWithSole; exact swaps_no onc
  rcases (Bool.or_eq_true _ _).mp osw with osw | osw
  · refine and2E osw fun o1 q => ?_
    cases eq_of_beq o1
    obtain ⟨ac, al, ai⟩ := acts_names (prog := prog) (w := w) (env := env) hns
    refine Assign_Tuple (hx _ _ _ _ _ _ _ _ _ _ _ _ ox P e1 fun φ1 h1 t1 u S1 R1 r1 => ?_) hsole (swS_eq P.F.fn (P.cx.sc ▸ eq_of_beq q))
    obtain ⟨a, us, rfl, ht, rs⟩ := rep_tup r1
    refine wpAny_assign_Tuple P.a.1 (s := { s with heap := h1, toks := t1 }) ht (by rw [al, List.size_toArray, rs.len, ← okVs_len ovs, setAll_len e2]) ai fun h2 x2 => ?_
    have X2 := extBut_size x2
    exact assign_all P ac ovs e2 (rs.ext X2) ((StS.of S1).ext X2) (R1.ext X2) ((S1.fra P.F).ext X2) fun h' tk S' R' F' _ => h φ1 h' tk _ S' R' F' rfl
  · refine and2E osw fun o1 q => ?_
    cases eq_of_beq o1
    refine Assign_Tuple_swapped (hx _ _ _ _ _ _ _ _ _ _ _ _ ox P e1 fun φ1 h1 t1 u S1 R1 r1 => ?_) hsole (swS_eq P.F.fn (P.cx.sc ▸ eq_of_beq q))
    obtain ⟨a, us, rfl, ht, rs⟩ := rep_tup r1
    have hlen : ns.length = us.toArray.size := by
      have e3 := setAll_len e2
      rw [List.length_reverse, List.length_reverse] at e3
      rw [List.size_toArray, rs.len, ← okVs_len ovs, e3]
    rw [hlen]
    refine wpAny_unpackItems_tuple P.a.1 (s := { s with heap := h1, toks := t1 }) ht fun h2 x2 => ?_
    have X2 := extBut_size x2
    exact assign_all P (acts_bind _) (okVs_rev ovs) e2 (Reps.rev (rs.ext X2)) ((StS.of S1).ext X2) (R1.ext X2) ((S1.fra P.F).ext X2) fun h' tk S' R' F' _ => h φ1 h' tk _ S' R' F' rfl
end
end Mine
end

section
open PySem PySem.W PyProof.Rows PySem.Calls
set_option Elab.async false
set_option maxRecDepth 100000
namespace Mine
section
variable {N : Names} {prog : Program} {w : World} {h₀ h h' h₁ : Heap} {σ σ' σ₁ σ₂ : St} {φ φ' φ₁ φ₂ : Phi} {env : Env} {vars : List Str} {ρ ρ' ρ₁ ρ₂ : Rho} {A : Around} {E : Value → Shared → Prop} {s : Shared} {G : Sg} {K : Frag} {ga ba : Addr} {n m : Nat} {c : Cx} {o : Out}


theorem handed_rep {v : V} {u : Value} (g : notG v = true) (r : Rep w φ h v u) : handedIn u = true := by
  cases v <;> try (cases g; done)
  all_goals rw [Rep] at r
  · subst r; rfl
  · subst r; rfl
  · obtain ⟨t, rfl⟩ := r; rfl
  · obtain ⟨_, t, rfl⟩ := r; rfl
  · obtain ⟨p, _, rfl⟩ := r; rfl
  · obtain ⟨_, a, _, _, rfl, _⟩ := r; rfl
  · obtain ⟨_, a, _, _, rfl, _⟩ := r; rfl
  · obtain ⟨a, _, _, rfl, _⟩ := r; rfl
  · obtain ⟨a, _, _, _, rfl, _⟩ := r; rfl

theorem putA_some {P : Pg} {x v : V} {a : Nat} (e : putA P σ x a v = some σ') : ∃ k C fs, x = .obj k ∧ σ[k]? = some (.inst C fs) ∧ P.cs.contains C = true ∧ P.ats.contains a = true ∧ notG v = true ∧ fs.length < 100 ∧ σ.set k (.inst C (setF fs a v)) = σ' := by
  obtain ⟨k, rfl⟩ : ∃ k, x = .obj k := by cases x <;> first | exact ⟨_, rfl⟩ | cases e
  unfold putA at e
  dsimp only at e
  cases q : σ[k]? with
  | none => rw [q] at e; cases e
  | some o =>
    rw [q] at e
    cases o with
    | inst C fs =>
      dsimp only at e
      split at e
      · rename_i q2
        obtain ⟨⟨q1, q3⟩, q4⟩ := and3 q2
        obtain ⟨q1, q2⟩ := and2 q1
        exact ⟨k, C, fs, rfl, q, q1, q2, q3, of_decide_eq_true q4, Option.some.inj e⟩
      · cases e
    | _ => cases e
theorem put_op {x v : V} {a : Nat} {ux uv : Value} {Q : Unit → Shared → Prop} (B : Base G prog w N h₀ K ga ba n) (R : Rel N w h₀ σ φ s.heap) (e : putA G.P σ x a v = some σ') (rx : Rep w φ s.heap x ux) (rv : Rep w φ s.heap v uv)
    (h : ∀ h' tk, Keep φ [] s.heap h' → Rel N w h₀ σ' φ h' → Q () { s with heap := h', toks := tk }) : wpAny (model prog w) A (setAttr ux (N.an a) uv) Q E s := by
  obtain ⟨k, C, fs, rfl, hk, q1, q2, q3, q4, rfl⟩ := putA_some e
  obtain ⟨p, hp, rfl⟩ : ∃ p, φ.objs[k]? = some p ∧ ux = .ref p.1 := by rw [Rep] at rx; exact rx
  exact set_op (B.X.keeps R.base) (B.pc C (List.contains_iff_mem.mp q1)) (List.contains_iff_mem.mp q2) R hk hp q4 rv (handed_rep q3 rv) h

theorem st_setA {x y : X} {a : Nat} (B : Base G prog w N h₀ K ga ba n) (hx : (EvOk G prog w N h₀ ga ba n) x) (hy : (EvOk G prog w N h₀ ga ba n) y) : (StOk G prog w N h₀ ga ba n m) (.setA x a y) := fun c env t' ρ ρ' σ σ' o φ s A E Q ok P e h => by
  refine pkAssign_el (m := fun z => wpAny _ A (exec z env) Q E s) ok fun ts v pos k1 => one_el (m := fun z => wpAny _ A (exec (.Assign z v pos) env) Q E s) k1 fun t k1 => pkAttribute_el (m := fun z => wpAny _ A (exec (.Assign [z] v pos) env) Q E s) k1 fun oe nm p okk => and3E okk fun o1 ox oy => and2E o1 fun onc o1 => eqE (m := fun z => wpAny _ A (exec (.Assign [.Attribute oe z p] v pos) env) Q E s) o1 ?_
  obtain ⟨⟨v1, σ1⟩, e1, e⟩ := bind_some e; obtain ⟨⟨v2, σ2⟩, e2, e⟩ := bind_some e; refine mapS1 e h fun σ3 e3 h => ?_
  dsimp only at e3
  refine plainObj_wpAny_Assign_Attribute (s_two (α := Unit) hy hx oy ox P e1 e2 fun φ1 h1 t1 u1 u2 S1 R1 r1 r2 => ?_) (swaps_no onc)
  rw [P.cx.P, B.an]
  refine put_op (s := { s with heap := h1, toks := t1 }) B R1 e3 r2 r1 fun h' tk K R' => ?_
  have S : Stp false φ s.heap φ1 h' := ⟨S1.grow, S1.keep.trans0 S1.grow K, fun z => by cases z⟩
  exact h φ1 h' tk _ (.of S) R' (S.fra P.F) rfl

theorem aop_op (op : Aop) {a b r : V} {ua ub : Value} {Q : Value → Shared → Prop} (e : op.run a b = some r) (ra : Rep w φ s.heap a ua) (rb : Rep w φ s.heap b ub) (h : Gives1 w φ s r Q) : wpAny (model prog w) A (inplaceOp op.py ua ub) Q E s := by
  obtain ⟨x, y, rfl, rfl, e⟩ := int2_some e
  cases e
  rw [Rep] at ra rb; obtain ⟨t, rfl⟩ := ra; obtain ⟨t', rfl⟩ := rb
  cases op
  · exact PySem.P.iadd_int (h.tok (by rw [Rep]; exact ⟨_, rfl⟩))
  · exact PySem.P.isub_int (h.tok (by rw [Rep]; exact ⟨_, rfl⟩))

theorem st_augA {x y : X} {a : Nat} {op : Aop} (B : Base G prog w N h₀ K ga ba n) (hx : (EvOk G prog w N h₀ ga ba n) x) (hy : (EvOk G prog w N h₀ ga ba n) y) : (StOk G prog w N h₀ ga ba n m) (.augA x a op y) := fun c env t' ρ ρ' σ σ' o φ s A E Q ok P e h => by
  refine pkAug_el (m := fun z => wpAny _ A (exec z env) Q E s) ok fun t op' v pos k1 => pkAttribute_el (m := fun z => wpAny _ A (exec (.AugAssign z op' v pos) env) Q E s) k1 fun oe nm p okk => and3E okk fun o1 ox oy => and2E o1 fun o0 o1 => eqE (m := fun z => wpAny _ A (exec (.AugAssign (.Attribute oe z p) op' v pos) env) Q E s) o1 (eqE (m := fun z => wpAny _ A (exec (.AugAssign (.Attribute oe _ p) z v pos) env) Q E s) o0 ?_)
  obtain ⟨⟨v1, σ1⟩, e1, e⟩ := bind_some e; obtain ⟨old, e2, e⟩ := bind_some e; obtain ⟨⟨v2, σ2⟩, e3, e⟩ := bind_some e; obtain ⟨v, e4, e⟩ := bind_some e; refine mapS1 e h fun σ3 e5 h => ?_
  dsimp only at e2 e3 e4 e5
  refine wpAny_AugAssign_AttributeAny (hx _ _ _ _ _ _ _ _ _ _ _ _ ox P e1 fun φ1 h1 t1 u1 S1 R1 r1 => ?_)
  rw [P.cx.P, B.an]
  refine attr_op (s := { s with heap := h1, toks := t1 }) B R1 e2 r1 fun u0 h2 t2 x2 r0 => ?_
  have S2 : Stp (pureX x) φ s.heap φ1 h2 := ⟨S1.grow, S1.keep.trans0 S1.grow x2.keep, fun z => let ⟨a, b⟩ := S1.pu z; ⟨a, b.trans x2⟩⟩
  refine hy _ _ _ _ _ _ _ _ _ _ _ _ oy (P.step S2 (R1.ext x2)) e3 fun φ3 h3 t3 u3 S3 R3 r3 => ?_
  have S := S2.trans (R1.ext x2) S3
  refine aop_op (s := { s with heap := h3, toks := t3 }) op e4 (S3.rep r0) r3 fun u4 h4 t4 x4 r4 => ?_
  refine put_op (s := { s with heap := h4, toks := t4 }) B (R3.ext x4) e5 ((S3.rep (r1.ext x2)).ext x4) r4 fun h' tk K R' => ?_
  have S' : Stp false φ s.heap φ3 h' := ⟨S.grow, (S.keep.trans0 S.grow x4.keep).trans0 S.grow K, fun z => by cases z⟩
  exact h φ3 h' tk _ (.of S') R' (S'.fra P.F) rfl

theorem loopW_succ {cond : Rho → St → Option (Bool × St)} {body : Rho → St → Res} {k : Nat} : loopW cond body (k + 1) ρ σ = (cond ρ σ).bind fun p => if p.1 then (body ρ p.2).bind fun r => match r.1 with
      | .next => loopW cond body k r.2.1 r.2.2
      | .ret v => some (.ret v, r.2)
    else some (.next, ρ, p.2) := rfl

/-- what holds ahead of each turn of a while -/
inductive WInv (G : Sg) (N : Names) (w : World) (h₀ : Heap) (m : Nat) (env : Env) (vars : List Str) (x : X) (b : List S) (s : Shared) (φ : Phi) (o : Out) (ρ' : Rho) (σ' : St) (k : Nat) (s' : Shared) : Prop where
  | mk (φ1 : Phi) (h1 : Heap) (t1 : Tok) (ρ1 : Rho) (σ1 : St) (e : s' = { s with heap := h1, toks := t1 }) (S1 : StS (pureS (.whl x b)) (own env) φ s.heap φ1 h1) (R1 : Rel N w h₀ σ1 φ1 h1) (F1 : Fra w h₀ φ1 env vars ρ1 h1)
    (l : loopW (fun ρ σ => (ev G ρ σ x).bind fun p => (boolOf p.1).map (·, p.2)) (fun ρ σ => exB G m b ρ σ) k ρ1 σ1 = some (o, ρ', σ'))
theorem whl_turn {x : X} {b : List S} (hx : (TsOk G prog w N h₀ ga ba n) x) (hb : (BlOk G prog w N h₀ ga ba n m) b) {te : Expr} {bs : List Stmt} {Q : Flow → Shared → Prop} (o1 : okX c x te = true) (o2 : okB c b bs = true) (P : Pre G N w h₀ ga ba n c env A ρ σ φ s) (h : AftS N w h₀ (pureS (.whl x b)) o ρ' σ' env c.vars φ s Q)
    {k : Nat} {s' : Shared} (I : WInv G N w h₀ m env c.vars x b s φ o ρ' σ' k s') {EE : Value → Shared → Prop} {NX : Flow → Shared → Prop} {BB : Bool → Shared → Prop}
    (bt : ∀ s1, wpAny (model prog w) A (execs bs env) NX EE s1 → BB true s1) (nx : ∀ s1, (∃ k', k' < k ∧ WInv G N w h₀ m env c.vars x b s φ o ρ' σ' k' s1) → NX .next s1) (nr : ∀ u s1, Q (.ret u) s1 → NX (.ret u) s1) (bf : ∀ s1, Q .next s1 → BB false s1) :
    wpAny (model prog w) A (isTrue te env (eval te env)) BB EE s' := by
  have le : pureS (.whl x b) = true → pureX x = true ∧ pureB b = true := fun z => and2 z
  obtain ⟨φ1, h1, t1, ρ1, σ1, rfl, S1, R1, F1, e⟩ := I
  cases k with
  | zero => cases e
  | succ k =>
    rw [loopW_succ] at e
    refine bind2 e fun t σ2 e1 e => bind2 e1 fun v σ2' e2 e1 => map1 e1 fun t' e3 e1 => ?_
    cases e1
    have P1 : Pre G N w h₀ ga ba n c env A ρ1 σ1 φ1 { s with heap := h1, toks := t1 } := P.stepS (p := true) R1 F1
    refine hx _ _ _ _ _ _ _ _ _ _ _ _ _ o1 P1 e2 e3 fun φ2 h2 t2 S2 R2 => ?_
    have S12 : StS (pureS (.whl x b)) (own env) φ s.heap φ2 h2 := (S1.trans R1 (S2.fra F1).notm (StS.of S2)).weak fun z => by rw [z, (le z).1]; rfl
    cases t with
    | false =>
      cases e
      exact bf _ (h φ2 h2 t2 _ S12 R2 (S2.fra F1) rfl)
    | true =>
      refine bind3 e fun o3 ρ3 σ3 e4 e => bt _ (hb _ _ _ _ _ _ _ _ _ _ _ _ _ o2 (P1.step S2 R2) e4 fun φ3 h3 t3 f S3 R3 F3 fl => ?_)
      have S13 : StS (pureS (.whl x b)) (own env) φ s.heap φ3 h3 := (S12.trans R2 F3.notm S3).weak fun z => by rw [z, (le z).2]; rfl
      cases o3 with
      | next => cases fl; exact nx _ ⟨k, Nat.lt_succ_self k, φ3, h3, t3, ρ3, σ3, rfl, S13, R3, F3, e⟩
      | ret v => obtain ⟨u, rfl, r⟩ := fl; cases e; exact nr u _ (h φ3 h3 t3 _ S13 R3 F3 ⟨u, rfl, r⟩)
theorem st_whl {x : X} {b : List S} (hx : (TsOk G prog w N h₀ ga ba n) x) (hb : (BlOk G prog w N h₀ ga ba n m) b) : (StOk G prog w N h₀ ga ba n m) (.whl x b) := fun c env t' ρ ρ' σ σ' o φ s A E Q ok P e h => by
  refine pkWhile_el (m := fun z => wpAny _ A (exec z env) Q E s) ok fun te bs el pos k1 => and2E k1 fun k2 k3 => nil_el (m := fun z => wpAny _ A (exec (.While te bs z pos) env) Q E s) k2 (and2E k3 fun o1 o2 => ?_)
  exact wpAny_While (codeAny_whileLoop (WInv G N w h₀ m env c.vars x b s φ o ρ' σ') (fun k s' I => whl_turn hx hb o1 o2 P h I (fun _ z => z) (fun _ z => z) (fun _ _ z => z) (fun _ z => wpAny_execs_nil z)) m ⟨φ, s.heap, s.toks, ρ, σ, rfl, .refl _, P.R, P.F, e⟩)
end
end Mine
end

section
open PySem PySem.W PyProof.Rows PySem.Calls
set_option Elab.async false
set_option maxRecDepth 100000
namespace Mine
section
variable {N : Names} {prog : Program} {w : World} {h₀ h h' h₁ h₂ : Heap} {σ σ' σ₁ σ₂ : St} {φ φ' φ₁ φ₂ : Phi} {env : Env} {vars : List Str} {ρ ρ' ρ₁ ρ₂ : Rho} {A : Around} {E : Value → Shared → Prop} {s : Shared} {G : Sg} {K : Frag} {ga ba : Addr} {n m : Nat} {c : Cx} {o : Out}


theorem go_tuple {I : Addr} {elts : List Expr} {k : Nat} {pos : Pos} {v : Value} {o : Obj} {Q : Unit → Shared → Prop} (e : s.heap.get? I = some o) (z : NotZip o) (h : Q () s) : wpAny (model prog w) A (letOwnedTupleGo (.Tuple elts k pos) (.ref I) v) Q E s := by
  obtain ⟨nm, hc, hz⟩ := z
  cases v <;> try exact wpAny_pure h
  rename_i a
  unfold letOwnedTupleGo
  refine wpAny_bind (wpAny_load e ?_)
  rw [hc]
  cases hd : o.data <;> try exact wpAny_pure h
  rename_i vs
  show wpAny _ A (if (zips.contains nm && vs[0]? == some (rawInt a)) = true then _ else _) Q E s
  rw [hz, Bool.false_and, if_neg (by decide)]
  exact wpAny_pure h

/-- how a loop's target takes a value -/
noncomputable def Takes (prog : Program) (w : World) (N : Names) (h₀ : Heap) (c : Cx) (env : Env) (target : Expr) (setF : V → Rho → Option Rho) : Prop :=
  ∀ (A : Around) (E : Value → Shared → Prop) (s : Shared) (σ : St) (φ : Phi) (v : V) (u : Value) (ρ₁ ρ₂ : Rho) (Q : Unit → Shared → Prop), A.handled = none → setF v ρ₁ = some ρ₂ → Rel N w h₀ σ φ s.heap → Fra w h₀ φ env c.vars ρ₁ s.heap → Rep w φ s.heap v u →
    (∀ h' tk, KeepO (own env) s.heap h' → Rel N w h₀ σ φ h' → Fra w h₀ φ env c.vars ρ₂ h' → Q () { s with heap := h', toks := tk }) → wpAny (model prog w) A (assign target env u) Q E s

/-- what holds ahead of each turn of a for -/
inductive FInv (G : Sg) (N : Names) (w : World) (h₀ : Heap) (m : Nat) (env : Env) (vars : List Str) (setF : V → Rho → Option Rho) (b : List S) (s : Shared) (φ : Phi) (its : List V) (pu : Bool) (St' : Nat → Heap → Prop) (I : Addr) (o : Out) (ρ' : Rho) (σ' : St) (k : Nat) (s' : Shared) : Prop where
  | mk (φ1 : Phi) (h1 : Heap) (t1 : Tok) (ρ1 : Rho) (σ1 : St) (i : Nat) (e : s' = { s with heap := h1, toks := t1 }) (ek : k = its.length + 1 - i) (hi : i ≤ its.length) (st : St' i h1) (S1 : StS pu (own env) φ s.heap φ1 h1) (R1 : Rel N w h₀ σ1 φ1 h1) (F1 : Fra w h₀ φ1 env vars ρ1 h1) (Im : I ∉ muts φ1)
    (l : loopF setF (fun ρ σ => exB G m b ρ σ) (its.drop i) ρ1 σ1 = some (o, ρ', σ'))
theorem for_across {b : List S} {its : List V} {I : Addr} {fp : List Addr} {Pp : Nat → Value → Prop} {St' : Nat → Heap → Prop} {pu : Bool} {φ1 : Phi} {h1 h2 : Heap} {ρ1 : Rho} {σ1 : St} {i : Nat} (P : Pre G N w h₀ ga ba n c env A ρ σ φ s) (Sr : Src prog w A φ s.heap I its h₂ fp Pp St')
    (st1 : St' i h1) (S1 : StS pu (own env) φ s.heap φ1 h1) (R1 : Rel N w h₀ σ1 φ1 h1) (F1 : Fra w h₀ φ1 env c.vars ρ1 h1) (Im1 : I ∉ muts φ1) (hk : ∀ b o, b ∉ [I] → h1.get? b = some o → h2.get? b = some o) : StS pu (own env) φ s.heap φ1 h2 ∧ Rel N w h₀ σ1 φ1 h2 ∧ Fra w h₀ φ1 env c.vars ρ1 h2 := by
  have Iown : I ∉ own env := fun q => by obtain ⟨o, e⟩ := P.F.own_some I q; rw [Sr.new] at e; cases e
  have I0 : h₀.get? I = none := by
    cases e : h₀.get? I with
    | none => rfl
    | some o => have := P.R.base _ _ e; rw [Sr.new] at this; cases this
  have neI : ∀ {b o}, s.heap.get? b = some o → b ∉ [I] := fun e q => by rw [List.mem_singleton.mp q, Sr.new] at e; cases e
  obtain ⟨oI, eI, looseI, zI⟩ := Sr.stays i h1 st1
  have OI : Own h1 [I] := fun b hb => by rw [List.mem_singleton.mp hb]; exact ⟨oI, eI, looseI⟩
  have K : Keep φ1 [I] h1 h2 := fun b o e _ nb => hk b o nb e
  refine ⟨⟨S1.grow, fun b o e n1 n2 => hk b o (neI e) (S1.keep b o e n1 n2), fun z => let ⟨a, x⟩ := S1.pu z; ⟨a, fun b o e n2 => hk b o (neI e) (x b o e n2)⟩⟩,
    R1.own K OI (fun b hb => by rw [List.mem_singleton.mp hb]; exact I0) fun mm hm => ?_, F1.keep (.refl _ _) K OI fun b hb q => Iown (List.mem_singleton.mp q ▸ hb)⟩
  obtain ⟨o, e⟩ := Option.isSome_iff_exists.mp (R1.mut_some mm hm)
  rw [e, hk mm o (fun q => Im1 (List.mem_singleton.mp q ▸ hm)) e]

theorem for_turn {target : Expr} {bs : List Stmt} {b : List S} {its : List V} {I : Addr} {fp : List Addr} {Pp : Nat → Value → Prop} {St' : Nat → Heap → Prop} {setF : V → Rho → Option Rho} {Q : Flow → Shared → Prop} {pu : Bool}
    (P : Pre G N w h₀ ga ba n c env A ρ σ φ s) (hb : (BlOk G prog w N h₀ ga ba n m) b) (ob : okB c b bs = true) (T : Takes prog w N h₀ c env target setF) (hgo : (∃ nm p, target = .Name nm p) ∨ ∃ elts k p, target = .Tuple elts k p)
    (Sr : Src prog w A φ s.heap I its h₂ fp Pp St') (le : pu = true → pureB b = true) (h : AftS N w h₀ pu o ρ' σ' env c.vars φ s Q)
    {k : Nat} {s' : Shared} (J : FInv G N w h₀ m env c.vars setF b s φ its pu St' I o ρ' σ' k s') {EE : Value → Shared → Prop} {NX : Flow → Shared → Prop} {QN : Option Value → Shared → Prop}
    (some_ : ∀ u s1, wpAny (model prog w) A (letOwnedTupleGo target (.ref I) u) (fun _ s2 => wpAny (model prog w) A (assign target env u) (fun _ s3 => wpAny (model prog w) A (execs bs env) NX EE s3) EE s2) EE s1 → QN (some u) s1) (none_ : ∀ s1, Q .next s1 → QN none s1)
    (nx : ∀ s1, (∃ k', k' < k ∧ FInv G N w h₀ m env c.vars setF b s φ its pu St' I o ρ' σ' k' s1) → NX .next s1) (nr : ∀ u s1, Q (.ret u) s1 → NX (.ret u) s1) :
    wpAny (model prog w) A (pyNext (.ref I)) QN EE s' := by
  obtain ⟨φ1, h1, t1, ρ1, σ1, i, rfl, rfl, hi, st1, S1, R1, F1, Im1, e⟩ := J
  have O₁ := P.F.own_ok
  by_cases hlt : i < its.length
  · refine Sr.walks.item i _ _ _ hlt st1 fun u h2 t2 hP st2 hk => some_ _ _ ?_
    obtain ⟨S2, R2, F2⟩ := for_across (b := b) P Sr st1 S1 R1 F1 Im1 hk
    rw [List.drop_eq_getElem_cons hlt] at e
    refine bind1 e fun ρ2 e1 e => bind3 e fun o3 ρ3 σ3 e2 e => ?_
    have rx := (Sr.item i u _ hP (List.getElem?_eq_getElem hlt)).mono S2.grow S2.keep O₁
    obtain ⟨oI2, eI2, _, zI2⟩ := Sr.stays _ _ st2
    have go : ∀ {Q : Unit → Shared → Prop} {E' : Value → Shared → Prop}, Q () { s with heap := h2, toks := t2 } → wpAny (model prog w) A (letOwnedTupleGo target (.ref I) u) Q E' { s with heap := h2, toks := t2 } := fun hq => by
      rcases hgo with ⟨_, _, rfl⟩ | ⟨_, _, _, rfl⟩
      · exact wpAny_pure hq
      · exact go_tuple (s := { s with heap := h2, toks := t2 }) eI2 zI2 hq
    have fpown : ∀ b ∈ fp, b ∉ own env := fun b hb => by
      rcases Sr.fps b hb with rfl | ⟨o, e, _, t⟩
      · exact fun q => by obtain ⟨o, e⟩ := P.F.own_some _ q; rw [Sr.new] at e; cases e
      · exact O₁.ne e t
    refine go (T A _ { s with heap := h2, toks := t2 } σ1 φ1 _ u ρ1 ρ2 _ P.a.1 e1 R2 F2 rx fun h3 t3 K3 R3 F3 => ?_)
    have st3 : St' (i + 1) h3 := Sr.walks.frame _ _ _ st2 fun b hb o e => K3 b o e (fpown b hb)
    have S3 : StS pu (own env) φ s.heap φ1 h3 := ⟨S2.grow, fun b o e n1 n2 => K3 _ _ (S2.keep b o e n1 n2) n2, fun z => let ⟨a, x⟩ := S2.pu z; ⟨a, fun b o e n2 => K3 _ _ (x b o e n2) n2⟩⟩
    refine hb _ _ _ _ _ _ _ _ _ _ _ _ _ ob (P.stepS (p := true) R3 F3) e2 fun φ4 h4 t4 f S4 R4 F4 fl => ?_
    have S14 : StS pu (own env) φ s.heap φ4 h4 := (S3.trans R3 F4.notm S4).weak fun z => by rw [z, le z]; rfl
    cases o3 with
    | ret v => obtain ⟨u', rfl, r⟩ := fl; cases e; exact nr u' _ (h φ4 h4 t4 _ S14 R4 F4 ⟨u', rfl, r⟩)
    | next =>
      cases fl
      obtain ⟨o', e', _⟩ := Sr.stays _ _ st3
      refine nx _ ⟨_, sub_step hlt, φ4, h4, t4, ρ3, σ3, i + 1, rfl, rfl, hlt, Sr.walks.frame _ _ _ st3 fun b hb o e => S4.keep b o e ?_ (fpown b hb), S14, R4, F4, S4.grow.notmem e' Im1, e⟩
      rcases Sr.fps b hb with rfl | ⟨o, e, n, _⟩
      · exact Im1
      · exact S1.grow.notmem e n
  · cases Nat.le_antisymm hi (Nat.le_of_not_lt hlt)
    refine Sr.walks.done _ _ _ st1 fun h2 t2 hk => ?_
    obtain ⟨S2, R2, F2⟩ := for_across (b := b) P Sr st1 S1 R1 F1 Im1 hk
    rw [List.drop_of_length_le (Nat.le_refl _)] at e
    cases e
    exact none_ _ (h φ1 h2 t2 _ S2 R2 F2 rfl)

theorem for_core {target : Expr} {bs : List Stmt} {b : List S} {its : List V} {I : Addr} {fp : List Addr} {Pp : Nat → Value → Prop} {St' : Nat → Heap → Prop} {setF : V → Rho → Option Rho} {R : Result → Shared → Prop} {pu : Bool}
    (P : Pre G N w h₀ ga ba n c env A ρ σ φ s) (hb : (BlOk G prog w N h₀ ga ba n m) b) (ob : okB c b bs = true) (T : Takes prog w N h₀ c env target setF) (hgo : (∃ nm p, target = .Name nm p) ∨ ∃ elts k p, target = .Tuple elts k p)
    (Sr : Src prog w A φ s.heap I its h₂ fp Pp St') (le : pu = true → pureB b = true) {tk₂ : Tok} (e : loopF setF (fun ρ σ => exB G m b ρ σ) its ρ σ = some (o, ρ', σ'))
    (h : AftS N w h₀ pu o ρ' σ' env c.vars φ s fun f => R (.ok f)) :
    codeAny (model prog w) A (.forLoop target (.ref I) bs [] env) R { s with heap := h₂, toks := tk₂ } :=
  codeAny_forLoop_any (FInv G N w h₀ m env c.vars setF b s φ its pu St' I o ρ' σ')
    (fun k s' J => for_turn P hb ob T hgo Sr le h J (fun _ _ z => z) (fun _ z => wpAny_execs_nil z) (fun _ z => z) (fun _ _ z => z)) (its.length + 1)
    ⟨φ, h₂, tk₂, ρ, σ, 0, rfl, rfl, Nat.zero_le _, Sr.start, (StS.refl pu).ext Sr.ext, P.R.ext Sr.ext, P.F.ext Sr.ext, (fun q => by have := P.R.mut_some I q; rw [Sr.new] at this; cases this), e⟩

theorem takes_name {i : Nat} {nm : Str} {p : Pos} (cx : Cxt G c env ga ba) (ok : okV c i nm = true) : Takes prog w N h₀ c env (.Name nm p) (fun v ρ => some (ρ.set i (some v))) := fun A E s σ φ v u ρ₁ ρ₂ Q hh e R F r h => by
  cases e
  have ok := and2 ok
  exact wpAny_assign_Name (F.store R cx.nd (eq_of_beq ok.1) (cx.sc ▸ ok.2) r fun h' tk K F' R' => h h' tk K R' F')

theorem assign_all' {c : Cx} {env : Env} {Q : Unit → Shared → Prop} (cx : Cxt G c env ga ba) : ∀ {ns : List Str} {as : List (Value → Sem Unit)} {is : List Nat} {vs : List V} {us : List Value} {ρ₁ ρ₂ : Rho} {s : Shared}, Acts prog w env ns as → okVs c is ns = true → setAll is vs ρ₁ = some ρ₂ → Reps w φ s.heap vs us →
    Rel N w h₀ σ₁ φ s.heap → Fra w h₀ φ env c.vars ρ₁ s.heap →
    (∀ h' tk, Rel N w h₀ σ₁ φ h' → Fra w h₀ φ env c.vars ρ₂ h' → KeepO (own env) s.heap h' → Q () { s with heap := h', toks := tk }) →
    wpAny (model prog w) A (assignInOrder as us) Q E s
  | [], as, is, vs, us, ρ₁, ρ₂, s, ac, ok, e, r, R, F, h => by
    cases is with
    | cons _ _ => cases ok
    | nil =>
      cases vs with
      | cons _ _ => cases e
      | nil =>
        cases e; cases ac
        exact wpAny_pure (h s.heap s.toks R F fun _ _ e _ => e)
  | nm :: ns, as, is, vs, us, ρ₁, ρ₂, s, ac, ok, e, r, R, F, h => by
    cases is with
    | nil => cases ok
    | cons i is =>
      cases vs with
      | nil => cases e
      | cons v vs =>
        refine and2E ok fun ok1 ok2 => and2E ok1 fun o1 o2 => ?_
        obtain ⟨a, as', rfl, ha, ac'⟩ := ac
        rw [Reps] at r
        obtain ⟨u, us', rfl, r1, r2⟩ := r
        show wpAny _ A (do holding us' (a u); assignInOrder as' us') Q E _
        refine wpAny_bind (wpAny_holding (ha A E u _ _ (F.store R cx.nd (eq_of_beq o1) (cx.sc ▸ o2) r1 fun h' tk' K' F' R' => ?_)))
        exact assign_all' cx (s := { s with heap := h', toks := tk' }) ac' ok2 e (r2.mono (.refl _ _) K'.keep F.own_ok) R' F' fun h'' tk'' R'' F'' K'' => h h'' tk'' R'' F'' fun b o e nb => K'' _ _ (K' _ _ e nb) nb

theorem takes_tup {is : List Nat} {ns : List Str} {ts : List Expr} {k : Nat} {p : Pos} (cx : Cxt G c env ga ba) (hn : NamesAre ts ns) (ok : okVs c is ns = true) : Takes prog w N h₀ c env (.Tuple ts k p) (fun v ρ => setTup is false v ρ) := fun A E s σ φ v u ρ₁ ρ₂ Q hh e R F r h => by
  obtain ⟨vs, rfl, e⟩ := setTup_tup e
  obtain ⟨a, us, rfl, ht, rs⟩ := rep_tup r
  obtain ⟨ac, al, ai⟩ := acts_names (prog := prog) (w := w) (env := env) hn
  refine wpAny_assign_Tuple hh ht (by rw [al, List.size_toArray, rs.len, ← okVs_len ok, setAll_len e]) ai fun h2 x2 => ?_
  have X2 := extBut_size x2
  exact assign_all' cx (s := { s with heap := h2 }) ac ok e (rs.ext X2) (R.ext X2) (F.ext X2) fun h' tk R' F' K' => h h' tk (fun b o e nb => K' _ _ (X2 _ _ e) nb) R' F'

theorem asList_iter {v : V} {xs : List V} (e : asList v = some xs) : iterV v = some xs := by cases v <;> first | exact e | exact dead e
theorem st_for1 {i : Nat} {x : X} {b : List S} (hx : (EvOk G prog w N h₀ ga ba n) x) (hb : (BlOk G prog w N h₀ ga ba n m) b) : (StOk G prog w N h₀ ga ba n m) (.for1 i x b) := fun c env t' ρ ρ' σ σ' o φ s A E Q ok P e h => by
  refine pkFor_el (m := fun z => wpAny _ A (exec z env) Q E s) ok fun t ie bs el pos k1 => and2E k1 fun k2 k1 => nil_el (m := fun z => wpAny _ A (exec (.For t ie bs z pos) env) Q E s) k2 (pkName_el (m := fun z => wpAny _ A (exec (.For z ie bs [] pos) env) Q E s) k1 fun nm p okk => and3E okk fun o1 ox ob => and2E o1 fun ov onf => ?_)
  refine bind2 e fun v1 σ1 e1 e => ?_; refine bind1 e fun its e2 e4 => ?_
  clear e
  dsimp only at e2 e4
  have le : pureS (.for1 i x b) = true → pureX x = true ∧ pureB b = true := fun z => and2 z
  refine wpAny_For (hx _ _ _ _ _ _ _ _ _ _ _ _ ox P e1 fun φ1 h1 t1 u S1 R1 r1 => src_of P.a.1 e2 r1 fun I h₂ fp Pp St' Sr => ?_) (noFold_of onf)
  exact for_core (s := { s with heap := h1, toks := t1 }) (pu := pureS (.for1 i x b)) (P.step S1 R1) hb ob (takes_name P.cx ov) (.inl ⟨_, _, rfl⟩) Sr (fun z => (le z).2) e4 fun φ' h' tk f S' R' F' fl => h φ' h' tk f (((StS.of S1).trans R1 F'.notm S').weak fun z => by rw [z, (le z).1]; rfl) R' F' fl
theorem st_forT {is : List Nat} {x : X} {b : List S} (hx : (EvOk G prog w N h₀ ga ba n) x) (hb : (BlOk G prog w N h₀ ga ba n m) b) : (StOk G prog w N h₀ ga ba n m) (.forT is x b) := fun c env t' ρ ρ' σ σ' o φ s A E Q ok P e h => by
  refine pkFor_el (m := fun z => wpAny _ A (exec z env) Q E s) ok fun t ie bs el pos k1 => and2E k1 fun k2 k1 => nil_el (m := fun z => wpAny _ A (exec (.For t ie bs z pos) env) Q E s) k2 (pkTuple_el (m := fun z => wpAny _ A (exec (.For z ie bs [] pos) env) Q E s) k1 fun ts k p okk => and3E okk fun o1 ox ob => and2E o1 fun on onf => ?_)
  obtain ⟨ns, hns, on⟩ := namesOf_el on
  refine bind2 e fun v1 σ1 e1 e => ?_; refine bind1 e fun its e2 e4 => ?_
  clear e
  dsimp only at e2 e4
  have e2' : iterV v1 = some its := asList_iter e2
  have le : pureS (.forT is x b) = true → pureX x = true ∧ pureB b = true := fun z => and2 z
  refine wpAny_For (hx _ _ _ _ _ _ _ _ _ _ _ _ ox P e1 fun φ1 h1 t1 u S1 R1 r1 => src_of P.a.1 e2' r1 fun I h₂ fp Pp St' Sr => ?_) (noFold_of onf)
  exact for_core (s := { s with heap := h1, toks := t1 }) (pu := pureS (.forT is x b)) (P.step S1 R1) hb ob (takes_tup P.cx hns on) (.inr ⟨_, _, _, rfl⟩) Sr (fun z => (le z).2) e4 fun φ' h' tk f S' R' F' fl => h φ' h' tk f (((StS.of S1).trans R1 F'.notm S').weak fun z => by rw [z, (le z).1]; rfl) R' F' fl

mutual
theorem soundS (B : Base G prog w N h₀ K ga ba n) (L : Long G prog w N h₀ K ga ba n) : ∀ t : S, (StOk G prog w N h₀ ga ba n m) t
  | .expr x => st_expr (sound B L x).1
  | .set i x => st_set (sound B L x).1 fun h => cm_sound B L h
  | .setT is rev x => st_setT (sound B L x).1
  | .setA o a x => st_setA B (sound B L o).1 (sound B L x).1
  | .augA o a op x => st_augA B (sound B L o).1 (sound B L x).1
  | .ite q a b => st_ite (sound B L q).2 (soundB B L a) (soundB B L b)
  | .whl q b => st_whl (sound B L q).2 (soundB B L b)
  | .for1 i x b => st_for1 (sound B L x).1 (soundB B L b)
  | .forT is x b => st_forT (sound B L x).1 (soundB B L b)
  | .ret x => st_ret (sound B L x).1
theorem soundB (B : Base G prog w N h₀ K ga ba n) (L : Long G prog w N h₀ K ga ba n) : ∀ ts : List S, (BlOk G prog w N h₀ ga ba n m) ts
  | [] => b_nil
  | t :: r => b_cons (soundS B L t) (soundB B L r)
end
end
end Mine
end

section
open PySem PySem.W PyProof.Rows PySem.Calls
set_option Elab.async false
set_option maxRecDepth 100000
namespace Mine

theorem zip_lookup : ∀ {ns : List Str} {vs : List Value}, ns.Nodup → ns.length = vs.length → ∀ n ∈ ns, ((ns.zip vs).lookup n).isSome
  | [], _, _, _, n, h => absurd h List.not_mem_nil
  | a :: r, [], _, l, n, h => by simp at l
  | a :: r, v :: vs, nd, l, n, h => by
    rw [List.zip_cons_cons, List.lookup_cons]
    cases e : n == a with
    | true => rfl
    | false =>
      rcases List.mem_cons.mp h with q | q
      · subst q; simp at e
      · exact zip_lookup (List.nodup_cons.mp nd).2 (by simpa using l) n q
theorem zip_filterMap : ∀ {ns : List Str} {vs : List Value} (pre : List (Str × Value)), ns.Nodup → ns.length = vs.length → (∀ n ∈ ns, pre.lookup n = none) → (ns.filterMap fun n => ((pre ++ ns.zip vs).lookup n).map (n, ·)) = ns.zip vs
  | [], _, _, _, _, _ => rfl
  | a :: r, [], _, _, l, _ => by simp at l
  | a :: r, v :: vs, pre, nd, l, hp => by
    obtain ⟨na, nr⟩ := List.nodup_cons.mp nd
    have hl : (pre ++ (a, v) :: r.zip vs).lookup a = some v := by
      have : pre.lookup a = none := hp a List.mem_cons_self
      rw [List.lookup_append, this]
      simp [List.lookup_cons]
    rw [List.zip_cons_cons, List.filterMap_cons, hl]
    show (a, v) :: _ = (a, v) :: _
    congr 1
    have ih := zip_filterMap (ns := r) (vs := vs) (pre ++ [(a, v)]) nr (by simpa using l) fun n hn => by
      rw [List.lookup_append, hp n (List.mem_cons_of_mem _ hn)]
      have : (n == a) = false := beq_eq_false_iff_ne.mpr fun e => na (e ▸ hn)
      simp [List.lookup_cons, this]
    rw [List.append_assoc, List.singleton_append] at ih
    exact ih

noncomputable def plainParams (args : List Arg) : Arguments := ⟨[], args, none, [], [], none, []⟩

theorem bind_plain {fd : FuncData} {args : List Arg} {vals : List Value} (hp : fd.params = plainParams args) (hd : fd.defaults = .none) (nd : (args.map (·.arg)).Nodup) (hl : vals.length = args.length) :
    bindArgs fd ⟨vals, []⟩ = pure ((args.map (·.arg)).zip vals) := by
  have hlen : (args.map (·.arg)).length = vals.length := by rw [List.length_map, hl]
  have sq : seqItems? Value.none = pure none := rfl
  unfold bindArgs
  rw [hp, hd]
  simp only [plainParams, sq]
  simp only [List.map_nil, List.nil_append, List.forIn_nil, pure_bind, Option.getD_none, List.length_nil, List.drop_nil, Nat.sub_zero, List.zip_nil_right, Option.isNone_none, Bool.and_true, List.append_nil, List.map]
  have e1 : ((args.map (·.arg)).take (args.map (·.arg)).length).filter (fun n => (((args.map (·.arg)).zip vals).lookup n).isNone) = [] := by
    rw [List.take_length, List.filter_eq_nil_iff]
    intro n hn
    have := zip_lookup nd hlen n hn
    simp [Option.isNone_iff_eq_none, Option.isSome_iff_ne_none.mp this]
  have e2 : decide (vals.length > (args.map (·.arg)).length) = false := by rw [hlen]; simp
  have e3 := zip_filterMap (ns := args.map (·.arg)) (vs := vals) [] nd hlen fun _ _ => rfl
  rw [List.nil_append] at e3
  simp only [e1, e2, e3, List.isEmpty_nil, Bool.not_true, Bool.false_eq_true, if_false, pure_bind, List.zip_nil_right]
  exact if_neg fun q => Nat.lt_irrefl _ (Nat.lt_of_lt_of_eq (of_decide_eq_true q) hlen.symm)
end Mine
end

section
open PySem PySem.W PyProof.Rows PySem.Calls
set_option Elab.async false
set_option maxRecDepth 100000
namespace Mine

noncomputable def runB (G : Sg) (m k nv : Nat) (body : List S) : Sem1 := fun xs σ =>
  if xs.length = k then (exB G m body (xs.map some ++ List.replicate nv none) σ).bind fun r => match r.1 with
    | .ret v => some (v, r.2.2)
    | .next => some (.none, r.2.2)
  else none

noncomputable def nodupB : List Str → Bool
  | [] => true
  | a :: r => !r.contains a && nodupB r
theorem nodupB_iff : ∀ {l : List Str}, nodupB l = true → l.Nodup
  | [], _ => List.nodup_nil
  | a :: r, h => by
    simp only [nodupB, Bool.and_eq_true, Bool.not_eq_true'] at h
    refine List.nodup_cons.mpr ⟨fun m => ?_, nodupB_iff h.2⟩
    rw [List.contains_iff_mem.mpr m] at h
    exact absurd h.1 (by decide)

/-- what is checked of a function's text -/
noncomputable def okFn (P : Pg) (args : List Arg) (vars : List Str) (scope : Scope) (nv : Nat) (body : List S) (stmts : List Stmt) : Bool :=
  scope.kind == .function && !scope.isCoroutine && !scope.isGenerator && nodupB vars && !vars.contains (".0" : Str) && nodupB (scope.names.map (·.1)) && vars.take args.length == args.map (·.arg) && vars.length == args.length + nv && ((args.map (·.arg)).all fun n => varOk scope n) && okB ⟨scope, vars, P⟩ body stmts

section
theorem bindL_other {kindOf : Str → Option NameKind} {n : Str} : ∀ {binds : List (Str × Value)} {m : Str → Option Value}, (∀ p ∈ binds, p.1 ≠ n) → bindL kindOf binds m n = m n
  | [], _, _ => rfl
  | (a, v) :: r, m, h => by
    unfold bindL
    rw [bindL_other fun p hp => h p (List.mem_cons_of_mem _ hp)]
    split
    · exact if_neg fun e => h (a, v) List.mem_cons_self e.symm
    · rfl
theorem bindL_get {kindOf : Str → Option NameKind} {n : Str} {u : Value} : ∀ {binds : List (Str × Value)} {m : Str → Option Value}, (binds.map (·.1)).Nodup → (n, u) ∈ binds → kindOf n = some .local → bindL kindOf binds m n = some u
  | [], _, _, h, _ => absurd h List.not_mem_nil
  | (a, v) :: r, m, nd, h, hk => by
    obtain ⟨na, nr⟩ := List.nodup_cons.mp nd
    unfold bindL
    rcases List.mem_cons.mp h with q | q
    · cases q
      have no : ∀ p ∈ r, p.1 ≠ n := fun p hp e => na (by
        have := List.mem_map_of_mem (f := (·.1)) hp
        rw [e] at this; exact this)
      rw [bindL_other no, if_pos hk]
      exact if_pos rfl
    · exact bindL_get nr q hk
theorem bindC_other {kindOf : Str → Option NameKind} {n : Str} : ∀ {binds : List (Str × Value)} {m : Str → Option Value}, (∀ p ∈ binds, p.1 ≠ n) → bindC kindOf binds m n = m n
  | [], _, _ => rfl
  | (a, v) :: r, m, h => by
    unfold bindC
    rw [bindC_other fun p hp => h p (List.mem_cons_of_mem _ hp)]
    split
    · rfl
    · exact if_neg fun e => h (a, v) List.mem_cons_self e.symm
theorem bindC_get {kindOf : Str → Option NameKind} {n : Str} {u : Value} : ∀ {binds : List (Str × Value)} {m : Str → Option Value}, (binds.map (·.1)).Nodup → (n, u) ∈ binds → kindOf n ≠ some .local → bindC kindOf binds m n = some u
  | [], _, _, h, _ => absurd h List.not_mem_nil
  | (a, v) :: r, m, nd, h, hk => by
    obtain ⟨na, nr⟩ := List.nodup_cons.mp nd
    unfold bindC
    rcases List.mem_cons.mp h with q | q
    · cases q
      have no : ∀ p ∈ r, p.1 ≠ n := fun p hp e => na (by
        have := List.mem_map_of_mem (f := (·.1)) hp
        rw [e] at this; exact this)
      rw [bindC_other no, if_neg hk]
      exact if_pos rfl
    · exact bindC_get nr q hk

theorem cellsFrom_acc : ∀ {names : List (Str × NameKind)} {k : Nat} {acc : List (Str × Addr)} {x : Str × Addr}, x ∈ acc → x ∈ cellsFrom k names acc
  | [], _, _, _, h => h
  | (n, kd) :: r, k, acc, x, h => by
    unfold cellsFrom
    split
    · exact cellsFrom_acc (List.mem_cons_of_mem _ h)
    · exact cellsFrom_acc h
theorem cellsFrom_has : ∀ {names : List (Str × NameKind)} {k : Nat} {acc : List (Str × Addr)} {n : Str}, (n, NameKind.cell) ∈ names → ∃ c, (n, c) ∈ cellsFrom k names acc
  | (m, kd) :: r, k, acc, n, h => by
    unfold cellsFrom
    rcases List.mem_cons.mp h with q | q
    · cases q
      rw [if_pos (by rfl)]
      exact ⟨_, cellsFrom_acc List.mem_cons_self⟩
    · split
      · exact cellsFrom_has q
      · exact cellsFrom_has q
theorem cellsFrom_keys : ∀ {names : List (Str × NameKind)} {k : Nat} {acc : List (Str × Addr)}, (names.map (·.1)).Nodup → (acc.map (·.1)).Nodup → (∀ n ∈ acc.map (·.1), n ∉ names.map (·.1)) → ((cellsFrom k names acc).map (·.1)).Nodup
  | [], _, _, _, h, _ => h
  | (m, kd) :: r, k, acc, nd, na, dis => by
    obtain ⟨nm, nr⟩ := List.nodup_cons.mp nd
    unfold cellsFrom
    split
    · refine cellsFrom_keys nr (List.nodup_cons.mpr ⟨fun q => dis m q List.mem_cons_self, na⟩) fun n hn => ?_
      rcases List.mem_cons.mp hn with rfl | hn
      · exact nm
      · exact fun q => dis n hn (List.mem_cons_of_mem _ q)
    · exact cellsFrom_keys nr na fun n hn q => dis n hn (List.mem_cons_of_mem _ q)
theorem lookup_of_nodup {α : Type} : ∀ {l : List (Str × α)} {n : Str} {c : α}, (l.map (·.1)).Nodup → (n, c) ∈ l → l.lookup n = some c
  | (k, v) :: r, n, c, nd, h => by
    obtain ⟨nk, nr⟩ := List.nodup_cons.mp nd
    rw [List.lookup_cons]
    rcases List.mem_cons.mp h with q | q
    · cases q; simp
    · have : (n == k) = false := beq_eq_false_iff_ne.mpr fun e => nk (e ▸ (List.mem_map_of_mem (f := (·.1)) q : n ∈ r.map (·.1)))
      rw [this]; exact lookup_of_nodup nr q
end

/-- a function's object -/
noncomputable def FnObj (K : Frag) (f : Addr) (args : List Arg) (body : List Stmt) (scope : Scope) : Prop :=
  ∃ (oc : Value) (od an : Option Addr) (osl : Array (Option Value)) (name qual : Str) (kV doc pm cdv ct : Value), K.lookup f = some ⟨oc, od, .func (fnOf name qual (plainParams args) body scope .none kV doc pm an cdv ct), osl⟩ ∧ codeIn K cdv qual = true

section
variable {N : Names} {prog : Program} {w : World} {h₀ : Heap} {G : Sg} {K : Frag} {n : Nat}

theorem runB_len {m k nv : Nat} {body : List S} {xs : List V} {σ : St} {r : V × St} (e : runB G m k nv body xs σ = some r) : xs.length = k ∧ ((exB G m body (xs.map some ++ List.replicate nv none) σ).bind fun r => match r.1 with
    | .ret v => some (v, r.2.2)
    | .next => some (.none, r.2.2)) = some r := by
  by_cases q : xs.length = k
  · exact ⟨q, (if_pos q).symm.trans e⟩
  · rw [runB, if_neg q] at e; cases e
theorem fn_run (B : Base G prog w N h₀ K mainGlobals builtinsNs n) (L : Long G prog w N h₀ K mainGlobals builtinsNs n) (hlim : h₀.NoLimit) {f : Addr} {args : List Arg} {vars : List Str} {scope : Scope} {nv : Nat} {body : List S} {stmts : List Stmt}
    (FO : FnObj K f args stmts scope) (ok : okFn G.P args vars scope nv body stmts = true) {m : Nat} {A : Around} {s : Shared} {σ σ' : St} {φ : Phi} {xs : List V} {vs : List Value} {r : V} {Q : Result → Shared → Prop} {pu : Bool} (hpu : pu = true → pureB body = true)
    (a : AOk (n + 1) A) (R : Rel N w h₀ σ φ s.heap) (rs : Reps w φ s.heap xs vs) (e : runB G m args.length nv body xs σ = some (r, σ')) (h : Aft N w h₀ pu σ' r φ s (fun u => Q (.ok (.ret u)))) : codeAny (model prog w) A (.call (.ref f) ⟨vs, []⟩) Q s := by
  obtain ⟨oc, od, an, osl, name, qual, kV, doc, pm, cdv, ct, hK, hcode⟩ := FO
  refine and3E ok fun ok hal hok => and3E ok fun ok htk hvl => and3E ok fun ok hdot hns => and3E ok fun ok hgen hnv => and2E ok fun hk hco => ?_
  have hk := eq_of_beq hk; have htk := eq_of_beq htk; have hco := not_of_b hco; have hgen := not_of_b hgen; have hdot := not_of_b hdot
  have dot : (".0" : Str) ∉ vars := fun q => by rw [List.contains_iff_mem.mpr q] at hdot; cases hdot
  have nv' := nodupB_iff hnv
  have ns' := nodupB_iff hns
  rw [List.all_eq_true] at hal
  obtain ⟨hxl, e⟩ := runB_len e
  refine bind3 e fun o ρ' σ1 e1 e => ?_
  have X : K.In s.heap := B.X.keeps R.base
  have hlen : vs.length = args.length := by rw [rs.len]; exact hxl
  have hlen' : (args.map (·.arg)).length = vs.length := by rw [List.length_map, hlen]
  have ndArgs : (args.map (·.arg)).Nodup := htk ▸ nv'.sublist (List.take_sublist _ _)
  have zipNames : ((args.map (·.arg)).zip vs).map (·.1) = args.map (·.arg) := List.map_fst_zip (Nat.le_of_eq hlen')
  have ndz : (((args.map (·.arg)).zip vs).map (·.1)).Nodup := by rw [zipNames]; exact ndArgs
  have hroom : A.depth < recursionLimit := by have := a.2.1; have : recursionLimit = 1000 := rfl; omega
  refine codeAny_call_cells (fd := fnOf name qual (plainParams args) stmts scope .none kV doc pm an cdv ct) (body := stmts) (binds := (args.map (·.arg)).zip vs) hroom (X _ _ hK) rfl (hlim.keeps R.base) (codeRec_of X hcode) rfl (bind_plain rfl rfl ndArgs hlen) rfl ?_ ?_ hco hgen hk
  · intro x hx
    have hm : x.1 ∈ args.map (·.arg) := by rw [← zipNames]; exact List.mem_map_of_mem hx
    have := hal _ hm
    unfold varOk at this
    rw [Bool.or_eq_true, beq_iff_eq, beq_iff_eq] at this
    rcases this with q | q
    · exact .inl q
    · refine .inr ⟨q, ?_⟩
      obtain ⟨c, hc⟩ := cellsFrom_has (k := s.heap.objs.size + 1) (acc := []) (mem_of_lookup q)
      exact lookup_isSome_of_mem hc
  · intro s₁ x
    generalize henv : callEnvC (fnOf name qual (plainParams args) stmts scope .none kV doc pm an cdv ct) s.heap.objs.size f = env at x ⊢
    have hsc : env.scope = scope := by subst henv; rfl
    have hloc : env.locals = s.heap.objs.size := by subst henv; rfl
    have hcells : env.cells = cellsFrom (s.heap.objs.size + 1) scope.names [] := by subst henv; rfl
    have hga : env.globals = mainGlobals := by subst henv; rfl
    have hba : env.builtins = builtinsNs := by subst henv; rfl
    obtain ⟨h₁, tk₁, rfl⟩ := x.toInCall.same
    have x₁ : Ext s.heap h₁ := x.toInCall.keep
    have keys : (env.cells.map (·.1)).Nodup := by rw [hcells]; exact cellsFrom_keys ns' List.nodup_nil fun _ hn => absurd hn List.not_mem_nil
    have lk : ∀ nm cc, (nm, cc) ∈ env.cells → env.cells.lookup nm = some cc := fun nm cc hm => lookup_of_nodup keys hm
    have ownNone : ∀ b ∈ own env, s.heap.get? b = none := fun b hb => by
      rcases List.mem_cons.mp hb with rfl | hb
      · rw [hloc]; exact size_none _
      · obtain ⟨⟨nm, cc⟩, hc, rfl⟩ := List.mem_map.mp hb
        have := x.above nm cc hc
        cases q : s.heap.get? cc with
        | none => rfl
        | some o =>
          have lt := Heap.lt_size q
          rw [hloc] at this
          exact absurd (Nat.lt_trans this lt) (Nat.lt_irrefl _)
    have kindOf : ∀ nm, env.kindOf nm = scope.names.lookup nm := fun nm => by unfold Env.kindOf; rw [hsc]
    have bound : ∀ (i : Nat) (v : V) (nm : Str), (xs.map some ++ List.replicate nv none)[i]? = some (some v) → vars[i]? = some nm → ∃ u, (nm, u) ∈ (args.map (·.arg)).zip vs ∧ Rep w φ h₁ v u := fun i v nm hi hv => by
      have hi' : xs[i]? = some v := by
        rcases Nat.lt_or_ge i xs.length with lt | ge
        · rw [List.getElem?_append_left (by rw [List.length_map]; exact lt), List.getElem?_map] at hi
          obtain ⟨y, hy, e⟩ := map_some hi
          cases e; exact hy
        · rw [List.getElem?_append_right (by rw [List.length_map]; exact ge), List.getElem?_replicate] at hi
          split at hi <;> cases hi
      obtain ⟨u, hu, r⟩ := rs.get hi'
      refine ⟨u, ?_, r.ext x₁⟩
      have hlt : i < args.length := by
        rcases Nat.lt_or_ge i xs.length with lt | ge
        · rw [← hxl]; exact lt
        · rw [List.getElem?_eq_none ge] at hi'; cases hi'
      have hn : (args.map (·.arg))[i]? = some nm := by
        rw [← htk, List.getElem?_take, if_pos hlt]; exact hv
      have : ((args.map (·.arg)).zip vs)[i]? = some (nm, u) := by
        rw [List.getElem?_zip_eq_some]; exact ⟨hn, hu⟩
      exact List.mem_of_getElem? this
    have F : Fra w h₀ φ env vars (xs.map some ++ List.replicate nv none) h₁ :=
      { fn := hsc ▸ hk
        ns := ⟨_, x.toInCall.ns, fun i v nm hi hv hkd => by
          obtain ⟨u, hm, r⟩ := bound i v nm hi hv
          exact ⟨u, bindL_get ndz hm hkd, r⟩⟩
        all := fun nm cc hm => ⟨_, x.cell nm cc (lk nm cc hm)⟩
        has := fun nm hkd => by
          rw [kindOf] at hkd
          obtain ⟨cc, hc⟩ := cellsFrom_has (k := s.heap.objs.size + 1) (acc := []) (mem_of_lookup hkd)
          rw [hcells]; exact lookup_isSome_of_mem hc
        cell := fun i v nm cc hi hv hkd hc => by
          obtain ⟨u, hm, r⟩ := bound i v nm hi hv
          have := x.cell nm cc hc
          rw [bindC_get ndz hm (by rw [hkd]; decide)] at this
          exact ⟨u, this, r⟩
        apart := fun n1 n2 cc m1 m2 => name_of_addr x.apart m1 m2
        fresh := fun b hb => by
          cases q : h₀.get? b with
          | none => rfl
          | some o => have := R.base _ _ q; rw [ownNone b hb] at this; cases this
        notm := fun b hb m => by have := R.mut_some b m; rw [ownNone b hb] at this; cases this }
    have P : Pre G N w h₀ mainGlobals builtinsNs n ⟨scope, vars, G.P⟩ env (A.deeper env) (xs.map some ++ List.replicate nv none) σ φ { s with heap := h₁, toks := tk₁ } := ⟨⟨rfl, hsc, hga, hba, nv', dot⟩, a.deeper, R.ext x₁, F⟩
    refine soundB B L body _ _ _ _ _ _ _ _ _ _ _ _ _ hok P e1 fun φ2 h2 t2 fl S2 R2 F2 ff => ?_
    have keepOwn : ∀ b o, s.heap.get? b = some o → b ∉ own env := fun b o e q => by rw [ownNone b q] at e; cases e
    have S : Stp pu φ s.heap φ2 h2 := by
      obtain ⟨ψ, β, g1, g2, g3, g4⟩ := S2.grow
      have none_of : ∀ b, h₁.get? b = none → s.heap.get? b = none := fun b q => by
        cases z : s.heap.get? b with
        | none => rfl
        | some o => rw [x₁ _ _ z] at q; cases q
      refine ⟨⟨ψ, β, g1, g2, fun p hp => none_of _ (g3 p hp), fun b hb => none_of _ (g4 b hb)⟩, fun b o e nm _ => S2.keep _ _ (x₁ _ _ e) nm (keepOwn b o e), fun z => ?_⟩
      obtain ⟨p1, p2⟩ := S2.pu (hpu z)
      exact ⟨p1, fun b o e => p2 _ _ (x₁ _ _ e) (keepOwn b o e)⟩
    cases o with
    | next => cases ff; cases e; exact h φ2 h2 t2 _ S R2 (by rw [Rep])
    | ret v => obtain ⟨u, rfl, r⟩ := ff; cases e; exact h φ2 h2 t2 _ S R2 r

theorem fn_ok (B : Base G prog w N h₀ K mainGlobals builtinsNs n) (L : Long G prog w N h₀ K mainGlobals builtinsNs n) (hlim : h₀.NoLimit) {f : Addr} {args : List Arg} {vars : List Str} {scope : Scope} {nv : Nat} {body : List S} {stmts : List Stmt}
    (FO : FnObj K f args stmts scope) (ok : okFn G.P args vars scope nv body stmts = true) {M : Sem1} (hM : ∀ xs σ r σ', M xs σ = some (r, σ') → ∃ m, runB G m args.length nv body xs σ = some (r, σ')) : FnOk prog w N h₀ (n + 1) (.ref f) M := fun A s σ σ' φ xs vs r Q a R rs e h => by
  obtain ⟨m, e'⟩ := hM _ _ _ _ e
  exact fn_run B L hlim FO ok (pu := false) (fun z => by cases z) a R rs e' h
theorem pure_ok (B : Base G prog w N h₀ K mainGlobals builtinsNs n) (L : Long G prog w N h₀ K mainGlobals builtinsNs n) (hlim : h₀.NoLimit) {f : Addr} {args : List Arg} {vars : List Str} {scope : Scope} {nv : Nat} {body : List S} {stmts : List Stmt}
    (FO : FnObj K f args stmts scope) (ok : okFn G.P args vars scope nv body stmts = true) (pb : pureB body = true) {M : List V → Option V} (hM : ∀ xs r σ, M xs = some r → ∃ m, runB G m args.length nv body xs σ = some (r, σ)) : PureOk prog w N h₀ (n + 1) (.ref f) M := fun A s σ φ xs vs r Q a R rs e h => by
  obtain ⟨m, e'⟩ := hM _ _ σ e
  exact fn_run B L hlim FO ok (pu := true) (fun _ => pb) a R rs e' h
end
end Mine
end

section
open PySem PySem.W PyProof.Rows PySem.Calls
set_option Elab.async false
set_option maxRecDepth 100000
namespace Mine
section
variable {N : Names} {prog : Program} {w : World} {h₀ : Heap} {G : Sg} {K : Frag} {ga ba : Addr} {n : Nat}

theorem under_ok {k : Nat} {A : Around} {C : Addr} (a : AOk n A) (l : k + 1 ≤ n) : AOk k (A.under (.builtin "type.__call__" ⟨.ref C :: [], []⟩)) := by
  have h1 : (A.under (.builtin "type.__call__" ⟨.ref C :: [], []⟩)).depth = A.depth + 1 := rfl
  have h2 : (A.under (.builtin "type.__call__" ⟨.ref C :: [], []⟩)).units = A.units + 1 := rfl
  refine ⟨a.1, ?_, ?_⟩
  · have := a.2.1
    rw [h1]; omega
  · have := a.2.2
    rw [h2]; omega

theorem new_ok (B : Base G prog w N h₀ K ga ba n) : NewOk prog w G N h₀ K ga ba n := fun A E s σ σ' φ k v q Q a R hq e h => by
  obtain ⟨_, fI, hm, _, hi, hf, k', hk', hF⟩ := B.cl k q hq
  unfold newV at e
  rw [hq] at e
  simp only [Option.bind_some] at e
  obtain ⟨⟨u, σ2⟩, e1, e⟩ := bind_some e
  split at e <;> cases e
  rename_i hu
  dsimp only at hu; subst hu
  obtain ⟨hh, g, d, t, os⟩ := s
  have X : K.In hh := B.X.keeps R.base
  refine wpAny_call (make_core (makes_of X hm) (looks_findIn X hi) (fun self => bind_fn X self hf) (.inl rfl) ?_)
  have x1 : Ext hh ((hh.push emptyDict).push (instObj q.2.1 hh.objs.size)) := (Ext.push _ _).trans (Ext.push _ _)
  have gx : ((hh.push emptyDict).push (instObj q.2.1 hh.objs.size)).get? (hh.objs.size + 1) = some (instObj q.2.1 hh.objs.size) := by
    have := Heap.get?_push_size (hh.push emptyDict) (o := instObj q.2.1 hh.objs.size) rfl
    rw [Heap.size_push] at this; exact this
  have gd : ((hh.push emptyDict).push (instObj q.2.1 hh.objs.size)).get? hh.objs.size = some (dictOf [] 0) := Heap.get?_push_of_some _ (Heap.get?_push_size _ rfl)
  generalize (hh.push emptyDict).push (instObj q.2.1 hh.objs.size) = h1 at x1 gx gd ⊢
  have no : hh.get? hh.objs.size = none := size_none _
  have Gr : Grow φ hh ⟨φ.objs ++ [(hh.objs.size + 1, hh.objs.size)], φ.bad⟩ := ⟨[(hh.objs.size + 1, hh.objs.size)], [], rfl, (List.append_nil _).symm, fun p hp => by rw [List.mem_singleton.mp hp]; exact no, fun _ m => nomatch m⟩
  have nm : hh.objs.size ∉ muts φ := fun m => by have := R.mut_some _ m; rw [no] at this; cases this
  have R1 : Rel N w h₀ (σ ++ [.inst q.2.1 []]) ⟨φ.objs ++ [(hh.objs.size + 1, hh.objs.size)], φ.bad⟩ h1 :=
    { base := R.base.trans x1
      len := by simp [R.len]
      apart := fun b m => by
        rcases Gr.back m with m | m
        · exact R.apart b m
        · cases z : h₀.get? b with
          | none => rfl
          | some o => rw [R.base _ _ z] at m; cases m
      nodup := by
        rw [List.map_append, List.nodup_append]
        refine ⟨R.nodup, by simp, fun y hy z hz => ?_⟩
        rw [List.mem_singleton.mp hz]
        rintro rfl
        exact nm (List.mem_append_left _ hy)
      bads := fun b hb => by
        obtain ⟨o, e⟩ := Option.isSome_iff_exists.mp (R.bads b hb)
        rw [x1 _ _ e]; rfl
      obs := fun j ob p hj hp => by
        rcases Nat.lt_or_ge j σ.length with lt | ge
        · rw [List.getElem?_append_left lt] at hj
          rw [List.getElem?_append_left (by rw [R.len]; exact lt)] at hp
          have := R.obs j ob p hj hp
          cases ob with
          | inst c fs => obtain ⟨l, c', es, n', d', f⟩ := this; exact ⟨l, x1 _ _ c', es, n', x1 _ _ d', f.mono Gr (x1.keep (own := [])) (.nil _)⟩
          | cell xs => obtain ⟨l, e', vs, n', d', f⟩ := this; exact ⟨l, e', vs, n', x1 _ _ d', f.mono Gr (x1.keep (own := [])) (.nil _)⟩
        · rw [List.getElem?_append_right ge] at hj
          rw [List.getElem?_append_right (by rw [R.len]; exact ge), R.len] at hp
          cases hjj : j - σ.length with
          | zero =>
            rw [hjj] at hj hp
            cases hj; cases hp
            exact ⟨Nat.zero_le _, gx, [], 0, gd, rfl⟩
          | succ i => rw [hjj] at hj; simp at hj }
  have at1 : (φ.objs ++ [(hh.objs.size + 1, hh.objs.size)])[σ.length]? = some (hh.objs.size + 1, hh.objs.size) := by
    rw [List.getElem?_append_right (by rw [R.len]; exact Nat.le_refl _), R.len, Nat.sub_self]; rfl
  refine hF _ ⟨h1, g, d, t, os⟩ _ _ ⟨φ.objs ++ [(hh.objs.size + 1, hh.objs.size)], φ.bad⟩ [.obj σ.length] [.ref (hh.objs.size + 1)] _ _ (under_ok a hk') R1 ?_ e1 ?_
  · rw [Reps]
    exact ⟨_, [], rfl, by rw [Rep]; exact ⟨_, at1, rfl⟩, by rw [Reps]⟩
  · intro φ2 h2 t2 u S2 R2 r2
    rw [Rep] at r2
    subst r2
    have S1 : Stp false φ hh ⟨φ.objs ++ [(hh.objs.size + 1, hh.objs.size)], φ.bad⟩ h1 := ⟨Gr, x1.keep, fun z => by cases z⟩
    exact ⟨rfl, h φ2 h2 t2 (.ref (hh.objs.size + 1)) (S1.trans R1 S2) R2 (by rw [Rep]; exact ⟨_, S2.grow.at at1, rfl⟩)⟩
end
end Mine
end

section
open PySem PySem.W PyProof.Rows PySem.Calls
set_option Elab.async false
set_option maxRecDepth 100000
namespace Mine

theorem member_take {ts : List (List Nat)} {i : Nat} {x : List Nat} (e : ts[i]? = some x) (k : Str) : member (ts.take (i + 1)) k = (member (ts.take i) k || decide (k = txt x)) := by
  unfold member
  rw [List.take_add_one, e]
  simp only [Option.toList_some, List.mem_append, List.mem_singleton]
  have : (k.cps.toList = x) ↔ (k = txt x) := by
    constructor
    · intro h; cases k with | mk c => simp only at h; subst h; simp [txt]
    · rintro rfl; simp [txt]
  rw [Bool.eq_iff_iff]
  simp [this]

section
variable {prog : Program} {w : World} {A : Around} {R : Result → Shared → Prop} {I : Addr} {fp : List Addr} {n : Nat} {P : Nat → Value → Prop} {St : Nat → Heap → Prop}

theorem SetOf.at {h h' : Heap} {a : Addr} {S : Str → Bool} {c : Nat} (x : h.SetOf (strKind prog w) a S c) (k : ∀ o, h.get? a = some o → h'.get? a = some o) : h'.SetOf (strKind prog w) a S c := by
  obtain ⟨o, es, ep, t, ho, r⟩ := x
  exact ⟨o, es, ep, t, k _ ho, r⟩
theorem SetOf.congr {h : Heap} {a : Addr} {S S' : Str → Bool} {c : Nat} (x : h.SetOf (strKind prog w) a S c) (e : ∀ k, S k = S' k) : h.SetOf (strKind prog w) a S' c := by
  have : S = S' := funext e
  subst this; exact x

theorem set_loop (W : Walks prog w A.in1 I fp [I] n P St) (Sa : Addr) (hSf : Sa ∉ fp) (ts : List (List Nat)) (hn : ts.length = n) (hval : ∀ i v, P i v → ∃ t x, ts[i]? = some x ∧ v = .str (txt x) t) (hb : n + 1 < scanBound) :
    ∀ (k i : Nat) (s : Shared), n - i = k → i ≤ n → St i s.heap → (∃ c, c ≤ i ∧ s.heap.SetOf (strKind prog w) Sa (member (ts.take i)) c) →
      (∀ h' tk, (∀ b o, b ≠ Sa → b ≠ I → s.heap.get? b = some o → h'.get? b = some o) → (∃ c, c ≤ n ∧ h'.SetOf (strKind prog w) Sa (member ts) c) → R (.ok (.ret .none)) { s with heap := h', toks := tk }) →
      codeAny (model prog w) A (.builtin "set.update.loop" ⟨[.ref Sa, .ref I], []⟩) R s := by
  have SI : Sa ≠ I := fun e => hSf (e ▸ W.sub I (List.mem_singleton_self _))
  intro k
  induction k with
  | zero =>
    intro i s hk hi hst ⟨c, hc, hS⟩ hR
    have hin : i = n := by omega
    subst hin
    refine codeAny_builtin F.entry_set_update_loop ?_
    rw [Around.under_plainId F.plain_set_update_loop _]
    show wpAny _ A.in1 (pyNext (.ref I) >>= _) _ _ s
    refine wpAny_bind (W.done s _ _ hst fun h' tk hm => ?_)
    refine wpAny_pure (hR h' tk (fun b o _ n2 e => hm b o (fun q => n2 (List.mem_singleton.mp q)) e) ⟨c, hc, ?_⟩)
    rw [List.take_of_length_le (Nat.le_of_eq hn)] at hS
    exact SetOf.at hS fun o e => hm _ o (fun q => SI (List.mem_singleton.mp q)) e
  | succ k ih =>
    intro i s hk hi hst ⟨c, hc, hS⟩ hR
    have hlt : i < n := by omega
    refine codeAny_builtin F.entry_set_update_loop ?_
    rw [Around.under_plainId F.plain_set_update_loop _]
    show wpAny _ A.in1 (pyNext (.ref I) >>= _) _ _ s
    refine wpAny_bind (W.item i s _ _ hlt hst fun v h₁ tk₁ hP hst' hm => ?_)
    obtain ⟨t, x, hx, rfl⟩ := hval i v hP
    have hS' := SetOf.at hS fun o e => hm _ o (fun q => SI (List.mem_singleton.mp q)) e
    show wpAny _ A.in1 (holding [Value.str (txt x) t] (setAdd Sa (.str (txt x) t)) >>= _) _ _ _
    refine wpAny_bind (wpAny_holding ?_)
    unfold setAdd
    refine wpAny_holding ?_
    refine wpAny_bind ((strKind prog w).pyHash (k := txt x) (strKind_is _ _ _ _) ?_)
    refine wpAny_setAddHashed_of (knd := strKind prog w) (strKind_is _ _ _ _) rfl hS' (by omega) fun h' hsb hS2 => ?_
    have hS3 := SetOf.congr hS2 (fun k' => (member_take hx k').symm)
    refine wpAny_pure ⟨plainId_quiet F.plain_set_update_loop _, ih (i + 1) _ (by omega) hlt (W.frame _ _ _ hst' fun b hb o e => ?_) ⟨_, ?_, hS3⟩ fun h'' tk'' hm'' hS'' => ?_⟩
    · rw [hsb.2 b (fun h : b = Sa => hSf (by rw [← h]; exact hb))]; exact e
    · split <;> omega
    · refine hR h'' tk'' (fun b o n1 n2 e => hm'' b o n1 n2 ?_) hS''
      show h'.get? b = some o
      rw [hsb.2 b n1]
      exact hm b o (fun q => n2 (List.mem_singleton.mp q)) e
end

/-- a set that nothing was put into yet -/
noncomputable abbrev bareSet (led : Bool) : Obj := { cls := .type "set", dict := none, data := .set #[] 0 (.fresh 0 0 led) }
theorem texts_get : ∀ {ts : List (List Nat)} {vs : List Value}, StrsAre vs (ts.map txt) → ∀ (i : Nat) (v : Value), vs[i]? = some v → ∃ t x, ts[i]? = some x ∧ v = .str (txt x) t
  | [], _, hs, i, v, hv => by cases hs; simp at hv
  | a :: r, _, hs, i, v, hv => by
    cases hs with
    | cons _ t hr =>
      match i, hv with
      | 0, hv => exact ⟨t, a, rfl, by simpa using hv.symm⟩
      | i + 1, hv => exact texts_get hr i v (by simpa using hv)

section
variable {prog : Program} {w : World} {A : Around} {E : Value → Shared → Prop} {s : Shared}
/-- the filling: a bare set takes the texts of a list -/
theorem fill_texts {S l : Addr} {led : Bool} {vs : List Value} {nl : Nat} {ts : List (List Nat)} {Q : Fin → Shared → Prop} (hh : A.handled = none) (hS : s.heap.get? S = some (bareSet led))
    (hl : s.heap.get? l = some ⟨.type "list", none, .seq vs.toArray nl, #[]⟩) (hi : StrsAre vs (ts.map txt)) (hb : vs.length + 1 < scanBound)
    (h : ∀ (h' : Heap) (tk : Nat), (∃ c, c ≤ vs.length ∧ h'.SetOf (strKind prog w) S (member ts) c) → (∀ b o, b ≠ S → s.heap.get? b = some o → h'.get? b = some o) → Q (.done (.ret .none)) { s with heap := h', toks := tk }) :
    wpAny (model prog w) A (Builtin.«set.__init__» ⟨[.ref S, .ref l], []⟩) Q E s := by
  have ne : l ≠ S := fun e => by
    subst e
    rw [hl] at hS
    have := congrArg (fun o => o.map Obj.cls) hS
    exact absurd this (by simp)
  have L : s.heap.IsList l vs.toArray := ⟨_, hl, rfl, nl, rfl⟩
  have ty : Shared.TypeIs s (.ref S) "set" := ⟨_, hS, rfl⟩
  have h1 := F.sub_list_set
  have h2 := F.sub_list_frozenset
  have h3 : (Value.type "list" == Value.type "dict") = false := by decide
  have sLt := Heap.lt_size hS
  have lLt := Heap.lt_size hl
  unfold Builtin.«set.__init__» noKeywords Builtin.Frozenset.updateFrom
  generalize hit : pyIter = it
  wp_walk
  subst hit
  refine wpAny_pyIter_list L (wpAny_bind (wpAny_runValue ?_))
  refine set_loop (Walks.list (by simp [hh]) _ l (Nat.ne_of_lt lLt) vs.toArray) S ?_ ts ?_ (fun i v hv => texts_get hi i v (by simpa using hv)) (by rw [List.size_toArray]; exact hb) (vs.toArray.size - 0) 0 _ (by omega) (Nat.zero_le _)
    ⟨⟨_, Heap.get?_push_size _ rfl, rfl, rfl⟩, L.push _⟩ ⟨0, Nat.le_refl _, ?_⟩ fun h' tk hm hs => ?_
  · simp only [List.mem_cons, List.not_mem_nil, or_false, not_or]
    exact ⟨Nat.ne_of_lt sLt, Ne.symm ne⟩
  · have := hi.length
    rw [List.length_map] at this
    rw [List.size_toArray]; exact this.symm
  · exact SetOf.congr ((setObjOf_fresh (knd := strKind prog w) led).setOf (Heap.get?_push_of_some _ hS) (by unfold scanBound; omega)) fun _ => rfl
  · rw [List.size_toArray] at hs
    refine wpAny_pure (wpAny_pure (h h' tk hs fun b o hb' e => hm b o hb' (Nat.ne_of_lt (Heap.lt_size e)) (Heap.get?_push_of_some _ e)))

set_option maxHeartbeats 3200000 in
/-- 'set(texts)': the making, with the filling's contract -/
theorem call_set_texts {l : Addr} {vs : List Value} {nl : Nat} {ts : List (List Nat)} {Q : Value → Shared → Prop} (hh : A.handled = none)
    (hl : s.heap.get? l = some ⟨.type "list", none, .seq vs.toArray nl, #[]⟩) (hi : StrsAre vs (ts.map txt)) (hb : vs.length + 1 < scanBound)
    (h : ∀ (h' : Heap) (tk : Nat), (∃ c, c ≤ vs.length ∧ h'.SetOf (strKind prog w) s.heap.objs.size (member ts) c) → Ext s.heap h' → Q (.ref s.heap.objs.size) { s with heap := h', toks := tk }) :
    wpAny (model prog w) A (call (.type "set") [.ref l]) Q E s := by
  have inner : ∀ led : Bool, codeAny (model prog w) A.in1 (.call (.builtin "set.__init__") ⟨[.ref s.heap.objs.size, .ref l], []⟩) (wants (fun r s₂ => r = .none ∧ ∃ h' tk, s₂ = { s with heap := h', toks := tk } ∧
      (∃ c, c ≤ vs.length ∧ h'.SetOf (strKind prog w) s.heap.objs.size (member ts) c) ∧ Ext s.heap h') E) { s with heap := s.heap.push (bareSet led) } := fun led => by
    have at_ : (s.heap.push (bareSet led)).get? s.heap.objs.size = some (bareSet led) := Heap.get?_push_size _ rfl
    refine codeAny_call_builtin F.called_set.init.plain F.entry_set_init (check_set_init_1 ⟨_, at_, rfl⟩ ?_)
    refine fill_texts (by simp [hh]) at_ (Heap.get?_push_of_some _ hl) hi hb fun h' tk hs k => ?_
    exact ⟨rfl, h', tk, rfl, hs, fun b o e => k b o (Nat.ne_of_lt (Heap.lt_size e)) (Heap.get?_push_of_some _ e)⟩
  obtain ⟨c, tl, hmro⟩ := F.called_set.mro
  have hmade := F.called_set.made
  have hsub := F.called_set.sub
  have h1 := F.called_set.notType
  have h2 := F.called_set.canCreate
  have hct := F.typeCall_set_1 (.ref l)
  have hli := F.called_set.init.lookup
  have hbi := F.called_set.init.bind (.ref s.heap.objs.size)
  refine wpAny_call (codeAny_of_tree ?_)
  show wpAny _ _ (callAny (.type "set") _) _ _ _
  refine wpAny_pure ⟨Code.quiet_builtin _ (by decide +kernel), codeAny_builtin F.entry_type_call ?_⟩
  rw [Around.under_plain (weight_type_call_type "set" [.ref l] []) rfl]
  repeat (any_goals (first | assumption | wp_step))
  refine codeAny_mono (code_set_new_1 (.ref l) (E := E) (Q₁ := fun obj s₁ => ∃ led : Bool, obj = .ref s.heap.objs.size ∧ s₁ = { s with heap := s.heap.push (bareSet led) }) fun led => ⟨led, rfl, rfl⟩) fun r s₁ hr => ?_
  match r, hr with
  | .error e, hr => exact hr
  | .ok (.ret obj), hr =>
    obtain ⟨led, rfl, rfl⟩ := hr
    have hT : Shared.TypeIs { s with heap := s.heap.push (bareSet led) } (.ref s.heap.objs.size) "set" := ⟨_, Heap.get?_push_size _ rfl, rfl⟩
    repeat (any_goals (first | assumption | wp_step))
    refine codeAny_mono (inner led) fun r₂ s₂ hr₂ => ?_
    match r₂, hr₂ with
    | .error e, hr₂ => exact hr₂
    | .ok (.ret r), hr₂ =>
      obtain ⟨rfl, h', tk, rfl, hs, hk⟩ := hr₂
      repeat (any_goals (first | assumption | wp_step))
      exact h _ _ hs hk

theorem mkset_ok : MkSet prog w := fun A E s φ v r u Q hh hm e rv h => by
  unfold setV at e
  split at e <;> try (cases e; done)
  rename_i xs
  split at e <;> try (cases e; done)
  rename_i hlen
  obtain ⟨ts, e1, rfl⟩ := map_some e
  rw [Rep] at rv
  obtain ⟨_, a, vs, nl, rfl, _, ho, rs⟩ := rv
  have hl := rs.len
  refine call_set_texts hh ho (reps_texts e1 rs).1 (by unfold scanBound; omega) fun h' tk ⟨c, hc, hS⟩ x => h _ _ _ x ?_
  obtain ⟨o, es, ep, t, hg, ex, hd, el, mem, b1, b2, b3⟩ := hS
  rw [Rep]
  exact ⟨_, o, c, rfl, fresh_notin hm, hg, fun prog' => ⟨ex, es, ep, t, hd, el, mem, b3, b2⟩, by omega⟩
end
end Mine
end

section
open PySem PySem.W PyProof.Rows PySem.Calls
set_option Elab.async false
set_option maxRecDepth 100000
namespace Mine
section
variable {N : Names} {prog : Program} {w : World} {h₀ h h' h₁ h₂ : Heap} {σ : St} {φ : Phi} {env : Env} {vars : List Str} {ρ ρ' : Rho} {A : Around} {E : Value → Shared → Prop} {s : Shared} {R : Result → Shared → Prop}

theorem loop_pair {elt iter : Expr} {elts : List Expr} {x1 : Nat} {tp : Pos} {ifs : List Expr} {scope : Scope} {pos : Pos} {it acc : Value} {env : Env} (I : Nat → Shared → Prop)
    (turn : ∀ n s, I n s → wpAny (model prog w) A (pyNext it) (fun r s₁ => match r with
      | none => R (.ok .next) s₁
      | some v => wpAny (model prog w) A (letOwnedTupleGo (.Tuple elts x1 tp) it v) (fun _ s₁' => wpAny (model prog w) A (assign (.Tuple elts x1 tp) env v) (fun _ s₂ =>
          wpAny (model prog w) A (testsOf ifs env) (fun ok s₃ => if ok = true then wpAny (model prog w) A (eval elt env) (fun x s₄ =>
              wpAny (model prog w) A (call (.builtin "list.append") [acc, x]) (fun _ s₅ => ∃ m, m < n ∧ I m s₅) (notedBy (model prog w) A env fun e s' => R (.error e) s') s₄) (notedBy (model prog w) A env fun e s' => R (.error e) s') s₃
            else ∃ m, m < n ∧ I m s₃) (notedBy (model prog w) A env fun e s' => R (.error e) s') s₂)
          (notedBy (model prog w) A env fun e s' => R (.error e) s') s₁') (notedBy (model prog w) A env fun e s' => R (.error e) s') s₁) (notedBy (model prog w) A env fun e s' => R (.error e) s') s)
    (n : Nat) (h : I n s) : codeAny (model prog w) A (.compLoop (.ListComp elt [⟨.Tuple elts x1 tp, iter, ifs, 0⟩] scope pos) 0 it acc env) R s := by
  refine codeAny_loop rfl I (fun n s hI => ?_) n h
  show wpAny _ A ((compTurn (.ListComp elt [⟨.Tuple elts x1 tp, iter, ifs, 0⟩] scope pos) 0 it acc env).onRaise (fun x => do noteFrame x env; theTreesLotGoes x)) _ _ s
  refine wpAny_noted ?_
  rw [compTurn_list]
  refine wpAny_bind (wpAny_standAt (wpAny_bind (wpAny_mono (turn n s hI) (fun r s₁ h₁ => ?_) fun _ _ h' => h')))
  cases r with
  | none => exact wpAny_pure h₁
  | some v =>
    refine wpAny_bind (wpAny_mono h₁ (fun _ s₁' h₁' => ?_) fun _ _ h' => h')
    refine wpAny_bind (wpAny_mono h₁' (fun _ s₂ h₂ => wpAny_bind (wpAny_mono h₂ (fun ok s₃ h₃ => ?_) fun _ _ h' => h')) fun _ _ h' => h')
    cases ok with
    | false =>
      simp only [Bool.false_eq_true, if_false] at h₃ ⊢
      exact wpAny_bind (wpAny_pure (wpAny_pure ⟨rfl, h₃⟩))
    | true =>
      simp only [if_true] at h₃ ⊢
      exact wpAny_bind (wpAny_bind (wpAny_mono h₃ (fun x s₄ h₄ => wpAny_bind (wpAny_mono h₄ (fun _ s₅ h₅ => wpAny_pure (wpAny_pure ⟨rfl, h₅⟩)) fun _ _ h' => h')) fun _ _ h' => h'))
end
end Mine
end

section
open PySem PySem.W PyProof.Rows PySem.Calls
set_option Elab.async false
set_option maxRecDepth 100000
namespace Mine
section
variable {N : Names} {prog : Program} {w : World} {h₀ h h' h₁ h₂ : Heap} {σ : St} {φ : Phi} {env : Env} {vars : List Str} {ρ ρ' : Rho} {A : Around} {E : Value → Shared → Prop} {s : Shared}

theorem Fra.two {sc : Scope} {n1 n2 : Str} {i j : Nat} {C : Addr} {m : Str → Option Value} {x y : V} {u v : Value} (F : Fra w h₀ φ env vars ρ h) (so : ScOk sc env.scope [n1, n2]) (h1 : vars[i]? = some n1) (h2 : vars[j]? = some n2) (ne : i ≠ j) (nd : vars.Nodup) (hC : h.Ns C m)
    (m1 : m n1 = some u) (m2 : m n2 = some v) (r1 : Rep w φ h x u) (r2 : Rep w φ h y v) (fresh : h₀.get? C = none) (nmut : C ∉ muts φ) (dot : (".0" : Str) ∉ vars) :
    Fra w h₀ φ (cenvOf sc C env) vars ((ρ.set i (some x)).set j (some y)) h :=
  F.comp so hC fresh nmut dot (fun k z n' a b c => by
      rcases setOpt a with ⟨rfl, rfl⟩ | ⟨nj, a⟩
      · rw [h2] at b; cases b; exact ⟨v, m2, r2⟩
      · rcases setOpt a with ⟨rfl, rfl⟩ | ⟨ni, a⟩
        · rw [h1] at b; cases b; exact ⟨u, m1, r1⟩
        · rcases List.mem_cons.mp c with rfl | c
          · exact absurd (vars_inj nd h1 b) ni
          · exact absurd (vars_inj nd h2 (List.mem_singleton.mp c ▸ b)) nj)
    fun k z n' a b c => by
      have c : n' ≠ n1 ∧ n' ≠ n2 := ⟨fun q => c (q ▸ List.mem_cons_self), fun q => c (q ▸ List.mem_cons_of_mem _ List.mem_cons_self)⟩
      rcases setOpt a with ⟨rfl, _⟩ | ⟨_, a⟩
      · rw [h2] at b; cases b; exact absurd rfl c.2
      · rcases setOpt a with ⟨rfl, _⟩ | ⟨_, a⟩
        · rw [h1] at b; cases b; exact absurd rfl c.1
        · exact a

theorem enumV_len : ∀ {n : Nat} {xs : List V}, (enumV n xs).length = xs.length
  | _, [] => rfl
  | n, _ :: r => congrArg (· + 1) (enumV_len (n := n + 1) (xs := r))
theorem enumV_get : ∀ {xs : List V} {n i : Nat} {x : V}, (enumV n xs)[i]? = some x → ∃ y, xs[i]? = some y ∧ x = .tup [.int ((n + i : Nat) : Int), y]
  | [], _, _, _, h => nomatch h
  | y :: r, n, 0, x, h => ⟨y, rfl, (Option.some.inj h).symm⟩
  | _ :: r, n, i + 1, x, h => by
    obtain ⟨y, a, b⟩ := enumV_get (xs := r) (n := n + 1) (i := i) h
    exact ⟨y, a, by rw [b, Nat.add_right_comm]; rfl⟩
theorem mem3 {a b c x : Addr} {P : Addr → Prop} (ha : P a) (hb : P b) (hc : P c) (h : x ∈ [a, b, c]) : P x := by
  rcases List.mem_cons.mp h with rfl | h
  · exact ha
  rcases List.mem_cons.mp h with rfl | h
  · exact hb
  · exact List.mem_singleton.mp h ▸ hc
theorem mem2 {a b x : Addr} {P : Addr → Prop} (ha : P a) (hb : P b) (h : x ∈ [a, b]) : P x := by
  rcases List.mem_cons.mp h with rfl | h
  · exact ha
  · exact List.mem_singleton.mp h ▸ hb
/-- the taker of a pair of names -/
noncomputable abbrev AsgP (prog : Program) (w : World) (A : Around) (it : Value) (elts : List Expr) (x1 : Nat) (tp : Pos) (cenv : Env) (EE : Value → Shared → Prop) (v : Value) (QI : Shared → Prop) (s1 : Shared) : Prop := wpAny (model prog w) A (letOwnedTupleGo (.Tuple elts x1 tp) it v) (fun _ s1' => wpAny (model prog w) A (assign (.Tuple elts x1 tp) cenv v) (fun _ s2 => QI s2) EE s1') EE s1
theorem tk_enum {n1 n2 : Str} {px py : Pos} {tp : Pos} {kk : Nat} {sc : Scope} {i0 j0 : Nat} {xs : List V} {vs : List Value} {la e it : Addr} {nn : Nat} {setv : V → Rho}
    (hh : A.handled = none) (so : ScOk sc env.scope [n1, n2]) (h1 : vars[i0]? = some n1) (h2 : vars[j0]? = some n2) (ne : i0 ≠ j0) (nd : vars.Nodup) (dot : (".0" : Str) ∉ vars) (F : Fra w h₀ φ env vars ρ s.heap)
    (hset : ∀ a b, setv (.tup [a, b]) = (ρ.set i0 (some a)).set j0 (some b)) (rs : Reps w φ s.heap xs vs) (hla : s.heap.get? la = some ⟨.type "list", none, .seq vs.toArray nn, #[]⟩) (few : xs.length ≤ big)
    (hit : it = s.heap.objs.size) (he : e = s.heap.objs.size + 1) (E0 : IsEnum h₂ e it 0 .none) (I0 : h₂.IsListIter it la 0) (sz : h₂.objs.size = s.heap.objs.size + 2) (x2 : Ext s.heap h₂) :
    ∃ St, Taker prog w N h₀ A φ s env vars sc e [e, it] (enumV 0 xs) setv h₂ St (AsgP prog w A (.ref e) [.Name n1 px, .Name n2 py] kk tp) := by
  have lalt : la < s.heap.objs.size := Heap.lt_size hla
  have lai : la ≠ it := hit ▸ Nat.ne_of_lt lalt
  have lae : la ≠ e := he ▸ Nat.ne_of_lt (Nat.lt_succ_of_lt lalt)
  have ei : e ≠ it := by rw [he, hit]; exact Nat.succ_ne_self _
  have W := WalksT.enumerateD (prog := prog) (w := w) (A := A) (Draws.list (A := A.in1) hh it la lai vs.toArray) e ei (fun m => mem2 (P := fun x => e ≠ x) ei lae.symm m rfl) List.mem_cons_self
  have wn : vs.toArray.size = (enumV 0 xs).length := List.size_toArray.trans (rs.len.trans enumV_len.symm)
  rw [wn] at W
  have noS : ∀ {b}, s.heap.objs.size ≤ b → s.heap.get? b = none := fun {b} hb => by
    cases q : s.heap.get? b with
    | none => rfl
    | some o => exact absurd (Heap.lt_size q) (Nat.not_lt.mpr hb)
  have noB : ∀ b ∈ [e, it], s.heap.get? b = none := fun b hb => mem2 (P := fun b => s.heap.get? b = none) (noS (he ▸ Nat.le_succ _)) (noS (Nat.le_of_eq hit.symm)) hb
  have lt₁ : ∀ {b o}, s.heap.get? b = some o → b < h₂.objs.size := fun q => Heap.lt_size (x2 _ _ q)
  have le : e < h₂.objs.size := by rw [sz, he]; exact Nat.lt_succ_self _
  have li : it < h₂.objs.size := by rw [sz, hit]; exact Nat.lt_succ_of_lt (Nat.lt_succ_self _)
  have fpD : ∀ b ∈ e :: [it, la], b < h₂.objs.size := fun b hb => mem3 (P := fun b => b < h₂.objs.size) le li (lt₁ hla) hb
  refine ⟨fun i h => (∃ old, IsEnum h e it ((i : Nat) : Int) old) ∧ h.IsListIter it la i ∧ h.IsList la vs.toArray, ⟨⟨⟨_, E0⟩, I0, ⟨_, x2 _ _ hla, rfl, _, rfl⟩⟩, x2, noB, fun b hb => mem2 (P := fun b => b < h₂.objs.size) le li hb, by rw [enumV_len]; exact few, fun i h h' st k => W.frame _ _ _ st fun b hb o q => k b o (fpD b hb) q,
    fun i h st b hb => mem2 (P := fun b => (h.get? b).isSome) (by obtain ⟨old, q⟩ := st.1; rw [q]; rfl) (by obtain ⟨o, q, _⟩ := st.2.1; rw [q]; rfl) hb, ?_, fun s' QN EE st k => W.done _ _ _ st k, W.self⟩⟩
  intro C B i s' m' QN QI EE hC fC CM G hlt st hn hx some_ hQ
  have nC : ∀ {b}, b < h₂.objs.size → b ≠ C := fun lt q => Nat.lt_irrefl _ (Nat.lt_of_le_of_lt hC (q ▸ lt))
  have CB : C ∉ [e, it] := fun m => mem2 (P := fun x => x ≠ C) (nC le) (nC li) m rfl
  refine W.item i _ _ _ hlt st fun Tt vals h₁ tk₁ hP hTs hT hM hk₁ => some_ _ _ ?_
  obtain ⟨t, xv, hxv, rfl⟩ := hP
  refine W.go _ _ _ i Tt _ _ _ hM fun ha hsta hka => ?_
  have hTa : ha.IsTuple Tt #[.int i t, xv] := by
    obtain ⟨o, q, r⟩ := hT
    exact ⟨o, hka _ _ (W.apart i Tt h₁ hM) q, r⟩
  refine wpAny_assign_Tuple hh hTa rfl rfl fun hb xb => ?_
  have Xb := extBut_size xb
  have step : ∀ b o, b ∉ [e, it] → s'.heap.get? b = some o → hb.get? b = some o := fun b o nb q => Xb _ _ (hka _ _ nb (hk₁ _ _ nb q))
  have k1 : (cenvOf sc C env).kindOf n1 = some .local := by rw [comp_kind F.fn, so.ownn n1 List.mem_cons_self]; rfl
  have k2 : (cenvOf sc C env).kindOf n2 = some .local := by rw [comp_kind F.fn, so.ownn n2 (List.mem_cons_of_mem _ List.mem_cons_self)]; rfl
  have hsk : ((cenvOf sc C env).scope.kind == .class || ((cenvOf sc C env).scope.kind == .module && (cenvOf sc C env).locals != (cenvOf sc C env).globals)) = false := by show (sc.kind == .class || (sc.kind == .module && _)) = false; rw [so.fn]; rfl
  have n12 : n1 ≠ n2 := fun q => ne (vars_inj nd h1 (q ▸ h2))
  show wpAny _ A (do holding [xv] (assign (.Name n1 px) (cenvOf sc C env) (.int i t)); assignInOrder [assign (.Name n2 py) (cenvOf sc C env)] [xv]) _ _ _
  refine wpAny_bind (wpAny_holding (wpAny_assign_Name (wpAny_storeName_local k1 (Ns.at1 hn fun o q => step _ o CB q) (fun hc1 hn1 hs1 => ?_) hsk)))
  refine wpAny_bind (wpAny_holding (wpAny_assign_Name (wpAny_storeName_local k2 hn1 (fun hc2 hn2 hs2 => wpAny_pure ?_) hsk)))
  have toC : ∀ b o, b ≠ C → hb.get? b = some o → hc2.get? b = some o := fun b o nb q => hs2.extBut b o nb (hs1.extBut b o nb q)
  have nS : ∀ {b o}, s.heap.get? b = some o → b ∉ [e, it] := fun q m => by rw [noB _ m] at q; cases q
  have xS : Ext s.heap hc2 := fun b o q => toC b o (nC (lt₁ q)) (step b o (nS q) (hx _ _ q))
  obtain ⟨y, hy, hxe⟩ := enumV_get (List.getElem?_eq_getElem hlt)
  rw [Nat.zero_add] at hxe
  have rx : Rep w φ s.heap y xv := rs.at hy (by rw [List.getElem?_toArray] at hxv; exact hxv)
  refine hQ _ hc2 _ _ ((List.getElem?_eq_getElem hlt).trans (congrArg some hxe)) (W.frame (i + 1) ha hc2 hsta fun b hb' o q => toC b o (nC (fpD b hb')) (Xb _ _ q)) hn2 (fun b o n1 n2 q => toC b o n1 (step b o n2 q)) ?_
  rw [hset]
  exact (F.keep0 G (xS.keep)).two so h1 h2 ne nd hn2 (by rw [if_neg n12]; exact if_pos rfl) (if_pos rfl) (by rw [Rep]; exact ⟨t, rfl⟩) (rx.mono G (xS.keep (own := [])) (.nil _)) fC CM dot
theorem lp_pair {elt iter : Expr} {elts : List Expr} {x1 : Nat} {tp : Pos} {ifs : List Expr} {sc : Scope} {pos : Pos} {I : Addr} (J : Nat → Shared → Prop) (R : Result → Shared → Prop) (D : Addr) (cenv : Env) (turn : ∀ k s1, J k s1 → ∀ EE QN QI QT QA QL, (∀ v s1, AsgP prog w A (.ref I) elts x1 tp cenv EE v QI s1 → QN (some v) s1) → (∀ s1, R (.ok .next) s1 → QN none s1) →
        (∀ s1, wpAny (model prog w) A (testsOf ifs cenv) QT EE s1 → QI s1) → (∀ s1, wpAny (model prog w) A (eval elt cenv) QA EE s1 → QT true s1) →
        (∀ x s1, wpAny (model prog w) A (call (.builtin "list.append") [.ref D, x]) QL EE s1 → QA x s1) →
        (∀ (u : Value) s1, (∃ k', k' < k ∧ J k' s1) → QL u s1) → (∀ s1, (∃ k', k' < k ∧ J k' s1) → QT false s1) → wpAny (model prog w) A (pyNext (.ref I)) QN EE s1)
    (k : Nat) (s1 : Shared) (h : J k s1) : codeAny (model prog w) A (.compLoop (.ListComp elt [⟨.Tuple elts x1 tp, iter, ifs, 0⟩] sc pos) 0 (.ref I) (.ref D) cenv) R s1 :=
  loop_pair J (fun k s1 hJ => turn k s1 hJ _ _ _ _ _ _ (fun _ _ z => z) (fun _ z => z) (fun _ z => z) (fun _ z => z) (fun _ _ z => z) (fun _ _ z => z) (fun _ z => z)) k h
end
end Mine
end

section
open PySem PySem.W PyProof.Rows PySem.Calls
set_option Elab.async false
set_option maxRecDepth 100000
namespace Mine
section
variable {N : Names} {prog : Program} {w : World} {h₀ : Heap} {G : Sg} {K : Frag} {ga ba : Addr} {n : Nat}

theorem compL_congr {t t' : V → Option Bool} {f f' : V → Option V} (ht : ∀ a b, t (.tup [a, b]) = t' (.tup [a, b])) (hf : ∀ a b, f (.tup [a, b]) = f' (.tup [a, b])) : ∀ (xs : List V) (k : Nat), compL t f (enumV k xs) = compL t' f' (enumV k xs)
  | [], _ => rfl
  | x :: r, k => by
    unfold enumV compL
    rw [ht, hf, compL_congr ht hf r (k + 1)]

noncomputable def pairSet (ρ : Rho) (i j : Nat) : V → Rho
  | .tup [a, b] => (ρ.set i (some a)).set j (some b)
  | _ => ρ

theorem asList_list {v : V} {xs : List V} (e : asList v = some xs) : v = .list xs := by cases v <;> first | exact congrArg V.list (Option.some.inj e) | exact dead e
noncomputable def CmG (prog : Program) (w : World) (A : Around) (E : Value → Shared → Prop) (elt : Expr) (sc : Scope) (pos : Pos) (env : Env) (use : Option (Value → Sem Unit)) (Q : Value → Shared → Prop) (s : Shared) (gens : List Comprehension) : Prop := wpAny (model prog w) A (comprehension (.ListComp elt gens sc pos) sc env (firstIterPos gens pos) (newList []) (firstAsync gens) (firstIter gens env) use) Q E s
theorem cm_enum (B : Base G prog w N h₀ K ga ba n) {x it : X} {i j : Nat} {cs : List X} (hx : EvOk G prog w N h₀ ga ba n x) (hi : EvOk G prog w N h₀ ga ba n it) (hc : ForOk G prog w N h₀ ga ba n cs) : CmOk G prog w N h₀ ga ba n (.enum x i j it cs) := fun c env elt gens sc pos use ρ σ σ' l φ s A E Q ok P e h => by
  refine pkGen_el (m := CmG prog w A E elt sc pos env use Q s) (pkListComp_at ok) fun t d fs k1 => ?_
  refine pkPair_el (m := fun t => CmG prog w A E elt sc pos env use Q s [⟨t, d, fs, 0⟩]) k1 fun n1 n2 p1 p2 kk tp k1 => ?_
  refine pkCallN_el (m := fun d => CmG prog w A E elt sc pos env use Q s [⟨.Tuple [.Name n1 p1, .Name n2 p2] kk tp, d, fs, 0⟩]) k1 fun g gp es cp k1 => ?_
  refine one_el (m := fun es => CmG prog w A E elt sc pos env use Q s [⟨.Tuple [.Name n1 p1, .Name n2 p2] kk tp, .Call (.Name g gp) es [] cp, fs, 0⟩]) k1 fun ie k1 => ?_
  refine and3E k1 fun k1 ox oc => and3E k1 fun k1 pc oi => and3E k1 fun k1 hsc px => and3E k1 fun k1 hv1 hv2 => and3E k1 fun k1 hst hne => and2E k1 fun hg1 hg => ?_
  cases eq_of_beq hg1
  have hv1 := eq_of_beq hv1; have hv2 := eq_of_beq hv2; have hne : i ≠ j := bne_iff_ne.mp hne
  refine bind2 e fun v1 σ1 e1 e => bind1 e fun xs e2 e => map1 e fun l' e3 e => ?_
  cases e
  cases asList_list e2
  have so : ScOk sc env.scope [n1, n2] := by rw [P.cx.sc]; exact scOk_of hsc
  have e3' : compL (fun v => (evC G true (pairSet ρ i j v) σ1 cs).map (·.1)) (fun v => (ev G (pairSet ρ i j v) σ1 x).map (·.1)) (enumV 0 xs) = some l := by
    rw [← e3]
    refine compL_congr ?_ ?_ xs 0 <;> intro a b <;> rfl
  refine wpAny_comprehension_free rfl (fun _ => rfl) (scOk_clos so P.F) so.fn (scOk_names so) ?_
  refine callName (es := [ie]) (by rw [List.all_cons, hst]; rfl) (B.en.name P.R.base P.cx.ga P.cx.ba P.F.fn (P.cx.sc ▸ hg) (callT ?_))
  refine s_cons hi s_nil _ _ _ _ _ σ1 [.list xs] _ _ _ _ _ (okXs_one hst oi) P (evs_one e1) fun φ1 h1 t1 us S1 R1 r1 => ?_
  obtain ⟨u, rfl, r1'⟩ := reps_one r1
  rw [Rep] at r1'
  obtain ⟨few, la, vs, nn, rfl, lam, hla, rs⟩ := r1'
  have S1' : Stp (pureX it) φ s.heap φ1 h1 := S1.of pureXs_one
  refine call_enumerate_1 (s := { s with heap := h1, toks := t1 }) hla fun h₂ E0 I0 sz x2 => ?_
  refine wpAny_pyIter_enum E0 ?_
  obtain ⟨St, K⟩ := tk_enum (prog := prog) (w := w) (N := N) (h₀ := h₀) (A := A) (s := { s with heap := h1, toks := t1 }) (setv := pairSet ρ i j) (px := p1) (py := p2) (tp := tp) (kk := kk) P.a.1 so hv1 hv2 hne P.cx.nd P.cx.dot (S1'.fra P.F) (fun a b => rfl) rs hla few rfl rfl E0 I0 sz x2
  exact comp_core (s := { s with heap := h1, toks := t1 }) so R1 (parts_of hx hc px pc P.cx P.a ox oc) K e3' lp_pair fun D C h' tk m' nC _ hDC hn xx r => cm_end (s := s) (x := .enum x i j it cs) S1' R1 (fun z => (and3 z).1.2) P.F h nC hDC hn xx r

theorem long_ok (B : Base G prog w N h₀ K ga ba n) : Long G prog w N h₀ K ga ba n := ⟨mkset_ok, new_ok B, fun x i j it cs hx hi hc => cm_enum B hx hi hc⟩
end
end Mine
end

section
open PySem PySem.W PyProof.Rows
set_option Elab.async false
set_option maxRecDepth 1000000
namespace Mine
noncomputable abbrev pw : Program := PySem.Challenge.rw_is0019_01.prog
/-- __init__: self; cells:  -/
noncomputable def v_init : List Str := ["self"]
noncomputable def b_init : List S := [.expr (.meth (.loc 0) 6 [.str []])]
-- params 1 others 0
/-- set_current: self, value; cells:  -/
noncomputable def v_set_current : List Str := ["self", "value"]
noncomputable def b_set_current : List S := [.setA (.loc 0) 0 (.loc 1),
  .setA (.loc 0) 1 (.int 0),
  .setA (.loc 0) 2 (.bi .len [.attr (.loc 0) 0]),
  .setA (.loc 0) 3 (.int 0),
  .setA (.loc 0) 4 (.attr (.loc 0) 1),
  .setA (.loc 0) 5 (.attr (.loc 0) 2)]
-- params 2 others 0
/-- get_current: self; cells:  -/
noncomputable def v_get_current : List Str := ["self"]
noncomputable def b_get_current : List S := [.ret (.attr (.loc 0) 0)]
-- params 1 others 0
/-- copy_from: self, other; cells:  -/
noncomputable def v_copy_from : List Str := ["self", "other"]
noncomputable def b_copy_from : List S := [.setA (.loc 0) 0 (.attr (.loc 1) 0),
  .setA (.loc 0) 1 (.attr (.loc 1) 1),
  .setA (.loc 0) 2 (.attr (.loc 1) 2),
  .setA (.loc 0) 3 (.attr (.loc 1) 3),
  .setA (.loc 0) 4 (.attr (.loc 1) 4),
  .setA (.loc 0) 5 (.attr (.loc 1) 5)]
-- params 2 others 0
/-- in_grouping: self, s; cells:  -/
noncomputable def v_in_grouping : List Str := ["self", "s"]
noncomputable def b_in_grouping : List S := [.ite (.cmp .ge (.attr (.loc 0) 1) (.attr (.loc 0) 2)) [.ret (.bool false)] [],
  .ite (.cmp .notin (.idx (.attr (.loc 0) 0) (.attr (.loc 0) 1)) (.loc 1)) [.ret (.bool false)] [],
  .augA (.loc 0) 1 .add (.int 1),
  .ret (.bool true)]
-- params 2 others 0
/-- go_in_grouping: self, s; cells:  -/
noncomputable def v_go_in_grouping : List Str := ["self", "s"]
noncomputable def b_go_in_grouping : List S := [.whl (.cmp .lt (.attr (.loc 0) 1) (.attr (.loc 0) 2)) [.ite (.cmp .notin (.idx (.attr (.loc 0) 0) (.attr (.loc 0) 1)) (.loc 1)) [.ret (.bool true)] [],
    .augA (.loc 0) 1 .add (.int 1)],
  .ret (.bool false)]
-- params 2 others 0
/-- in_grouping_b: self, s; cells:  -/
noncomputable def v_in_grouping_b : List Str := ["self", "s"]
noncomputable def b_in_grouping_b : List S := [.ite (.cmp .le (.attr (.loc 0) 1) (.attr (.loc 0) 3)) [.ret (.bool false)] [],
  .ite (.cmp .notin (.idx (.attr (.loc 0) 0) (.bin .sub (.attr (.loc 0) 1) (.int 1))) (.loc 1)) [.ret (.bool false)] [],
  .augA (.loc 0) 1 .sub (.int 1),
  .ret (.bool true)]
-- params 2 others 0
/-- go_in_grouping_b: self, s; cells:  -/
noncomputable def v_go_in_grouping_b : List Str := ["self", "s"]
noncomputable def b_go_in_grouping_b : List S := [.whl (.cmp .gt (.attr (.loc 0) 1) (.attr (.loc 0) 3)) [.ite (.cmp .notin (.idx (.attr (.loc 0) 0) (.bin .sub (.attr (.loc 0) 1) (.int 1))) (.loc 1)) [.ret (.bool true)] [],
    .augA (.loc 0) 1 .sub (.int 1)],
  .ret (.bool false)]
-- params 2 others 0
/-- out_grouping: self, s; cells:  -/
noncomputable def v_out_grouping : List Str := ["self", "s"]
noncomputable def b_out_grouping : List S := [.ite (.cmp .ge (.attr (.loc 0) 1) (.attr (.loc 0) 2)) [.ret (.bool false)] [],
  .ite (.cmp .notin (.idx (.attr (.loc 0) 0) (.attr (.loc 0) 1)) (.loc 1)) [.augA (.loc 0) 1 .add (.int 1),
    .ret (.bool true)] [],
  .ret (.bool false)]
-- params 2 others 0
/-- go_out_grouping: self, s; cells:  -/
noncomputable def v_go_out_grouping : List Str := ["self", "s"]
noncomputable def b_go_out_grouping : List S := [.whl (.cmp .lt (.attr (.loc 0) 1) (.attr (.loc 0) 2)) [.ite (.cmp .isin (.idx (.attr (.loc 0) 0) (.attr (.loc 0) 1)) (.loc 1)) [.ret (.bool true)] [],
    .augA (.loc 0) 1 .add (.int 1)],
  .ret (.bool false)]
-- params 2 others 0
/-- out_grouping_b: self, s; cells:  -/
noncomputable def v_out_grouping_b : List Str := ["self", "s"]
noncomputable def b_out_grouping_b : List S := [.ite (.cmp .le (.attr (.loc 0) 1) (.attr (.loc 0) 3)) [.ret (.bool false)] [],
  .ite (.cmp .notin (.idx (.attr (.loc 0) 0) (.bin .sub (.attr (.loc 0) 1) (.int 1))) (.loc 1)) [.augA (.loc 0) 1 .sub (.int 1),
    .ret (.bool true)] [],
  .ret (.bool false)]
-- params 2 others 0
/-- go_out_grouping_b: self, s; cells:  -/
noncomputable def v_go_out_grouping_b : List Str := ["self", "s"]
noncomputable def b_go_out_grouping_b : List S := [.whl (.cmp .gt (.attr (.loc 0) 1) (.attr (.loc 0) 3)) [.ite (.cmp .isin (.idx (.attr (.loc 0) 0) (.bin .sub (.attr (.loc 0) 1) (.int 1))) (.loc 1)) [.ret (.bool true)] [],
    .augA (.loc 0) 1 .sub (.int 1)],
  .ret (.bool false)]
-- params 2 others 0
/-- eq_s: self, s; cells:  -/
noncomputable def v_eq_s : List Str := ["self", "s"]
noncomputable def b_eq_s : List S := [.ite (.sm .starts (.slc (.attr (.loc 0) 0) (.attr (.loc 0) 1) (.attr (.loc 0) 2)) (.loc 1)) [.augA (.loc 0) 1 .add (.bi .len [.loc 1]),
    .ret (.bool true)] [],
  .ret (.bool false)]
-- params 2 others 0
/-- eq_s_b: self, s; cells:  -/
noncomputable def v_eq_s_b : List Str := ["self", "s"]
noncomputable def b_eq_s_b : List S := [.ite (.sm .ends (.slc (.attr (.loc 0) 0) (.attr (.loc 0) 3) (.attr (.loc 0) 1)) (.loc 1)) [.augA (.loc 0) 1 .sub (.bi .len [.loc 1]),
    .ret (.bool true)] [],
  .ret (.bool false)]
-- params 2 others 0
/-- _law_group: rest, pick, bits, chosen, place, sign; cells: bits -/
noncomputable def v_law_group : List Str := ["rest", "pick", "bits", "chosen", "place", "sign"]
noncomputable def b_law_group : List S := [.set 1 (.bin .mod (.loc 0) (.int 8)),
  .ite (.cmp .lt (.loc 1) (.int 4)) [.ret (.tup [.idx (.glob 1) (.loc 1), .idx (.lst [.cat 0, .cat 1, .cat 2, .cat 3]) (.loc 1)])] [],
  .ite (.cmp .eq (.loc 1) (.int 4)) [.ret (.tup [.glob 0, .sm .join (.str []) (.glob 0)])] [],
  .ite (.cmp .eq (.loc 1) (.int 5)) [.ret (.tup [.glob 0, .mkset (.glob 0)])] [],
  .set 2 (.bin .mod (.bin .fdiv (.loc 0) (.int 8)) (.int 131072)),
  .set 3 (.enum (.loc 5) 4 5 (.glob 0) [.cmp .eq (.bin .mod (.bin .shr (.loc 2) (.loc 4)) (.int 2)) (.int 1)]),
  .ret (.tup [.loc 3, .ife (.cmp .eq (.loc 1) (.int 6)) (.mkset (.loc 3)) (.sm .join (.str []) (.loc 3))])]
-- params 1 others 5
/-- _law_text: word, place, onward, rest, size, way, text, more; cells:  -/
noncomputable def v_law_text : List Str := ["word", "place", "onward", "rest", "size", "way", "text", "more"]
noncomputable def b_law_text : List S := [.set 4 (.bin .mod (.bin .add (.bin .fdiv (.loc 3) (.int 4)) (.int 2)) (.bin .add (.bi .len [.loc 0]) (.int 1))),
  .set 5 (.bin .mod (.loc 3) (.int 4)),
  .ite (.cmp .eq (.loc 5) (.int 2)) [.ret (.slc (.loc 0) .non (.loc 4))] [],
  .ite (.cmp .eq (.loc 5) (.int 3)) [.ret (.slc (.loc 0) (.bi .max2 [.int 0, .bin .sub (.bi .len [.loc 0]) (.loc 4)]) .non)] [],
  .set 6 (.ife (.loc 2) (.slc (.loc 0) (.loc 1) (.bin .add (.loc 1) (.loc 4))) (.slc (.loc 0) (.bi .max2 [.int 0, .bin .sub (.loc 1) (.loc 4)]) (.loc 1))),
  .ite (.cmp .eq (.loc 5) (.int 1)) [.set 7 (.idx (.glob 0) (.bin .mod (.bin .fdiv (.loc 3) (.int 20)) (.int 17))),
    .set 6 (.ife (.loc 2) (.bin .add (.loc 6) (.loc 7)) (.bin .add (.loc 7) (.loc 6)))] [],
  .ret (.loc 6)]
-- params 4 others 4
/-- _law_mirrored: signs, place; cells: signs -/
noncomputable def v_law_mirrored : List Str := ["signs", "place"]
noncomputable def b_law_mirrored : List S := [.ret (.comp (.idx (.loc 0) (.loc 1)) 1 (.rng [.bin .sub (.bi .len [.loc 0]) (.int 1), .neg (.int 1), .neg (.int 1)]) [])]
-- params 1 others 1
/-- _law_one: near, far, bar, chosen, inside; cells:  -/
noncomputable def v_law_one : List Str := ["near", "far", "bar", "chosen", "inside"]
noncomputable def b_law_one : List S := [.ite (.disj [.cmp .le (.bi .len [.loc 0]) (.loc 2), .cmp .ne (.cmp .isin (.idx (.loc 0) (.neg (.int 1))) (.loc 3)) (.loc 4)]) [.ret (.tup [.bool false, .loc 0, .loc 1])] [],
  .ret (.tup [.bool true, .slc (.loc 0) .non (.bin .sub (.bi .len [.loc 0]) (.int 1)), .bin .add (.loc 1) (.lst [.idx (.loc 0) (.neg (.int 1))])])]
-- params 5 others 0
/-- _law_go: near, far, bar, chosen, inside, stops, keep, place; cells: chosen, inside, near -/
noncomputable def v_law_go : List Str := ["near", "far", "bar", "chosen", "inside", "stops", "keep", "place"]
noncomputable def b_law_go : List S := [.set 5 (.comp (.loc 7) 7 (.rng [.loc 2, .bi .len [.loc 0]]) [.cmp .ne (.cmp .isin (.idx (.loc 0) (.loc 7)) (.loc 3)) (.loc 4)]),
  .set 6 (.ife (.cmp .ne (.loc 5) (.lst [])) (.bin .add (.idx (.loc 5) (.neg (.int 1))) (.int 1)) (.bi .min2 [.loc 2, .bi .len [.loc 0]])),
  .ret (.tup [.cmp .ne (.loc 5) (.lst []), .slc (.loc 0) .non (.loc 6), .bin .add (.loc 1) (.call 2 [.slc (.loc 0) (.loc 6) .non])])]
-- params 5 others 3
/-- _law_equal: near, far, bar, signs, size; cells:  -/
noncomputable def v_law_equal : List Str := ["near", "far", "bar", "signs", "size"]
noncomputable def b_law_equal : List S := [.set 4 (.bi .len [.loc 3]),
  .ite (.disj [.cmp .gt (.loc 4) (.bi .max2 [.int 0, .bin .sub (.bi .len [.loc 0]) (.loc 2)]), .cmp .ne (.slc (.loc 0) (.bin .sub (.bi .len [.loc 0]) (.loc 4)) .non) (.call 2 [.loc 3])]) [.ret (.tup [.bool false, .loc 0, .loc 1])] [],
  .ret (.tup [.bool true, .slc (.loc 0) .non (.bin .sub (.bi .len [.loc 0]) (.loc 4)), .bin .add (.loc 1) (.loc 3)])]
-- params 4 others 1
/-- _law_asked: stemmer, kind, given; cells:  -/
noncomputable def v_law_asked : List Str := ["stemmer", "kind", "given"]
noncomputable def b_law_asked : List S := [.ite (.cmp .eq (.loc 1) (.int 0)) [.ret (.meth (.loc 0) 9 [.loc 2])] [],
  .ite (.cmp .eq (.loc 1) (.int 1)) [.ret (.meth (.loc 0) 13 [.loc 2])] [],
  .ite (.cmp .eq (.loc 1) (.int 2)) [.ret (.meth (.loc 0) 10 [.loc 2])] [],
  .ite (.cmp .eq (.loc 1) (.int 3)) [.ret (.meth (.loc 0) 14 [.loc 2])] [],
  .ite (.cmp .eq (.loc 1) (.int 4)) [.ret (.meth (.loc 0) 11 [.loc 2])] [],
  .ite (.cmp .eq (.loc 1) (.int 5)) [.ret (.meth (.loc 0) 15 [.loc 2])] [],
  .ite (.cmp .eq (.loc 1) (.int 6)) [.ret (.meth (.loc 0) 12 [.loc 2])] [],
  .ite (.cmp .eq (.loc 1) (.int 7)) [.ret (.meth (.loc 0) 16 [.loc 2])] [],
  .ite (.cmp .eq (.loc 1) (.int 8)) [.ret (.meth (.loc 0) 17 [.loc 2])] [],
  .ret (.meth (.loc 0) 18 [.loc 2])]
-- params 3 others 0
/-- _law_shown: stemmer; cells:  -/
noncomputable def v_law_shown : List Str := ["stemmer"]
noncomputable def b_law_shown : List S := [.ret (.lst [.meth (.loc 0) 7 [], .attr (.loc 0) 1, .attr (.loc 0) 2, .attr (.loc 0) 3, .attr (.loc 0) 4, .attr (.loc 0) 5])]
-- params 1 others 0
/-- law: script, word, number, deeds, stemmer, other, stood, left, right, beyond, fore, bra, ket, kind, rest, place, onward, told, near, far, bar, inside, given, signs, chosen, due, sign; cells: deeds -/
noncomputable def v_law : List Str := ["script", "word", "number", "deeds", "stemmer", "other", "stood", "left", "right", "beyond", "fore", "bra", "ket", "kind", "rest", "place", "onward", "told", "near", "far", "bar", "inside", "given", "signs", "chosen", "due", "sign"]
noncomputable def b_law : List S := [.set 1 (.str []),
  .for1 2 (.slc (.loc 0) .non (.int 12)) [.set 1 (.bin .add (.loc 1) (.bin .mul (.idx (.glob 0) (.bin .mod (.loc 2) (.int 17))) (.bin .add (.int 1) (.bin .mod (.bin .fdiv (.loc 2) (.int 17)) (.int 3)))))],
  .set 1 (.slc (.loc 1) .non (.int 20)),
  .set 3 (.comp (.tup [.bin .mod (.loc 2) (.int 16), .bin .fdiv (.loc 2) (.int 16)]) 2 (.slc (.loc 0) .non (.int 16)) []),
  .set 3 (.bin .add (.loc 3) (.comp (.tup [.loc 13, .bin .add (.bi .len [.loc 3]) (.loc 13)]) 13 (.rng [.int 10]) [])),
  .set 4 (.new 0),
  .expr (.meth (.loc 4) 6 [.loc 1]),
  .setT [7, 8] true (.tup [.lst [], .call 2 [.loc 1]]),
  .setT [9, 10, 11, 12] false (.tup [.int 0, .int 0, .int 0, .bi .len [.loc 1]]),
  .set 5 (.new 0),
  .expr (.meth (.loc 5) 6 [.sm .join (.str []) (.glob 0)]),
  .setA (.loc 5) 1 (.int 5),
  .setA (.loc 5) 2 (.int 12),
  .setA (.loc 5) 3 (.int 3),
  .setA (.loc 5) 4 (.int 4),
  .setA (.loc 5) 5 (.int 9),
  .set 6 (.lst [.sm .join (.str []) (.glob 0), .int 5, .int 12, .int 3, .int 4, .int 9]),
  .forT [13, 14] (.loc 3) [.set 15 (.bin .sub (.bi .len [.loc 1]) (.bin .mod (.loc 14) (.bin .add (.bi .len [.loc 1]) (.int 1)))),
    .ite (.cmp .lt (.loc 13) (.int 10)) [.set 16 (.cmp .isin (.loc 13) (.lst [.int 0, .int 1, .int 2, .int 3, .int 8])),
      .setT [18, 19, 20] false (.ife (.loc 16) (.tup [.loc 8, .loc 7, .loc 9]) (.tup [.loc 7, .loc 8, .loc 10])),
      .ite (.cmp .lt (.loc 13) (.int 8)) [.setT [24, 22] false (.call 0 [.loc 14]),
        .set 21 (.cmp .eq (.bin .mod (.loc 13) (.int 2)) (.int 0)),
        .ite (.cmp .isin (.loc 13) (.lst [.int 2, .int 3, .int 6, .int 7])) [.setT [25, 18, 19] false (.call 4 [.loc 18, .loc 19, .loc 20, .loc 24, .loc 21])] [.setT [25, 18, 19] false (.call 3 [.loc 18, .loc 19, .loc 20, .loc 24, .loc 21])]] [.set 22 (.call 1 [.loc 1, .bi .len [.loc 7], .loc 16, .loc 14]),
        .ite (.conj [.cmp .eq (.loc 22) (.str []), .cmp .lt (.bi .len [.loc 18]) (.loc 20)]) [.set 22 (.str [97])] [],
        .set 23 (.comp (.loc 26) 26 (.loc 22) []),
        .setT [25, 18, 19] false (.call 5 [.loc 18, .loc 19, .loc 20, .ife (.loc 16) (.loc 23) (.call 2 [.loc 23])])],
      .setT [7, 8] false (.ife (.loc 16) (.tup [.loc 19, .loc 18]) (.tup [.loc 18, .loc 19])),
      .set 17 (.scall 6 [.loc 4, .loc 13, .loc 22]),
      .ite (.disj [.not (.bi .isb [.loc 17, .glob 2]), .cmp .ne (.loc 17) (.loc 25)]) [.ret (.bool false)] []] [.ite (.cmp .eq (.loc 13) (.int 10)) [.setA (.loc 4) 1 (.loc 15),
        .setT [7, 8] true (.tup [.comp (.loc 26) 26 (.slc (.loc 1) .non (.loc 15)) [], .call 2 [.slc (.loc 1) (.loc 15) .non]])] [.ite (.cmp .eq (.loc 13) (.int 11)) [.set 9 (.bin .mod (.bin .add (.loc 14) (.int 1)) (.bin .add (.bi .len [.loc 1]) (.int 1))),
          .setA (.loc 4) 2 (.bin .sub (.bi .len [.loc 1]) (.loc 9))] [.ite (.cmp .eq (.loc 13) (.int 12)) [.set 10 (.bin .mod (.bin .add (.loc 14) (.int 1)) (.bin .add (.bi .len [.loc 1]) (.int 1))),
            .setA (.loc 4) 3 (.loc 10)] [.ite (.cmp .eq (.loc 13) (.int 13)) [.setT [11, 12] true (.tup [.loc 15, .bin .mod (.bin .add (.loc 14) (.int 1)) (.bin .add (.bi .len [.loc 1]) (.int 1))]),
              .setA (.loc 4) 4 (.loc 11),
              .setA (.loc 4) 5 (.loc 12)] [.ite (.cmp .eq (.loc 13) (.int 14)) [.set 1 (.sm .join (.str []) (.call 2 [.loc 1])),
                .ite (.cmp .eq (.bin .mod (.loc 14) (.int 3)) (.int 0)) [.set 1 (.slc (.bin .add (.loc 1) (.idx (.glob 0) (.bin .mod (.bin .fdiv (.loc 14) (.int 3)) (.int 17)))) .non (.int 24))] [.ite (.cmp .eq (.bin .mod (.loc 14) (.int 3)) (.int 1)) [.set 1 (.slc (.loc 1) .non (.bin .fdiv (.bi .len [.loc 1]) (.int 2)))] [.set 1 (.slc (.loc 1) (.bin .mod (.bin .fdiv (.loc 14) (.int 3)) (.bin .add (.bi .len [.loc 1]) (.int 1))) .non)]],
                .expr (.meth (.loc 4) 6 [.loc 1]),
                .setT [7, 8] true (.tup [.lst [], .call 2 [.loc 1]]),
                .setT [9, 10, 11, 12] false (.tup [.int 0, .int 0, .int 0, .bi .len [.loc 1]])] [.expr (.meth (.loc 5) 8 [.loc 4]),
                .setT [4, 5] true (.tup [.loc 5, .loc 4]),
                .set 6 (.lst [.loc 1, .bi .len [.loc 7], .bin .sub (.bi .len [.loc 1]) (.loc 9), .loc 10, .loc 11, .loc 12])]]]]]],
    .ite (.disj [.cmp .ne (.scall 7 [.loc 4]) (.lst [.loc 1, .bi .len [.loc 7], .bin .sub (.bi .len [.loc 1]) (.loc 9), .loc 10, .loc 11, .loc 12]), .cmp .ne (.scall 7 [.loc 5]) (.loc 6)]) [.ret (.bool false)] []],
  .ret (.bool true)]
-- params 1 others 26

noncomputable def findDef (name : Str) : List Stmt → Option (Arguments × List Stmt × Scope)
  | .FunctionDef n a b _ _ _ sc _ _ _ :: r => if n == name then some (a, b, sc) else findDef name r
  | _ :: r => findDef name r
  | [] => none
noncomputable def findClass (name : Str) : List Stmt → Option (List Stmt)
  | .ClassDef n _ _ b _ _ _ _ _ _ _ :: r => if n == name then some b else findClass name r
  | _ :: r => findClass name r
  | [] => none
noncomputable def anames : List Str := ["current", "cursor", "limit", "limit_backward", "bra", "ket", "set_current", "get_current", "copy_from", "in_grouping", "go_in_grouping", "in_grouping_b", "go_in_grouping_b", "out_grouping", "go_out_grouping", "out_grouping_b", "go_out_grouping_b", "eq_s", "eq_s_b"]
noncomputable def P01 : Pg where
  an := fun i => anames.getD i "?"
  gls := [("_law_signs", .none), ("_law_own", .none), ("bool", .g (.type "bool"))]
  fns := ["_law_group", "_law_text", "_law_mirrored", "_law_one", "_law_go", "_law_equal", "_law_asked", "_law_shown", "law"]
  mt := []
  cl := [("BaseStemmer", 0, 0)]
  cat := [("EnglishStemmer", 0, "g_v", .none), ("EnglishStemmer", 0, "g_v_WXY", .none), ("EnglishStemmer", 0, "g_aeo", .none), ("EnglishStemmer", 0, "g_valid_LI", .none)]
  cs := []
  ats := []
noncomputable def chk (d : Option (Arguments × List Stmt × Scope)) (vars : List Str) (nv : Nat) (body : List S) : Bool :=
  match d with
  | some (a, b, sc) => okFn P01 a.args vars sc nv body b
  | none => false
noncomputable def meth (n : Str) : Option (Arguments × List Stmt × Scope) := (findClass "BaseStemmer" pw.main.body).bind (findDef n)
noncomputable def fn (n : Str) : Option (Arguments × List Stmt × Scope) := findDef n pw.main.body
theorem ok_init : chk (meth "__init__") v_init 0 b_init = true := by decide +kernel
theorem ok_set_current : chk (meth "set_current") v_set_current 0 b_set_current = true := by decide +kernel
theorem ok_get_current : chk (meth "get_current") v_get_current 0 b_get_current = true := by decide +kernel
theorem ok_copy_from : chk (meth "copy_from") v_copy_from 0 b_copy_from = true := by decide +kernel
theorem ok_in_grouping : chk (meth "in_grouping") v_in_grouping 0 b_in_grouping = true := by decide +kernel
theorem ok_go_in_grouping : chk (meth "go_in_grouping") v_go_in_grouping 0 b_go_in_grouping = true := by decide +kernel
theorem ok_in_grouping_b : chk (meth "in_grouping_b") v_in_grouping_b 0 b_in_grouping_b = true := by decide +kernel
theorem ok_go_in_grouping_b : chk (meth "go_in_grouping_b") v_go_in_grouping_b 0 b_go_in_grouping_b = true := by decide +kernel
theorem ok_out_grouping : chk (meth "out_grouping") v_out_grouping 0 b_out_grouping = true := by decide +kernel
theorem ok_go_out_grouping : chk (meth "go_out_grouping") v_go_out_grouping 0 b_go_out_grouping = true := by decide +kernel
theorem ok_out_grouping_b : chk (meth "out_grouping_b") v_out_grouping_b 0 b_out_grouping_b = true := by decide +kernel
theorem ok_go_out_grouping_b : chk (meth "go_out_grouping_b") v_go_out_grouping_b 0 b_go_out_grouping_b = true := by decide +kernel
theorem ok_eq_s : chk (meth "eq_s") v_eq_s 0 b_eq_s = true := by decide +kernel
theorem ok_eq_s_b : chk (meth "eq_s_b") v_eq_s_b 0 b_eq_s_b = true := by decide +kernel
theorem ok_law_group : chk (fn "_law_group") v_law_group 5 b_law_group = true := by decide +kernel
theorem ok_law_text : chk (fn "_law_text") v_law_text 4 b_law_text = true := by decide +kernel
theorem ok_law_mirrored : chk (fn "_law_mirrored") v_law_mirrored 1 b_law_mirrored = true := by decide +kernel
theorem ok_law_one : chk (fn "_law_one") v_law_one 0 b_law_one = true := by decide +kernel
theorem ok_law_go : chk (fn "_law_go") v_law_go 3 b_law_go = true := by decide +kernel
theorem ok_law_equal : chk (fn "_law_equal") v_law_equal 1 b_law_equal = true := by decide +kernel
theorem ok_law_asked : chk (fn "_law_asked") v_law_asked 0 b_law_asked = true := by decide +kernel
theorem ok_law_shown : chk (fn "_law_shown") v_law_shown 0 b_law_shown = true := by decide +kernel
theorem ok_law : chk (fn "law") v_law 26 b_law = true := by decide +kernel
end Mine
end

section
open PySem PySem.W PyProof.Rows
set_option Elab.async false
set_option maxRecDepth 100000
namespace Mine
section
variable {G : Sg} {ρ : Rho} {σ : St} {n : Nat}
theorem ev_non  : ev G ρ σ (.non) = (some (.none, σ)) := rfl
theorem ev_bool (b : Bool) : ev G ρ σ (.bool b) = (some (.bool b, σ)) := rfl
theorem ev_int (i : Int) : ev G ρ σ (.int i) = (some (.int i, σ)) := rfl
theorem ev_str (l : List Nat) : ev G ρ σ (.str l) = (some (.str l, σ)) := rfl
theorem ev_loc (i : Nat) : ev G ρ σ (.loc i) = ((ρ[i]?).bind fun v => v.map (·, σ)) := rfl
theorem ev_glob (i : Nat) : ev G ρ σ (.glob i) = ((G.P.gls[i]?).map fun e => (e.2, σ)) := rfl
theorem ev_bin (o : Bop) (a b : X) : ev G ρ σ (.bin o a b) = ((ev G ρ σ a).bind fun p => (ev G ρ p.2 b).bind fun q => (binV o p.1 q.1).map (·, q.2)) := rfl
theorem ev_cmp (o : Cop) (a b : X) : ev G ρ σ (.cmp o a b) = ((ev G ρ σ a).bind fun p => (ev G ρ p.2 b).bind fun q => (cmpV o p.1 q.1).map (.bool ·, q.2)) := rfl
theorem ev_conj (xs : List X) : ev G ρ σ (.conj xs) = ((evC G true ρ σ xs).map fun p => (.bool p.1, p.2)) := rfl
theorem ev_disj (xs : List X) : ev G ρ σ (.disj xs) = ((evC G false ρ σ xs).map fun p => (.bool p.1, p.2)) := rfl
theorem ev_not (a : X) : ev G ρ σ (.not a) = ((ev G ρ σ a).bind fun p => (boolOf p.1).map fun b => (.bool (!b), p.2)) := rfl
theorem ev_neg (a : X) : ev G ρ σ (.neg a) = ((ev G ρ σ a).bind fun p => match p.1 with | .int i => some (.int (-i), p.2) | _ => none) := rfl
theorem ev_ife (c a b : X) : ev G ρ σ (.ife c a b) = ((ev G ρ σ c).bind fun p => (boolOf p.1).bind fun t => if t then ev G ρ p.2 a else ev G ρ p.2 b) := rfl
theorem ev_idx (a i : X) : ev G ρ σ (.idx a i) = ((ev G ρ σ a).bind fun p => (ev G ρ p.2 i).bind fun q => (idxV p.1 q.1).map (·, q.2)) := rfl
theorem ev_slc (a lo hi : X) : ev G ρ σ (.slc a lo hi) = ((ev G ρ σ a).bind fun p => (ev G ρ p.2 lo).bind fun q => (ev G ρ q.2 hi).bind fun r => (partV q.1).bind fun l => (partV r.1).bind fun u => (sliceV p.1 l u).map (·, r.2)) := rfl
theorem ev_lst (xs : List X) : ev G ρ σ (.lst xs) = ((evs G ρ σ xs).map fun p => (.list p.1, p.2)) := rfl
theorem ev_tup (xs : List X) : ev G ρ σ (.tup xs) = ((evs G ρ σ xs).map fun p => (.tup p.1, p.2)) := rfl
theorem ev_attr (a : X) (n : Nat) : ev G ρ σ (.attr a n) = ((ev G ρ σ a).bind fun p => (attrV G.P p.2 p.1 n).map (·, p.2)) := rfl
theorem ev_cat (k : Nat) : ev G ρ σ (.cat k) = ((G.P.cat[k]?).map fun e => (e.2.2.2, σ)) := rfl
theorem ev_bi (b : Bi) (xs : List X) : ev G ρ σ (.bi b xs) = ((evs G ρ σ xs).bind fun p => (biV b p.1).map (·, p.2)) := rfl
theorem ev_rng (xs : List X) : ev G ρ σ (.rng xs) = ((evs G ρ σ xs).bind fun p => (rngV p.1).map (·, p.2)) := rfl
theorem ev_mkset (a : X) : ev G ρ σ (.mkset a) = ((ev G ρ σ a).bind fun p => (setV p.1).map (·, p.2)) := rfl
theorem ev_sm (m : Sm) (a b : X) : ev G ρ σ (.sm m a b) = ((ev G ρ σ a).bind fun p => (ev G ρ p.2 b).bind fun q => (smV m p.1 q.1).map (·, q.2)) := rfl
theorem ev_call (f : Nat) (xs : List X) : ev G ρ σ (.call f xs) = ((evs G ρ σ xs).bind fun p => (G.Ψ f p.1).map (·, p.2)) := rfl
theorem ev_scall (f : Nat) (xs : List X) : ev G ρ σ (.scall f xs) = ((evs G ρ σ xs).bind fun p => G.Φ f p.1 p.2) := rfl
theorem ev_meth (a : X) (m : Nat) (xs : List X) : ev G ρ σ (.meth a m xs) = ((ev G ρ σ a).bind fun p => (evs G ρ p.2 xs).bind fun q => methV G q.2 p.1 m q.1) := rfl
theorem ev_new (c : Nat) : ev G ρ σ (.new c) = (newV G c σ) := rfl
theorem ev_comp (x : X) (v : Nat) (it : X) (cs : List X) : ev G ρ σ (.comp x v it cs) = ((ev G ρ σ it).bind fun p => (iterV p.1).bind fun its =>
      (compL (fun i => (evC G true (ρ.set v (some i)) p.2 cs).map (·.1)) (fun i => (ev G (ρ.set v (some i)) p.2 x).map (·.1)) its).map fun l => (.list l, p.2)) := rfl
theorem ev_enum (x : X) (i j : Nat) (it : X) (cs : List X) : ev G ρ σ (.enum x i j it cs) = ((ev G ρ σ it).bind fun p => (asList p.1).bind fun its =>
      (compL (fun v => match v with | .tup [a, b] => (evC G true ((ρ.set i (some a)).set j (some b)) p.2 cs).map (·.1) | _ => none)
        (fun v => match v with | .tup [a, b] => (ev G ((ρ.set i (some a)).set j (some b)) p.2 x).map (·.1) | _ => none) (enumV 0 its)).map fun l => (.list l, p.2)) := rfl
theorem evs_nil : evs G ρ σ [] = some ([], σ) := rfl
theorem evs_cons (x : X) (xs : List X) : evs G ρ σ (x :: xs) = ((ev G ρ σ x).bind fun p => (evs G ρ p.2 xs).map fun q => (p.1 :: q.1, q.2)) := rfl
theorem evC_nil (u : Bool) : evC G u ρ σ [] = some (u, σ) := rfl
theorem evC_cons (u : Bool) (x : X) (xs : List X) : evC G u ρ σ (x :: xs) = ((ev G ρ σ x).bind fun p => (boolOf p.1).bind fun b => if b = u then evC G u ρ p.2 xs else some (!u, p.2)) := rfl
theorem exS_expr (x : X) : exS G n (.expr x) ρ σ = ((ev G ρ σ x).map fun p => (.next, ρ, p.2)) := rfl
theorem exS_set (i : Nat) (x : X) : exS G n (.set i x) ρ σ = ((ev G ρ σ x).map fun p => (.next, ρ.set i (some p.1), p.2)) := rfl
theorem exS_setT (is : List Nat) (rev : Bool) (x : X) : exS G n (.setT is rev x) ρ σ = ((ev G ρ σ x).bind fun p => (setTup is rev p.1 ρ).map fun ρ' => (.next, ρ', p.2)) := rfl
theorem exS_setA (o : X) (a : Nat) (x : X) : exS G n (.setA o a x) ρ σ = ((ev G ρ σ x).bind fun p => (ev G ρ p.2 o).bind fun q => (putA G.P q.2 q.1 a p.1).map fun σ' => (.next, ρ, σ')) := rfl
theorem exS_augA (o : X) (a : Nat) (op : Aop) (x : X) : exS G n (.augA o a op x) ρ σ = ((ev G ρ σ o).bind fun q => (attrV G.P q.2 q.1 a).bind fun old => (ev G ρ q.2 x).bind fun p => (op.run old p.1).bind fun v => (putA G.P p.2 q.1 a v).map fun σ' => (.next, ρ, σ')) := rfl
theorem exS_ite (c : X) (a b : List S) : exS G n (.ite c a b) ρ σ = ((ev G ρ σ c).bind fun p => (boolOf p.1).bind fun t => if t then exB G n a ρ p.2 else exB G n b ρ p.2) := rfl
theorem exS_whl (c : X) (b : List S) : exS G n (.whl c b) ρ σ = (loopW (fun ρ σ => (ev G ρ σ c).bind fun p => (boolOf p.1).map (·, p.2)) (fun ρ σ => exB G n b ρ σ) n ρ σ) := rfl
theorem exS_for1 (i : Nat) (x : X) (b : List S) : exS G n (.for1 i x b) ρ σ = ((ev G ρ σ x).bind fun p => (iterV p.1).bind fun its => loopF (fun v ρ => some (ρ.set i (some v))) (fun ρ σ => exB G n b ρ σ) its ρ p.2) := rfl
theorem exS_forT (is : List Nat) (x : X) (b : List S) : exS G n (.forT is x b) ρ σ = ((ev G ρ σ x).bind fun p => (asList p.1).bind fun its => loopF (fun v ρ => setTup is false v ρ) (fun ρ σ => exB G n b ρ σ) its ρ p.2) := rfl
theorem exS_ret (x : X) : exS G n (.ret x) ρ σ = ((ev G ρ σ x).map fun p => (.ret p.1, ρ, p.2)) := rfl
theorem exB_nil : exB G n [] ρ σ = some (.next, ρ, σ) := rfl
theorem exB_cons (t : S) (r : List S) : exB G n (t :: r) ρ σ = ((exS G n t ρ σ).bind fun p => match p.1 with
      | .next => exB G n r p.2.1 p.2.2
      | .ret v => some (.ret v, p.2)) := rfl
end

noncomputable def stF (w : List Nat) (c l lb b k : Int) : Fields := [(0, .str w), (1, .int c), (2, .int l), (3, .int lb), (4, .int b), (5, .int k)]

section
variable {G : Sg} {C : Addr} {σ : St} {k : Nat} {w : List Nat} {c l lb b kk : Int} {ρ : Rho} {m : Nat}

structure GOk (G : Sg) (C : Addr) : Prop where
  cs : C ∈ G.P.cs
  a0 : 0 ∈ G.P.ats
  a1 : 1 ∈ G.P.ats
  a2 : 2 ∈ G.P.ats
  a3 : 3 ∈ G.P.ats
  a4 : 4 ∈ G.P.ats
  a5 : 5 ∈ G.P.ats

theorem at0 (g : GOk G C) (h : σ[k]? = some (.inst C (stF w c l lb b kk))) : attrV G.P σ (.obj k) 0 = some (.str w) := by simp [attrV, h, g.cs, g.a0, stF, getF]
theorem at1 (g : GOk G C) (h : σ[k]? = some (.inst C (stF w c l lb b kk))) : attrV G.P σ (.obj k) 1 = some (.int c) := by simp [attrV, h, g.cs, g.a1, stF, getF]
theorem at2 (g : GOk G C) (h : σ[k]? = some (.inst C (stF w c l lb b kk))) : attrV G.P σ (.obj k) 2 = some (.int l) := by simp [attrV, h, g.cs, g.a2, stF, getF]
theorem at3 (g : GOk G C) (h : σ[k]? = some (.inst C (stF w c l lb b kk))) : attrV G.P σ (.obj k) 3 = some (.int lb) := by simp [attrV, h, g.cs, g.a3, stF, getF]
theorem at4 (g : GOk G C) (h : σ[k]? = some (.inst C (stF w c l lb b kk))) : attrV G.P σ (.obj k) 4 = some (.int b) := by simp [attrV, h, g.cs, g.a4, stF, getF]
theorem at5 (g : GOk G C) (h : σ[k]? = some (.inst C (stF w c l lb b kk))) : attrV G.P σ (.obj k) 5 = some (.int kk) := by simp [attrV, h, g.cs, g.a5, stF, getF]
theorem pu1 (g : GOk G C) (x : Int) (h : σ[k]? = some (.inst C (stF w c l lb b kk))) : putA G.P σ (.obj k) 1 (.int x) = some (σ.set k (.inst C (stF w x l lb b kk))) := by simp [putA, h, g.cs, g.a1, stF, setF, notG]

/-- a group: what holds the signs it is asked for -/
noncomputable def IsGroup (g : V) (mem : Nat → Bool) : Prop := ∀ ch, inV (.str [ch]) g = some (mem ch)

theorem idx_sign {i : Int} (h0 : 0 ≤ i) (h1 : i < w.length) : ∃ ch, w[i.toNat]? = some ch ∧ idxV (.str w) (.int i) = some (.str [ch]) := by
  have lt : i.toNat < w.length := by omega
  refine ⟨w[i.toNat], List.getElem?_eq_getElem lt, ?_⟩
  have : seqIndex? i w.length = some i.toNat := by
    unfold seqIndex?
    simp only [show ¬ i < 0 by omega, if_false]
    split
    · rfl
    · rename_i q
      simp only [Bool.and_eq_true, decide_eq_true_eq] at q
      omega
  simp [idxV, this, List.getElem?_eq_getElem lt]

theorem run_in_grouping (g : GOk G C) (h : σ[k]? = some (.inst C (stF w c l lb b kk))) {gr : V} {mem : Nat → Bool} (hg : IsGroup gr mem) (h0 : 0 ≤ c) (h1 : l ≤ w.length) :
    runB G m 2 0 b_in_grouping [.obj k, gr] σ = some (if c < l ∧ (w[c.toNat]?).any mem then (.bool true, σ.set k (.inst C (stF w (c + 1) l lb b kk))) else (.bool false, σ)) := by
  unfold runB b_in_grouping
  simp only [List.length_cons, List.length_nil, if_true, List.map_cons, List.map_nil, List.replicate_zero, List.append_nil]
  simp only [exB_nil, exB_cons, exS_expr, exS_set, exS_setT, exS_setA, exS_augA, exS_ite, exS_whl, exS_for1, exS_forT, exS_ret, ev_non, ev_bool, ev_int, ev_str, ev_loc, ev_glob, ev_bin, ev_cmp, ev_conj, ev_disj, ev_not, ev_neg, ev_ife, ev_idx, ev_slc, ev_lst, ev_tup, ev_attr, ev_cat, ev_bi, ev_rng, ev_mkset, ev_sm, ev_call, ev_scall, ev_meth, ev_new, ev_comp, ev_enum, cmpV, int2, at0 g h, at1 g h, at2 g h, Option.bind_some, Option.map_some, List.getElem?_cons_zero, List.getElem?_cons_succ, boolOf, int1]
  by_cases hc : c < l
  · obtain ⟨ch, e1, e2⟩ := idx_sign (w := w) h0 (by omega)
    have : ¬ c ≥ l := by omega
    simp only [ge_iff_le, this, decide_false, Bool.false_eq_true, if_false, e1, e2, Option.bind_some, Option.map_some, hg ch, Option.any_some, hc, true_and]
    cases hm : mem ch <;> simp [hm, Aop.run, int2, pu1 g _ h, at0 g h, at1 g h, e2, hg ch, int1]
  · have : c ≥ l := by omega
    simp [this, hc]

theorem run_out_grouping (g : GOk G C) (h : σ[k]? = some (.inst C (stF w c l lb b kk))) {gr : V} {mem : Nat → Bool} (hg : IsGroup gr mem) (h0 : 0 ≤ c) (h1 : l ≤ w.length) :
    runB G m 2 0 b_out_grouping [.obj k, gr] σ = some (if c < l ∧ (w[c.toNat]?).any (!mem ·) then (.bool true, σ.set k (.inst C (stF w (c + 1) l lb b kk))) else (.bool false, σ)) := by
  unfold runB b_out_grouping
  simp only [List.length_cons, List.length_nil, if_true, List.map_cons, List.map_nil, List.replicate_zero, List.append_nil]
  simp only [exB_nil, exB_cons, exS_expr, exS_set, exS_setT, exS_setA, exS_augA, exS_ite, exS_whl, exS_for1, exS_forT, exS_ret, ev_non, ev_bool, ev_int, ev_str, ev_loc, ev_glob, ev_bin, ev_cmp, ev_conj, ev_disj, ev_not, ev_neg, ev_ife, ev_idx, ev_slc, ev_lst, ev_tup, ev_attr, ev_cat, ev_bi, ev_rng, ev_mkset, ev_sm, ev_call, ev_scall, ev_meth, ev_new, ev_comp, ev_enum, cmpV, int2, at1 g h, at2 g h, Option.bind_some, Option.map_some, List.getElem?_cons_zero, List.getElem?_cons_succ, boolOf, int1]
  by_cases hc : c < l
  · obtain ⟨ch, e1, e2⟩ := idx_sign (w := w) h0 (by omega)
    have : ¬ c ≥ l := by omega
    simp only [ge_iff_le, this, decide_false, Bool.false_eq_true, if_false, e1, Option.bind_some, Option.any_some, hc, true_and]
    cases hm : mem ch <;> simp [hm, Aop.run, int2, pu1 g _ h, at0 g h, at1 g h, e2, hg ch, int1]
  · have : c ≥ l := by omega
    simp [this, hc]

theorem run_in_grouping_b (g : GOk G C) (h : σ[k]? = some (.inst C (stF w c l lb b kk))) {gr : V} {mem : Nat → Bool} (hg : IsGroup gr mem) (h0 : 0 ≤ lb) (h1 : c ≤ w.length) :
    runB G m 2 0 b_in_grouping_b [.obj k, gr] σ = some (if c > lb ∧ (w[(c - 1).toNat]?).any mem then (.bool true, σ.set k (.inst C (stF w (c - 1) l lb b kk))) else (.bool false, σ)) := by
  unfold runB b_in_grouping_b
  simp only [List.length_cons, List.length_nil, if_true, List.map_cons, List.map_nil, List.replicate_zero, List.append_nil]
  simp only [exB_nil, exB_cons, exS_expr, exS_set, exS_setT, exS_setA, exS_augA, exS_ite, exS_whl, exS_for1, exS_forT, exS_ret, ev_non, ev_bool, ev_int, ev_str, ev_loc, ev_glob, ev_bin, ev_cmp, ev_conj, ev_disj, ev_not, ev_neg, ev_ife, ev_idx, ev_slc, ev_lst, ev_tup, ev_attr, ev_cat, ev_bi, ev_rng, ev_mkset, ev_sm, ev_call, ev_scall, ev_meth, ev_new, ev_comp, ev_enum, cmpV, int2, at1 g h, at3 g h, Option.bind_some, Option.map_some, List.getElem?_cons_zero, List.getElem?_cons_succ, boolOf, int1]
  by_cases hc : c > lb
  · obtain ⟨ch, e1, e2⟩ := idx_sign (w := w) (i := c - 1) (by omega) (by omega)
    have : ¬ c ≤ lb := by omega
    simp only [this, decide_false, Bool.false_eq_true, if_false, e1, Option.bind_some, Option.any_some, hc, true_and]
    cases hm : mem ch <;> simp [hm, Aop.run, int2, pu1 g _ h, at0 g h, at1 g h, e2, hg ch, binV, addV, mulV, int2, int1, asS, asL]
  · have : c ≤ lb := by omega
    simp [this, hc]

theorem run_out_grouping_b (g : GOk G C) (h : σ[k]? = some (.inst C (stF w c l lb b kk))) {gr : V} {mem : Nat → Bool} (hg : IsGroup gr mem) (h0 : 0 ≤ lb) (h1 : c ≤ w.length) :
    runB G m 2 0 b_out_grouping_b [.obj k, gr] σ = some (if c > lb ∧ (w[(c - 1).toNat]?).any (!mem ·) then (.bool true, σ.set k (.inst C (stF w (c - 1) l lb b kk))) else (.bool false, σ)) := by
  unfold runB b_out_grouping_b
  simp only [List.length_cons, List.length_nil, if_true, List.map_cons, List.map_nil, List.replicate_zero, List.append_nil]
  simp only [exB_nil, exB_cons, exS_expr, exS_set, exS_setT, exS_setA, exS_augA, exS_ite, exS_whl, exS_for1, exS_forT, exS_ret, ev_non, ev_bool, ev_int, ev_str, ev_loc, ev_glob, ev_bin, ev_cmp, ev_conj, ev_disj, ev_not, ev_neg, ev_ife, ev_idx, ev_slc, ev_lst, ev_tup, ev_attr, ev_cat, ev_bi, ev_rng, ev_mkset, ev_sm, ev_call, ev_scall, ev_meth, ev_new, ev_comp, ev_enum, cmpV, int2, at1 g h, at3 g h, Option.bind_some, Option.map_some, List.getElem?_cons_zero, List.getElem?_cons_succ, boolOf, int1]
  by_cases hc : c > lb
  · obtain ⟨ch, e1, e2⟩ := idx_sign (w := w) (i := c - 1) (by omega) (by omega)
    have : ¬ c ≤ lb := by omega
    simp only [this, decide_false, Bool.false_eq_true, if_false, e1, Option.bind_some, Option.any_some, hc, true_and]
    cases hm : mem ch <;> simp [hm, Aop.run, int2, pu1 g _ h, at0 g h, at1 g h, e2, hg ch, binV, addV, mulV, int2, int1, asS, asL]
  · have : c ≤ lb := by omega
    simp [this, hc]
end
end Mine
end

section
open PySem PySem.W PyProof.Rows
set_option Elab.async false
set_option maxRecDepth 100000
namespace Mine

noncomputable def scanUp (w : List Nat) (stop : Nat → Bool) (l : Int) : Nat → Int → Bool × Int
  | 0, c => (false, c)
  | n + 1, c => if c < l then (if (w[c.toNat]?).any stop then (true, c) else scanUp w stop l n (c + 1)) else (false, c)
noncomputable def scanDown (w : List Nat) (stop : Nat → Bool) (lb : Int) : Nat → Int → Bool × Int
  | 0, c => (false, c)
  | n + 1, c => if c > lb then (if (w[(c - 1).toNat]?).any stop then (true, c) else scanDown w stop lb n (c - 1)) else (false, c)

theorem cmp_lt (a b : Int) : cmpV .lt (.int a) (.int b) = some (decide (a < b)) := rfl
theorem cmp_gt (a b : Int) : cmpV .gt (.int a) (.int b) = some (decide (b < a)) := rfl
theorem bin_sub (a b : Int) : binV .sub (.int a) (.int b) = some (.int (a - b)) := rfl
section
variable {G : Sg} {C : Addr} {k : Nat} {w : List Nat} {l lb b kk : Int}

theorem set_same {σ : St} {x : Ob} (h : σ[k]? = some x) : σ.set k x = σ := by
  apply List.ext_getElem?
  intro i
  rw [List.getElem?_set]
  split
  · rename_i q; subst q
    split
    · exact h.symm
    · rename_i q2; rw [List.getElem?_eq_none (by omega)]
  · rfl
theorem set_at {σ : St} {x y : Ob} (h : σ[k]? = some x) : (σ.set k y)[k]? = some y := by
  have : k < σ.length := by
    rcases Nat.lt_or_ge k σ.length with q | q
    · exact q
    · rw [List.getElem?_eq_none q] at h; cases h
  exact List.getElem?_set_self this

noncomputable def bodyUp (o : Cop) : List S := [.ite (.cmp o (.idx (.attr (.loc 0) 0) (.attr (.loc 0) 1)) (.loc 1)) [.ret (.bool true)] [], .augA (.loc 0) 1 .add (.int 1)]
noncomputable def bodyDown (o : Cop) : List S := [.ite (.cmp o (.idx (.attr (.loc 0) 0) (.bin .sub (.attr (.loc 0) 1) (.int 1))) (.loc 1)) [.ret (.bool true)] [], .augA (.loc 0) 1 .sub (.int 1)]

theorem loop_up (g : GOk G C) {o : Cop} {gr : V} {stop : Nat → Bool} (hs : ∀ ch, cmpV o (.str [ch]) gr = some (stop ch)) (h1 : l ≤ w.length) (m : Nat) : ∀ (n M : Nat) (c : Int) (σ : St), σ[k]? = some (.inst C (stF w c l lb b kk)) → 0 ≤ c → (l - c).toNat ≤ n → n < M →
    loopW (fun ρ σ => (ev G ρ σ (.cmp .lt (.attr (.loc 0) 1) (.attr (.loc 0) 2))).bind fun p => (boolOf p.1).map (·, p.2)) (fun ρ σ => exB G m (bodyUp o) ρ σ) M [some (.obj k), some gr] σ =
      some (if (scanUp w stop l n c).1 then .ret (.bool true) else .next, [some (.obj k), some gr], σ.set k (.inst C (stF w (scanUp w stop l n c).2 l lb b kk)))
  | 0, M, c, σ, h, h0, hn, hM => by
    obtain ⟨M, rfl⟩ : ∃ M', M = M' + 1 := ⟨M - 1, by omega⟩
    have : ¬ c < l := by omega
    rw [loopW_succ]
    simp [ev_non, ev_bool, ev_int, ev_str, ev_loc, ev_glob, ev_bin, ev_cmp, ev_conj, ev_disj, ev_not, ev_neg, ev_ife, ev_idx, ev_slc, ev_lst, ev_tup, ev_attr, ev_cat, ev_bi, ev_rng, ev_mkset, ev_sm, ev_call, ev_scall, ev_meth, ev_new, ev_comp, ev_enum, cmp_lt, cmp_gt, at1 g h, at2 g h, boolOf, this, scanUp, set_same h]
  | n + 1, M, c, σ, h, h0, hn, hM => by
    obtain ⟨M, rfl⟩ : ∃ M', M = M' + 1 := ⟨M - 1, by omega⟩
    rw [loopW_succ]
    by_cases hc : c < l
    · obtain ⟨ch, e1, e2⟩ := idx_sign (w := w) h0 (by omega)
      cases hm : stop ch with
      | true => simp [ev_non, ev_bool, ev_int, ev_str, ev_loc, ev_glob, ev_bin, ev_cmp, ev_conj, ev_disj, ev_not, ev_neg, ev_ife, ev_idx, ev_slc, ev_lst, ev_tup, ev_attr, ev_cat, ev_bi, ev_rng, ev_mkset, ev_sm, ev_call, ev_scall, ev_meth, ev_new, ev_comp, ev_enum, cmp_lt, cmp_gt, at0 g h, at1 g h, at2 g h, boolOf, hc, bodyUp, exB_nil, exB_cons, exS_expr, exS_set, exS_setT, exS_setA, exS_augA, exS_ite, exS_whl, exS_for1, exS_forT, exS_ret, e2, hs ch, hm, scanUp, e1, set_same h]
      | false =>
        have h' : (σ.set k (.inst C (stF w (c + 1) l lb b kk)))[k]? = some (.inst C (stF w (c + 1) l lb b kk)) := set_at h
        have ih := loop_up g hs h1 m n M (c + 1) _ h' (by omega) (by omega) (by omega)
        simp only [List.set_set] at ih
        simp [ev_non, ev_bool, ev_int, ev_str, ev_loc, ev_glob, ev_bin, ev_cmp, ev_conj, ev_disj, ev_not, ev_neg, ev_ife, ev_idx, ev_slc, ev_lst, ev_tup, ev_attr, ev_cat, ev_bi, ev_rng, ev_mkset, ev_sm, ev_call, ev_scall, ev_meth, ev_new, ev_comp, ev_enum, cmp_lt, cmp_gt, at0 g h, at1 g h, at2 g h, boolOf, hc, bodyUp, exB_nil, exB_cons, exS_expr, exS_set, exS_setT, exS_setA, exS_augA, exS_ite, exS_whl, exS_for1, exS_forT, exS_ret, e2, hs ch, hm, scanUp, e1, Aop.run, int2, pu1 g _ h, int1]
        exact ih
    · simp [ev_non, ev_bool, ev_int, ev_str, ev_loc, ev_glob, ev_bin, ev_cmp, ev_conj, ev_disj, ev_not, ev_neg, ev_ife, ev_idx, ev_slc, ev_lst, ev_tup, ev_attr, ev_cat, ev_bi, ev_rng, ev_mkset, ev_sm, ev_call, ev_scall, ev_meth, ev_new, ev_comp, ev_enum, cmp_lt, cmp_gt, at1 g h, at2 g h, boolOf, hc, scanUp, set_same h]

theorem loop_down (g : GOk G C) {o : Cop} {gr : V} {stop : Nat → Bool} (hs : ∀ ch, cmpV o (.str [ch]) gr = some (stop ch)) (h0 : 0 ≤ lb) (m : Nat) : ∀ (n M : Nat) (c : Int) (σ : St), σ[k]? = some (.inst C (stF w c l lb b kk)) → c ≤ w.length → (c - lb).toNat ≤ n → n < M →
    loopW (fun ρ σ => (ev G ρ σ (.cmp .gt (.attr (.loc 0) 1) (.attr (.loc 0) 3))).bind fun p => (boolOf p.1).map (·, p.2)) (fun ρ σ => exB G m (bodyDown o) ρ σ) M [some (.obj k), some gr] σ =
      some (if (scanDown w stop lb n c).1 then .ret (.bool true) else .next, [some (.obj k), some gr], σ.set k (.inst C (stF w (scanDown w stop lb n c).2 l lb b kk)))
  | 0, M, c, σ, h, h1, hn, hM => by
    obtain ⟨M, rfl⟩ : ∃ M', M = M' + 1 := ⟨M - 1, by omega⟩
    have : ¬ lb < c := by omega
    rw [loopW_succ]
    simp [ev_non, ev_bool, ev_int, ev_str, ev_loc, ev_glob, ev_bin, ev_cmp, ev_conj, ev_disj, ev_not, ev_neg, ev_ife, ev_idx, ev_slc, ev_lst, ev_tup, ev_attr, ev_cat, ev_bi, ev_rng, ev_mkset, ev_sm, ev_call, ev_scall, ev_meth, ev_new, ev_comp, ev_enum, cmp_lt, cmp_gt, at1 g h, at3 g h, boolOf, this, scanDown, set_same h]
  | n + 1, M, c, σ, h, h1, hn, hM => by
    obtain ⟨M, rfl⟩ : ∃ M', M = M' + 1 := ⟨M - 1, by omega⟩
    rw [loopW_succ]
    by_cases hc : lb < c
    · obtain ⟨ch, e1, e2⟩ := idx_sign (w := w) (i := c - 1) (by omega) (by omega)
      have e3 : w[c.toNat - 1]? = some ch := by rw [← e1]; congr 1; omega
      cases hm : stop ch with
      | true => simp [ev_non, ev_bool, ev_int, ev_str, ev_loc, ev_glob, ev_bin, ev_cmp, ev_conj, ev_disj, ev_not, ev_neg, ev_ife, ev_idx, ev_slc, ev_lst, ev_tup, ev_attr, ev_cat, ev_bi, ev_rng, ev_mkset, ev_sm, ev_call, ev_scall, ev_meth, ev_new, ev_comp, ev_enum, cmp_lt, cmp_gt, at0 g h, at1 g h, at3 g h, boolOf, hc, bodyDown, exB_nil, exB_cons, exS_expr, exS_set, exS_setT, exS_setA, exS_augA, exS_ite, exS_whl, exS_for1, exS_forT, exS_ret, e2, hs ch, hm, scanDown, e1, e3, set_same h, bin_sub]
      | false =>
        have h' : (σ.set k (.inst C (stF w (c - 1) l lb b kk)))[k]? = some (.inst C (stF w (c - 1) l lb b kk)) := set_at h
        have ih := loop_down g hs h0 m n M (c - 1) _ h' (by omega) (by omega) (by omega)
        simp only [List.set_set] at ih
        simp [ev_non, ev_bool, ev_int, ev_str, ev_loc, ev_glob, ev_bin, ev_cmp, ev_conj, ev_disj, ev_not, ev_neg, ev_ife, ev_idx, ev_slc, ev_lst, ev_tup, ev_attr, ev_cat, ev_bi, ev_rng, ev_mkset, ev_sm, ev_call, ev_scall, ev_meth, ev_new, ev_comp, ev_enum, cmp_lt, cmp_gt, at0 g h, at1 g h, at3 g h, boolOf, hc, bodyDown, exB_nil, exB_cons, exS_expr, exS_set, exS_setT, exS_setA, exS_augA, exS_ite, exS_whl, exS_for1, exS_forT, exS_ret, e2, hs ch, hm, scanDown, e1, e3, Aop.run, int2, pu1 g _ h, bin_sub, int1]
        exact ih
    · simp [ev_non, ev_bool, ev_int, ev_str, ev_loc, ev_glob, ev_bin, ev_cmp, ev_conj, ev_disj, ev_not, ev_neg, ev_ife, ev_idx, ev_slc, ev_lst, ev_tup, ev_attr, ev_cat, ev_bi, ev_rng, ev_mkset, ev_sm, ev_call, ev_scall, ev_meth, ev_new, ev_comp, ev_enum, cmp_lt, cmp_gt, at1 g h, at3 g h, boolOf, hc, scanDown, set_same h]
end
end Mine
end

section
open PySem PySem.W PyProof.Rows
set_option Elab.async false
set_option maxRecDepth 100000
namespace Mine
section
variable {G : Sg} {C : Addr} {k j : Nat} {w : List Nat} {c l lb b kk : Int} {σ : St} {m : Nat}

theorem run_up (g : GOk G C) {o : Cop} {gr : V} {stop : Nat → Bool} (hs : ∀ ch, cmpV o (.str [ch]) gr = some (stop ch)) (h1 : l ≤ w.length) (h : σ[k]? = some (.inst C (stF w c l lb b kk))) (h0 : 0 ≤ c) (hm : (l - c).toNat < m) :
    runB G m 2 0 [.whl (.cmp .lt (.attr (.loc 0) 1) (.attr (.loc 0) 2)) (bodyUp o), .ret (.bool false)] [.obj k, gr] σ = some (.bool (scanUp w stop l (l - c).toNat c).1, σ.set k (.inst C (stF w (scanUp w stop l (l - c).toNat c).2 l lb b kk))) := by
  have := loop_up (lb := lb) (b := b) (kk := kk) g hs h1 m (l - c).toNat m c σ h h0 (Nat.le_refl _) hm
  unfold runB
  simp only [List.length_cons, List.length_nil, if_true, List.map_cons, List.map_nil, List.replicate_zero, List.append_nil]
  simp only [exB_nil, exB_cons, exS_expr, exS_set, exS_setT, exS_setA, exS_augA, exS_ite, exS_whl, exS_for1, exS_forT, exS_ret]
  rw [this]
  cases (scanUp w stop l (l - c).toNat c).1 <;> simp [ev_non, ev_bool, ev_int, ev_str, ev_loc, ev_glob, ev_bin, ev_cmp, ev_conj, ev_disj, ev_not, ev_neg, ev_ife, ev_idx, ev_slc, ev_lst, ev_tup, ev_attr, ev_cat, ev_bi, ev_rng, ev_mkset, ev_sm, ev_call, ev_scall, ev_meth, ev_new, ev_comp, ev_enum]

theorem run_down (g : GOk G C) {o : Cop} {gr : V} {stop : Nat → Bool} (hs : ∀ ch, cmpV o (.str [ch]) gr = some (stop ch)) (h0 : 0 ≤ lb) (h : σ[k]? = some (.inst C (stF w c l lb b kk))) (h1 : c ≤ w.length) (hm : (c - lb).toNat < m) :
    runB G m 2 0 [.whl (.cmp .gt (.attr (.loc 0) 1) (.attr (.loc 0) 3)) (bodyDown o), .ret (.bool false)] [.obj k, gr] σ = some (.bool (scanDown w stop lb (c - lb).toNat c).1, σ.set k (.inst C (stF w (scanDown w stop lb (c - lb).toNat c).2 l lb b kk))) := by
  have := loop_down (l := l) (b := b) (kk := kk) g hs h0 m (c - lb).toNat m c σ h h1 (Nat.le_refl _) hm
  unfold runB
  simp only [List.length_cons, List.length_nil, if_true, List.map_cons, List.map_nil, List.replicate_zero, List.append_nil]
  simp only [exB_nil, exB_cons, exS_expr, exS_set, exS_setT, exS_setA, exS_augA, exS_ite, exS_whl, exS_for1, exS_forT, exS_ret]
  rw [this]
  cases (scanDown w stop lb (c - lb).toNat c).1 <;> simp [ev_non, ev_bool, ev_int, ev_str, ev_loc, ev_glob, ev_bin, ev_cmp, ev_conj, ev_disj, ev_not, ev_neg, ev_ife, ev_idx, ev_slc, ev_lst, ev_tup, ev_attr, ev_cat, ev_bi, ev_rng, ev_mkset, ev_sm, ev_call, ev_scall, ev_meth, ev_new, ev_comp, ev_enum]

theorem go_in_is : b_go_in_grouping = [.whl (.cmp .lt (.attr (.loc 0) 1) (.attr (.loc 0) 2)) (bodyUp .notin), .ret (.bool false)] := rfl
theorem go_out_is : b_go_out_grouping = [.whl (.cmp .lt (.attr (.loc 0) 1) (.attr (.loc 0) 2)) (bodyUp .isin), .ret (.bool false)] := rfl
theorem go_in_b_is : b_go_in_grouping_b = [.whl (.cmp .gt (.attr (.loc 0) 1) (.attr (.loc 0) 3)) (bodyDown .notin), .ret (.bool false)] := rfl
theorem go_out_b_is : b_go_out_grouping_b = [.whl (.cmp .gt (.attr (.loc 0) 1) (.attr (.loc 0) 3)) (bodyDown .isin), .ret (.bool false)] := rfl

theorem run_eq_s (g : GOk G C) (h : σ[k]? = some (.inst C (stF w c l lb b kk))) (s : List Nat) :
    runB G m 2 0 b_eq_s [.obj k, .str s] σ = some (if isPre s (cut w (some c) (some l)) then (.bool true, σ.set k (.inst C (stF w (c + s.length) l lb b kk))) else (.bool false, σ)) := by
  unfold runB b_eq_s
  simp only [List.length_cons, List.length_nil, if_true, List.map_cons, List.map_nil, List.replicate_zero, List.append_nil]
  cases hp : isPre s (cut w (some c) (some l)) <;> simp [exB_nil, exB_cons, exS_expr, exS_set, exS_setT, exS_setA, exS_augA, exS_ite, exS_whl, exS_for1, exS_forT, exS_ret, ev_non, ev_bool, ev_int, ev_str, ev_loc, ev_glob, ev_bin, ev_cmp, ev_conj, ev_disj, ev_not, ev_neg, ev_ife, ev_idx, ev_slc, ev_lst, ev_tup, ev_attr, ev_cat, ev_bi, ev_rng, ev_mkset, ev_sm, ev_call, ev_scall, ev_meth, ev_new, ev_comp, ev_enum, evs_nil, evs_cons, at0 g h, at1 g h, at2 g h, partV, sliceV, smV, hp, boolOf, biV, arg1, arg2, lenV, isbV, int2, Aop.run, int2, pu1 g _ h, asS, asL, int1]
theorem run_eq_s_b (g : GOk G C) (h : σ[k]? = some (.inst C (stF w c l lb b kk))) (s : List Nat) :
    runB G m 2 0 b_eq_s_b [.obj k, .str s] σ = some (if isSuf s (cut w (some lb) (some c)) then (.bool true, σ.set k (.inst C (stF w (c - s.length) l lb b kk))) else (.bool false, σ)) := by
  unfold runB b_eq_s_b
  simp only [List.length_cons, List.length_nil, if_true, List.map_cons, List.map_nil, List.replicate_zero, List.append_nil]
  cases hp : isSuf s (cut w (some lb) (some c)) <;> simp [exB_nil, exB_cons, exS_expr, exS_set, exS_setT, exS_setA, exS_augA, exS_ite, exS_whl, exS_for1, exS_forT, exS_ret, ev_non, ev_bool, ev_int, ev_str, ev_loc, ev_glob, ev_bin, ev_cmp, ev_conj, ev_disj, ev_not, ev_neg, ev_ife, ev_idx, ev_slc, ev_lst, ev_tup, ev_attr, ev_cat, ev_bi, ev_rng, ev_mkset, ev_sm, ev_call, ev_scall, ev_meth, ev_new, ev_comp, ev_enum, evs_nil, evs_cons, at0 g h, at1 g h, at3 g h, partV, sliceV, smV, hp, boolOf, biV, arg1, arg2, lenV, isbV, int2, Aop.run, int2, pu1 g _ h, asS, asL, int1]

theorem run_get_current (g : GOk G C) (h : σ[k]? = some (.inst C (stF w c l lb b kk))) : runB G m 1 0 b_get_current [.obj k] σ = some (.str w, σ) := by
  unfold runB b_get_current
  simp [exB_nil, exB_cons, exS_expr, exS_set, exS_setT, exS_setA, exS_augA, exS_ite, exS_whl, exS_for1, exS_forT, exS_ret, ev_non, ev_bool, ev_int, ev_str, ev_loc, ev_glob, ev_bin, ev_cmp, ev_conj, ev_disj, ev_not, ev_neg, ev_ife, ev_idx, ev_slc, ev_lst, ev_tup, ev_attr, ev_cat, ev_bi, ev_rng, ev_mkset, ev_sm, ev_call, ev_scall, ev_meth, ev_new, ev_comp, ev_enum, at0 g h]

theorem put_set {a : Nat} {fs : Fields} {v : V} (g : GOk G C) (ha : a ∈ G.P.ats) (lt : k < σ.length) (hl : fs.length < 100) (hv : notG v = true) : putA G.P (σ.set k (.inst C fs)) (.obj k) a v = some (σ.set k (.inst C (setF fs a v))) := by
  simp [putA, List.getElem?_set_self lt, g.cs, ha, hl, hv]
theorem attr_set {a : Nat} {fs : Fields} (g : GOk G C) (ha : a ∈ G.P.ats) (lt : k < σ.length) : attrV G.P (σ.set k (.inst C fs)) (.obj k) a = getF fs a := by
  simp [attrV, List.getElem?_set_self lt, g.cs, ha]
theorem lt_of {x : Ob} (h : σ[k]? = some x) : k < σ.length := by
  rcases Nat.lt_or_ge k σ.length with q | q
  · exact q
  · rw [List.getElem?_eq_none q] at h; cases h

theorem getF_self (fs : Fields) (a : Nat) (v : V) : getF (setF fs a v) a = some v := by
  induction fs with
  | nil => simp [setF, getF]
  | cons p r ih =>
    obtain ⟨x, y⟩ := p
    unfold setF
    split
    · simp [getF]
    · rename_i ne
      unfold getF at ih ⊢
      rw [List.find?_cons, beq_eq_false_iff_ne.mpr ne]
      exact ih
theorem getF_other (fs : Fields) {a b : Nat} (v : V) (h : a ≠ b) : getF (setF fs a v) b = getF fs b := by
  induction fs with
  | nil =>
    unfold setF getF
    rw [List.find?_cons, beq_eq_false_iff_ne.mpr h]
  | cons p r ih =>
    obtain ⟨x, y⟩ := p
    unfold setF
    split
    · rename_i e; subst e
      unfold getF
      rw [List.find?_cons, List.find?_cons, beq_eq_false_iff_ne.mpr h]
    · unfold getF at ih ⊢
      rw [List.find?_cons, List.find?_cons]
      split
      · rfl
      · exact ih
theorem len6 {fs : Fields} (h : fs.length ≤ 90) (a : Nat) (v : V) : (setF fs a v).length ≤ fs.length + 1 := setF_length fs a v

theorem run_set_current (g : GOk G C) {fs : Fields} (hf : fs = [] ∨ fs = stF w c l lb b kk) (h : σ[k]? = some (.inst C fs)) (v : List Nat) :
    runB G m 2 0 b_set_current [.obj k, .str v] σ = some (.none, σ.set k (.inst C (stF v 0 v.length 0 0 v.length))) := by
  have lt := lt_of h
  have e := set_same h
  have hl : fs.length ≤ 6 := by rcases hf with rfl | rfl <;> simp [stF]
  have fin : setF (setF (setF (setF (setF (setF fs 0 (.str v)) 1 (.int 0)) 2 (.int v.length)) 3 (.int 0)) 4 (.int 0)) 5 (.int v.length) = stF v 0 v.length 0 0 v.length := by
    rcases hf with rfl | rfl <;> rfl
  have p := fun (fs : Fields) (a : Nat) (x : V) (ha : a ∈ G.P.ats) (hl : fs.length < 100) (hv : notG x = true) => put_set (σ := σ) (k := k) (fs := fs) (a := a) (v := x) g ha lt hl hv
  have q := fun (fs : Fields) (a : Nat) (ha : a ∈ G.P.ats) => attr_set (σ := σ) (k := k) (fs := fs) (a := a) g ha lt
  have l1 := setF_length fs 0 (.str v)
  have l2 := setF_length (setF fs 0 (.str v)) 1 (.int 0)
  have l3 := setF_length (setF (setF fs 0 (.str v)) 1 (.int 0)) 2 (.int v.length)
  have l4 := setF_length (setF (setF (setF fs 0 (.str v)) 1 (.int 0)) 2 (.int v.length)) 3 (.int 0)
  have l5 := setF_length (setF (setF (setF (setF fs 0 (.str v)) 1 (.int 0)) 2 (.int v.length)) 3 (.int 0)) 4 (.int 0)
  have : runB G m 2 0 b_set_current [.obj k, .str v] (σ.set k (.inst C fs)) = some (.none, σ.set k (.inst C (stF v 0 v.length 0 0 v.length))) := by
    unfold runB b_set_current
    simp only [List.length_cons, List.length_nil, if_true, List.map_cons, List.map_nil, List.replicate_zero, List.append_nil, exB_nil, exB_cons, exS_expr, exS_set, exS_setT, exS_setA, exS_augA, exS_ite, exS_whl, exS_for1, exS_forT, exS_ret, ev_non, ev_bool, ev_int, ev_str, ev_loc, ev_glob, ev_bin, ev_cmp, ev_conj, ev_disj, ev_not, ev_neg, ev_ife, ev_idx, ev_slc, ev_lst, ev_tup, ev_attr, ev_cat, ev_bi, ev_rng, ev_mkset, ev_sm, ev_call, ev_scall, ev_meth, ev_new, ev_comp, ev_enum, evs_nil, evs_cons, List.getElem?_cons_zero, List.getElem?_cons_succ, Option.bind_some, Option.map_some]
    rw [p _ 0 _ g.a0 (by omega) rfl]
    simp only [Option.map_some, Option.bind_some, List.getElem?_cons_zero]
    rw [p _ 1 _ g.a1 (by omega) rfl]
    simp only [Option.map_some, Option.bind_some, List.getElem?_cons_zero]
    rw [q _ 0 g.a0, getF_other _ _ (by decide), getF_self]
    simp only [Option.map_some, Option.bind_some, List.getElem?_cons_zero, biV, arg1, arg2, lenV, isbV, int2, int1]
    rw [p _ 2 _ g.a2 (by omega) rfl]
    simp only [Option.map_some, Option.bind_some, List.getElem?_cons_zero]
    rw [p _ 3 _ g.a3 (by omega) rfl]
    simp only [Option.map_some, Option.bind_some, List.getElem?_cons_zero]
    rw [q _ 1 g.a1, getF_other _ _ (by decide), getF_other _ _ (by decide), getF_self]
    simp only [Option.map_some, Option.bind_some, List.getElem?_cons_zero]
    rw [p _ 4 _ g.a4 (by omega) rfl]
    simp only [Option.map_some, Option.bind_some, List.getElem?_cons_zero]
    rw [q _ 2 g.a2, getF_other _ _ (by decide), getF_other _ _ (by decide), getF_self]
    simp only [Option.map_some, Option.bind_some, List.getElem?_cons_zero]
    rw [p _ 5 _ g.a5 (by omega) rfl]
    simp only [Option.map_some, Option.bind_some, fin]
  rw [e] at this
  exact this
end
end Mine
end

section
open PySem PySem.W PyProof.Rows
set_option Elab.async false
set_option maxRecDepth 100000
namespace Mine
section
variable {G : Sg} {C : Addr} {k j : Nat} {w w' : List Nat} {c l lb b kk c' l' lb' b' kk' : Int} {σ : St} {m : Nat}

theorem attr_other {a : Nat} {fs fs' : Fields} (g : GOk G C) (ha : a ∈ G.P.ats) (ne : k ≠ j) (h : σ[j]? = some (.inst C fs')) : attrV G.P (σ.set k (.inst C fs)) (.obj j) a = getF fs' a := by
  simp [attrV, List.getElem?_set_ne ne, h, g.cs, ha]

theorem run_copy_from (g : GOk G C) (ne : k ≠ j) (h : σ[k]? = some (.inst C (stF w c l lb b kk))) (h' : σ[j]? = some (.inst C (stF w' c' l' lb' b' kk'))) :
    runB G m 2 0 b_copy_from [.obj k, .obj j] σ = some (.none, σ.set k (.inst C (stF w' c' l' lb' b' kk'))) := by
  have lt := lt_of h
  have e := set_same h
  have p := fun (fs : Fields) (a : Nat) (x : V) (ha : a ∈ G.P.ats) (hl : fs.length < 100) (hv : notG x = true) => put_set (σ := σ) (k := k) (fs := fs) (a := a) (v := x) g ha lt hl hv
  have q := fun (fs : Fields) (a : Nat) (ha : a ∈ G.P.ats) => attr_other (σ := σ) (k := k) (j := j) (fs := fs) (a := a) g ha ne h'
  have fin : setF (setF (setF (setF (setF (setF (stF w c l lb b kk) 0 (.str w')) 1 (.int c')) 2 (.int l')) 3 (.int lb')) 4 (.int b')) 5 (.int kk') = stF w' c' l' lb' b' kk' := rfl
  have l0 : (stF w c l lb b kk).length ≤ 6 := by simp [stF]
  have l1 := setF_length (stF w c l lb b kk) 0 (.str w')
  have l2 := setF_length (setF (stF w c l lb b kk) 0 (.str w')) 1 (.int c')
  have l3 := setF_length (setF (setF (stF w c l lb b kk) 0 (.str w')) 1 (.int c')) 2 (.int l')
  have l4 := setF_length (setF (setF (setF (stF w c l lb b kk) 0 (.str w')) 1 (.int c')) 2 (.int l')) 3 (.int lb')
  have l5 := setF_length (setF (setF (setF (setF (stF w c l lb b kk) 0 (.str w')) 1 (.int c')) 2 (.int l')) 3 (.int lb')) 4 (.int b')
  have g0 : getF (stF w' c' l' lb' b' kk') 0 = some (.str w') := rfl
  have g1 : getF (stF w' c' l' lb' b' kk') 1 = some (.int c') := rfl
  have g2 : getF (stF w' c' l' lb' b' kk') 2 = some (.int l') := rfl
  have g3 : getF (stF w' c' l' lb' b' kk') 3 = some (.int lb') := rfl
  have g4 : getF (stF w' c' l' lb' b' kk') 4 = some (.int b') := rfl
  have g5 : getF (stF w' c' l' lb' b' kk') 5 = some (.int kk') := rfl
  have : runB G m 2 0 b_copy_from [.obj k, .obj j] (σ.set k (.inst C (stF w c l lb b kk))) = some (.none, σ.set k (.inst C (stF w' c' l' lb' b' kk'))) := by
    unfold runB b_copy_from
    simp only [List.length_cons, List.length_nil, if_true, List.map_cons, List.map_nil, List.replicate_zero, List.append_nil, exB_nil, exB_cons, exS_expr, exS_set, exS_setT, exS_setA, exS_augA, exS_ite, exS_whl, exS_for1, exS_forT, exS_ret, ev_non, ev_bool, ev_int, ev_str, ev_loc, ev_glob, ev_bin, ev_cmp, ev_conj, ev_disj, ev_not, ev_neg, ev_ife, ev_idx, ev_slc, ev_lst, ev_tup, ev_attr, ev_cat, ev_bi, ev_rng, ev_mkset, ev_sm, ev_call, ev_scall, ev_meth, ev_new, ev_comp, ev_enum, evs_nil, evs_cons, List.getElem?_cons_zero, List.getElem?_cons_succ, Option.bind_some, Option.map_some]
    rw [q _ 0 g.a0, g0]
    simp only [Option.map_some, Option.bind_some, List.getElem?_cons_zero, List.getElem?_cons_succ]
    rw [p _ 0 _ g.a0 (by omega) rfl]
    simp only [Option.map_some, Option.bind_some, List.getElem?_cons_zero, List.getElem?_cons_succ]
    rw [q _ 1 g.a1, g1]
    simp only [Option.map_some, Option.bind_some, List.getElem?_cons_zero, List.getElem?_cons_succ]
    rw [p _ 1 _ g.a1 (by omega) rfl]
    simp only [Option.map_some, Option.bind_some, List.getElem?_cons_zero, List.getElem?_cons_succ]
    rw [q _ 2 g.a2, g2]
    simp only [Option.map_some, Option.bind_some, List.getElem?_cons_zero, List.getElem?_cons_succ]
    rw [p _ 2 _ g.a2 (by omega) rfl]
    simp only [Option.map_some, Option.bind_some, List.getElem?_cons_zero, List.getElem?_cons_succ]
    rw [q _ 3 g.a3, g3]
    simp only [Option.map_some, Option.bind_some, List.getElem?_cons_zero, List.getElem?_cons_succ]
    rw [p _ 3 _ g.a3 (by omega) rfl]
    simp only [Option.map_some, Option.bind_some, List.getElem?_cons_zero, List.getElem?_cons_succ]
    rw [q _ 4 g.a4, g4]
    simp only [Option.map_some, Option.bind_some, List.getElem?_cons_zero, List.getElem?_cons_succ]
    rw [p _ 4 _ g.a4 (by omega) rfl]
    simp only [Option.map_some, Option.bind_some, List.getElem?_cons_zero, List.getElem?_cons_succ]
    rw [q _ 5 g.a5, g5]
    simp only [Option.map_some, Option.bind_some, List.getElem?_cons_zero, List.getElem?_cons_succ]
    rw [p _ 5 _ g.a5 (by omega) rfl]
    simp only [Option.map_some, Option.bind_some, fin]
  rw [e] at this
  exact this

theorem run_init (hm : G.P.meth C 6 = some f6) (h : σ[k]? = some (.inst C [])) (hp : G.Φ f6 [.obj k, .str []] σ = some (.none, σ')) :
    runB G m 1 0 b_init [.obj k] σ = some (.none, σ') := by
  unfold runB b_init
  simp [exB_nil, exB_cons, exS_expr, exS_set, exS_setT, exS_setA, exS_augA, exS_ite, exS_whl, exS_for1, exS_forT, exS_ret, ev_non, ev_bool, ev_int, ev_str, ev_loc, ev_glob, ev_bin, ev_cmp, ev_conj, ev_disj, ev_not, ev_neg, ev_ife, ev_idx, ev_slc, ev_lst, ev_tup, ev_attr, ev_cat, ev_bi, ev_rng, ev_mkset, ev_sm, ev_call, ev_scall, ev_meth, ev_new, ev_comp, ev_enum, evs_nil, evs_cons, methV, h, getF, hm, hp]
end
end Mine
end

section
open PySem PySem.W PyProof.Rows
set_option Elab.async false
set_option maxRecDepth 100000
namespace Mine
section
variable {G : Sg} {C : Addr} {k j : Nat} {w : List Nat} {c l lb b kk : Int} {σ σ' : St} {m : Nat}

theorem run_asked_0 (gv r : V) (h : methV G σ (.obj k) 9 [gv] = some (r, σ')) : runB G m 3 0 b_law_asked [.obj k, .int 0, gv] σ = some (r, σ') := by
  unfold runB b_law_asked
  simp [exB_nil, exB_cons, exS_expr, exS_set, exS_setT, exS_setA, exS_augA, exS_ite, exS_whl, exS_for1, exS_forT, exS_ret, ev_non, ev_bool, ev_int, ev_str, ev_loc, ev_glob, ev_bin, ev_cmp, ev_conj, ev_disj, ev_not, ev_neg, ev_ife, ev_idx, ev_slc, ev_lst, ev_tup, ev_attr, ev_cat, ev_bi, ev_rng, ev_mkset, ev_sm, ev_call, ev_scall, ev_meth, ev_new, ev_comp, ev_enum, evs_nil, evs_cons, cmpV, int2, eqL, eqV, boolOf, h, int1]
theorem run_asked_1 (gv r : V) (h : methV G σ (.obj k) 13 [gv] = some (r, σ')) : runB G m 3 0 b_law_asked [.obj k, .int 1, gv] σ = some (r, σ') := by
  unfold runB b_law_asked
  simp [exB_nil, exB_cons, exS_expr, exS_set, exS_setT, exS_setA, exS_augA, exS_ite, exS_whl, exS_for1, exS_forT, exS_ret, ev_non, ev_bool, ev_int, ev_str, ev_loc, ev_glob, ev_bin, ev_cmp, ev_conj, ev_disj, ev_not, ev_neg, ev_ife, ev_idx, ev_slc, ev_lst, ev_tup, ev_attr, ev_cat, ev_bi, ev_rng, ev_mkset, ev_sm, ev_call, ev_scall, ev_meth, ev_new, ev_comp, ev_enum, evs_nil, evs_cons, cmpV, int2, eqL, eqV, boolOf, h, int1]
theorem run_asked_2 (gv r : V) (h : methV G σ (.obj k) 10 [gv] = some (r, σ')) : runB G m 3 0 b_law_asked [.obj k, .int 2, gv] σ = some (r, σ') := by
  unfold runB b_law_asked
  simp [exB_nil, exB_cons, exS_expr, exS_set, exS_setT, exS_setA, exS_augA, exS_ite, exS_whl, exS_for1, exS_forT, exS_ret, ev_non, ev_bool, ev_int, ev_str, ev_loc, ev_glob, ev_bin, ev_cmp, ev_conj, ev_disj, ev_not, ev_neg, ev_ife, ev_idx, ev_slc, ev_lst, ev_tup, ev_attr, ev_cat, ev_bi, ev_rng, ev_mkset, ev_sm, ev_call, ev_scall, ev_meth, ev_new, ev_comp, ev_enum, evs_nil, evs_cons, cmpV, int2, eqL, eqV, boolOf, h, int1]
theorem run_asked_3 (gv r : V) (h : methV G σ (.obj k) 14 [gv] = some (r, σ')) : runB G m 3 0 b_law_asked [.obj k, .int 3, gv] σ = some (r, σ') := by
  unfold runB b_law_asked
  simp [exB_nil, exB_cons, exS_expr, exS_set, exS_setT, exS_setA, exS_augA, exS_ite, exS_whl, exS_for1, exS_forT, exS_ret, ev_non, ev_bool, ev_int, ev_str, ev_loc, ev_glob, ev_bin, ev_cmp, ev_conj, ev_disj, ev_not, ev_neg, ev_ife, ev_idx, ev_slc, ev_lst, ev_tup, ev_attr, ev_cat, ev_bi, ev_rng, ev_mkset, ev_sm, ev_call, ev_scall, ev_meth, ev_new, ev_comp, ev_enum, evs_nil, evs_cons, cmpV, int2, eqL, eqV, boolOf, h, int1]
theorem run_asked_4 (gv r : V) (h : methV G σ (.obj k) 11 [gv] = some (r, σ')) : runB G m 3 0 b_law_asked [.obj k, .int 4, gv] σ = some (r, σ') := by
  unfold runB b_law_asked
  simp [exB_nil, exB_cons, exS_expr, exS_set, exS_setT, exS_setA, exS_augA, exS_ite, exS_whl, exS_for1, exS_forT, exS_ret, ev_non, ev_bool, ev_int, ev_str, ev_loc, ev_glob, ev_bin, ev_cmp, ev_conj, ev_disj, ev_not, ev_neg, ev_ife, ev_idx, ev_slc, ev_lst, ev_tup, ev_attr, ev_cat, ev_bi, ev_rng, ev_mkset, ev_sm, ev_call, ev_scall, ev_meth, ev_new, ev_comp, ev_enum, evs_nil, evs_cons, cmpV, int2, eqL, eqV, boolOf, h, int1]
theorem run_asked_5 (gv r : V) (h : methV G σ (.obj k) 15 [gv] = some (r, σ')) : runB G m 3 0 b_law_asked [.obj k, .int 5, gv] σ = some (r, σ') := by
  unfold runB b_law_asked
  simp [exB_nil, exB_cons, exS_expr, exS_set, exS_setT, exS_setA, exS_augA, exS_ite, exS_whl, exS_for1, exS_forT, exS_ret, ev_non, ev_bool, ev_int, ev_str, ev_loc, ev_glob, ev_bin, ev_cmp, ev_conj, ev_disj, ev_not, ev_neg, ev_ife, ev_idx, ev_slc, ev_lst, ev_tup, ev_attr, ev_cat, ev_bi, ev_rng, ev_mkset, ev_sm, ev_call, ev_scall, ev_meth, ev_new, ev_comp, ev_enum, evs_nil, evs_cons, cmpV, int2, eqL, eqV, boolOf, h, int1]
theorem run_asked_6 (gv r : V) (h : methV G σ (.obj k) 12 [gv] = some (r, σ')) : runB G m 3 0 b_law_asked [.obj k, .int 6, gv] σ = some (r, σ') := by
  unfold runB b_law_asked
  simp [exB_nil, exB_cons, exS_expr, exS_set, exS_setT, exS_setA, exS_augA, exS_ite, exS_whl, exS_for1, exS_forT, exS_ret, ev_non, ev_bool, ev_int, ev_str, ev_loc, ev_glob, ev_bin, ev_cmp, ev_conj, ev_disj, ev_not, ev_neg, ev_ife, ev_idx, ev_slc, ev_lst, ev_tup, ev_attr, ev_cat, ev_bi, ev_rng, ev_mkset, ev_sm, ev_call, ev_scall, ev_meth, ev_new, ev_comp, ev_enum, evs_nil, evs_cons, cmpV, int2, eqL, eqV, boolOf, h, int1]
theorem run_asked_7 (gv r : V) (h : methV G σ (.obj k) 16 [gv] = some (r, σ')) : runB G m 3 0 b_law_asked [.obj k, .int 7, gv] σ = some (r, σ') := by
  unfold runB b_law_asked
  simp [exB_nil, exB_cons, exS_expr, exS_set, exS_setT, exS_setA, exS_augA, exS_ite, exS_whl, exS_for1, exS_forT, exS_ret, ev_non, ev_bool, ev_int, ev_str, ev_loc, ev_glob, ev_bin, ev_cmp, ev_conj, ev_disj, ev_not, ev_neg, ev_ife, ev_idx, ev_slc, ev_lst, ev_tup, ev_attr, ev_cat, ev_bi, ev_rng, ev_mkset, ev_sm, ev_call, ev_scall, ev_meth, ev_new, ev_comp, ev_enum, evs_nil, evs_cons, cmpV, int2, eqL, eqV, boolOf, h, int1]
theorem run_asked_8 (gv r : V) (h : methV G σ (.obj k) 17 [gv] = some (r, σ')) : runB G m 3 0 b_law_asked [.obj k, .int 8, gv] σ = some (r, σ') := by
  unfold runB b_law_asked
  simp [exB_nil, exB_cons, exS_expr, exS_set, exS_setT, exS_setA, exS_augA, exS_ite, exS_whl, exS_for1, exS_forT, exS_ret, ev_non, ev_bool, ev_int, ev_str, ev_loc, ev_glob, ev_bin, ev_cmp, ev_conj, ev_disj, ev_not, ev_neg, ev_ife, ev_idx, ev_slc, ev_lst, ev_tup, ev_attr, ev_cat, ev_bi, ev_rng, ev_mkset, ev_sm, ev_call, ev_scall, ev_meth, ev_new, ev_comp, ev_enum, evs_nil, evs_cons, cmpV, int2, eqL, eqV, boolOf, h, int1]
theorem run_asked_9 (gv r : V) (h : methV G σ (.obj k) 18 [gv] = some (r, σ')) : runB G m 3 0 b_law_asked [.obj k, .int 9, gv] σ = some (r, σ') := by
  unfold runB b_law_asked
  simp [exB_nil, exB_cons, exS_expr, exS_set, exS_setT, exS_setA, exS_augA, exS_ite, exS_whl, exS_for1, exS_forT, exS_ret, ev_non, ev_bool, ev_int, ev_str, ev_loc, ev_glob, ev_bin, ev_cmp, ev_conj, ev_disj, ev_not, ev_neg, ev_ife, ev_idx, ev_slc, ev_lst, ev_tup, ev_attr, ev_cat, ev_bi, ev_rng, ev_mkset, ev_sm, ev_call, ev_scall, ev_meth, ev_new, ev_comp, ev_enum, evs_nil, evs_cons, cmpV, int2, eqL, eqV, boolOf, h, int1]

theorem run_shown (g : GOk G C) (h : σ[k]? = some (.inst C (stF w c l lb b kk))) (hm : methV G σ (.obj k) 7 [] = some (.str w, σ)) :
    runB G m 1 0 b_law_shown [.obj k] σ = some (.list [.str w, .int c, .int l, .int lb, .int b, .int kk], σ) := by
  unfold runB b_law_shown
  simp [exB_nil, exB_cons, exS_expr, exS_set, exS_setT, exS_setA, exS_augA, exS_ite, exS_whl, exS_for1, exS_forT, exS_ret, ev_non, ev_bool, ev_int, ev_str, ev_loc, ev_glob, ev_bin, ev_cmp, ev_conj, ev_disj, ev_not, ev_neg, ev_ife, ev_idx, ev_slc, ev_lst, ev_tup, ev_attr, ev_cat, ev_bi, ev_rng, ev_mkset, ev_sm, ev_call, ev_scall, ev_meth, ev_new, ev_comp, ev_enum, evs_nil, evs_cons, hm, at1 g h, at2 g h, at3 g h, at4 g h, at5 g h]

end
end Mine
end

section
open PySem PySem.W PyProof.Rows
set_option Elab.async false
set_option maxRecDepth 100000
namespace Mine
section
variable {G : Sg} {C : Addr} {k j : Nat} {w : List Nat} {c l lb b kk : Int} {σ σ' : St} {m : Nat}

theorem idx_last (near : List V) (x : V) : idxV (.list (near ++ [x])) (.int (-1)) = some x := by
  have : seqIndex? (-1) (near.length + 1) = some near.length := by
    simp [seqIndex?]
    omega
  simp [idxV, this]
theorem cut_init (near : List V) (x : V) : cut (near ++ [x]) none (some (near.length : Int)) = near := by
  have : clipAt (near.length + 1) (near.length : Int) = near.length := by
    unfold clipAt; rw [if_neg (by omega)]; omega
  simp [cut, this]
theorem run_one_low (near far : List V) (bar : Int) (ch : V) (ins : Bool) (h : (near.length : Int) ≤ bar) :
    runB G m 5 0 b_law_one [.list near, .list far, .int bar, ch, .bool ins] σ = some (.tup [.bool false, .list near, .list far], σ) := by
  unfold runB b_law_one
  simp [exB_nil, exB_cons, exS_expr, exS_set, exS_setT, exS_setA, exS_augA, exS_ite, exS_whl, exS_for1, exS_forT, exS_ret, ev_non, ev_bool, ev_int, ev_str, ev_loc, ev_glob, ev_bin, ev_cmp, ev_conj, ev_disj, ev_not, ev_neg, ev_ife, ev_idx, ev_slc, ev_lst, ev_tup, ev_attr, ev_cat, ev_bi, ev_rng, ev_mkset, ev_sm, ev_call, ev_scall, ev_meth, ev_new, ev_comp, ev_enum, evs_nil, evs_cons, evC_nil, evC_cons, cmpV, int2, eqL, eqV, boolOf, biV, arg1, arg2, lenV, isbV, int2, h, int1]
theorem run_one_not (near far : List V) (bar : Int) (ch x : V) (ins mem : Bool) (h : bar ≤ (near.length : Int)) (hm : inV x ch = some mem) (ne : mem ≠ ins) :
    runB G m 5 0 b_law_one [.list (near ++ [x]), .list far, .int bar, ch, .bool ins] σ = some (.tup [.bool false, .list (near ++ [x]), .list far], σ) := by
  unfold runB b_law_one
  have h' : ¬ (near.length : Int) + 1 ≤ bar := by omega
  simp [exB_nil, exB_cons, exS_expr, exS_set, exS_setT, exS_setA, exS_augA, exS_ite, exS_whl, exS_for1, exS_forT, exS_ret, ev_non, ev_bool, ev_int, ev_str, ev_loc, ev_glob, ev_bin, ev_cmp, ev_conj, ev_disj, ev_not, ev_neg, ev_ife, ev_idx, ev_slc, ev_lst, ev_tup, ev_attr, ev_cat, ev_bi, ev_rng, ev_mkset, ev_sm, ev_call, ev_scall, ev_meth, ev_new, ev_comp, ev_enum, evs_nil, evs_cons, evC_nil, evC_cons, cmpV, int2, eqL, eqV, boolOf, biV, arg1, arg2, lenV, isbV, int2, h', idx_last, hm, ne, int1]
theorem run_one_yes (near far : List V) (bar : Int) (ch x : V) (ins : Bool) (h : bar ≤ (near.length : Int)) (hm : inV x ch = some ins) (hf : far.length + 1 ≤ big) :
    runB G m 5 0 b_law_one [.list (near ++ [x]), .list far, .int bar, ch, .bool ins] σ = some (.tup [.bool true, .list near, .list (far ++ [x])], σ) := by
  unfold runB b_law_one
  have h' : ¬ (near.length : Int) + 1 ≤ bar := by omega
  simp [exB_nil, exB_cons, exS_expr, exS_set, exS_setT, exS_setA, exS_augA, exS_ite, exS_whl, exS_for1, exS_forT, exS_ret, ev_non, ev_bool, ev_int, ev_str, ev_loc, ev_glob, ev_bin, ev_cmp, ev_conj, ev_disj, ev_not, ev_neg, ev_ife, ev_idx, ev_slc, ev_lst, ev_tup, ev_attr, ev_cat, ev_bi, ev_rng, ev_mkset, ev_sm, ev_call, ev_scall, ev_meth, ev_new, ev_comp, ev_enum, evs_nil, evs_cons, evC_nil, evC_cons, cmpV, int2, eqL, eqV, boolOf, biV, arg1, arg2, lenV, isbV, int2, h', idx_last, hm, partV, sliceV, binV, addV, mulV, int2, cut_init, hf, int1, asS, asL]
end
end Mine
end

section
open PySem PySem.W PyProof.Rows
set_option Elab.async false
set_option maxRecDepth 100000
namespace Mine
section
variable {G : Sg} {σ : St} {m : Nat}

theorem compL_all {test : V → Option Bool} {elt : V → Option V} {f : V → V} : ∀ l : List V, (∀ x ∈ l, test x = some true) → (∀ x ∈ l, elt x = some (f x)) → compL test elt l = some (l.map f)
  | [], _, _ => rfl
  | x :: r, ht, he => by
    rw [compL, ht x (by simp), Option.bind_some, if_pos rfl, he x (by simp), Option.bind_some, compL_all r (fun y q => ht y (by simp [q])) (fun y q => he y (by simp [q]))]
    rfl
theorem idx_in (xs : List V) {i : Nat} (h : i < xs.length) : idxV (.list xs) (.int (i : Int)) = some xs[i] := by
  have : seqIndex? (i : Int) xs.length = some i := by
    simp [seqIndex?]
    omega
  simp [idxV, this, h]
/-- one-sign texts -/
noncomputable def signsV (l : List Nat) : List V := l.map fun c => .str [c]
theorem idx_sgn (l : List Nat) {i : Nat} (h : i < l.length) : idxV (.str l) (.int (i : Int)) = some (.str [l[i]]) := by
  have : seqIndex? (i : Int) l.length = some i := by
    simp [seqIndex?]
    omega
  simp [idxV, this, h]
noncomputable def unI : V → Nat | .int i => i.toNat | _ => 0

theorem back (xs : List V) : (((List.range xs.length).map fun (i : Nat) => V.int ((xs.length : Int) - 1 + (i : Int) * (-1))).map fun v => (xs[unI v]?).getD .none) = xs.reverse := by
  apply List.ext_getElem
  · simp
  · intro i h1 h2
    have lt : i < xs.length := by simpa using h2
    simp only [List.getElem_map, List.getElem_range, unI, List.getElem_reverse]
    have : ((xs.length : Int) - 1 + (i : Int) * (-1)).toNat = xs.length - 1 - i := by omega
    rw [this, List.getElem?_eq_getElem (by omega)]; rfl
theorem run_mirrored_list (xs : List V) (h : xs.length ≤ 1000000) :
    runB G m 1 1 b_law_mirrored [.list xs] σ = some (.list xs.reverse, σ) := by
  unfold runB b_law_mirrored
  have e := compL_all (test := fun i => (evC G true ([some (V.list xs), none].set 1 (some i)) σ []).map (·.1)) (elt := fun i => (ev G ([some (V.list xs), none].set 1 (some i)) σ (.idx (.loc 0) (.loc 1))).map (·.1)) (f := fun v => (xs[unI v]?).getD .none)
    ((List.range xs.length).map fun (i : Nat) => V.int ((xs.length : Int) - 1 + (i : Int) * (-1))) (by intro x _; rfl) (by
      intro x q
      obtain ⟨i, qi, rfl⟩ := List.mem_map.mp q
      have lt := List.mem_range.mp qi
      have : (xs.length : Int) - 1 + (i : Int) * (-1) = ((xs.length - 1 - i : Nat) : Int) := by omega
      rw [this]
      simp [ev_non, ev_bool, ev_int, ev_str, ev_loc, ev_glob, ev_bin, ev_cmp, ev_conj, ev_disj, ev_not, ev_neg, ev_ife, ev_idx, ev_slc, ev_lst, ev_tup, ev_attr, ev_cat, ev_bi, ev_rng, ev_mkset, ev_sm, ev_call, ev_scall, ev_meth, ev_new, ev_comp, ev_enum, idx_in xs (show xs.length - 1 - i < xs.length by omega), unI]
      rw [List.getElem?_eq_getElem (by omega)]; rfl)
  rw [back] at e
  have r : iterV (.rng ((xs.length : Int) - 1) (-1) (-1)) = some ((List.range xs.length).map fun (i : Nat) => V.int ((xs.length : Int) - 1 + (i : Int) * (-1))) := by
    simp only [iterV]
    rw [if_pos (by omega), if_neg (by omega), if_pos trivial]
    congr 3
    omega
  have t : ev G [some (V.list xs), none] σ (.comp (.idx (.loc 0) (.loc 1)) 1 (.rng [.bin .sub (.bi .len [.loc 0]) (.int 1), .neg (.int 1), .neg (.int 1)]) []) = some (.list xs.reverse, σ) := by
    have u : ev G [some (V.list xs), none] σ (.rng [.bin .sub (.bi .len [.loc 0]) (.int 1), .neg (.int 1), .neg (.int 1)]) = some (.rng ((xs.length : Int) - 1) (-1) (-1), σ) := by
      simp [ev_non, ev_bool, ev_int, ev_str, ev_loc, ev_glob, ev_bin, ev_cmp, ev_conj, ev_disj, ev_not, ev_neg, ev_ife, ev_idx, ev_slc, ev_lst, ev_tup, ev_attr, ev_cat, ev_bi, ev_rng, ev_mkset, ev_sm, ev_call, ev_scall, ev_meth, ev_new, ev_comp, ev_enum, evs_nil, evs_cons, biV, arg1, arg2, lenV, isbV, int2, binV, addV, mulV, int2, rngV, int1, asS, asL]
    rw [ev_comp, u, Option.bind_some, r, Option.bind_some, e]; rfl
  simp [exB_nil, exB_cons, exS_expr, exS_set, exS_setT, exS_setA, exS_augA, exS_ite, exS_whl, exS_for1, exS_forT, exS_ret, t]
theorem run_mirrored_str (l : List Nat) (h : l.length ≤ 1000000) :
    runB G m 1 1 b_law_mirrored [.str l] σ = some (.list (signsV l).reverse, σ) := by
  unfold runB b_law_mirrored
  have e := compL_all (test := fun i => (evC G true ([some (V.str l), none].set 1 (some i)) σ []).map (·.1)) (elt := fun i => (ev G ([some (V.str l), none].set 1 (some i)) σ (.idx (.loc 0) (.loc 1))).map (·.1)) (f := fun v => ((signsV l)[unI v]?).getD .none)
    ((List.range l.length).map fun (i : Nat) => V.int ((l.length : Int) - 1 + (i : Int) * (-1))) (by intro x _; rfl) (by
      intro x q
      obtain ⟨i, qi, rfl⟩ := List.mem_map.mp q
      have lt := List.mem_range.mp qi
      have : (l.length : Int) - 1 + (i : Int) * (-1) = ((l.length - 1 - i : Nat) : Int) := by omega
      rw [this]
      simp [ev_non, ev_bool, ev_int, ev_str, ev_loc, ev_glob, ev_bin, ev_cmp, ev_conj, ev_disj, ev_not, ev_neg, ev_ife, ev_idx, ev_slc, ev_lst, ev_tup, ev_attr, ev_cat, ev_bi, ev_rng, ev_mkset, ev_sm, ev_call, ev_scall, ev_meth, ev_new, ev_comp, ev_enum, idx_sgn l (show l.length - 1 - i < l.length by omega), unI]
      rw [List.getElem?_eq_getElem (by simp [signsV]; omega)]; simp [signsV])
  have bk := back (signsV l)
  rw [show (signsV l).length = l.length by simp [signsV]] at bk
  rw [bk] at e
  have r : iterV (.rng ((l.length : Int) - 1) (-1) (-1)) = some ((List.range l.length).map fun (i : Nat) => V.int ((l.length : Int) - 1 + (i : Int) * (-1))) := by
    simp only [iterV]
    rw [if_pos (by omega), if_neg (by omega), if_pos trivial]
    congr 3
    omega
  have t : ev G [some (V.str l), none] σ (.comp (.idx (.loc 0) (.loc 1)) 1 (.rng [.bin .sub (.bi .len [.loc 0]) (.int 1), .neg (.int 1), .neg (.int 1)]) []) = some (.list (signsV l).reverse, σ) := by
    have u : ev G [some (V.str l), none] σ (.rng [.bin .sub (.bi .len [.loc 0]) (.int 1), .neg (.int 1), .neg (.int 1)]) = some (.rng ((l.length : Int) - 1) (-1) (-1), σ) := by
      simp [ev_non, ev_bool, ev_int, ev_str, ev_loc, ev_glob, ev_bin, ev_cmp, ev_conj, ev_disj, ev_not, ev_neg, ev_ife, ev_idx, ev_slc, ev_lst, ev_tup, ev_attr, ev_cat, ev_bi, ev_rng, ev_mkset, ev_sm, ev_call, ev_scall, ev_meth, ev_new, ev_comp, ev_enum, evs_nil, evs_cons, biV, arg1, arg2, lenV, isbV, int2, binV, addV, mulV, int2, rngV, int1, asS, asL]
    rw [ev_comp, u, Option.bind_some, r, Option.bind_some, e]; rfl
  simp [exB_nil, exB_cons, exS_expr, exS_set, exS_setT, exS_setA, exS_augA, exS_ite, exS_whl, exS_for1, exS_forT, exS_ret, t]
end
end Mine
end

section
open PySem PySem.W PyProof.Rows
set_option Elab.async false
set_option maxRecDepth 100000
namespace Mine
section
variable {G : Sg} {σ : St} {m : Nat}

theorem eqVs_signs : ∀ (a b : List Nat), eqVs (signsV a) (signsV b) = some (decide (a = b))
  | [], [] => by simp [signsV, eqVs]
  | [], _ :: _ => by simp [signsV, eqVs]
  | _ :: _, [] => by simp [signsV, eqVs]
  | x :: a, y :: b => by
    have i := eqVs_signs a b
    simp only [signsV, List.map_cons, eqVs] at i ⊢
    simp [eqV, i]
    by_cases q : x = y <;> simp [q]
theorem plain_signs (a : List Nat) : (signsV a).all plainV = true := by
  simp [signsV, plainV]
theorem eqL_signs (a b : List Nat) : eqL (.list (signsV a)) (.list (signsV b)) = some (decide (a = b)) := by
  simp only [eqL, plain_signs, Bool.and_self, if_true, eqVs_signs]
theorem cut_off (near : List Nat) (n : Nat) (h : n ≤ near.length) : cut (signsV near) (some ((near.length : Int) - (n : Int))) none = signsV (near.drop (near.length - n)) := by
  have : clipAt near.length ((near.length : Int) - (n : Int)) = near.length - n := by
    unfold clipAt; rw [if_neg (by omega)]; omega
  simp [cut, signsV, this]
  rw [List.take_of_length_le (by simp)]
theorem cut_on (near : List Nat) (n : Nat) (h : n ≤ near.length) : cut (signsV near) none (some ((near.length : Int) - (n : Int))) = signsV (near.take (near.length - n)) := by
  have : clipAt near.length ((near.length : Int) - (n : Int)) = near.length - n := by
    unfold clipAt; rw [if_neg (by omega)]; omega
  simp [cut, signsV, this]
theorem signs_rev (a : List Nat) : (signsV a).reverse = signsV a.reverse := by simp [signsV]
theorem signs_app (a b : List Nat) : signsV a ++ signsV b = signsV (a ++ b) := by simp [signsV]
theorem run_equal_far (near far sg : List Nat) (bar : Int) (hb : 0 ≤ bar) (h : max 0 ((near.length : Int) - bar) < (sg.length : Int)) :
    runB G m 4 1 b_law_equal [.list (signsV near), .list (signsV far), .int bar, .list (signsV sg)] σ = some (.tup [.bool false, .list (signsV near), .list (signsV far)], σ) := by
  unfold runB b_law_equal
  have h1 : (signsV near).length = near.length := by simp [signsV]
  have h2 : (signsV sg).length = sg.length := by simp [signsV]
  simp [exB_nil, exB_cons, exS_expr, exS_set, exS_setT, exS_setA, exS_augA, exS_ite, exS_whl, exS_for1, exS_forT, exS_ret, ev_non, ev_bool, ev_int, ev_str, ev_loc, ev_glob, ev_bin, ev_cmp, ev_conj, ev_disj, ev_not, ev_neg, ev_ife, ev_idx, ev_slc, ev_lst, ev_tup, ev_attr, ev_cat, ev_bi, ev_rng, ev_mkset, ev_sm, ev_call, ev_scall, ev_meth, ev_new, ev_comp, ev_enum, evs_nil, evs_cons, evC_nil, evC_cons, cmpV, int2, boolOf, biV, arg1, arg2, lenV, isbV, int2, binV, addV, mulV, int2, h1, h2, h, int1, asS, asL]
theorem run_equal_not (near far sg : List Nat) (bar : Int) (h : (sg.length : Int) ≤ max 0 ((near.length : Int) - bar)) (hb : 0 ≤ bar) (hp : G.Ψ 2 [.list (signsV sg)] = some (.list (signsV sg.reverse))) (ne : near.drop (near.length - sg.length) ≠ sg.reverse) :
    runB G m 4 1 b_law_equal [.list (signsV near), .list (signsV far), .int bar, .list (signsV sg)] σ = some (.tup [.bool false, .list (signsV near), .list (signsV far)], σ) := by
  unfold runB b_law_equal
  have h1 : (signsV near).length = near.length := by simp [signsV]
  have h2 : (signsV sg).length = sg.length := by simp [signsV]
  have h3 : ¬ max 0 ((near.length : Int) - bar) < (sg.length : Int) := by omega
  have h4 := cut_off near sg.length (by omega)
  simp only [exB_nil, exB_cons, exS_expr, exS_set, exS_setT, exS_setA, exS_augA, exS_ite, exS_whl, exS_for1, exS_forT, exS_ret, ev_non, ev_bool, ev_int, ev_str, ev_loc, ev_glob, ev_bin, ev_cmp, ev_conj, ev_disj, ev_not, ev_neg, ev_ife, ev_idx, ev_slc, ev_lst, ev_tup, ev_attr, ev_cat, ev_bi, ev_rng, ev_mkset, ev_sm, ev_call, ev_scall, ev_meth, ev_new, ev_comp, ev_enum, evs_nil, evs_cons, evC_nil, evC_cons, cmpV, int2, boolOf, biV, arg1, arg2, lenV, isbV, int2, binV, addV, mulV, int2, h1, h2, List.length_cons, List.length_nil, if_true, List.map_cons, List.map_nil, List.replicate_succ, List.replicate_zero, List.cons_append, List.nil_append, List.getElem?_cons_zero, List.getElem?_cons_succ, Option.bind_some, Option.map_some, List.set_cons_succ, List.set_cons_zero, hp, partV, sliceV, h4, eqL_signs, decide_eq_false ne, int1, asS, asL]
  simp [h3]
theorem run_equal_yes (near far sg : List Nat) (bar : Int) (h : (sg.length : Int) ≤ max 0 ((near.length : Int) - bar)) (hb : 0 ≤ bar) (hp : G.Ψ 2 [.list (signsV sg)] = some (.list (signsV sg.reverse))) (e : near.drop (near.length - sg.length) = sg.reverse) (hf : far.length + sg.length ≤ big) :
    runB G m 4 1 b_law_equal [.list (signsV near), .list (signsV far), .int bar, .list (signsV sg)] σ = some (.tup [.bool true, .list (signsV (near.take (near.length - sg.length))), .list (signsV (far ++ sg))], σ) := by
  unfold runB b_law_equal
  have h1 : (signsV near).length = near.length := by simp [signsV]
  have h2 : (signsV sg).length = sg.length := by simp [signsV]
  have h0 : (signsV far).length = far.length := by simp [signsV]
  have h3 : ¬ max 0 ((near.length : Int) - bar) < (sg.length : Int) := by omega
  have h4 := cut_off near sg.length (by omega)
  have h5 := cut_on near sg.length (by omega)
  simp only [exB_nil, exB_cons, exS_expr, exS_set, exS_setT, exS_setA, exS_augA, exS_ite, exS_whl, exS_for1, exS_forT, exS_ret, ev_non, ev_bool, ev_int, ev_str, ev_loc, ev_glob, ev_bin, ev_cmp, ev_conj, ev_disj, ev_not, ev_neg, ev_ife, ev_idx, ev_slc, ev_lst, ev_tup, ev_attr, ev_cat, ev_bi, ev_rng, ev_mkset, ev_sm, ev_call, ev_scall, ev_meth, ev_new, ev_comp, ev_enum, evs_nil, evs_cons, evC_nil, evC_cons, cmpV, int2, boolOf, biV, arg1, arg2, lenV, isbV, int2, binV, addV, mulV, int2, h1, h2, h0, List.length_cons, List.length_nil, if_true, List.map_cons, List.map_nil, List.replicate_succ, List.replicate_zero, List.cons_append, List.nil_append, List.getElem?_cons_zero, List.getElem?_cons_succ, Option.bind_some, Option.map_some, List.set_cons_succ, List.set_cons_zero, hp, partV, sliceV, h4, h5, eqL_signs, decide_eq_true e, if_pos hf, signs_app, int1, asS, asL]
  simp [h3, h5, h0, h1, h2, hf, signs_app]
end
end Mine
end

section
open PySem PySem.W PyProof.Rows
set_option Elab.async false
set_option maxRecDepth 100000
namespace Mine
section
variable {G : Sg} {σ : St} {m : Nat}

theorem compL_filter {test : V → Option Bool} {elt : V → Option V} {p : V → Bool} : ∀ l : List V, (∀ x ∈ l, test x = some (p x)) → (∀ x ∈ l, p x = true → elt x = some x) → compL test elt l = some (l.filter p)
  | [], _, _ => rfl
  | x :: r, ht, he => by
    have i := compL_filter (test := test) (elt := elt) (p := p) r (fun y q => ht y (by simp [q])) (fun y q => he y (by simp [q]))
    rw [compL, ht x (by simp), Option.bind_some, i]
    cases q : p x with
    | true => rw [if_pos rfl, he x (by simp) q]; simp [q]
    | false => simp [q]
/-- the places from bar on whose sign does not go on -/
noncomputable def stopsAt (near : List Nat) (bar : Int) (p : Nat → Bool) : List V := ((List.range ((near.length : Int) - bar).toNat).map fun (i : Nat) => V.int (bar + (i : Int) * 1)).filter fun v => p (near.getD (unI v) 0)
theorem go_stops (near : List Nat) (far ch : V) (bar : Int) (ins : Bool) (p : Nat → Bool) (h : 0 ≤ bar) (hb : bar ≤ 1000000) (hn : near.length ≤ 1000000) (hp : ∀ c ∈ near, inV (.str [c]) ch = some (p c)) :
    ev G [some (.list (signsV near)), some far, some (.int bar), some ch, some (.bool ins), none, none, none] σ (.comp (.loc 7) 7 (.rng [.loc 2, .bi .len [.loc 0]]) [.cmp .ne (.cmp .isin (.idx (.loc 0) (.loc 7)) (.loc 3)) (.loc 4)]) = some (.list (stopsAt near bar fun c => p c != ins), σ) := by
  have h1 : (signsV near).length = near.length := by simp [signsV]
  have u : ev G [some (.list (signsV near)), some far, some (.int bar), some ch, some (.bool ins), none, none, none] σ (.rng [.loc 2, .bi .len [.loc 0]]) = some (.rng bar near.length 1, σ) := by
    simp [ev_non, ev_bool, ev_int, ev_str, ev_loc, ev_glob, ev_bin, ev_cmp, ev_conj, ev_disj, ev_not, ev_neg, ev_ife, ev_idx, ev_slc, ev_lst, ev_tup, ev_attr, ev_cat, ev_bi, ev_rng, ev_mkset, ev_sm, ev_call, ev_scall, ev_meth, ev_new, ev_comp, ev_enum, evs_nil, evs_cons, biV, arg1, arg2, lenV, isbV, int2, rngV, h1, int1]
  have r : iterV (.rng bar near.length 1) = some ((List.range ((near.length : Int) - bar).toNat).map fun (i : Nat) => V.int (bar + (i : Int) * 1)) := by
    simp only [iterV]
    rw [if_pos (by omega), if_pos trivial]
  have e := compL_filter (test := fun i => (evC G true ([some (.list (signsV near)), some far, some (.int bar), some ch, some (.bool ins), none, none, none].set 7 (some i)) σ [.cmp .ne (.cmp .isin (.idx (.loc 0) (.loc 7)) (.loc 3)) (.loc 4)]).map (·.1)) (elt := fun i => (ev G ([some (.list (signsV near)), some far, some (.int bar), some ch, some (.bool ins), none, none, none].set 7 (some i)) σ (.loc 7)).map (·.1)) (p := fun v => (p (near.getD (unI v) 0) != ins))
    ((List.range ((near.length : Int) - bar).toNat).map fun (i : Nat) => V.int (bar + (i : Int) * 1)) (by
      intro x q
      obtain ⟨i, qi, rfl⟩ := List.mem_map.mp q
      have lt := List.mem_range.mp qi
      have e1 : bar + (i : Int) * 1 = ((bar.toNat + i : Nat) : Int) := by omega
      have lt2 : bar.toNat + i < near.length := by omega
      have e2 := idx_in (signsV near) (i := bar.toNat + i) (by omega)
      have e3 : (signsV near)[bar.toNat + i]'(by omega) = .str [near[bar.toNat + i]] := by simp [signsV]
      rw [e1]
      rw [e3] at e2
      simp only [evC_nil, evC_cons, ev_non, ev_bool, ev_int, ev_str, ev_loc, ev_glob, ev_bin, ev_cmp, ev_conj, ev_disj, ev_not, ev_neg, ev_ife, ev_idx, ev_slc, ev_lst, ev_tup, ev_attr, ev_cat, ev_bi, ev_rng, ev_mkset, ev_sm, ev_call, ev_scall, ev_meth, ev_new, ev_comp, ev_enum, List.set_cons_succ, List.set_cons_zero, List.getElem?_cons_zero, List.getElem?_cons_succ, Option.bind_some, Option.map_some, cmpV, int2, e2, hp _ (List.getElem_mem lt2), eqL, eqV, boolOf, unI, Int.toNat_natCast, List.getD_eq_getElem?_getD, List.getElem?_eq_getElem lt2, Option.getD_some, int1]
      cases p near[bar.toNat + i] <;> cases ins <;> rfl) (by
      intro x q _
      simp [ev_non, ev_bool, ev_int, ev_str, ev_loc, ev_glob, ev_bin, ev_cmp, ev_conj, ev_disj, ev_not, ev_neg, ev_ife, ev_idx, ev_slc, ev_lst, ev_tup, ev_attr, ev_cat, ev_bi, ev_rng, ev_mkset, ev_sm, ev_call, ev_scall, ev_meth, ev_new, ev_comp, ev_enum])
  rw [ev_comp, u, Option.bind_some, r, Option.bind_some, e]; rfl
end
end Mine
end

section
open PySem PySem.W PyProof.Rows
set_option Elab.async false
set_option maxRecDepth 100000
namespace Mine
section
variable {G : Sg} {σ : St} {m : Nat}

theorem cut_to (near : List Nat) (n : Nat) (h : n ≤ near.length) : cut (signsV near) none (some (n : Int)) = signsV (near.take n) := by
  have : clipAt near.length (n : Int) = n := by
    unfold clipAt; rw [if_neg (by omega)]; omega
  simp [cut, signsV, this]
theorem cut_from (near : List Nat) (n : Nat) (h : n ≤ near.length) : cut (signsV near) (some (n : Int)) none = signsV (near.drop n) := by
  have : clipAt near.length (n : Int) = n := by
    unfold clipAt; rw [if_neg (by omega)]; omega
  simp [cut, signsV, this]
  rw [List.take_of_length_le (by simp)]
theorem run_go (near far : List Nat) (ch : V) (bar : Int) (ins : Bool) (p : Nat → Bool) (h : 0 ≤ bar) (hb : bar ≤ 1000000) (hn : near.length ≤ 1000000) (hp : ∀ c ∈ near, inV (.str [c]) ch = some (p c)) (hm : ∀ l : List Nat, l.length ≤ near.length → G.Ψ 2 [.list (signsV l)] = some (.list (signsV l.reverse))) (hf : far.length + near.length ≤ big)
    (L : List V) (hL : stopsAt near bar (fun c => p c != ins) = L) (b : Bool) (kp : Nat) (hk : kp ≤ near.length)
    (hb : cmpV .ne (.list L) (.list []) = some b) (hkp : (if b then idxV (.list L) (.int (-1)) else some (.int (min bar (near.length : Int) - 1))) = some (.int ((kp : Int) - 1))) :
    runB G m 5 3 b_law_go [.list (signsV near), .list (signsV far), .int bar, ch, .bool ins] σ = some (.tup [.bool b, .list (signsV (near.take kp)), .list (signsV (far ++ (near.drop kp).reverse))], σ) := by
  unfold runB b_law_go
  have h1 : (signsV near).length = near.length := by simp [signsV]
  have h0 : ∀ l : List Nat, (signsV l).length = l.length := by simp [signsV]
  have st := go_stops (σ := σ) (G := G) near (.list (signsV far)) ch bar ins p h (by assumption) hn hp
  rw [hL] at st
  have c1 := cut_to near kp hk
  have c2 := cut_from near kp hk
  have c3 := hm (near.drop kp) (by simp)
  have hf' : far.length + (near.length - kp) ≤ big := by omega
  cases b with
  | true =>
    rw [if_pos rfl] at hkp
    simp only [exB_nil, exB_cons, exS_expr, exS_set, exS_setT, exS_setA, exS_augA, exS_ite, exS_whl, exS_for1, exS_forT, exS_ret, List.length_cons, List.length_nil, if_true, List.map_cons, List.map_nil, List.replicate_succ, List.replicate_zero, List.cons_append, List.nil_append, List.append_nil, st, Option.bind_some, Option.map_some, List.set_cons_succ, List.set_cons_zero]
    simp [ev_non, ev_bool, ev_int, ev_str, ev_loc, ev_glob, ev_bin, ev_cmp, ev_conj, ev_disj, ev_not, ev_neg, ev_ife, ev_idx, ev_slc, ev_lst, ev_tup, ev_attr, ev_cat, ev_bi, ev_rng, ev_mkset, ev_sm, ev_call, ev_scall, ev_meth, ev_new, ev_comp, ev_enum, evs_nil, evs_cons, boolOf, hb, hkp, biV, arg1, arg2, lenV, isbV, int2, binV, addV, mulV, int2, h0, partV, sliceV, c1, c2, c3, hf', signs_app, int1, asS, asL]
  | false =>
    have q : min bar (near.length : Int) = (kp : Int) := by
      simp at hkp; omega
    simp only [exB_nil, exB_cons, exS_expr, exS_set, exS_setT, exS_setA, exS_augA, exS_ite, exS_whl, exS_for1, exS_forT, exS_ret, List.length_cons, List.length_nil, if_true, List.map_cons, List.map_nil, List.replicate_succ, List.replicate_zero, List.cons_append, List.nil_append, List.append_nil, st, Option.bind_some, Option.map_some, List.set_cons_succ, List.set_cons_zero]
    simp [ev_non, ev_bool, ev_int, ev_str, ev_loc, ev_glob, ev_bin, ev_cmp, ev_conj, ev_disj, ev_not, ev_neg, ev_ife, ev_idx, ev_slc, ev_lst, ev_tup, ev_attr, ev_cat, ev_bi, ev_rng, ev_mkset, ev_sm, ev_call, ev_scall, ev_meth, ev_new, ev_comp, ev_enum, evs_nil, evs_cons, boolOf, hb, biV, arg1, arg2, lenV, isbV, int2, binV, addV, mulV, int2, h0, q, partV, sliceV, c1, c2, c3, hf', signs_app, int1, asS, asL]
end
end Mine
end

section
open PySem PySem.W PyProof.Rows
set_option Elab.async false
set_option maxRecDepth 100000
namespace Mine
section
variable {G : Sg} {σ : St} {m : Nat}

theorem fmod_lt (a : Int) {b : Int} (h : 0 < b) : 0 ≤ a.fmod b ∧ a.fmod b < b := ⟨Int.fmod_nonneg_of_pos a h, Int.fmod_lt_of_pos a h⟩
theorem bin_mod (a : Int) {b : Int} (h : 0 < b) : binV .mod (.int a) (.int b) = some (.int (a.fmod b)) := by simp [binV, addV, mulV, int2, h, int1, asS, asL]
theorem bin_fdiv (a : Int) {b : Int} (h : 0 < b) (h' : b < 1073741824) : binV .fdiv (.int a) (.int b) = some (.int (a.fdiv b)) := by simp [binV, addV, mulV, int2, h, h', int1, asS, asL]
theorem bin_add (a b : Int) : binV .add (.int a) (.int b) = some (.int (a + b)) := rfl
theorem cmp_eq_int (a b : Int) : cmpV .eq (.int a) (.int b) = some (a == b) := rfl
theorem clip_in {n : Nat} {k : Int} (h0 : 0 ≤ k) (h1 : k ≤ n) : clipAt n k = k.toNat := by
  unfold clipAt; rw [if_neg (by omega)]; omega
theorem idx_signs (L : List Nat) {j : Int} (h0 : 0 ≤ j) (h1 : j < L.length) : ∃ c, c ∈ L ∧ idxV (.list (signsV L)) (.int j) = some (.str [c]) := by
  obtain ⟨k, rfl⟩ := Int.eq_ofNat_of_zero_le h0
  have lt : k < L.length := by omega
  refine ⟨L[k], List.getElem_mem lt, ?_⟩
  have := idx_in (signsV L) (i := k) (by simpa [signsV] using lt)
  rw [this]; simp [signsV]

/-! one step of a run -/
theorem exB_next' {t : S} {r : List S} {ρ ρ' : Rho} {σ' : St} {x : Res} (h : exS G m t ρ σ = some (.next, ρ', σ')) (k : exB G m r ρ' σ' = x) : exB G m (t :: r) ρ σ = x := by rw [exB_cons, h]; exact k
theorem exB_ret {t : S} {r : List S} {ρ ρ' : Rho} {σ' : St} {v : V} (h : exS G m t ρ σ = some (.ret v, ρ', σ')) : exB G m (t :: r) ρ σ = some (.ret v, ρ', σ') := by rw [exB_cons, h]; rfl
theorem exB_skip {t : S} {r : List S} {ρ : Rho} {x : Res} (h : exS G m t ρ σ = some (.next, ρ, σ)) (k : exB G m r ρ σ = x) : exB G m (t :: r) ρ σ = x := exB_next' h k
theorem exB_ret' {t : S} {r : List S} {ρ : Rho} {v : V} (h : exS G m t ρ σ = some (.ret v, ρ, σ)) : exB G m (t :: r) ρ σ = some (.ret v, ρ, σ) := exB_ret h
theorem ife_of {ρ : Rho} {σ' : St} {c a b : X} {t : Bool} {x : Option (V × St)} (h : ev G ρ σ c = some (.bool t, σ')) (k : (if t then ev G ρ σ' a else ev G ρ σ' b) = x) : ev G ρ σ (.ife c a b) = x := by rw [ev_ife, h]; exact k
theorem xset_of {ρ : Rho} {σ' : St} {i : Nat} {x : X} {v : V} (h : ev G ρ σ x = some (v, σ')) : exS G m (.set i x) ρ σ = some (.next, ρ.set i (some v), σ') := by rw [exS_set, h]; rfl
theorem ret_of {ρ : Rho} {σ' : St} {x : X} {v : V} (h : ev G ρ σ x = some (v, σ')) : exS G m (.ret x) ρ σ = some (.ret v, ρ, σ') := by rw [exS_ret, h]; rfl
theorem ite_of {ρ : Rho} {σ' : St} {c : X} {a b : List S} {t : Bool} {x : Res} (h : ev G ρ σ c = some (.bool t, σ')) (k : (if t then exB G m a ρ σ' else exB G m b ρ σ') = x) : exS G m (.ite c a b) ρ σ = x := by rw [exS_ite, h]; exact k
theorem bin_of {ρ : Rho} {σ1 σ2 : St} {o : Bop} {a b : X} {va vb v : V} (ha : ev G ρ σ a = some (va, σ1)) (hb : ev G ρ σ1 b = some (vb, σ2)) (h : binV o va vb = some v) : ev G ρ σ (.bin o a b) = some (v, σ2) := by rw [ev_bin, ha]; show Option.bind (ev G ρ σ1 b) _ = _; rw [hb]; show Option.map _ (binV o va vb) = _; rw [h]; rfl
theorem cmp_of {ρ : Rho} {σ1 σ2 : St} {o : Cop} {a b : X} {va vb : V} {t : Bool} (ha : ev G ρ σ a = some (va, σ1)) (hb : ev G ρ σ1 b = some (vb, σ2)) (h : cmpV o va vb = some t) : ev G ρ σ (.cmp o a b) = some (.bool t, σ2) := by rw [ev_cmp, ha]; show Option.bind (ev G ρ σ1 b) _ = _; rw [hb]; show Option.map _ (cmpV o va vb) = _; rw [h]; rfl
theorem idx_of {ρ : Rho} {σ1 σ2 : St} {a b : X} {va vb v : V} (ha : ev G ρ σ a = some (va, σ1)) (hb : ev G ρ σ1 b = some (vb, σ2)) (h : idxV va vb = some v) : ev G ρ σ (.idx a b) = some (v, σ2) := by rw [ev_idx, ha]; show Option.bind (ev G ρ σ1 b) _ = _; rw [hb]; show Option.map _ (idxV va vb) = _; rw [h]; rfl
theorem glob_of {ρ : Rho} {i : Nat} {e : Str × V} (h : G.P.gls[i]? = some e) : ev G ρ σ (.glob i) = some (e.2, σ) := by rw [ev_glob, h]; rfl
theorem runB_ret {k nv : Nat} {body : List S} {xs : List V} {v : V} {ρ : Rho} {σ' : St} (hl : xs.length = k) (h : exB G m body (xs.map some ++ List.replicate nv none) σ = some (.ret v, ρ, σ')) : runB G m k nv body xs σ = some (v, σ') := by rw [runB, if_pos hl, h]; rfl
theorem no_eq {ρ : Rho} {i : Nat} {k j : Int} {a : List S} (n : k ≠ j) (h : ρ[i]? = some (some (.int k)) := by exact rfl) : exS G m (.ite (.cmp .eq (.loc i) (.int j)) a []) ρ σ = some (.next, ρ, σ) :=
  ite_of (cmp_of (by rw [ev_loc, h]; rfl) rfl (cmp_eq_int k j)) (by rw [show (k == j) = false from beq_eq_false_iff_ne.mpr n]; rfl)
/-- the locals of `_law_text` -/
noncomputable abbrev tS (w : List Nat) (p : Int) (on : Bool) (r s k : Int) (a b : Option V) : Rho := [some (.str w), some (.int p), some (.bool on), some (.int r), some (.int s), some (.int k), a, b]
/-- the text that `_law_text` gives -/
theorem run_text (w : List Nat) (p : Int) (on : Bool) (r : Int) (hw : w.length ≤ 1000) (S : List Nat) (hS : S.length = 17) (e : Str × V) (hg : G.P.gls[0]? = some e) (he : e.2 = .list (signsV S)) :
    ∃ t : List Nat, t.length ≤ w.length + 1 ∧ ∀ (σ : St) (m : Nat), runB G m 4 4 b_law_text [.str w, .int p, .bool on, .int r] σ = some (.str t, σ) := by
  have hl : (0 : Int) < (w.length : Int) + 1 := Int.lt_add_one_of_le (Int.natCast_nonneg _)
  obtain ⟨j0, j1⟩ := fmod_lt (r.fdiv 20) (b := 17) (by decide)
  obtain ⟨x, _, hx⟩ := idx_signs S j0 (by rw [hS]; exact j1)
  have bg : (1001 : Nat) ≤ big := by decide
  have hT : ∀ a b : Option Int, (cut w a b).length ≤ w.length := fun a b => cut_length_le w a b
  have s1 : ∀ (σ : St) (m : Nat), exS G m (.set 4 (.bin .mod (.bin .add (.bin .fdiv (.loc 3) (.int 4)) (.int 2)) (.bin .add (.bi .len [.loc 0]) (.int 1)))) [some (.str w), some (.int p), some (.bool on), some (.int r), none, none, none, none] σ = some (.next, [some (.str w), some (.int p), some (.bool on), some (.int r), some (.int ((r.fdiv 4 + 2).fmod ((w.length : Int) + 1))), none, none, none], σ) :=
    fun σ m => xset_of (bin_of (σ1 := σ) (bin_of (σ1 := σ) (σ2 := σ) (vb := .int 2) (bin_of (σ1 := σ) (σ2 := σ) (va := .int r) (vb := .int 4) rfl rfl (bin_fdiv r (by decide) (by decide))) rfl (bin_add _ _)) (show ev G _ σ _ = some (.int ((w.length : Int) + 1), σ) from rfl) (bin_mod _ hl))
  generalize (r.fdiv 4 + 2).fmod ((w.length : Int) + 1) = s at s1
  have s2 : ∀ (σ : St) (m : Nat), exS G m (.set 5 (.bin .mod (.loc 3) (.int 4))) [some (.str w), some (.int p), some (.bool on), some (.int r), some (.int s), none, none, none] σ = some (.next, tS w p on r s (r.fmod 4) none none, σ) := fun σ m => xset_of (bin_of (σ1 := σ) (va := .int r) (vb := .int 4) rfl rfl (bin_mod r (by decide)))
  obtain ⟨k0, k4⟩ := fmod_lt r (b := 4) (by decide)
  generalize r.fmod 4 = k at s2 k0 k4
  have hk' : k = 0 ∨ k = 1 ∨ k = 2 ∨ k = 3 := by clear s1 s2 hx j0 j1 hT; omega
  have go : ∀ {t : List Nat} {σ : St} {m : Nat}, exB G m (b_law_text.drop 2) (tS w p on r s k none none) σ = some (.ret (.str t), tS w p on r s k none none, σ) → runB G m 4 4 b_law_text [.str w, .int p, .bool on, .int r] σ = some (.str t, σ) := fun h => runB_ret rfl (exB_next' (s1 _ _) (exB_next' (s2 _ _) h))
  have gi : ∀ {t : V} {x7 : Option V} {σ : St} {m : Nat}, exB G m (b_law_text.drop 4) (tS w p on r s k none none) σ = some (.ret t, tS w p on r s k (some t) x7, σ) → k ≠ 2 → k ≠ 3 → runB G m 4 4 b_law_text [.str w, .int p, .bool on, .int r] σ = some (t, σ) := fun h n2 n3 => runB_ret rfl (exB_next' (s1 _ _) (exB_next' (s2 _ _) (exB_skip (no_eq n2) (exB_skip (no_eq n3) h))))
  have rt : ∀ {t : V} {x7 : Option V} {σ : St} {m : Nat}, exB G m [.ret (.loc 6)] (tS w p on r s k (some t) x7) σ = some (.ret t, tS w p on r s k (some t) x7, σ) := exB_ret' rfl
  rcases hk' with rfl | rfl | rfl | rfl
  · cases on
    · exact ⟨cut w (some (max 0 (p - s))) (some p), Nat.le_succ_of_le (hT _ _), fun σ m => gi (x7 := none) (exB_next' (ρ' := tS w p false r s 0 (some (.str (cut w (some (max 0 (p - s))) (some p)))) none) (σ' := σ) rfl (exB_skip rfl rt)) (by decide) (by decide)⟩
    · exact ⟨cut w (some p) (some (p + s)), Nat.le_succ_of_le (hT _ _), fun σ m => gi (x7 := none) (exB_next' (ρ' := tS w p true r s 0 (some (.str (cut w (some p) (some (p + s))))) none) (σ' := σ) rfl (exB_skip rfl rt)) (by decide) (by decide)⟩
  · have add_ok : ∀ a b : List Nat, a.length + b.length ≤ w.length + 1 → binV .add (.str a) (.str b) = some (.str (a ++ b)) := fun a b h => if_pos (Nat.le_trans h (Nat.le_trans (Nat.succ_le_succ hw) bg))
    have i7 : ∀ (σ : St) (a : Option V) (m : Nat), exS G m (.set 7 (.idx (.glob 0) (.bin .mod (.bin .fdiv (.loc 3) (.int 20)) (.int 17)))) (tS w p on r s 1 a none) σ = some (.next, tS w p on r s 1 a (some (.str [x])), σ) := fun σ a m =>
      xset_of (idx_of (glob_of hg) (bin_of (σ1 := σ) (vb := .int 17) (bin_of (σ1 := σ) (σ2 := σ) (va := .int r) (vb := .int 20) rfl rfl (bin_fdiv r (by decide) (by decide))) rfl (bin_mod _ (by decide))) (by rw [he]; exact hx))
    have cat : ∀ {a t : List Nat} {σ : St} {m : Nat}, exS G m (.set 6 (.ife (.loc 2) (.bin .add (.loc 6) (.loc 7)) (.bin .add (.loc 7) (.loc 6)))) (tS w p on r s 1 (some (.str a)) (some (.str [x]))) σ = some (.next, tS w p on r s 1 (some (.str t)) (some (.str [x])), σ) → exS G m (.ite (.cmp .eq (.loc 5) (.int 1)) [.set 7 (.idx (.glob 0) (.bin .mod (.bin .fdiv (.loc 3) (.int 20)) (.int 17))), .set 6 (.ife (.loc 2) (.bin .add (.loc 6) (.loc 7)) (.bin .add (.loc 7) (.loc 6)))] []) (tS w p on r s 1 (some (.str a)) none) σ = some (.next, tS w p on r s 1 (some (.str t)) (some (.str [x])), σ) := fun {a t σ m} h => ite_of (t := true) (σ' := σ) rfl (exB_next' (i7 σ _ m) (exB_next' h rfl))
    cases on
    · have q := add_ok [x] (cut w (some (max 0 (p - s))) (some p)) (by rw [List.length_singleton, Nat.add_comm]; exact Nat.succ_le_succ (hT _ _))
      exact ⟨[x] ++ cut w (some (max 0 (p - s))) (some p), Nat.succ_le_succ (hT _ _), fun σ m => gi (x7 := some (.str [x])) (exB_next' (ρ' := tS w p false r s 1 (some (.str (cut w (some (max 0 (p - s))) (some p)))) none) (σ' := σ) rfl (exB_next' (cat (xset_of (ife_of (t := false) (σ' := σ) rfl (bin_of (σ1 := σ) (va := .str [x]) (vb := .str (cut w (some (max 0 (p - s))) (some p))) rfl rfl q)))) rt)) (by decide) (by decide)⟩
    · have q := add_ok (cut w (some p) (some (p + s))) [x] (Nat.succ_le_succ (hT _ _))
      exact ⟨cut w (some p) (some (p + s)) ++ [x], by rw [List.length_append]; exact Nat.succ_le_succ (hT _ _), fun σ m => gi (x7 := some (.str [x])) (exB_next' (ρ' := tS w p true r s 1 (some (.str (cut w (some p) (some (p + s))))) none) (σ' := σ) rfl (exB_next' (cat (xset_of (ife_of (t := true) (σ' := σ) rfl (bin_of (σ1 := σ) (va := .str (cut w (some p) (some (p + s)))) (vb := .str [x]) rfl rfl q)))) rt)) (by decide) (by decide)⟩
  · exact ⟨cut w none (some s), Nat.le_succ_of_le (hT _ _), fun σ m => go (exB_ret' rfl)⟩
  · exact ⟨cut w (some (max 0 ((w.length : Int) - s))) none, Nat.le_succ_of_le (hT _ _), fun σ m => go (exB_skip rfl (exB_ret' rfl))⟩
end
end Mine
end

section
open PySem PySem.W PyProof.Rows
set_option Elab.async false
set_option maxRecDepth 100000
namespace Mine

theorem textsOf_signs : ∀ l : List Nat, textsOf (signsV l) = some (l.map fun c => [c])
  | [] => rfl
  | c :: l => by
    have i := textsOf_signs l
    simp only [signsV, List.map_cons] at i ⊢
    rw [textsOf, i]; rfl
theorem flat_signs : ∀ l : List Nat, (l.map fun c => [c]).flatten = l
  | [] => rfl
  | c :: l => by rw [List.map_cons, List.flatten_cons, flat_signs l]; rfl
theorem join_signs (l : List Nat) (h : l.length ≤ big) : smV .join (.str []) (.list (signsV l)) = some (.str l) := by
  simp only [smV, textsOf_signs, Option.bind_some, flat_signs, if_pos h, asS, asL]
theorem set_signs (l : List Nat) (h : l.length ≤ 1000) : setV (.list (signsV l)) = some (.sset (l.map fun c => [c])) := by
  have : (signsV l).length = l.length := by simp [signsV]
  simp only [setV, this, if_pos h, textsOf_signs, Option.map_some]
theorem inL_signs (ch : Nat) : ∀ L : List Nat, inL (.str [ch]) (signsV L) = some (decide (ch ∈ L))
  | [] => by simp [signsV, inL]
  | c :: L => by
    have i := inL_signs ch L
    simp only [signsV, List.map_cons, inL] at i ⊢
    rw [i]
    by_cases q : c = ch
    · subst q; simp [eqV]
    · have : ¬ ch = c := fun e => q e.symm
      simp [eqV, q, this]
theorem in_list (ch : Nat) (L : List Nat) : inV (.str [ch]) (.list (signsV L)) = some (decide (ch ∈ L)) := by
  rw [← inL_signs]; simp [inV, asS]
theorem in_str (ch : Nat) (L : List Nat) : inV (.str [ch]) (.str L) = some (decide (ch ∈ L)) := rfl
theorem in_set (ch : Nat) (L : List Nat) : inV (.str [ch]) (.sset (L.map fun c => [c])) = some (decide (ch ∈ L)) := by
  simp [inV, asS]

noncomputable def sgns : List Nat := [97, 115, 101, 116, 105, 110, 121, 100, 111, 98, 89, 119, 117, 233, 228, 45, 1096]
noncomputable def own0 : List Nat := [97, 101, 105, 111, 117, 121]
noncomputable def own1 : List Nat := [97, 101, 105, 111, 117, 121, 119, 120, 89]
noncomputable def own2 : List Nat := [97, 101, 111]
noncomputable def own3 : List Nat := [99, 100, 101, 103, 104, 107, 109, 110, 114, 116]
noncomputable abbrev setOf (l : List Nat) : V := .sset (l.map fun c => [c])
/-- the module's tables -/
structure Tabs (G : Sg) : Prop where
  g0 : ∃ n, G.P.gls[0]? = some (n, .list (signsV sgns))
  g1 : ∃ n, G.P.gls[1]? = some (n, .list [.list (signsV own0), .list (signsV own1), .list (signsV own2), .list (signsV own3)])
  g2 : ∃ n, G.P.gls[2]? = some (n, .g (.type "bool"))
  c0 : ∃ n a x, G.P.cat[0]? = some (n, a, x, setOf own0)
  c1 : ∃ n a x, G.P.cat[1]? = some (n, a, x, setOf own1)
  c2 : ∃ n a x, G.P.cat[2]? = some (n, a, x, .str own2)
  c3 : ∃ n a x, G.P.cat[3]? = some (n, a, x, setOf own3)

noncomputable def chosenL (bits : Int) : Nat → List Nat → List Nat
  | _, [] => []
  | n, c :: r => if (bits.fdiv (2 ^ n)).fmod 2 = 1 then c :: chosenL bits (n + 1) r else chosenL bits (n + 1) r
theorem chosenL_len (bits : Int) : ∀ (l : List Nat) (n : Nat), (chosenL bits n l).length ≤ l.length
  | [], _ => Nat.le_refl _
  | c :: r, n => by
    unfold chosenL
    have := chosenL_len bits r (n + 1)
    split <;> simp only [List.length_cons] <;> omega

theorem chosenL_cons (bits : Int) (n c : Nat) (r : List Nat) : chosenL bits n (c :: r) = if (bits.fdiv (2 ^ n)).fmod 2 = 1 then c :: chosenL bits (n + 1) r else chosenL bits (n + 1) r := rfl
theorem enum_chosen {G : Sg} {σ : St} {ρ : Rho} (bits : Int) (hρ : ρ.length = 6) (h2 : ρ[2]? = some (some (.int bits))) : ∀ (l : List Nat) (n : Nat),
    compL (fun v => match v with | .tup [a, b] => (evC G true ((ρ.set 4 (some a)).set 5 (some b)) σ [.cmp .eq (.bin .mod (.bin .shr (.loc 2) (.loc 4)) (.int 2)) (.int 1)]).map (·.1) | _ => none)
      (fun v => match v with | .tup [a, b] => (ev G ((ρ.set 4 (some a)).set 5 (some b)) σ (.loc 5)).map (·.1) | _ => none) (enumV n (signsV l)) = some (signsV (chosenL bits n l))
  | [], n => rfl
  | c :: r, n => by
    have i := enum_chosen (G := G) (σ := σ) bits hρ h2 r (n + 1)
    obtain ⟨x0, x1, x2, x3, x4, x5, rfl⟩ : ∃ a b c d e f, ρ = [a, b, c, d, e, f] := by
      match ρ, hρ with
      | [a, b, c, d, e, f], _ => exact ⟨_, _, _, _, _, _, rfl⟩
    simp only [List.getElem?_cons_succ, List.getElem?_cons_zero, Option.some.injEq] at h2
    subst h2
    simp only [signsV, List.map_cons, enumV, compL] at i ⊢
    have e1 : binV .shr (.int bits) (.int (n : Int)) = some (.int (bits.fdiv (2 ^ n))) := by
      simp [binV, addV, mulV, int2, int1, asS, asL]
    have e2 := bin_mod (bits.fdiv (2 ^ n)) (b := 2) (by decide)
    simp only [evC_nil, evC_cons, ev_non, ev_bool, ev_int, ev_str, ev_loc, ev_glob, ev_bin, ev_cmp, ev_conj, ev_disj, ev_not, ev_neg, ev_ife, ev_idx, ev_slc, ev_lst, ev_tup, ev_attr, ev_cat, ev_bi, ev_rng, ev_mkset, ev_sm, ev_call, ev_scall, ev_meth, ev_new, ev_comp, ev_enum, List.set_cons_succ, List.set_cons_zero, List.getElem?_cons_succ, List.getElem?_cons_zero, Option.bind_some, Option.map_some, e1, e2, cmp_eq_int, boolOf] at i ⊢
    rw [i]
    rw [chosenL_cons]
    by_cases q : (bits.fdiv (2 ^ n)).fmod 2 = 1
    · simp [q]
    · simp [q]

section
variable {G : Sg} {σ : St} {m : Nat}
theorem forget3 {α : Type} {l : List α} {a b : α} (h0 : l[0]? = some a) (h1 : l[1]? = some b) : ∃ r, l = a :: b :: r := by
  match l, h0, h1 with
  | x :: y :: r, h0, h1 => cases h0; cases h1; exact ⟨r, rfl⟩
theorem forget4 {α : Type} {l : List α} {a b c d : α} (h0 : l[0]? = some a) (h1 : l[1]? = some b) (h2 : l[2]? = some c) (h3 : l[3]? = some d) : ∃ r, l = a :: b :: c :: d :: r := by
  obtain ⟨r, rfl⟩ := forget3 h0 h1
  obtain ⟨r, rfl⟩ := forget3 (l := r) h2 h3
  exact ⟨r, rfl⟩
/-- the locals of `_law_group` -/
noncomputable abbrev gS (r k : Int) (b t : Option V) : Rho := [some (.int r), some (.int k), b, t, none, none]
theorem group_more (T : Tabs G) (r k : Int) (bits : Int) {g : V} (h4 : k ≠ 4) (h5 : k ≠ 5) (hk : cmpV .lt (.int k) (.int 4) = some false) (hb : (r.fdiv 8).fmod 131072 = bits) (s1 : exS G m (.set 1 (.bin .mod (.loc 0) (.int 8))) [some (.int r), none, none, none, none, none] σ = some (.next, gS r k none none, σ))
    (hg : ev G (gS r k (some (.int bits)) (some (.list (signsV (chosenL bits 0 sgns))))) σ (.ife (.cmp .eq (.loc 1) (.int 6)) (.mkset (.loc 3)) (.sm .join (.str []) (.loc 3))) = some (g, σ)) :
    runB G m 1 5 b_law_group [.int r] σ = some (.tup [.list (signsV (chosenL bits 0 sgns)), g], σ) := by
  obtain ⟨n0, g0⟩ := T.g0
  have en := enum_chosen (G := G) (σ := σ) (ρ := gS r k (some (.int bits)) none) bits rfl rfl sgns 0
  have s3 : exS G m (.set 3 (.enum (.loc 5) 4 5 (.glob 0) [.cmp .eq (.bin .mod (.bin .shr (.loc 2) (.loc 4)) (.int 2)) (.int 1)])) (gS r k (some (.int bits)) none) σ = some (.next, gS r k (some (.int bits)) (some (.list (signsV (chosenL bits 0 sgns)))), σ) := xset_of (by
    rw [ev_enum, glob_of g0]
    exact congrArg (Option.map fun l => (V.list l, σ)) en)
  have s2 : exS G m (.set 2 (.bin .mod (.bin .fdiv (.loc 0) (.int 8)) (.int 131072))) (gS r k none none) σ = some (.next, gS r k (some (.int bits)) none, σ) := by
    rw [← hb]
    exact xset_of (bin_of (σ1 := σ) (vb := .int 131072) (bin_of (σ1 := σ) (σ2 := σ) (va := .int r) (vb := .int 8) rfl rfl (bin_fdiv r (by decide) (by decide))) rfl (bin_mod _ (by decide)))
  have s0 : ∀ a, exS G m (.ite (.cmp .lt (.loc 1) (.int 4)) a []) (gS r k none none) σ = some (.next, gS r k none none, σ) := fun a => ite_of (cmp_of (σ1 := σ) (va := .int k) (vb := .int 4) rfl rfl hk) rfl
  refine runB_ret rfl (exB_next' s1 (exB_skip (s0 _) (exB_skip (no_eq h4) (exB_skip (no_eq h5) (exB_next' s2 (exB_next' s3 (exB_ret' (ret_of ?_))))))))
  rw [ev_tup, evs_cons, show ev G (gS r k (some (.int bits)) (some (.list (signsV (chosenL bits 0 sgns))))) σ (.loc 3) = some (.list (signsV (chosenL bits 0 sgns)), σ) from rfl]
  show Option.map _ (Option.map _ (evs G _ _ _)) = _
  rw [evs_cons, hg]; rfl
theorem run_group (T : Tabs G) (r : Int) : ∃ (L : List Nat) (g : V), (∀ ch, inV (.str [ch]) g = some (decide (ch ∈ L))) ∧ ∀ (σ : St) (m : Nat), runB G m 1 5 b_law_group [.int r] σ = some (.tup [.list (signsV L), g], σ) := by
  have s1 : ∀ (σ : St) (m : Nat), exS G m (.set 1 (.bin .mod (.loc 0) (.int 8))) [some (.int r), none, none, none, none, none] σ = some (.next, gS r (r.fmod 8) none none, σ) := fun σ m => xset_of (bin_of (σ1 := σ) (va := .int r) (vb := .int 8) rfl rfl (bin_mod r (by decide)))
  obtain ⟨k0, k8⟩ := fmod_lt r (b := 8) (by decide)
  generalize r.fmod 8 = k at s1 k0 k8
  have ls : (chosenL ((r.fdiv 8).fmod 131072) 0 sgns).length ≤ 17 := chosenL_len _ _ _
  by_cases q6 : k = 6
  · subst q6
    exact ⟨_, setOf _, fun ch => in_set ch _, fun σ m => group_more T r 6 _ (by decide) (by decide) rfl rfl (s1 σ m) (ife_of (t := true) (σ' := σ) rfl (by
      show Option.map _ (setV _) = _
      rw [set_signs _ (Nat.le_trans ls (by decide))]; rfl))⟩
  by_cases q7 : k = 7
  · subst q7
    exact ⟨_, .str _, fun ch => in_str ch _, fun σ m => group_more T r 7 _ (by decide) (by decide) rfl rfl (s1 σ m) (ife_of (t := false) (σ' := σ) rfl (by
      show Option.map _ (smV _ _ _) = _
      rw [join_signs _ (Nat.le_trans ls (by decide))]; rfl))⟩
  obtain ⟨n0, g0⟩ := T.g0
  obtain ⟨n1, g1⟩ := T.g1
  obtain ⟨a0, b0, d0, c0⟩ := T.c0
  obtain ⟨a1, b1, d1, c1⟩ := T.c1
  obtain ⟨a2, b2, d2, c2⟩ := T.c2
  obtain ⟨a3, b3, d3, c3⟩ := T.c3
  clear T ls
  obtain ⟨⟨an, gls, fns, mt, cl, cat, cs, ats⟩, Φ, Ψ⟩ := G
  obtain ⟨gr, rfl⟩ := forget3 g0 g1
  obtain ⟨cr, rfl⟩ := forget4 c0 c1 c2 c3
  clear g0 g1 c0 c1 c2 c3
  have hk' : k = 0 ∨ k = 1 ∨ k = 2 ∨ k = 3 ∨ k = 4 ∨ k = 5 := by clear s1; omega
  rcases hk' with rfl | rfl | rfl | rfl | rfl | rfl
  · exact ⟨own0, setOf own0, fun ch => in_set ch own0, fun σ m => runB_ret rfl (exB_next' (s1 σ m) (exB_ret' (ite_of (t := true) (σ' := σ) rfl (exB_ret' rfl))))⟩
  · exact ⟨own1, setOf own1, fun ch => in_set ch own1, fun σ m => runB_ret rfl (exB_next' (s1 σ m) (exB_ret' (ite_of (t := true) (σ' := σ) rfl (exB_ret' rfl))))⟩
  · exact ⟨own2, .str own2, fun ch => in_str ch own2, fun σ m => runB_ret rfl (exB_next' (s1 σ m) (exB_ret' (ite_of (t := true) (σ' := σ) rfl (exB_ret' rfl))))⟩
  · exact ⟨own3, setOf own3, fun ch => in_set ch own3, fun σ m => runB_ret rfl (exB_next' (s1 σ m) (exB_ret' (ite_of (t := true) (σ' := σ) rfl (exB_ret' rfl))))⟩
  · exact ⟨sgns, .str sgns, fun ch => in_str ch sgns, fun σ m => runB_ret rfl (exB_next' (s1 σ m) (exB_skip rfl (exB_ret' (ite_of (t := true) (σ' := σ) rfl (exB_ret' rfl)))))⟩
  · exact ⟨sgns, setOf sgns, fun ch => in_set ch sgns, fun σ m => runB_ret rfl (exB_next' (s1 σ m) (exB_skip rfl (exB_skip rfl (exB_ret' (ite_of (t := true) (σ' := σ) rfl (exB_ret' rfl))))))⟩
end
end Mine
end

section
open PySem PySem.W PyProof.Rows
set_option Elab.async false
set_option maxRecDepth 1000000
namespace Mine
/-- the attributes' names, and names for all the rest -/
noncomputable def anF (i : Nat) : Str := if i < 19 then anames.getD i "?" else txt (List.replicate i 63)
/-- the tables of 01, as the top leaves them -/
noncomputable def P1 : Pg where
  an := anF
  gls := [("_law_signs", .list (signsV sgns)), ("_law_own", .list [.list (signsV own0), .list (signsV own1), .list (signsV own2), .list (signsV own3)]), ("bool", .g (.type "bool"))]
  fns := ["_law_group", "_law_text", "_law_mirrored", "_law_one", "_law_go", "_law_equal", "_law_asked", "_law_shown", "law"]
  mt := [(199, 6, 16), (199, 7, 17), (199, 8, 18), (199, 9, 19), (199, 10, 20), (199, 11, 21), (199, 12, 22), (199, 13, 23), (199, 14, 24), (199, 15, 25), (199, 16, 26), (199, 17, 27), (199, 18, 28)]
  cl := [("BaseStemmer", 199, 29)]
  cat := [("EnglishStemmer", 706, "g_v", setOf own0), ("EnglishStemmer", 706, "g_v_WXY", setOf own1), ("EnglishStemmer", 706, "g_aeo", .str own2), ("EnglishStemmer", 706, "g_valid_LI", setOf own3)]
  cs := [199]
  ats := [0, 1, 2, 3, 4, 5]
noncomputable def chk1 (d : Option (Arguments × List Stmt × Scope)) (vars : List Str) (nv : Nat) (body : List S) : Bool :=
  match d with
  | some (a, b, sc) => okFn P1 a.args vars sc nv body b
  | none => false
theorem k1_init : chk1 (meth "__init__") v_init 0 b_init = true := by decide +kernel
theorem k1_set_current : chk1 (meth "set_current") v_set_current 0 b_set_current = true := by decide +kernel
theorem k1_get_current : chk1 (meth "get_current") v_get_current 0 b_get_current = true := by decide +kernel
theorem k1_copy_from : chk1 (meth "copy_from") v_copy_from 0 b_copy_from = true := by decide +kernel
theorem k1_in_grouping : chk1 (meth "in_grouping") v_in_grouping 0 b_in_grouping = true := by decide +kernel
theorem k1_go_in_grouping : chk1 (meth "go_in_grouping") v_go_in_grouping 0 b_go_in_grouping = true := by decide +kernel
theorem k1_in_grouping_b : chk1 (meth "in_grouping_b") v_in_grouping_b 0 b_in_grouping_b = true := by decide +kernel
theorem k1_go_in_grouping_b : chk1 (meth "go_in_grouping_b") v_go_in_grouping_b 0 b_go_in_grouping_b = true := by decide +kernel
theorem k1_out_grouping : chk1 (meth "out_grouping") v_out_grouping 0 b_out_grouping = true := by decide +kernel
theorem k1_go_out_grouping : chk1 (meth "go_out_grouping") v_go_out_grouping 0 b_go_out_grouping = true := by decide +kernel
theorem k1_out_grouping_b : chk1 (meth "out_grouping_b") v_out_grouping_b 0 b_out_grouping_b = true := by decide +kernel
theorem k1_go_out_grouping_b : chk1 (meth "go_out_grouping_b") v_go_out_grouping_b 0 b_go_out_grouping_b = true := by decide +kernel
theorem k1_eq_s : chk1 (meth "eq_s") v_eq_s 0 b_eq_s = true := by decide +kernel
theorem k1_eq_s_b : chk1 (meth "eq_s_b") v_eq_s_b 0 b_eq_s_b = true := by decide +kernel
theorem k1_law_group : chk1 (fn "_law_group") v_law_group 5 b_law_group = true := by decide +kernel
theorem k1_law_text : chk1 (fn "_law_text") v_law_text 4 b_law_text = true := by decide +kernel
theorem k1_law_mirrored : chk1 (fn "_law_mirrored") v_law_mirrored 1 b_law_mirrored = true := by decide +kernel
theorem k1_law_one : chk1 (fn "_law_one") v_law_one 0 b_law_one = true := by decide +kernel
theorem k1_law_go : chk1 (fn "_law_go") v_law_go 3 b_law_go = true := by decide +kernel
theorem k1_law_equal : chk1 (fn "_law_equal") v_law_equal 1 b_law_equal = true := by decide +kernel
theorem k1_law_asked : chk1 (fn "_law_asked") v_law_asked 0 b_law_asked = true := by decide +kernel
theorem k1_law_shown : chk1 (fn "_law_shown") v_law_shown 0 b_law_shown = true := by decide +kernel
theorem k1_law : chk1 (fn "law") v_law 26 b_law = true := by decide +kernel

open Classical in
/-- what a body without stores computes -/
noncomputable def pureM (G : Sg) (m k nv : Nat) (body : List S) : List V → Option V := fun xs =>
  if h : ∃ r, ∀ σ, runB G m k nv body xs σ = some (r, σ) then some h.choose else none
theorem pureM_run {G : Sg} {m k nv : Nat} {body : List S} {xs : List V} {r : V} (σ : St) (h : pureM G m k nv body xs = some r) : runB G m k nv body xs σ = some (r, σ) := by
  unfold pureM at h
  split at h
  · rename_i q; cases h; exact q.choose_spec σ
  · cases h
theorem pureM_of {G : Sg} {m k nv : Nat} {body : List S} {xs : List V} {r : V} (h : ∀ σ, runB G m k nv body xs σ = some (r, σ)) : pureM G m k nv body xs = some r := by
  unfold pureM
  have q : ∃ r, ∀ σ, runB G m k nv body xs σ = some (r, σ) := ⟨r, h⟩
  rw [dif_pos q]
  have := (q.choose_spec []).symm.trans (h [])
  simp only [Option.some.injEq, Prod.mk.injEq, and_true] at this
  rw [this]

noncomputable def fuel : Nat := 1000
noncomputable def G1 : Sg := ⟨P1, fun _ _ _ => none, fun _ _ => none⟩
noncomputable def Φ2 : Nat → Sem1 := fun f => match f with
  | 16 => runB G1 fuel 2 0 b_set_current
  | 17 => runB G1 fuel 1 0 b_get_current
  | 18 => runB G1 fuel 2 0 b_copy_from
  | 19 => runB G1 fuel 2 0 b_in_grouping
  | 20 => runB G1 fuel 2 0 b_go_in_grouping
  | 21 => runB G1 fuel 2 0 b_in_grouping_b
  | 22 => runB G1 fuel 2 0 b_go_in_grouping_b
  | 23 => runB G1 fuel 2 0 b_out_grouping
  | 24 => runB G1 fuel 2 0 b_go_out_grouping
  | 25 => runB G1 fuel 2 0 b_out_grouping_b
  | 26 => runB G1 fuel 2 0 b_go_out_grouping_b
  | 27 => runB G1 fuel 2 0 b_eq_s
  | 28 => runB G1 fuel 2 0 b_eq_s_b
  | _ => fun _ _ => none
noncomputable def Ψ2 : Nat → List V → Option V := fun f => match f with
  | 0 => pureM G1 fuel 1 5 b_law_group
  | 1 => pureM G1 fuel 4 4 b_law_text
  | 2 => pureM G1 fuel 1 1 b_law_mirrored
  | 3 => pureM G1 fuel 5 0 b_law_one
  | _ => fun _ => none
noncomputable def G2 : Sg := ⟨P1, Φ2, Ψ2⟩
noncomputable def Φ3 : Nat → Sem1 := fun f => match f with
  | 6 => runB G2 fuel 3 0 b_law_asked
  | 7 => runB G2 fuel 1 0 b_law_shown
  | 29 => runB G2 fuel 1 0 b_init
  | f => Φ2 f
noncomputable def Ψ3 : Nat → List V → Option V := fun f => match f with
  | 4 => pureM G2 fuel 5 3 b_law_go
  | 5 => pureM G2 fuel 4 1 b_law_equal
  | f => Ψ2 f
noncomputable def G3 : Sg := ⟨P1, Φ3, Ψ3⟩

noncomputable abbrev C1 : Addr := 199
theorem gok1 : GOk G1 C1 := by constructor <;> decide
theorem gok2 : GOk G2 C1 := by constructor <;> decide
theorem gok3 : GOk G3 C1 := by constructor <;> decide
theorem tabsOf {G : Sg} (h : G.P = P1) : Tabs G := by
  constructor <;> rw [h]
  · exact ⟨_, rfl⟩
  · exact ⟨_, rfl⟩
  · exact ⟨_, rfl⟩
  · exact ⟨_, _, _, rfl⟩
  · exact ⟨_, _, _, rfl⟩
  · exact ⟨_, _, _, rfl⟩
  · exact ⟨_, _, _, rfl⟩
theorem meth_of : P1.meth C1 6 = some 16 ∧ P1.meth C1 7 = some 17 ∧ P1.meth C1 8 = some 18 ∧ P1.meth C1 9 = some 19 ∧ P1.meth C1 10 = some 20 ∧ P1.meth C1 11 = some 21 ∧ P1.meth C1 12 = some 22 ∧ P1.meth C1 13 = some 23 ∧ P1.meth C1 14 = some 24 ∧ P1.meth C1 15 = some 25 ∧ P1.meth C1 16 = some 26 ∧ P1.meth C1 17 = some 27 ∧ P1.meth C1 18 = some 28 := by decide
end Mine
end

section
open PySem PySem.W PyProof.Rows
set_option Elab.async false
set_option maxRecDepth 100000
namespace Mine

/-- how far a run over the signs goes: was there a stop, and how many are left -/
noncomputable def goR (q : Nat → Bool) (bar : Nat) : List Nat → Bool × Nat
  | [] => (false, 0)
  | x :: r => if r.length + 1 ≤ bar then (false, r.length + 1) else if q x then (true, r.length + 1) else goR q bar r
theorem goR_cons (q : Nat → Bool) (bar x : Nat) (r : List Nat) : goR q bar (x :: r) = if r.length + 1 ≤ bar then (false, r.length + 1) else if q x then (true, r.length + 1) else goR q bar r := rfl
theorem goR_le (q : Nat → Bool) (bar : Nat) : ∀ l : List Nat, (goR q bar l).2 ≤ l.length
  | [] => Nat.le_refl _
  | x :: r => by
    have := goR_le q bar r
    unfold goR
    split
    · simp
    · split <;> simp only [List.length_cons] <;> omega
theorem goR_min (q : Nat → Bool) (bar : Nat) : ∀ l : List Nat, (goR q bar l).1 = false → (goR q bar l).2 = min bar l.length
  | [], _ => by simp [goR]
  | x :: r, h => by
    have i := goR_min q bar r
    unfold goR at h ⊢
    split
    · simp only [List.length_cons]; omega
    · rename_i n1
      rw [if_neg n1] at h
      split
      · rename_i q1; rw [if_pos q1] at h; cases h
      · rename_i q1
        rw [if_neg q1] at h
        rw [i h, List.length_cons]; omega

theorem stopsAt_snoc (near : List Nat) (x bar : Nat) (p : Nat → Bool) (h : bar ≤ near.length) : stopsAt (near ++ [x]) (bar : Int) p = stopsAt near (bar : Int) p ++ (if p x then [.int (near.length : Int)] else []) := by
  unfold stopsAt
  have e : (((near ++ [x]).length : Int) - (bar : Int)).toNat = ((near.length : Int) - (bar : Int)).toNat + 1 := by
    simp only [List.length_append, List.length_singleton]; omega
  rw [e, List.range_succ, List.map_append, List.filter_append]
  congr 1
  · refine List.filter_congr fun v hv => ?_
    obtain ⟨i, hi, rfl⟩ := List.mem_map.mp hv
    have := List.mem_range.mp hi
    have u : unI (V.int ((bar : Int) + (i : Int) * 1)) = bar + i := by simp only [unI]; omega
    rw [u]
    congr 1
    rw [List.getD_eq_getElem?_getD, List.getD_eq_getElem?_getD, List.getElem?_append_left (by omega)]
  · have u : (bar : Int) + ((((near.length : Int) - (bar : Int)).toNat : Nat) : Int) * 1 = (near.length : Int) := by omega
    simp only [List.map_cons, List.map_nil, u]
    have v : unI (V.int (near.length : Int)) = near.length := rfl
    simp only [List.filter_cons, List.filter_nil, v]
    have : (near ++ [x]).getD near.length 0 = x := by simp [List.getD_eq_getElem?_getD]
    rw [this]
theorem stopsAt_none (near : List Nat) (bar : Nat) (p : Nat → Bool) (h : near.length ≤ bar) : stopsAt near (bar : Int) p = [] := by
  unfold stopsAt
  rw [show ((near.length : Int) - (bar : Int)).toNat = 0 by omega]; rfl
theorem stopsAt_ints (near : List Nat) (bar : Nat) (p : Nat → Bool) : (stopsAt near (bar : Int) p).all plainV = true := by
  rw [List.all_eq_true]
  intro v hv
  unfold stopsAt at hv
  obtain ⟨i, _, rfl⟩ := List.mem_map.mp (List.mem_filter.mp hv).1
  rfl

theorem stops_go (p : Nat → Bool) (bar : Nat) : ∀ l : List Nat, ((goR p bar l).1 = false → stopsAt l.reverse (bar : Int) p = []) ∧ ((goR p bar l).1 = true → ∃ r, stopsAt l.reverse (bar : Int) p = r ++ [.int (((goR p bar l).2 : Int) - 1)])
  | [] => ⟨fun _ => stopsAt_none _ _ _ (by simp), fun h => by simp [goR] at h⟩
  | x :: r => by
    have i := stops_go p bar r
    unfold goR
    by_cases h1 : r.length + 1 ≤ bar
    · rw [if_pos h1]
      exact ⟨fun _ => stopsAt_none _ _ _ (by simpa using h1), fun h => by cases h⟩
    · rw [if_neg h1, List.reverse_cons]
      have e := stopsAt_snoc r.reverse x bar p (by simp; omega)
      by_cases h2 : p x
      · rw [if_pos h2] at e ⊢
        refine ⟨(fun h => by cases h), fun _ => ⟨stopsAt r.reverse (bar : Int) p, e.trans ?_⟩⟩
        congr 3
        simp
      · rw [if_neg h2] at e ⊢
        rw [List.append_nil] at e
        rw [e]
        exact i
theorem cmp_ne_nil {L : List V} (h : L.all plainV = true) : cmpV .ne (.list L) (.list []) = some (!L.isEmpty) := by
  simp only [cmpV, int2, eqL, h, List.all_nil, Bool.and_self, if_true, int1]
  cases L <;> rfl

/-- `_law_go` in short -/
theorem run_goR {G : Sg} {σ : St} {m : Nat} (l far : List Nat) (ch : V) (bar : Nat) (ins : Bool) (L : List Nat) (hl : l.length ≤ 1000) (hb : bar ≤ 1000) (hp : ∀ c, inV (.str [c]) ch = some (decide (c ∈ L))) (hm : ∀ l : List Nat, l.length ≤ 1000 → G.Ψ 2 [.list (signsV l)] = some (.list (signsV l.reverse))) (hf : far.length ≤ 1000) :
    runB G m 5 3 b_law_go [.list (signsV l.reverse), .list (signsV far), .int (bar : Int), ch, .bool ins] σ =
      some (.tup [.bool (goR (fun c => decide (c ∈ L) != ins) bar l).1, .list (signsV (l.reverse.take (goR (fun c => decide (c ∈ L) != ins) bar l).2)), .list (signsV (far ++ (l.reverse.drop (goR (fun c => decide (c ∈ L) != ins) bar l).2).reverse))], σ) := by
  have s := stops_go (fun c => decide (c ∈ L) != ins) bar l
  have le := goR_le (fun c => decide (c ∈ L) != ins) bar l
  have mn := goR_min (fun c => decide (c ∈ L) != ins) bar l
  have al := stopsAt_ints l.reverse bar (fun c => decide (c ∈ L) != ins)
  generalize goR (fun c => decide (c ∈ L) != ins) bar l = z at s le mn ⊢
  obtain ⟨b, kp⟩ := z
  dsimp only at s le mn ⊢
  refine run_go (m := m) l.reverse far ch (bar : Int) ins (fun c => decide (c ∈ L)) (by omega) (by omega) (by simp; omega) (fun c _ => hp c) (fun l' h' => hm l' (by simp at h'; omega)) (by simp [big]; omega) _ rfl b kp (by simpa using le) ?_ ?_
  · rw [cmp_ne_nil al]
    cases b with
    | false => rw [s.1 rfl]; rfl
    | true => obtain ⟨r, e⟩ := s.2 rfl; rw [e]; cases r <;> rfl
  · cases b with
    | false =>
      have := mn rfl
      simp only [Bool.false_eq_true, if_false, List.length_reverse]
      congr 2; omega
    | true =>
      obtain ⟨r, e⟩ := s.2 rfl
      rw [if_pos rfl, e, idx_last]

/-- the loop upwards in short -/
theorem scanUp_goR (w : List Nat) (q : Nat → Bool) (bar : Nat) (hb : bar ≤ w.length) : ∀ (n c : Nat), c ≤ w.length → w.length - bar - c ≤ n →
    scanUp w q ((w.length : Int) - (bar : Int)) n (c : Int) = ((goR q bar (w.drop c)).1, (w.length : Int) - ((goR q bar (w.drop c)).2 : Int))
  | 0, c, hc, hn => by
    have e : (goR q bar (w.drop c)) = (false, (w.drop c).length) := by
      cases hd : w.drop c with
      | nil => rfl
      | cons x r =>
        have : (w.drop c).length = r.length + 1 := by rw [hd]; rfl
        rw [List.length_drop] at this
        unfold goR
        rw [if_pos (by omega)]; rfl
    rw [e]
    simp only [scanUp, List.length_drop]
    congr 1; omega
  | n + 1, c, hc, hn => by
    unfold scanUp
    by_cases h : (c : Int) < (w.length : Int) - (bar : Int)
    · rw [if_pos h]
      have lt : c < w.length := by omega
      have hd := List.drop_eq_getElem_cons lt
      have e1 : ((c : Int)).toNat = c := by omega
      rw [e1, List.getElem?_eq_getElem lt, Option.any_some, hd]
      have i := scanUp_goR w q bar hb n (c + 1) (by omega) (by omega)
      rw [goR_cons, if_neg (show ¬ (w.drop (c + 1)).length + 1 ≤ bar by rw [List.length_drop]; omega)]
      by_cases hq : q w[c]
      · rw [if_pos hq, if_pos hq]
        simp only [List.length_drop]
        congr 1; omega
      · rw [if_neg hq, if_neg hq, ← i]; rfl
    · rw [if_neg h]
      have e : (goR q bar (w.drop c)) = (false, (w.drop c).length) := by
        cases hd : w.drop c with
        | nil => rfl
        | cons x r =>
          have : (w.drop c).length = r.length + 1 := by rw [hd]; rfl
          rw [List.length_drop] at this
          unfold goR
          rw [if_pos (by omega)]; rfl
      rw [e]
      simp only [List.length_drop]
      congr 1; omega
theorem take_rev_cons {w : List Nat} {c : Nat} (h : c < w.length) : (w.take (c + 1)).reverse = w[c] :: (w.take c).reverse := by
  rw [List.take_succ_eq_append_getElem h, List.reverse_append]; rfl
theorem scanDown_goR (w : List Nat) (q : Nat → Bool) (bar : Nat) : ∀ (n c : Nat), c ≤ w.length → c - bar ≤ n →
    scanDown w q (bar : Int) n (c : Int) = ((goR q bar (w.take c).reverse).1, ((goR q bar (w.take c).reverse).2 : Int))
  | 0, c, hc, hn => by
    have e : (goR q bar (w.take c).reverse) = (false, c) := by
      cases c with
      | zero => simp [goR]
      | succ c =>
        rw [take_rev_cons (by omega)]
        unfold goR
        rw [if_pos (by simp; omega)]; simp; omega
    rw [e]; rfl
  | n + 1, c, hc, hn => by
    unfold scanDown
    by_cases h : (c : Int) > (bar : Int)
    · rw [if_pos h]
      obtain ⟨c', rfl⟩ : ∃ c', c = c' + 1 := ⟨c - 1, by omega⟩
      have lt : c' < w.length := by omega
      have i := scanDown_goR w q bar n c' (by omega) (by omega)
      have e1 : (((c' + 1 : Nat) : Int) - 1).toNat = c' := by omega
      have e2 : ((c' + 1 : Nat) : Int) - 1 = (c' : Int) := by omega
      rw [e1, List.getElem?_eq_getElem lt, Option.any_some, take_rev_cons lt, e2]
      have hl : (w.take c').reverse.length = c' := by simp; omega
      rw [goR_cons, if_neg (show ¬ (w.take c').reverse.length + 1 ≤ bar by rw [hl]; omega)]
      by_cases hq : q w[c']
      · rw [if_pos hq, if_pos hq, hl]
      · rw [if_neg hq, if_neg hq, ← i]
    · rw [if_neg h]
      have e : (goR q bar (w.take c).reverse) = (false, c) := by
        cases c with
        | zero => simp [goR]
        | succ c =>
          rw [take_rev_cons (by omega)]
          unfold goR
          rw [if_pos (by simp; omega)]; simp; omega
      rw [e]
end Mine
end

section
open PySem PySem.W PyProof.Rows
set_option Elab.async false
set_option maxRecDepth 100000
namespace Mine

noncomputable abbrev upN (w : List Nat) (c : Nat) : V := .list (signsV (w.drop c).reverse)
noncomputable abbrev dnN (w : List Nat) (c : Nat) : V := .list (signsV (w.take c))
noncomputable abbrev obAt (w : List Nat) (c bt fo : Nat) (b k : Int) : Ob := .inst C1 (stF w c ((w.length : Int) - (bt : Int)) fo b k)

section
variable {σ : St} {a : Nat} {w : List Nat} {c bt fo : Nat} {b k : Int} {L : List Nat} {gv : V}

theorem meth_at {G : Sg} (hP : G.P = P1) {l lb x y z : Int} (h : σ[a]? = some (.inst C1 (stF w x l lb y z))) {m f : Nat} (hm : P1.meth C1 m = some f) (h6 : 6 ≤ m) (vs : List V) : methV G σ (.obj a) m vs = G.Φ f (.obj a :: vs) σ := by
  have : getF (stF w x l lb y z) m = none := by
    simp only [getF, stF, List.find?_cons, List.find?_nil]
    have n : ∀ i : Nat, i < 6 → (i == m) = false := fun i hi => beq_eq_false_iff_ne.mpr (by omega)
    simp [n 0 (by decide), n 1 (by decide), n 2 (by decide), n 3 (by decide), n 4 (by decide), n 5 (by decide)]
  simp only [methV, h, this, Option.isNone_none, if_true, hP, hm, Option.bind_some]

theorem mirL2 (l : List Nat) (h : l.length ≤ 1000) : G2.Ψ 2 [.list (signsV l)] = some (.list (signsV l.reverse)) := by
  refine pureM_of fun σ => ?_
  have := run_mirrored_list (G := G1) (σ := σ) (m := fuel) (signsV l) (by simp [signsV]; omega)
  rw [this, signs_rev]
theorem mirL3 (l : List Nat) (h : l.length ≤ 1000) : G3.Ψ 2 [.list (signsV l)] = some (.list (signsV l.reverse)) := mirL2 l h
theorem mirS3 (l : List Nat) (h : l.length ≤ 1000) : G3.Ψ 2 [.str l] = some (.list (signsV l.reverse)) := by
  refine pureM_of fun σ => ?_
  have := run_mirrored_str (G := G1) (σ := σ) (m := fuel) l (by omega)
  rw [this, signs_rev]

theorem drop_rev {i : Nat} (h : i < w.length) : (w.drop i).reverse = (w.drop (i + 1)).reverse ++ [w[i]] := by
  rw [List.drop_eq_getElem_cons h, List.reverse_cons]
theorem snoc_V (l : List Nat) (x : Nat) : signsV (l ++ [x]) = signsV l ++ [.str [x]] := by simp [signsV]

theorem one_up (hL : ∀ ch, inV (.str [ch]) (.list (signsV L)) = some (decide (ch ∈ L))) (hc : c ≤ w.length) (hw : w.length ≤ 100) (ins : Bool) :
    G3.Ψ 3 [upN w c, dnN w c, .int (bt : Int), .list (signsV L), .bool ins] = some (if (c : Int) < (w.length : Int) - (bt : Int) ∧ (w[c]?).any (fun ch => decide (ch ∈ L) == ins) then .tup [.bool true, upN w (c + 1), dnN w (c + 1)] else .tup [.bool false, upN w c, dnN w c]) := by
  refine pureM_of fun σ => ?_
  by_cases h : (c : Int) < (w.length : Int) - (bt : Int)
  · have lt : c < w.length := by omega
    rw [List.getElem?_eq_getElem lt, Option.any_some]
    unfold upN
    rw [drop_rev lt, snoc_V]
    by_cases q : decide (w[c] ∈ L) = ins
    · rw [if_pos ⟨h, by rw [q]; simp⟩]
      have := run_one_yes (G := G1) (σ := σ) (m := fuel) (signsV (w.drop (c + 1)).reverse) (signsV (w.take c)) (bt : Int) (.list (signsV L)) (.str [w[c]]) ins (by simp [signsV]; omega) (by rw [hL, q]) (by simp [signsV, big]; omega)
      rw [this, ← snoc_V, List.take_append_getElem lt]
    · rw [if_neg (fun z => q (by simpa using z.2))]
      have := run_one_not (G := G1) (σ := σ) (m := fuel) (signsV (w.drop (c + 1)).reverse) (signsV (w.take c)) (bt : Int) (.list (signsV L)) (.str [w[c]]) ins _ (by simp [signsV]; omega) (hL w[c]) q
      rw [this]
  · rw [if_neg (fun z => h z.1)]
    exact run_one_low (G := G1) (σ := σ) (m := fuel) _ _ _ _ _ (by simp [signsV]; omega)
theorem one_down (hL : ∀ ch, inV (.str [ch]) (.list (signsV L)) = some (decide (ch ∈ L))) (hc : c ≤ w.length) (hw : w.length ≤ 100) (ins : Bool) :
    G3.Ψ 3 [dnN w c, upN w c, .int (fo : Int), .list (signsV L), .bool ins] = some (if fo < c ∧ (w[c - 1]?).any (fun ch => decide (ch ∈ L) == ins) then .tup [.bool true, dnN w (c - 1), upN w (c - 1)] else .tup [.bool false, dnN w c, upN w c]) := by
  refine pureM_of fun σ => ?_
  by_cases h : fo < c
  · obtain ⟨c, rfl⟩ : ∃ c', c = c' + 1 := ⟨c - 1, by omega⟩
    have lt : c < w.length := by omega
    rw [show c + 1 - 1 = c by omega, List.getElem?_eq_getElem lt, Option.any_some]
    unfold dnN upN
    rw [← List.take_append_getElem lt, snoc_V, drop_rev lt]
    by_cases q : decide (w[c] ∈ L) = ins
    · rw [if_pos ⟨h, by rw [q]; simp⟩]
      have := run_one_yes (G := G1) (σ := σ) (m := fuel) (signsV (w.take c)) (signsV (w.drop (c + 1)).reverse) (fo : Int) (.list (signsV L)) (.str [w[c]]) ins (by simp [signsV]; omega) (by rw [hL, q]) (by simp [signsV, big]; omega)
      rw [this, ← snoc_V]
    · rw [if_neg (fun z => q (by simpa using z.2))]
      have := run_one_not (G := G1) (σ := σ) (m := fuel) (signsV (w.take c)) (signsV (w.drop (c + 1)).reverse) (fo : Int) (.list (signsV L)) (.str [w[c]]) ins _ (by simp [signsV]; omega) (hL w[c]) q
      rw [this]
  · rw [if_neg (fun z => h z.1)]
    exact run_one_low (G := G1) (σ := σ) (m := fuel) _ _ _ _ _ (by simp [signsV]; omega)

theorem ask0 (h : σ[a]? = some (obAt w c bt fo b k)) (hg : ∀ ch, inV (.str [ch]) gv = some (decide (ch ∈ L))) (hc : c ≤ w.length) :
    G3.Φ 6 [.obj a, .int 0, gv] σ = some (if (c : Int) < (w.length : Int) - (bt : Int) ∧ (w[c]?).any (fun ch => decide (ch ∈ L) == true) then (.bool true, σ.set a (obAt w (c + 1) bt fo b k)) else (.bool false, σ)) := by
  have := run_in_grouping (m := fuel) gok1 h (gr := gv) (mem := fun ch => decide (ch ∈ L)) hg (by omega) (by omega)
  have e : ∀ p, methV G2 σ (.obj a) 9 [gv] = some p → G3.Φ 6 [.obj a, .int 0, gv] σ = some p := fun ⟨r, s⟩ hp => run_asked_0 (G := G2) (m := fuel) gv r hp
  refine (e _ ((meth_at (G := G2) rfl h (m := 9) meth_of.2.2.2.1 (by decide) [gv]).trans this)).trans ?_
  simp
  rfl
theorem ask1 (h : σ[a]? = some (obAt w c bt fo b k)) (hg : ∀ ch, inV (.str [ch]) gv = some (decide (ch ∈ L))) (hc : c ≤ w.length) :
    G3.Φ 6 [.obj a, .int 1, gv] σ = some (if (c : Int) < (w.length : Int) - (bt : Int) ∧ (w[c]?).any (fun ch => decide (ch ∈ L) == false) then (.bool true, σ.set a (obAt w (c + 1) bt fo b k)) else (.bool false, σ)) := by
  have := run_out_grouping (m := fuel) gok1 h (gr := gv) (mem := fun ch => decide (ch ∈ L)) hg (by omega) (by omega)
  have e : ∀ p, methV G2 σ (.obj a) 13 [gv] = some p → G3.Φ 6 [.obj a, .int 1, gv] σ = some p := fun ⟨r, s⟩ hp => run_asked_1 (G := G2) (m := fuel) gv r hp
  refine (e _ ((meth_at (G := G2) rfl h (m := 13) meth_of.2.2.2.2.2.2.2.1 (by decide) [gv]).trans this)).trans ?_
  simp
  rfl
theorem ask4 (h : σ[a]? = some (obAt w c bt fo b k)) (hg : ∀ ch, inV (.str [ch]) gv = some (decide (ch ∈ L))) (hc : c ≤ w.length) :
    G3.Φ 6 [.obj a, .int 4, gv] σ = some (if fo < c ∧ (w[c - 1]?).any (fun ch => decide (ch ∈ L) == true) then (.bool true, σ.set a (obAt w (c - 1) bt fo b k)) else (.bool false, σ)) := by
  have := run_in_grouping_b (m := fuel) gok1 h (gr := gv) (mem := fun ch => decide (ch ∈ L)) hg (by omega) (by omega)
  have e : ∀ p, methV G2 σ (.obj a) 11 [gv] = some p → G3.Φ 6 [.obj a, .int 4, gv] σ = some p := fun ⟨r, s⟩ hp => run_asked_4 (G := G2) (m := fuel) gv r hp
  refine (e _ ((meth_at (G := G2) rfl h (m := 11) meth_of.2.2.2.2.2.1 (by decide) [gv]).trans this)).trans ?_
  by_cases q : fo < c
  · have e1 : ((c : Int) - 1).toNat = c - 1 := by omega
    have e2 : ((c : Int) - 1) = ((c - 1 : Nat) : Int) := by omega
    simp [q, e1, e2]
  · simp [q]
theorem ask5 (h : σ[a]? = some (obAt w c bt fo b k)) (hg : ∀ ch, inV (.str [ch]) gv = some (decide (ch ∈ L))) (hc : c ≤ w.length) :
    G3.Φ 6 [.obj a, .int 5, gv] σ = some (if fo < c ∧ (w[c - 1]?).any (fun ch => decide (ch ∈ L) == false) then (.bool true, σ.set a (obAt w (c - 1) bt fo b k)) else (.bool false, σ)) := by
  have := run_out_grouping_b (m := fuel) gok1 h (gr := gv) (mem := fun ch => decide (ch ∈ L)) hg (by omega) (by omega)
  have e : ∀ p, methV G2 σ (.obj a) 15 [gv] = some p → G3.Φ 6 [.obj a, .int 5, gv] σ = some p := fun ⟨r, s⟩ hp => run_asked_5 (G := G2) (m := fuel) gv r hp
  refine (e _ ((meth_at (G := G2) rfl h (m := 15) meth_of.2.2.2.2.2.2.2.2.2.1 (by decide) [gv]).trans this)).trans ?_
  by_cases q : fo < c
  · have e1 : ((c : Int) - 1).toNat = c - 1 := by omega
    have e2 : ((c : Int) - 1) = ((c - 1 : Nat) : Int) := by omega
    simp [q, e1, e2]
  · simp [q]

/-- what a deed of the kinds 0 to 9 leaves -/
noncomputable def Deed (σ : St) (a : Nat) (w : List Nat) (c bt fo : Nat) (b k : Int) (kind : Int) (onward : Bool) (fn : Nat) (x y gv : V) : Prop :=
  ∃ (due : Bool) (c' : Nat), c' ≤ w.length ∧
    G3.Ψ fn [if onward then upN w c else dnN w c, if onward then dnN w c else upN w c, .int (if onward then (bt : Int) else (fo : Int)), x, y] = some (.tup [.bool due, if onward then upN w c' else dnN w c', if onward then dnN w c' else upN w c']) ∧
    G3.Φ 6 [.obj a, .int kind, gv] σ = some (.bool due, σ.set a (obAt w c' bt fo b k))

theorem deed0 (h : σ[a]? = some (obAt w c bt fo b k)) (hg : ∀ ch, inV (.str [ch]) gv = some (decide (ch ∈ L))) (hc : c ≤ w.length) (hw : w.length ≤ 100) : Deed σ a w c bt fo b k 0 true 3 (.list (signsV L)) (.bool true) gv := by
  have e := one_up (bt := bt) (fun ch => in_list ch L) hc hw true
  have f := ask0 h hg hc
  unfold Deed
  simp only [if_true]
  rw [e, f]
  by_cases q : (c : Int) < (w.length : Int) - (bt : Int) ∧ (w[c]?).any (fun ch => decide (ch ∈ L) == true)
  · exact ⟨true, c + 1, by omega, by rw [if_pos q], by rw [if_pos q]⟩
  · exact ⟨false, c, hc, by rw [if_neg q], by rw [if_neg q, set_same h]⟩
theorem deed1 (h : σ[a]? = some (obAt w c bt fo b k)) (hg : ∀ ch, inV (.str [ch]) gv = some (decide (ch ∈ L))) (hc : c ≤ w.length) (hw : w.length ≤ 100) : Deed σ a w c bt fo b k 1 true 3 (.list (signsV L)) (.bool false) gv := by
  have e := one_up (bt := bt) (fun ch => in_list ch L) hc hw false
  have f := ask1 h hg hc
  unfold Deed
  simp only [if_true]
  rw [e, f]
  by_cases q : (c : Int) < (w.length : Int) - (bt : Int) ∧ (w[c]?).any (fun ch => decide (ch ∈ L) == false)
  · exact ⟨true, c + 1, by omega, by rw [if_pos q], by rw [if_pos q]⟩
  · exact ⟨false, c, hc, by rw [if_neg q], by rw [if_neg q, set_same h]⟩
theorem deed4 (h : σ[a]? = some (obAt w c bt fo b k)) (hg : ∀ ch, inV (.str [ch]) gv = some (decide (ch ∈ L))) (hc : c ≤ w.length) (hw : w.length ≤ 100) : Deed σ a w c bt fo b k 4 false 3 (.list (signsV L)) (.bool true) gv := by
  have e := one_down (fo := fo) (fun ch => in_list ch L) hc hw true
  have f := ask4 h hg hc
  unfold Deed
  simp only [Bool.false_eq_true, if_false]
  rw [e, f]
  by_cases q : fo < c ∧ (w[c - 1]?).any (fun ch => decide (ch ∈ L) == true)
  · exact ⟨true, c - 1, by omega, by rw [if_pos q], by rw [if_pos q]⟩
  · exact ⟨false, c, hc, by rw [if_neg q], by rw [if_neg q, set_same h]⟩
theorem deed5 (h : σ[a]? = some (obAt w c bt fo b k)) (hg : ∀ ch, inV (.str [ch]) gv = some (decide (ch ∈ L))) (hc : c ≤ w.length) (hw : w.length ≤ 100) : Deed σ a w c bt fo b k 5 false 3 (.list (signsV L)) (.bool false) gv := by
  have e := one_down (fo := fo) (fun ch => in_list ch L) hc hw false
  have f := ask5 h hg hc
  unfold Deed
  simp only [Bool.false_eq_true, if_false]
  rw [e, f]
  by_cases q : fo < c ∧ (w[c - 1]?).any (fun ch => decide (ch ∈ L) == false)
  · exact ⟨true, c - 1, by omega, by rw [if_pos q], by rw [if_pos q]⟩
  · exact ⟨false, c, hc, by rw [if_neg q], by rw [if_neg q, set_same h]⟩
end
end Mine
end

section
open PySem PySem.W PyProof.Rows
set_option Elab.async false
set_option maxRecDepth 100000
namespace Mine
section
variable {σ : St} {a : Nat} {w : List Nat} {c bt fo : Nat} {b k : Int} {L : List Nat} {gv : V}

theorem go_law (l far : List Nat) (bar : Nat) (ins : Bool) (L : List Nat) (hl : l.length ≤ 1000) (hb : bar ≤ 1000) (hf : far.length ≤ 1000) :
    G3.Ψ 4 [.list (signsV l.reverse), .list (signsV far), .int (bar : Int), .list (signsV L), .bool ins] =
      some (.tup [.bool (goR (fun c => decide (c ∈ L) != ins) bar l).1, .list (signsV (l.reverse.take (goR (fun c => decide (c ∈ L) != ins) bar l).2)), .list (signsV (far ++ (l.reverse.drop (goR (fun c => decide (c ∈ L) != ins) bar l).2).reverse))]) :=
  pureM_of fun σ => run_goR (G := G2) l far (.list (signsV L)) bar ins L hl hb (fun ch => in_list ch L) mirL2 hf

/-- the four that go on, whatever they look for -/
theorem deed_up (h : σ[a]? = some (obAt w c bt fo b k)) (hc : c ≤ w.length) (hw : w.length ≤ 100) (hb : bt ≤ w.length) (ins : Bool) (o : Cop) (kind : Int) (hs : ∀ ch, cmpV o (.str [ch]) gv = some (decide (ch ∈ L) != ins))
    (ask : ∀ p, runB G1 fuel 2 0 [.whl (.cmp .lt (.attr (.loc 0) 1) (.attr (.loc 0) 2)) (bodyUp o), .ret (.bool false)] [.obj a, gv] σ = some p → G3.Φ 6 [.obj a, .int kind, gv] σ = some p) :
    Deed σ a w c bt fo b k kind true 4 (.list (signsV L)) (.bool ins) gv := by
  have e := go_law (w.drop c) (w.take c) bt ins L (by simp; omega) (by omega) (by simp; omega)
  have u := run_up (m := fuel) gok1 hs (by omega : (w.length : Int) - (bt : Int) ≤ w.length) h (by omega) (by simp only [fuel]; omega)
  have sc := scanUp_goR w (fun ch => decide (ch ∈ L) != ins) bt hb ((w.length : Int) - (bt : Int) - (c : Int)).toNat c hc (by omega)
  rw [sc] at u
  have le := goR_le (fun ch => decide (ch ∈ L) != ins) bt (w.drop c)
  generalize goR (fun ch => decide (ch ∈ L) != ins) bt (w.drop c) = z at e u le
  obtain ⟨d, kp⟩ := z
  dsimp only at e u le
  rw [List.length_drop] at le
  refine ⟨d, w.length - kp, by omega, ?_, ?_⟩
  · simp only [if_true]
    rw [e]
    have t1 : (w.drop c).reverse.take kp = (w.drop (w.length - kp)).reverse := by
      rw [List.take_reverse, List.length_drop, List.drop_drop]
      congr 2; omega
    have t2 : w.take c ++ ((w.drop c).reverse.drop kp).reverse = w.take (w.length - kp) := by
      rw [List.drop_reverse, List.reverse_reverse, List.length_drop]
      have : w.length - kp = c + (w.length - c - kp) := by omega
      rw [this, List.take_add]
    rw [t1, t2]
  · refine (ask _ u).trans ?_
    congr 5
    omega
theorem deed_down (h : σ[a]? = some (obAt w c bt fo b k)) (hc : c ≤ w.length) (hw : w.length ≤ 100) (hb : fo ≤ w.length) (ins : Bool) (o : Cop) (kind : Int) (hs : ∀ ch, cmpV o (.str [ch]) gv = some (decide (ch ∈ L) != ins))
    (ask : ∀ p, runB G1 fuel 2 0 [.whl (.cmp .gt (.attr (.loc 0) 1) (.attr (.loc 0) 3)) (bodyDown o), .ret (.bool false)] [.obj a, gv] σ = some p → G3.Φ 6 [.obj a, .int kind, gv] σ = some p) :
    Deed σ a w c bt fo b k kind false 4 (.list (signsV L)) (.bool ins) gv := by
  have e := go_law (w.take c).reverse (w.drop c).reverse fo ins L (by simp; omega) (by omega) (by simp; omega)
  have u := run_down (m := fuel) gok1 hs (by omega : (0 : Int) ≤ (fo : Int)) h (by omega) (by simp only [fuel]; omega)
  have sc := scanDown_goR w (fun ch => decide (ch ∈ L) != ins) fo ((c : Int) - (fo : Int)).toNat c hc (by omega)
  rw [sc] at u
  have le := goR_le (fun ch => decide (ch ∈ L) != ins) fo (w.take c).reverse
  generalize goR (fun ch => decide (ch ∈ L) != ins) fo (w.take c).reverse = z at e u le
  obtain ⟨d, kp⟩ := z
  dsimp only at e u le
  rw [List.length_reverse, List.length_take] at le
  refine ⟨d, kp, by omega, ?_, ?_⟩
  · simp only [Bool.false_eq_true, if_false]
    rw [List.reverse_reverse] at e
    rw [e]
    have t1 : (w.take c).take kp = w.take kp := by rw [List.take_take]; congr 1; omega
    have t2 : (w.drop c).reverse ++ ((w.take c).drop kp).reverse = (w.drop kp).reverse := by
      rw [← List.reverse_append]
      congr 1
      have : w.drop kp = (w.take c ++ w.drop c).drop kp := by rw [List.take_append_drop]
      rw [this, List.drop_append_of_le_length (by simp; omega)]
    rw [t1, t2]
  · exact (ask _ u)

theorem not_in (hg : ∀ ch, inV (.str [ch]) gv = some (decide (ch ∈ L))) : ∀ ch, cmpV .notin (.str [ch]) gv = some (decide (ch ∈ L) != true) := fun ch => by simp [cmpV, int2, hg ch, int1]
theorem is_in (hg : ∀ ch, inV (.str [ch]) gv = some (decide (ch ∈ L))) : ∀ ch, cmpV .isin (.str [ch]) gv = some (decide (ch ∈ L) != false) := fun ch => by simp [cmpV, int2, hg ch, int1]
theorem deed2 (h : σ[a]? = some (obAt w c bt fo b k)) (hg : ∀ ch, inV (.str [ch]) gv = some (decide (ch ∈ L))) (hc : c ≤ w.length) (hw : w.length ≤ 100) (hb : bt ≤ w.length) : Deed σ a w c bt fo b k 2 true 4 (.list (signsV L)) (.bool true) gv :=
  deed_up h hc hw hb true .notin 2 (not_in hg) fun ⟨r, s⟩ hp => run_asked_2 (G := G2) (m := fuel) gv r ((meth_at (G := G2) rfl h (m := 10) meth_of.2.2.2.2.1 (by decide) [gv]).trans hp)
theorem deed3 (h : σ[a]? = some (obAt w c bt fo b k)) (hg : ∀ ch, inV (.str [ch]) gv = some (decide (ch ∈ L))) (hc : c ≤ w.length) (hw : w.length ≤ 100) (hb : bt ≤ w.length) : Deed σ a w c bt fo b k 3 true 4 (.list (signsV L)) (.bool false) gv :=
  deed_up h hc hw hb false .isin 3 (is_in hg) fun ⟨r, s⟩ hp => run_asked_3 (G := G2) (m := fuel) gv r ((meth_at (G := G2) rfl h (m := 14) meth_of.2.2.2.2.2.2.2.2.1 (by decide) [gv]).trans hp)
theorem deed6 (h : σ[a]? = some (obAt w c bt fo b k)) (hg : ∀ ch, inV (.str [ch]) gv = some (decide (ch ∈ L))) (hc : c ≤ w.length) (hw : w.length ≤ 100) (hb : fo ≤ w.length) : Deed σ a w c bt fo b k 6 false 4 (.list (signsV L)) (.bool true) gv :=
  deed_down h hc hw hb true .notin 6 (not_in hg) fun ⟨r, s⟩ hp => run_asked_6 (G := G2) (m := fuel) gv r ((meth_at (G := G2) rfl h (m := 12) meth_of.2.2.2.2.2.2.1 (by decide) [gv]).trans hp)
theorem deed7 (h : σ[a]? = some (obAt w c bt fo b k)) (hg : ∀ ch, inV (.str [ch]) gv = some (decide (ch ∈ L))) (hc : c ≤ w.length) (hw : w.length ≤ 100) (hb : fo ≤ w.length) : Deed σ a w c bt fo b k 7 false 4 (.list (signsV L)) (.bool false) gv :=
  deed_down h hc hw hb false .isin 7 (is_in hg) fun ⟨r, s⟩ hp => run_asked_7 (G := G2) (m := fuel) gv r ((meth_at (G := G2) rfl h (m := 16) meth_of.2.2.2.2.2.2.2.2.2.2.1 (by decide) [gv]).trans hp)
end
end Mine
end

section
open PySem PySem.W PyProof.Rows
set_option Elab.async false
set_option maxRecDepth 100000
namespace Mine
section
variable {σ : St} {a : Nat} {w : List Nat} {c bt fo : Nat} {b k : Int} {g : List Nat}

/-- what a deed of the kinds 8 and 9 leaves -/
noncomputable def DeedE (σ : St) (a : Nat) (w : List Nat) (c bt fo : Nat) (b k : Int) (kind : Int) (onward : Bool) (sg g : List Nat) : Prop :=
  ∃ (due : Bool) (c' : Nat), c' ≤ w.length ∧
    G3.Ψ 5 [if onward then upN w c else dnN w c, if onward then dnN w c else upN w c, .int (if onward then (bt : Int) else (fo : Int)), .list (signsV sg)] = some (.tup [.bool due, if onward then upN w c' else dnN w c', if onward then dnN w c' else upN w c']) ∧
    G3.Φ 6 [.obj a, .int kind, .str g] σ = some (.bool due, σ.set a (obAt w c' bt fo b k))

theorem cut_in {α : Type} (w : List α) {i j : Int} (i0 : 0 ≤ i) (i1 : i ≤ w.length) (j0 : 0 ≤ j) (j1 : j ≤ w.length) : cut w (some i) (some j) = (w.drop i.toNat).take (j.toNat - i.toNat) := by
  simp only [cut, Option.elim_some, clip_in i0 i1, clip_in j0 j1]

theorem drl (w : List Nat) (c : Nat) : ((w.drop c).reverse).length = w.length - c := by rw [List.length_reverse, List.length_drop]
theorem tkl {w : List Nat} {c : Nat} (h : c ≤ w.length) : (w.take c).length = c := by rw [List.length_take, Nat.min_eq_left h]
theorem ar_sub (a b c : Nat) : ((a : Int) - (b : Int)).toNat - ((c : Int)).toNat = a - b - c := by omega
theorem ar_in {a b : Nat} (h : b ≤ a) : (0 : Int) ≤ (a : Int) - (b : Int) := by omega
theorem ar_to (a b : Nat) : (a : Int) - (b : Int) ≤ (a : Int) := by omega
theorem ar_gl {g n b c : Nat} (h : g ≤ n - b - c) : g ≤ n - c := by omega
theorem ar_cg {g n c : Nat} (hc : c ≤ n) (h : g ≤ n - c) : c + g ≤ n := by omega
theorem ar_cut {g n c : Nat} (h : g ≤ n - c) : n - c - (n - c - g) = g := Nat.sub_sub_self h
theorem ar_cut' {g n c : Nat} (hc : c ≤ n) (h : g ≤ n - c) : n - (c + g) = n - c - g := Nat.sub_add_eq n c g

theorem ar_big {w g : List Nat} (c : Nat) (hw : w.length ≤ 100) (hg : g.length ≤ 1000) : (w.take c).length + g.length ≤ big := by rw [List.length_take]; unfold big; omega
theorem ar_max {g n b c : Nat} (h : g ≤ n - b - c) : (g : Int) ≤ max 0 (((n - c : Nat) : Int) - (b : Int)) := by omega
theorem ar_far {g n b c : Nat} (h : ¬ g ≤ n - b - c) : max 0 (((n - c : Nat) : Int) - (b : Int)) < (g : Int) := by omega
theorem ar_no {g n b c : Nat} (h : ¬ g ≤ n - b - c) (z : min g (min (n - b - c) (n - c)) = g) : False := by omega
theorem ar_max' {g f c : Nat} (h : g ≤ c - f) : (g : Int) ≤ max 0 ((c : Int) - (f : Int)) := by omega
theorem ar_far' {g f c : Nat} (h : ¬ g ≤ c - f) : max 0 ((c : Int) - (f : Int)) < (g : Int) := by omega
theorem ar_dt {w : List Nat} {fo c : Nat} (h : c ≤ w.length) : ((w.drop fo).take (c - fo)).length = c - fo := by rw [List.length_take, List.length_drop]; omega
theorem ar_idx {g f c : Nat} (h : g ≤ c - f) (z : f ≤ c) : f + (c - f - g) = c - g := by omega
theorem ar_z {g f c : Nat} (h : g ≤ c - f) (z : ¬ f ≤ c) : g = 0 := by omega
theorem ar_fc {f c : Nat} (z : ¬ f ≤ c) : c ≤ f + (c - f) := by omega
theorem ar_gc {g f c : Nat} (h : g ≤ c - f) : g ≤ c := Nat.le_trans h (Nat.sub_le _ _)
theorem ar_big' {w g : List Nat} (c : Nat) (hw : w.length ≤ 100) (hg : g.length ≤ 1000) : (w.drop c).reverse.length + g.reverse.length ≤ big := by rw [List.length_reverse, List.length_reverse, List.length_drop]; unfold big; omega
theorem deed8 (h : σ[a]? = some (obAt w c bt fo b k)) (hc : c ≤ w.length) (hw : w.length ≤ 100) (hb : bt ≤ w.length) (hg : g.length ≤ 1000) : DeedE σ a w c bt fo b k 8 true g g := by
  have u := run_eq_s (m := fuel) gok1 h g
  have ask : ∀ p, runB G1 fuel 2 0 b_eq_s [.obj a, .str g] σ = some p → G3.Φ 6 [.obj a, .int 8, .str g] σ = some p := fun ⟨r, s⟩ hp => run_asked_8 (G := G2) (m := fuel) (.str g) r ((meth_at (G := G2) rfl h (m := 17) meth_of.2.2.2.2.2.2.2.2.2.2.2.1 (by decide) [.str g]).trans hp)
  rw [cut_in w (Int.natCast_nonneg _) (Int.ofNat_le.mpr hc) (ar_in hb) (ar_to _ _), ar_sub, Int.toNat_natCast] at u
  unfold DeedE
  simp only [if_true]
  by_cases q1 : g.length ≤ w.length - bt - c
  · have e1 : ((w.drop c).take (w.length - bt - c)).take g.length = (w.drop c).take g.length := by rw [List.take_take, Nat.min_eq_left q1]
    have gl := ar_gl q1
    unfold isPre at u
    rw [e1] at u
    have e2 : ((w.drop c).reverse).drop (((w.drop c).reverse).length - g.length) = ((w.drop c).take g.length).reverse := by
      rw [drl, List.drop_reverse, List.length_drop, ar_cut gl]
    by_cases q2 : (w.drop c).take g.length = g
    · rw [decide_eq_true q2] at u
      refine ⟨true, c + g.length, ar_cg hc gl, ?_, ?_⟩
      · refine pureM_of fun σ => ?_
        have := run_equal_yes (G := G2) (σ := σ) (m := fuel) (w.drop c).reverse (w.take c) g (bt : Int) (by rw [drl]; exact ar_max q1) (Int.natCast_nonneg _) (mirL2 g hg) (by rw [e2, q2]) (ar_big c hw hg)
        refine this.trans ?_
        have t1 : (w.drop c).reverse.take ((w.drop c).reverse.length - g.length) = (w.drop (c + g.length)).reverse := by
          rw [drl, List.take_reverse, List.length_drop, List.drop_drop, ar_cut gl]
        have t2 : w.take c ++ g = w.take (c + g.length) := by rw [List.take_add, q2]
        rw [t1, t2]
      · exact (ask _ u)
    · rw [decide_eq_false q2] at u
      refine ⟨false, c, hc, ?_, ?_⟩
      · refine pureM_of fun σ => ?_
        exact run_equal_not (G := G2) (σ := σ) (m := fuel) (w.drop c).reverse (w.take c) g (bt : Int) (by rw [drl]; exact ar_max q1) (Int.natCast_nonneg _) (mirL2 g hg) (by rw [e2]; exact fun z => q2 (List.reverse_inj.mp z))
      · refine (ask _ u).trans ?_
        rw [set_same h]; rfl
  · have e1 : isPre g ((w.drop c).take (w.length - bt - c)) = false := by
      unfold isPre
      refine decide_eq_false fun z => ?_
      have := congrArg List.length z
      rw [List.length_take, List.length_take, List.length_drop] at this
      exact ar_no q1 this
    rw [e1] at u
    refine ⟨false, c, hc, ?_, ?_⟩
    · refine pureM_of fun σ => ?_
      exact run_equal_far (G := G2) (σ := σ) (m := fuel) (w.drop c).reverse (w.take c) g (bt : Int) (Int.natCast_nonneg _) (by rw [drl]; exact ar_far q1)
    · refine (ask _ u).trans ?_
      rw [set_same h]; rfl
theorem deed9 (h : σ[a]? = some (obAt w c bt fo b k)) (hc : c ≤ w.length) (hw : w.length ≤ 100) (hb : fo ≤ w.length) (hg : g.length ≤ 1000) : DeedE σ a w c bt fo b k 9 false g.reverse g := by
  have u := run_eq_s_b (m := fuel) gok1 h g
  have ask : ∀ p, runB G1 fuel 2 0 b_eq_s_b [.obj a, .str g] σ = some p → G3.Φ 6 [.obj a, .int 9, .str g] σ = some p := fun ⟨r, s⟩ hp => run_asked_9 (G := G2) (m := fuel) (.str g) r ((meth_at (G := G2) rfl h (m := 18) meth_of.2.2.2.2.2.2.2.2.2.2.2.2 (by decide) [.str g]).trans hp)
  rw [cut_in w (Int.natCast_nonneg _) (Int.ofNat_le.mpr hb) (Int.natCast_nonneg _) (Int.ofNat_le.mpr hc), Int.toNat_natCast, Int.toNat_natCast] at u
  have hl : (w.take c).length = c := tkl hc
  have gl : g.reverse.length = g.length := List.length_reverse
  unfold DeedE
  simp only [Bool.false_eq_true, if_false]
  have xl : ((w.drop fo).take (c - fo)).length = c - fo := ar_dt hc
  have mir := mirL2 g.reverse (by rw [gl]; exact hg)
  rw [List.reverse_reverse] at mir
  by_cases q1 : g.length ≤ c - fo
  · have e2 : ((w.drop fo).take (c - fo)).drop (c - fo - g.length) = (w.take c).drop (c - g.length) := by
      rw [← List.drop_take, List.drop_drop]
      by_cases z : fo ≤ c
      · rw [ar_idx q1 z]
      · have : g.length = 0 := ar_z q1 z
        rw [this, Nat.sub_zero, Nat.sub_zero, List.drop_of_length_le (by rw [hl]; exact ar_fc z), List.drop_of_length_le (by rw [hl]; exact Nat.le_refl _)]
    have e3 : isSuf g ((w.drop fo).take (c - fo)) = decide ((w.take c).drop (c - g.length) = g) := by
      unfold isSuf
      rw [xl, e2]
      simp [q1]
    rw [e3] at u
    by_cases q2 : (w.take c).drop (c - g.length) = g
    · rw [decide_eq_true q2] at u
      refine ⟨true, c - g.length, Nat.le_trans (Nat.sub_le _ _) hc, ?_, ?_⟩
      · refine pureM_of fun σ => ?_
        have := run_equal_yes (G := G2) (σ := σ) (m := fuel) (w.take c) (w.drop c).reverse g.reverse (fo : Int) (by rw [hl, gl]; exact ar_max' q1) (Int.natCast_nonneg _) (by rw [List.reverse_reverse]; exact mir) (by rw [hl, gl, q2, List.reverse_reverse]) (ar_big' c hw hg)
        refine this.trans ?_
        have t1 : (w.take c).take ((w.take c).length - g.reverse.length) = w.take (c - g.length) := by
          rw [hl, gl, List.take_take, Nat.min_eq_left (Nat.sub_le _ _)]
        have t2 : (w.drop c).reverse ++ g.reverse = (w.drop (c - g.length)).reverse := by
          rw [← List.reverse_append]
          congr 1
          have e5 : w.drop (c - g.length) = (w.take c ++ w.drop c).drop (c - g.length) := by rw [List.take_append_drop]
          rw [e5, List.drop_append_of_le_length (by rw [hl]; exact Nat.sub_le _ _), q2]
        rw [t1, t2]
      · have e6 : ((c - g.length : Nat) : Int) = (c : Int) - (g.length : Int) := Int.ofNat_sub (ar_gc q1)
        unfold obAt
        rw [e6]
        exact ask _ u
    · rw [decide_eq_false q2] at u
      refine ⟨false, c, hc, ?_, ?_⟩
      · refine pureM_of fun σ => ?_
        exact run_equal_not (G := G2) (σ := σ) (m := fuel) (w.take c) (w.drop c).reverse g.reverse (fo : Int) (by rw [hl, gl]; exact ar_max' q1) (Int.natCast_nonneg _) (by rw [List.reverse_reverse]; exact mir) (by rw [hl, gl, List.reverse_reverse]; exact q2)
      · refine (ask _ u).trans ?_
        rw [set_same h]; rfl
  · have e1 : isSuf g ((w.drop fo).take (c - fo)) = false := by
      unfold isSuf
      rw [xl]
      exact decide_eq_false fun z => q1 z.1
    rw [e1] at u
    refine ⟨false, c, hc, ?_, ?_⟩
    · refine pureM_of fun σ => ?_
      exact run_equal_far (G := G2) (σ := σ) (m := fuel) (w.take c) (w.drop c).reverse g.reverse (fo : Int) (Int.natCast_nonneg _) (by rw [hl, gl]; exact ar_far' q1)
    · refine (ask _ u).trans ?_
      rw [set_same h]; rfl
end
end Mine
end

section
open PySem PySem.W PyProof.Rows
set_option Elab.async false
set_option maxRecDepth 100000
namespace Mine
noncomputable def sPlace : S := .set 15 (.bin .sub (.bi .len [.loc 1]) (.bin .mod (.loc 14) (.bin .add (.bi .len [.loc 1]) (.int 1))))
noncomputable def sCheck : S := .ite (.disj [.cmp .ne (.scall 7 [.loc 4]) (.lst [.loc 1, .bi .len [.loc 7], .bin .sub (.bi .len [.loc 1]) (.loc 9), .loc 10, .loc 11, .loc 12]), .cmp .ne (.scall 7 [.loc 5]) (.loc 6)]) [.ret (.bool false)] []
noncomputable def sA0 : S := .set 16 (.cmp .isin (.loc 13) (.lst [.int 0, .int 1, .int 2, .int 3, .int 8]))
noncomputable def sA1 : S := .setT [18, 19, 20] false (.ife (.loc 16) (.tup [.loc 8, .loc 7, .loc 9]) (.tup [.loc 7, .loc 8, .loc 10]))
noncomputable def sA2 : S := .ite (.cmp .lt (.loc 13) (.int 8)) [.setT [24, 22] false (.call 0 [.loc 14]), .set 21 (.cmp .eq (.bin .mod (.loc 13) (.int 2)) (.int 0)), .ite (.cmp .isin (.loc 13) (.lst [.int 2, .int 3, .int 6, .int 7])) [.setT [25, 18, 19] false (.call 4 [.loc 18, .loc 19, .loc 20, .loc 24, .loc 21])] [.setT [25, 18, 19] false (.call 3 [.loc 18, .loc 19, .loc 20, .loc 24, .loc 21])]] [.set 22 (.call 1 [.loc 1, .bi .len [.loc 7], .loc 16, .loc 14]), .ite (.conj [.cmp .eq (.loc 22) (.str []), .cmp .lt (.bi .len [.loc 18]) (.loc 20)]) [.set 22 (.str [97])] [], .set 23 (.comp (.loc 26) 26 (.loc 22) []), .setT [25, 18, 19] false (.call 5 [.loc 18, .loc 19, .loc 20, .ife (.loc 16) (.loc 23) (.call 2 [.loc 23])])]
noncomputable def sA3 : S := .setT [7, 8] false (.ife (.loc 16) (.tup [.loc 19, .loc 18]) (.tup [.loc 18, .loc 19]))
noncomputable def sA4 : S := .set 17 (.scall 6 [.loc 4, .loc 13, .loc 22])
noncomputable def sA5 : S := .ite (.disj [.not (.bi .isb [.loc 17, .glob 2]), .cmp .ne (.loc 17) (.loc 25)]) [.ret (.bool false)] []
noncomputable def sB10 : List S := [.setA (.loc 4) 1 (.loc 15), .setT [7, 8] true (.tup [.comp (.loc 26) 26 (.slc (.loc 1) .non (.loc 15)) [], .call 2 [.slc (.loc 1) (.loc 15) .non]])]
noncomputable def sB11 : List S := [.set 9 (.bin .mod (.bin .add (.loc 14) (.int 1)) (.bin .add (.bi .len [.loc 1]) (.int 1))), .setA (.loc 4) 2 (.bin .sub (.bi .len [.loc 1]) (.loc 9))]
noncomputable def sB12 : List S := [.set 10 (.bin .mod (.bin .add (.loc 14) (.int 1)) (.bin .add (.bi .len [.loc 1]) (.int 1))), .setA (.loc 4) 3 (.loc 10)]
noncomputable def sB13 : List S := [.setT [11, 12] true (.tup [.loc 15, .bin .mod (.bin .add (.loc 14) (.int 1)) (.bin .add (.bi .len [.loc 1]) (.int 1))]), .setA (.loc 4) 4 (.loc 11), .setA (.loc 4) 5 (.loc 12)]
noncomputable def sB14 : List S := [.set 1 (.sm .join (.str []) (.call 2 [.loc 1])), .ite (.cmp .eq (.bin .mod (.loc 14) (.int 3)) (.int 0)) [.set 1 (.slc (.bin .add (.loc 1) (.idx (.glob 0) (.bin .mod (.bin .fdiv (.loc 14) (.int 3)) (.int 17)))) .non (.int 24))] [.ite (.cmp .eq (.bin .mod (.loc 14) (.int 3)) (.int 1)) [.set 1 (.slc (.loc 1) .non (.bin .fdiv (.bi .len [.loc 1]) (.int 2)))] [.set 1 (.slc (.loc 1) (.bin .mod (.bin .fdiv (.loc 14) (.int 3)) (.bin .add (.bi .len [.loc 1]) (.int 1))) .non)]], .expr (.meth (.loc 4) 6 [.loc 1]), .setT [7, 8] true (.tup [.lst [], .call 2 [.loc 1]]), .setT [9, 10, 11, 12] false (.tup [.int 0, .int 0, .int 0, .bi .len [.loc 1]])]
noncomputable def sB15 : List S := [.expr (.meth (.loc 5) 8 [.loc 4]), .setT [4, 5] true (.tup [.loc 5, .loc 4]), .set 6 (.lst [.loc 1, .bi .len [.loc 7], .bin .sub (.bi .len [.loc 1]) (.loc 9), .loc 10, .loc 11, .loc 12])]
noncomputable def sPre : List S := [.set 1 (.str []),
  .for1 2 (.slc (.loc 0) .non (.int 12)) [.set 1 (.bin .add (.loc 1) (.bin .mul (.idx (.glob 0) (.bin .mod (.loc 2) (.int 17))) (.bin .add (.int 1) (.bin .mod (.bin .fdiv (.loc 2) (.int 17)) (.int 3)))))],
  .set 1 (.slc (.loc 1) .non (.int 20)),
  .set 3 (.comp (.tup [.bin .mod (.loc 2) (.int 16), .bin .fdiv (.loc 2) (.int 16)]) 2 (.slc (.loc 0) .non (.int 16)) []),
  .set 3 (.bin .add (.loc 3) (.comp (.tup [.loc 13, .bin .add (.bi .len [.loc 3]) (.loc 13)]) 13 (.rng [.int 10]) [])),
  .set 4 (.new 0),
  .expr (.meth (.loc 4) 6 [.loc 1]),
  .setT [7, 8] true (.tup [.lst [], .call 2 [.loc 1]]),
  .setT [9, 10, 11, 12] false (.tup [.int 0, .int 0, .int 0, .bi .len [.loc 1]]),
  .set 5 (.new 0),
  .expr (.meth (.loc 5) 6 [.sm .join (.str []) (.glob 0)]),
  .setA (.loc 5) 1 (.int 5),
  .setA (.loc 5) 2 (.int 12),
  .setA (.loc 5) 3 (.int 3),
  .setA (.loc 5) 4 (.int 4),
  .setA (.loc 5) 5 (.int 9),
  .set 6 (.lst [.sm .join (.str []) (.glob 0), .int 5, .int 12, .int 3, .int 4, .int 9])]
noncomputable def sBs : List S := [.ite (.cmp .eq (.loc 13) (.int 10)) sB10 [.ite (.cmp .eq (.loc 13) (.int 11)) sB11 [.ite (.cmp .eq (.loc 13) (.int 12)) sB12 [.ite (.cmp .eq (.loc 13) (.int 13)) sB13 [.ite (.cmp .eq (.loc 13) (.int 14)) sB14 sB15]]]]]
noncomputable def sBody : List S := [sPlace, .ite (.cmp .lt (.loc 13) (.int 10)) [sA0, sA1, sA2, sA3, sA4, sA5] sBs, sCheck]
theorem law_is : b_law = sPre ++ [.forT [13, 14] (.loc 3) sBody, .ret (.bool true)] := rfl

section
variable {σ : St} {a b' : Nat} {w w2 : List Nat} {c l lb b k c2 l2 lb2 b2 k2 : Int}
theorem shown3 (h : σ[a]? = some (.inst C1 (stF w c l lb b k))) : G3.Φ 7 [.obj a] σ = some (.list [.str w, .int c, .int l, .int lb, .int b, .int k], σ) :=
  run_shown gok2 h ((meth_at (G := G2) rfl h (m := 7) meth_of.2.1 (by decide) []).trans (run_get_current (m := fuel) gok1 h))
theorem setc3 (h : σ[a]? = some (.inst C1 (stF w c l lb b k))) (v : List Nat) : methV G3 σ (.obj a) 6 [.str v] = some (.none, σ.set a (.inst C1 (stF v 0 v.length 0 0 v.length))) :=
  (meth_at (G := G3) rfl h (m := 6) meth_of.1 (by decide) [.str v]).trans (run_set_current (m := fuel) gok1 (.inr rfl) h v)
theorem copy3 (ne : a ≠ b') (h : σ[a]? = some (.inst C1 (stF w c l lb b k))) (h' : σ[b']? = some (.inst C1 (stF w2 c2 l2 lb2 b2 k2))) : methV G3 σ (.obj a) 8 [.obj b'] = some (.none, σ.set a (.inst C1 (stF w2 c2 l2 lb2 b2 k2))) :=
  (meth_at (G := G3) rfl h (m := 8) meth_of.2.2.1 (by decide) [.obj b']).trans (run_copy_from (m := fuel) gok1 ne h h')
theorem new3 : newV G3 0 σ = some (.obj σ.length, σ ++ [.inst C1 (stF [] 0 0 0 0 0)]) := by
  have h : (σ ++ [Ob.inst C1 []])[σ.length]? = some (.inst C1 []) := by simp
  have s := run_set_current (m := fuel) (w := []) (c := 0) (l := 0) (lb := 0) (b := 0) (kk := 0) gok1 (.inl rfl) h []
  have i := run_init (G := G2) (m := fuel) (f6 := 16) meth_of.1 h s
  have e : G3.Φ 29 [.obj σ.length] (σ ++ [.inst C1 []]) = some (.none, (σ ++ [Ob.inst C1 []]).set σ.length (.inst C1 (stF [] 0 0 0 0 0))) := i
  unfold newV
  rw [show G3.P.cl[0]? = some (("BaseStemmer" : Str), C1, 29) from rfl, Option.bind_some]
  dsimp only
  rw [e]
  simp
theorem group3 (r : Int) : ∃ (L : List Nat) (gv : V), (∀ ch, inV (.str [ch]) gv = some (decide (ch ∈ L))) ∧ G3.Ψ 0 [.int r] = some (.tup [.list (signsV L), gv]) := by
  obtain ⟨L, gv, h, e⟩ := run_group (G := G1) (tabsOf rfl) r
  exact ⟨L, gv, h, pureM_of fun σ => e σ fuel⟩
theorem text3 (v : List Nat) (p : Int) (on : Bool) (r : Int) (hv : v.length ≤ 1000) : ∃ t : List Nat, t.length ≤ v.length + 1 ∧ G3.Ψ 1 [.str v, .int p, .bool on, .int r] = some (.str t) := by
  obtain ⟨n, g0⟩ := (tabsOf (G := G1) rfl).g0
  obtain ⟨t, h, e⟩ := run_text (G := G1) v p on r hv sgns rfl _ g0 rfl
  exact ⟨t, h, pureM_of fun σ => e σ fuel⟩
end
end Mine
end

section
open PySem PySem.W PyProof.Rows
set_option Elab.async false
set_option maxRecDepth 100000
namespace Mine

/-- the law's frame between two deeds -/
structure Fr01 where
  sc : V
  dd : V
  w : List Nat
  c : Nat
  bt : Nat
  fo : Nat
  b : Int
  k : Int
  a : Nat
  o : Nat
  w2 : List Nat
  c2 : Int
  l2 : Int
  lb2 : Int
  b2 : Int
  k2 : Int

noncomputable def Fr01.Ok (f : Fr01) (σ : St) : Prop :=
  f.w.length ≤ 24 ∧ f.c ≤ f.w.length ∧ f.bt ≤ f.w.length ∧ f.fo ≤ f.w.length ∧ f.a ≠ f.o ∧ σ[f.a]? = some (obAt f.w f.c f.bt f.fo f.b f.k) ∧ σ[f.o]? = some (.inst C1 (stF f.w2 f.c2 f.l2 f.lb2 f.b2 f.k2))
noncomputable abbrev Fr01.rho (f : Fr01) (e2 e13 e14 e15 e16 e17 e18 e19 e20 e21 e22 e23 e24 e25 e26 : Option V) : Rho :=
  [some f.sc, some (.str f.w), e2, some f.dd, some (.obj f.a), some (.obj f.o), some (.list [.str f.w2, .int f.c2, .int f.l2, .int f.lb2, .int f.b2, .int f.k2]), some (dnN f.w f.c), some (upN f.w f.c), some (.int (f.bt : Int)), some (.int (f.fo : Int)), some (.int f.b), some (.int f.k), e13, e14, e15, e16, e17, e18, e19, e20, e21, e22, e23, e24, e25, e26]

section
variable {σ : St} {f : Fr01} {n : Nat} {e2 e13 e14 e15 e16 e17 e18 e19 e20 e21 e22 e23 e24 e25 e26 : Option V}
theorem lenS (l : List Nat) : (signsV l).length = l.length := by simp [signsV]

theorem eqVs_same : ∀ {xs : List V}, xs.all plainV = true → eqVs xs xs = some true
  | [], _ => rfl
  | x :: r, h => by
    rw [List.all_cons, Bool.and_eq_true] at h
    have i := eqVs_same h.2
    have e : eqV x x = some true := by
      cases x <;> first | (simp [eqV]; done) | exact absurd h.1 (by simp [plainV])
    simp [eqVs, e, i]
theorem cmp_same {xs : List V} (h : xs.all plainV = true) : cmpV .ne (.list xs) (.list xs) = some false := by
  simp only [cmpV, int2, eqL, h, Bool.and_self, if_true, eqVs_same h, int1]; rfl
theorem check_ok (F : f.Ok σ) : exS G3 n sCheck (f.rho e2 e13 e14 e15 e16 e17 e18 e19 e20 e21 e22 e23 e24 e25 e26) σ = some (.next, f.rho e2 e13 e14 e15 e16 e17 e18 e19 e20 e21 e22 e23 e24 e25 e26, σ) := by
  obtain ⟨h1, h2, h3, h4, h5, h6, h7⟩ := F
  have s1 := shown3 h6
  have s2 := shown3 h7
  have cl : ((f.w.take f.c).length : Int) = (f.c : Int) := by simp; omega
  unfold sCheck
  have p1 := cmp_same (xs := [V.str f.w, V.int ↑f.c, V.int (↑f.w.length - ↑f.bt), V.int ↑f.fo, V.int f.b, V.int f.k]) rfl
  have p2 := cmp_same (xs := [V.str f.w2, V.int f.c2, V.int f.l2, V.int f.lb2, V.int f.b2, V.int f.k2]) rfl
  simp only [exS_expr, exS_set, exS_setT, exS_setA, exS_augA, exS_ite, exS_whl, exS_for1, exS_forT, exS_ret, exB_nil, exB_cons, ev_non, ev_bool, ev_int, ev_str, ev_loc, ev_glob, ev_bin, ev_cmp, ev_conj, ev_disj, ev_not, ev_neg, ev_ife, ev_idx, ev_slc, ev_lst, ev_tup, ev_attr, ev_cat, ev_bi, ev_rng, ev_mkset, ev_sm, ev_call, ev_scall, ev_meth, ev_new, ev_comp, ev_enum, evs_nil, evs_cons, evC_nil, evC_cons, List.getElem?_cons_succ, List.getElem?_cons_zero, Option.bind_some, Option.map_some, s1, s2, biV, arg1, arg2, lenV, isbV, int2, lenS, cl, bin_sub, p1, p2, boolOf, Bool.false_eq_true, if_false, if_true, int1]

theorem exB_next {G : Sg} {n : Nat} {t : S} {r : List S} {ρ ρ' : Rho} {σ σ' : St} (h : exS G n t ρ σ = some (.next, ρ', σ')) : exB G n (t :: r) ρ σ = exB G n r ρ' σ' := by
  rw [exB_cons, h]; rfl

theorem place_ok (r : Int) : ∃ v : Int, 0 ≤ v ∧ v ≤ f.w.length ∧ exS G3 n sPlace (f.rho e2 e13 (some (.int r)) e15 e16 e17 e18 e19 e20 e21 e22 e23 e24 e25 e26) σ = some (.next, f.rho e2 e13 (some (.int r)) (some (.int v)) e16 e17 e18 e19 e20 e21 e22 e23 e24 e25 e26, σ) := by
  have hl : (0 : Int) < (f.w.length : Int) + 1 := by omega
  obtain ⟨k0, k1⟩ := fmod_lt r hl
  have e := bin_mod r hl
  refine ⟨(f.w.length : Int) - r.fmod ((f.w.length : Int) + 1), by omega, by omega, ?_⟩
  unfold sPlace
  simp only [exS_expr, exS_set, exS_setT, exS_setA, exS_augA, exS_ite, exS_whl, exS_for1, exS_forT, exS_ret, exB_nil, exB_cons, ev_non, ev_bool, ev_int, ev_str, ev_loc, ev_glob, ev_bin, ev_cmp, ev_conj, ev_disj, ev_not, ev_neg, ev_ife, ev_idx, ev_slc, ev_lst, ev_tup, ev_attr, ev_cat, ev_bi, ev_rng, ev_mkset, ev_sm, ev_call, ev_scall, ev_meth, ev_new, ev_comp, ev_enum, evs_nil, evs_cons, evC_nil, evC_cons, List.getElem?_cons_succ, List.getElem?_cons_zero, Option.bind_some, Option.map_some, biV, arg1, arg2, lenV, isbV, int2, lenS, bin_sub, bin_add, e, List.set_cons_succ, List.set_cons_zero, int1] <;> rfl

theorem a0_ok (kind : Int) (on : Bool) (hk : cmpV .isin (.int kind) (.list [.int 0, .int 1, .int 2, .int 3, .int 8]) = some on) :
    exS G3 n sA0 (f.rho e2 (some (.int kind)) e14 e15 e16 e17 e18 e19 e20 e21 e22 e23 e24 e25 e26) σ = some (.next, f.rho e2 (some (.int kind)) e14 e15 (some (.bool on)) e17 e18 e19 e20 e21 e22 e23 e24 e25 e26, σ) := by
  unfold sA0
  simp only [exS_expr, exS_set, exS_setT, exS_setA, exS_augA, exS_ite, exS_whl, exS_for1, exS_forT, exS_ret, exB_nil, exB_cons, ev_non, ev_bool, ev_int, ev_str, ev_loc, ev_glob, ev_bin, ev_cmp, ev_conj, ev_disj, ev_not, ev_neg, ev_ife, ev_idx, ev_slc, ev_lst, ev_tup, ev_attr, ev_cat, ev_bi, ev_rng, ev_mkset, ev_sm, ev_call, ev_scall, ev_meth, ev_new, ev_comp, ev_enum, evs_nil, evs_cons, evC_nil, evC_cons, List.getElem?_cons_succ, List.getElem?_cons_zero, Option.bind_some, Option.map_some, hk, List.set_cons_succ, List.set_cons_zero] <;> rfl
noncomputable abbrev nearV (f : Fr01) (on : Bool) : V := if on then upN f.w f.c else dnN f.w f.c
noncomputable abbrev farV (f : Fr01) (on : Bool) : V := if on then dnN f.w f.c else upN f.w f.c
noncomputable abbrev barV (f : Fr01) (on : Bool) : V := .int (if on then (f.bt : Int) else (f.fo : Int))
theorem a1_ok (on : Bool) :
    exS G3 n sA1 (f.rho e2 e13 e14 e15 (some (.bool on)) e17 e18 e19 e20 e21 e22 e23 e24 e25 e26) σ = some (.next, f.rho e2 e13 e14 e15 (some (.bool on)) e17 (some (nearV f on)) (some (farV f on)) (some (barV f on)) e21 e22 e23 e24 e25 e26, σ) := by
  unfold sA1
  cases on <;> simp only [exS_expr, exS_set, exS_setT, exS_setA, exS_augA, exS_ite, exS_whl, exS_for1, exS_forT, exS_ret, exB_nil, exB_cons, ev_non, ev_bool, ev_int, ev_str, ev_loc, ev_glob, ev_bin, ev_cmp, ev_conj, ev_disj, ev_not, ev_neg, ev_ife, ev_idx, ev_slc, ev_lst, ev_tup, ev_attr, ev_cat, ev_bi, ev_rng, ev_mkset, ev_sm, ev_call, ev_scall, ev_meth, ev_new, ev_comp, ev_enum, evs_nil, evs_cons, evC_nil, evC_cons, List.getElem?_cons_succ, List.getElem?_cons_zero, Option.bind_some, Option.map_some, boolOf, setTup, setAll, Bool.false_eq_true, if_false, if_true, List.set_cons_succ, List.set_cons_zero] <;> rfl
theorem a3_ok (c' : Nat) (on : Bool) (hn : e18 = some (nearV { f with c := c' } on)) (hf : e19 = some (farV { f with c := c' } on)) :
    exS G3 n sA3 (f.rho e2 e13 e14 e15 (some (.bool on)) e17 e18 e19 e20 e21 e22 e23 e24 e25 e26) σ = some (.next, Fr01.rho { f with c := c' } e2 e13 e14 e15 (some (.bool on)) e17 e18 e19 e20 e21 e22 e23 e24 e25 e26, σ) := by
  subst hn hf
  unfold sA3
  cases on <;> simp only [exS_expr, exS_set, exS_setT, exS_setA, exS_augA, exS_ite, exS_whl, exS_for1, exS_forT, exS_ret, exB_nil, exB_cons, ev_non, ev_bool, ev_int, ev_str, ev_loc, ev_glob, ev_bin, ev_cmp, ev_conj, ev_disj, ev_not, ev_neg, ev_ife, ev_idx, ev_slc, ev_lst, ev_tup, ev_attr, ev_cat, ev_bi, ev_rng, ev_mkset, ev_sm, ev_call, ev_scall, ev_meth, ev_new, ev_comp, ev_enum, evs_nil, evs_cons, evC_nil, evC_cons, List.getElem?_cons_succ, List.getElem?_cons_zero, Option.bind_some, Option.map_some, boolOf, setTup, setAll, Bool.false_eq_true, if_false, if_true, List.set_cons_succ, List.set_cons_zero] <;> rfl
theorem a4_ok (kind : Int) (g due : V) (σ' : St) (h : G3.Φ 6 [.obj f.a, .int kind, g] σ = some (due, σ')) :
    exS G3 n sA4 (f.rho e2 (some (.int kind)) e14 e15 e16 e17 e18 e19 e20 e21 (some g) e23 e24 e25 e26) σ = some (.next, f.rho e2 (some (.int kind)) e14 e15 e16 (some due) e18 e19 e20 e21 (some g) e23 e24 e25 e26, σ') := by
  unfold sA4
  simp only [exS_expr, exS_set, exS_setT, exS_setA, exS_augA, exS_ite, exS_whl, exS_for1, exS_forT, exS_ret, exB_nil, exB_cons, ev_non, ev_bool, ev_int, ev_str, ev_loc, ev_glob, ev_bin, ev_cmp, ev_conj, ev_disj, ev_not, ev_neg, ev_ife, ev_idx, ev_slc, ev_lst, ev_tup, ev_attr, ev_cat, ev_bi, ev_rng, ev_mkset, ev_sm, ev_call, ev_scall, ev_meth, ev_new, ev_comp, ev_enum, evs_nil, evs_cons, evC_nil, evC_cons, List.getElem?_cons_succ, List.getElem?_cons_zero, Option.bind_some, Option.map_some, h, List.set_cons_succ, List.set_cons_zero] <;> rfl
theorem a5_ok (due : Bool) :
    exS G3 n sA5 (f.rho e2 e13 e14 e15 e16 (some (.bool due)) e18 e19 e20 e21 e22 e23 e24 (some (.bool due)) e26) σ = some (.next, f.rho e2 e13 e14 e15 e16 (some (.bool due)) e18 e19 e20 e21 e22 e23 e24 (some (.bool due)) e26, σ) := by
  have g2 : G3.P.gls[2]? = some (("bool" : Str), .g (.type "bool")) := rfl
  have c : cmpV .ne (.bool due) (.bool due) = some false := by cases due <;> rfl
  unfold sA5
  simp only [exS_expr, exS_set, exS_setT, exS_setA, exS_augA, exS_ite, exS_whl, exS_for1, exS_forT, exS_ret, exB_nil, exB_cons, ev_non, ev_bool, ev_int, ev_str, ev_loc, ev_glob, ev_bin, ev_cmp, ev_conj, ev_disj, ev_not, ev_neg, ev_ife, ev_idx, ev_slc, ev_lst, ev_tup, ev_attr, ev_cat, ev_bi, ev_rng, ev_mkset, ev_sm, ev_call, ev_scall, ev_meth, ev_new, ev_comp, ev_enum, evs_nil, evs_cons, evC_nil, evC_cons, List.getElem?_cons_succ, List.getElem?_cons_zero, Option.bind_some, Option.map_some, g2, biV, arg1, arg2, lenV, isbV, int2, boolOf, c, Bool.not_true, Bool.false_eq_true, if_false, if_true, int1] <;> rfl
theorem a2_group (kind r : Int) (on isgo ins : Bool) (L : List Nat) (gv : V) (due : Bool) (x y : V) (h8 : cmpV .lt (.int kind) (.int 8) = some true) (hp : (binV .mod (.int kind) (.int 2)).bind (fun v => cmpV .eq v (.int 0)) = some ins)
    (hi : cmpV .isin (.int kind) (.list [.int 2, .int 3, .int 6, .int 7]) = some isgo) (hg : G3.Ψ 0 [.int r] = some (.tup [.list (signsV L), gv])) (hd : G3.Ψ (if isgo then 4 else 3) [nearV f on, farV f on, barV f on, .list (signsV L), .bool ins] = some (.tup [.bool due, x, y])) :
    exS G3 n sA2 (f.rho e2 (some (.int kind)) (some (.int r)) e15 e16 e17 (some (nearV f on)) (some (farV f on)) (some (barV f on)) e21 e22 e23 e24 e25 e26) σ = some (.next, f.rho e2 (some (.int kind)) (some (.int r)) e15 e16 e17 (some x) (some y) (some (barV f on)) (some (.bool ins)) (some gv) e23 (some (.list (signsV L))) (some (.bool due)) e26, σ) := by
  obtain ⟨pv, p1, p2⟩ := Option.bind_eq_some_iff.mp hp
  unfold sA2
  cases isgo <;> simp only [Bool.false_eq_true, if_false, if_true] at hd <;> simp only [exS_expr, exS_set, exS_setT, exS_setA, exS_augA, exS_ite, exS_whl, exS_for1, exS_forT, exS_ret, exB_nil, exB_cons, ev_non, ev_bool, ev_int, ev_str, ev_loc, ev_glob, ev_bin, ev_cmp, ev_conj, ev_disj, ev_not, ev_neg, ev_ife, ev_idx, ev_slc, ev_lst, ev_tup, ev_attr, ev_cat, ev_bi, ev_rng, ev_mkset, ev_sm, ev_call, ev_scall, ev_meth, ev_new, ev_comp, ev_enum, evs_nil, evs_cons, evC_nil, evC_cons, List.getElem?_cons_succ, List.getElem?_cons_zero, Option.bind_some, Option.map_some, h8, boolOf, setTup, setAll, hg, p1, p2, hi, hd, Bool.false_eq_true, if_false, if_true, List.set_cons_succ, List.set_cons_zero] <;> rfl
end
end Mine
end

section
open PySem PySem.W PyProof.Rows
set_option Elab.async false
set_option maxRecDepth 100000
namespace Mine

/-- what holds between two deeds -/
inductive Inv (sc dd : V) (ρ : Rho) (σ : St) : Prop where
  | mk (f : Fr01) (e2 e13 e14 e15 e16 e17 e18 e19 e20 e21 e22 e23 e24 e25 e26 : Option V) (h1 : f.sc = sc) (h2 : f.dd = dd) (h3 : ρ = f.rho e2 e13 e14 e15 e16 e17 e18 e19 e20 e21 e22 e23 e24 e25 e26) (h4 : f.Ok σ)
/-- an arm of the chain is run -/
inductive ArmR (f : Fr01) (σ : St) (n : Nat) (ρ : Rho) (b : List S) (e2 e13 e14 e15 e26 : Option V) : Prop where
  | mk (f' : Fr01) (σ' : St) (e16 e17 e18 e19 e20 e21 e22 e23 e24 e25 : Option V) (a1 : f'.sc = f.sc) (a2 : f'.dd = f.dd) (a3 : f'.Ok σ') (a4 : exB G3 n b ρ σ = some (.next, f'.rho e2 e13 e14 e15 e16 e17 e18 e19 e20 e21 e22 e23 e24 e25 e26, σ'))
noncomputable def Goes (sc dd : V) (r : Res) : Prop := ∃ ρ' σ', r = some (.next, ρ', σ') ∧ Inv sc dd ρ' σ'

section
variable {σ : St} {f : Fr01} {n : Nat} {e2 e13 e14 e15 e16 e17 e18 e19 e20 e21 e22 e23 e24 e25 e26 d16 d17 d18 d19 d20 d21 d22 d23 d24 d25 : Option V}

theorem ite_len {p : Prop} [Decidable p] {m : Nat} {a b : List Nat} (ha : a.length ≤ m) (hb : b.length ≤ m) : (if p then a else b).length ≤ m := by split <;> assumption
theorem Ok_set (F : f.Ok σ) {w : List Nat} {c bt fo : Nat} {b k : Int} (h1 : w.length ≤ 24) (h2 : c ≤ w.length) (h3 : bt ≤ w.length) (h4 : fo ≤ w.length) : Fr01.Ok { f with w := w, c := c, bt := bt, fo := fo, b := b, k := k } (σ.set f.a (obAt w c bt fo b k)) :=
  ⟨h1, h2, h3, h4, F.2.2.2.2.1, set_at F.2.2.2.2.2.1, (List.getElem?_set_ne F.2.2.2.2.1).trans F.2.2.2.2.2.2⟩

noncomputable abbrev armA : List S := [sA0, sA1, sA2, sA3, sA4, sA5]
theorem arm_group (F : f.Ok σ) (kind r : Int) (on isgo ins : Bool) (hk : cmpV .isin (.int kind) (.list [.int 0, .int 1, .int 2, .int 3, .int 8]) = some on) (h8 : cmpV .lt (.int kind) (.int 8) = some true) (hp : (binV .mod (.int kind) (.int 2)).bind (fun v => cmpV .eq v (.int 0)) = some ins)
    (hi : cmpV .isin (.int kind) (.list [.int 2, .int 3, .int 6, .int 7]) = some isgo)
    (D : ∀ L gv, (∀ ch, inV (.str [ch]) gv = some (decide (ch ∈ L))) → Deed σ f.a f.w f.c f.bt f.fo f.b f.k kind on (if isgo then 4 else 3) (.list (signsV L)) (.bool ins) gv) :
    ArmR f σ n (f.rho e2 (some (.int kind)) (some (.int r)) e15 d16 d17 d18 d19 d20 d21 d22 e23 d24 d25 e26) armA e2 (some (.int kind)) (some (.int r)) e15 e26 := by
  obtain ⟨L, gv, hin, hg⟩ := group3 r
  obtain ⟨due, c', hc, p1, p2⟩ := D L gv hin
  have F' := Ok_set F (b := f.b) (k := f.k) F.1 hc F.2.2.1 F.2.2.2.1
  refine ⟨{ f with c := c' }, σ.set f.a (obAt f.w c' f.bt f.fo f.b f.k), some (.bool on), some (.bool due), some (nearV { f with c := c' } on), some (farV { f with c := c' } on), some (barV f on), some (.bool ins), some gv, e23, some (.list (signsV L)), some (.bool due), rfl, rfl, F', ?_⟩
  refine (exB_next (a0_ok kind on hk)).trans ((exB_next (a1_ok on)).trans ((exB_next (a2_group kind r on isgo ins L gv due (nearV { f with c := c' } on) (farV { f with c := c' } on) h8 hp hi hg p1)).trans ((exB_next (a3_ok c' on rfl rfl)).trans ((exB_next (a4_ok (f := { f with c := c' }) kind gv (.bool due) _ p2)).trans ((exB_next (a5_ok (f := { f with c := c' }) due)).trans ?_)))))
  rfl
theorem call_of {ρ : Rho} {σ' : St} {k : Nat} {xs : List X} {vs : List V} {v : V} {G : Sg} (h : evs G ρ σ xs = some (vs, σ')) (e : G.Ψ k vs = some v) : ev G ρ σ (.call k xs) = some (v, σ') := by rw [ev_call, h]; show Option.map _ (G.Ψ k vs) = _; rw [e]; rfl
theorem evs_c {ρ : Rho} {σ1 σ2 : St} {x : X} {xs : List X} {v : V} {vs : List V} {G : Sg} (h : ev G ρ σ x = some (v, σ1)) (k : evs G ρ σ1 xs = some (vs, σ2)) : evs G ρ σ (x :: xs) = some (v :: vs, σ2) := by rw [evs_cons, h]; show Option.map _ (evs G ρ σ1 xs) = _; rw [k]; rfl
theorem conj2_of {ρ : Rho} {a b : X} {p q : Prop} [Decidable p] [Decidable q] {G : Sg} (ha : ev G ρ σ a = some (.bool (decide p), σ)) (hb : ev G ρ σ b = some (.bool (decide q), σ)) : ev G ρ σ (.conj [a, b]) = some (.bool (decide (p ∧ q)), σ) := by
  rw [ev_conj, evC_cons, ha]
  show Option.map _ (if decide p = true then evC G true ρ σ [b] else some (false, σ)) = _
  by_cases z : p
  · rw [decide_eq_true z, if_pos rfl, evC_cons, hb]
    show Option.map _ (if decide q = true then some (true, σ) else some (false, σ)) = _
    by_cases y : q
    · rw [decide_eq_true y, decide_eq_true ⟨z, y⟩]; rfl
    · rw [decide_eq_false y, decide_eq_false fun h => y h.2]; rfl
  · rw [decide_eq_false z, decide_eq_false fun h => z h.1]; rfl
theorem eq_nil (t : List Nat) : cmpV .eq (.str t) (.str []) = some (decide (t = [])) := by
  cases t <;> rfl
theorem len_signs (l : List Nat) : some (V.int ((signsV l).length : Int), σ) = some (V.int (l.length : Int), σ) := by rw [lenS]
theorem near_short (f : Fr01) (on : Bool) (hc : f.c ≤ f.w.length) {e2 e13 e14 e15 e17 e19 e21 e22 e23 e24 e25 e26 : Option V} : ev G3 (f.rho e2 e13 e14 e15 (some (.bool on)) e17 (some (nearV f on)) e19 (some (barV f on)) e21 e22 e23 e24 e25 e26) σ (.cmp .lt (.bi .len [.loc 18]) (.loc 20)) = some (.bool (decide (((if on then f.w.length - f.c else f.c : Nat) : Int) < (if on then (f.bt : Int) else (f.fo : Int)))), σ) := by
  cases on
  · refine cmp_of (σ1 := σ) (va := .int ((f.w.take f.c).length : Int)) (vb := .int (f.fo : Int)) (len_signs _) rfl ?_
    rw [List.length_take, Nat.min_eq_left hc]; rfl
  · refine cmp_of (σ1 := σ) (va := .int ((f.w.drop f.c).reverse.length : Int)) (vb := .int (f.bt : Int)) (len_signs _) rfl ?_
    rw [List.length_reverse, List.length_drop]; rfl
theorem a2_equal (kind r : Int) (on : Bool) (t g : List Nat) (due : Bool) (x y : V) (hw : f.w.length ≤ 100) (hc : f.c ≤ f.w.length) (h8 : cmpV .lt (.int kind) (.int 8) = some false) (ht : G3.Ψ 1 [.str f.w, .int (f.c : Int), .bool on, .int r] = some (.str t)) (hl : t.length ≤ 1000)
    (hg : g = if t = [] ∧ (((if on then f.w.length - f.c else f.c : Nat) : Int) < (if on then (f.bt : Int) else (f.fo : Int))) then [97] else t)
    (hd : G3.Ψ 5 [nearV f on, farV f on, barV f on, .list (signsV (if on then g else g.reverse))] = some (.tup [.bool due, x, y])) :
    exS G3 n sA2 (f.rho e2 (some (.int kind)) (some (.int r)) e15 (some (.bool on)) e17 (some (nearV f on)) (some (farV f on)) (some (barV f on)) e21 e22 e23 e24 e25 e26) σ = some (.next, f.rho e2 (some (.int kind)) (some (.int r)) e15 (some (.bool on)) e17 (some x) (some y) (some (barV f on)) e21 (some (.str g)) (some (.list (signsV g))) e24 (some (.bool due)) e26, σ) := by
  have cl : ((f.w.take f.c).length : Int) = (f.c : Int) := by rw [List.length_take, Nat.min_eq_left hc]
  have gl : g.length ≤ 1000 := by rw [hg]; exact ite_len (by decide) hl
  have s1 : exS G3 n (.set 22 (.call 1 [.loc 1, .bi .len [.loc 7], .loc 16, .loc 14])) (f.rho e2 (some (.int kind)) (some (.int r)) e15 (some (.bool on)) e17 (some (nearV f on)) (some (farV f on)) (some (barV f on)) e21 e22 e23 e24 e25 e26) σ = some (.next, (f.rho e2 (some (.int kind)) (some (.int r)) e15 (some (.bool on)) e17 (some (nearV f on)) (some (farV f on)) (some (barV f on)) e21 (some (.str t)) e23 e24 e25 e26), σ) := xset_of (call_of (vs := [.str f.w, .int ((f.w.take f.c).length : Int), .bool on, .int r]) (evs_c (σ1 := σ) rfl (evs_c (σ1 := σ) (show ev G3 _ σ _ = some (.int ((f.w.take f.c).length : Int), σ) from len_signs _) rfl)) (by rw [cl]; exact ht))
  have s2 : exS G3 n (.ite (.conj [.cmp .eq (.loc 22) (.str []), .cmp .lt (.bi .len [.loc 18]) (.loc 20)]) [.set 22 (.str [97])] []) (f.rho e2 (some (.int kind)) (some (.int r)) e15 (some (.bool on)) e17 (some (nearV f on)) (some (farV f on)) (some (barV f on)) e21 (some (.str t)) e23 e24 e25 e26) σ = some (.next, (f.rho e2 (some (.int kind)) (some (.int r)) e15 (some (.bool on)) e17 (some (nearV f on)) (some (farV f on)) (some (barV f on)) e21 (some (.str g)) e23 e24 e25 e26), σ) := by
    have q : ev G3 (f.rho e2 (some (.int kind)) (some (.int r)) e15 (some (.bool on)) e17 (some (nearV f on)) (some (farV f on)) (some (barV f on)) e21 (some (.str t)) e23 e24 e25 e26) σ (.conj [.cmp .eq (.loc 22) (.str []), .cmp .lt (.bi .len [.loc 18]) (.loc 20)]) = some (.bool (decide (t = [] ∧ (((if on then f.w.length - f.c else f.c : Nat) : Int) < (if on then (f.bt : Int) else (f.fo : Int))))), σ) := conj2_of (cmp_of (σ1 := σ) (va := .str t) (vb := .str []) rfl rfl (eq_nil t)) (near_short f on hc)
    refine ite_of q ?_
    rw [hg]
    by_cases z : t = [] ∧ (((if on then f.w.length - f.c else f.c : Nat) : Int) < (if on then (f.bt : Int) else (f.fo : Int)))
    · rw [decide_eq_true z, if_pos z]; rfl
    · rw [decide_eq_false z, if_neg z]; rfl
  have s3 : exS G3 n (.set 23 (.comp (.loc 26) 26 (.loc 22) [])) (f.rho e2 (some (.int kind)) (some (.int r)) e15 (some (.bool on)) e17 (some (nearV f on)) (some (farV f on)) (some (barV f on)) e21 (some (.str g)) e23 e24 e25 e26) σ = some (.next, (f.rho e2 (some (.int kind)) (some (.int r)) e15 (some (.bool on)) e17 (some (nearV f on)) (some (farV f on)) (some (barV f on)) e21 (some (.str g)) (some (.list (signsV g))) e24 e25 e26), σ) := by
    have k := compL_all (test := fun i => some true) (elt := fun i => some i) (f := id) (signsV g) (fun _ _ => rfl) (fun _ _ => rfl)
    rw [List.map_id] at k
    exact congrArg (fun z => Option.map (fun p : V × St => (Out.next, (f.rho e2 (some (.int kind)) (some (.int r)) e15 (some (.bool on)) e17 (some (nearV f on)) (some (farV f on)) (some (barV f on)) e21 (some (.str g)) e23 e24 e25 e26).set 23 (some p.1), p.2)) (Option.map (fun l => (V.list l, σ)) z)) k
  have s4 : exS G3 n (.setT [25, 18, 19] false (.call 5 [.loc 18, .loc 19, .loc 20, .ife (.loc 16) (.loc 23) (.call 2 [.loc 23])])) (f.rho e2 (some (.int kind)) (some (.int r)) e15 (some (.bool on)) e17 (some (nearV f on)) (some (farV f on)) (some (barV f on)) e21 (some (.str g)) (some (.list (signsV g))) e24 e25 e26) σ = some (.next, (f.rho e2 (some (.int kind)) (some (.int r)) e15 (some (.bool on)) e17 (some x) (some y) (some (barV f on)) e21 (some (.str g)) (some (.list (signsV g))) e24 (some (.bool due)) e26), σ) := by
    have m := mirL3 g gl
    have c : ev G3 (f.rho e2 (some (.int kind)) (some (.int r)) e15 (some (.bool on)) e17 (some (nearV f on)) (some (farV f on)) (some (barV f on)) e21 (some (.str g)) (some (.list (signsV g))) e24 e25 e26) σ (.call 5 [.loc 18, .loc 19, .loc 20, .ife (.loc 16) (.loc 23) (.call 2 [.loc 23])]) = some (.tup [.bool due, x, y], σ) := by
      refine call_of (vs := [nearV f on, farV f on, barV f on, .list (signsV (if on then g else g.reverse))]) ?_ hd
      cases on
      · exact congrArg (fun z => Option.map (fun q : List V × St => (nearV f false :: q.1, q.2)) (Option.map (fun q : List V × St => (farV f false :: q.1, q.2)) (Option.map (fun q : List V × St => (barV f false :: q.1, q.2)) (Option.bind (Option.map (·, σ) z) fun p => Option.map (fun q : List V × St => (p.1 :: q.1, q.2)) (some ([], p.2)))))) m
      · rfl
    rw [exS_setT, c]; rfl
  exact ite_of (cmp_of (σ1 := σ) (va := .int kind) (vb := .int 8) rfl rfl h8) (exB_next' s1 (exB_next' s2 (exB_next' s3 (exB_next' s4 rfl))))

theorem arm_equal (F : f.Ok σ) (kind r : Int) (on : Bool) (hk : cmpV .isin (.int kind) (.list [.int 0, .int 1, .int 2, .int 3, .int 8]) = some on) (h8 : cmpV .lt (.int kind) (.int 8) = some false)
    (D : ∀ g : List Nat, g.length ≤ 1000 → DeedE σ f.a f.w f.c f.bt f.fo f.b f.k kind on (if on then g else g.reverse) g) :
    ArmR f σ n (f.rho e2 (some (.int kind)) (some (.int r)) e15 d16 d17 d18 d19 d20 d21 d22 d23 d24 d25 e26) armA e2 (some (.int kind)) (some (.int r)) e15 e26 := by
  have hw : f.w.length ≤ 24 := F.1
  obtain ⟨t, hl, ht⟩ := text3 f.w (f.c : Int) on r (by omega)
  generalize hg : (if t = [] ∧ (((if on then f.w.length - f.c else f.c : Nat) : Int) < (if on then (f.bt : Int) else (f.fo : Int))) then [97] else t) = g
  have gl : g.length ≤ 1000 := by rw [← hg]; exact ite_len (by simp) (by omega)
  obtain ⟨due, c', hc, p1, p2⟩ := D g gl
  have F' := Ok_set F (b := f.b) (k := f.k) F.1 hc F.2.2.1 F.2.2.2.1
  refine ⟨{ f with c := c' }, σ.set f.a (obAt f.w c' f.bt f.fo f.b f.k), some (.bool on), some (.bool due), some (nearV { f with c := c' } on), some (farV { f with c := c' } on), some (barV f on), d21, some (.str g), some (.list (signsV g)), d24, some (.bool due), rfl, rfl, F', ?_⟩
  refine (exB_next (a0_ok kind on hk)).trans ((exB_next (a1_ok on)).trans ((exB_next (a2_equal kind r on t g due (nearV { f with c := c' } on) (farV { f with c := c' } on) (by omega) F.2.1 h8 ht (by omega) hg.symm p1)).trans ((exB_next (a3_ok c' on rfl rfl)).trans ((exB_next (a4_ok (f := { f with c := c' }) kind (.str g) (.bool due) _ p2)).trans ((exB_next (a5_ok (f := { f with c := c' }) due)).trans ?_)))))
  rfl
end
end Mine
end

section
open PySem PySem.W PyProof.Rows
set_option Elab.async false
set_option maxRecDepth 100000
namespace Mine
section
variable {G : Sg} {C : Addr} {σ : St} {a : Nat} {w : List Nat} {c l lb b kk : Int}
theorem pu2 (g : GOk G C) (x : Int) (h : σ[a]? = some (.inst C (stF w c l lb b kk))) : putA G.P σ (.obj a) 2 (.int x) = some (σ.set a (.inst C (stF w c x lb b kk))) := by simp [putA, h, g.cs, g.a2, stF, setF, notG]
theorem pu3 (g : GOk G C) (x : Int) (h : σ[a]? = some (.inst C (stF w c l lb b kk))) : putA G.P σ (.obj a) 3 (.int x) = some (σ.set a (.inst C (stF w c l x b kk))) := by simp [putA, h, g.cs, g.a3, stF, setF, notG]
theorem pu4 (g : GOk G C) (x : Int) (h : σ[a]? = some (.inst C (stF w c l lb b kk))) : putA G.P σ (.obj a) 4 (.int x) = some (σ.set a (.inst C (stF w c l lb x kk))) := by simp [putA, h, g.cs, g.a4, stF, setF, notG]
theorem pu5 (g : GOk G C) (x : Int) (h : σ[a]? = some (.inst C (stF w c l lb b kk))) : putA G.P σ (.obj a) 5 (.int x) = some (σ.set a (.inst C (stF w c l lb b x))) := by simp [putA, h, g.cs, g.a5, stF, setF, notG]
theorem cut_lo (w : List Nat) {v : Int} (v0 : 0 ≤ v) (v1 : v ≤ w.length) : cut w none (some v) = w.take v.toNat := by
  simp [cut, clip_in v0 v1]
theorem cut_hi (w : List Nat) {v : Int} (v0 : 0 ≤ v) (v1 : v ≤ w.length) : cut w (some v) none = w.drop v.toNat := by
  simp only [cut, Option.elim_some, Option.elim_none, clip_in v0 v1]
  rw [List.take_of_length_le (by simp)]
end
section
variable {σ : St} {f : Fr01} {n : Nat} {e2 e13 e14 e15 e16 e17 e18 e19 e20 e21 e22 e23 e24 e25 e26 : Option V}

theorem comp_id (l : List Nat) : compL (fun i => some true) (fun i => some i) (List.map (fun c => V.str [c]) l) = some (signsV l) := by
  have k := compL_all (test := fun i => some true) (elt := fun i => some i) (f := id) (signsV l) (fun _ _ => rfl) (fun _ _ => rfl)
  exact k.trans (by simp)

theorem arm10 (F : f.Ok σ) (v : Int) (v0 : 0 ≤ v) (v1 : v ≤ f.w.length) : ∃ σ', Fr01.Ok { f with c := v.toNat } σ' ∧
    exB G3 n sB10 (f.rho e2 e13 e14 (some (.int v)) e16 e17 e18 e19 e20 e21 e22 e23 e24 e25 e26) σ = some (.next, Fr01.rho { f with c := v.toNat } e2 e13 e14 (some (.int v)) e16 e17 e18 e19 e20 e21 e22 e23 e24 e25 e26, σ') := by
  have p := pu1 gok3 v F.2.2.2.2.2.1
  have F' := Ok_set F (c := v.toNat) (b := f.b) (k := f.k) F.1 (by omega) F.2.2.1 F.2.2.2.1
  have e : obAt f.w v.toNat f.bt f.fo f.b f.k = .inst C1 (stF f.w v ((f.w.length : Int) - (f.bt : Int)) f.fo f.b f.k) := by
    unfold obAt; rw [Int.toNat_of_nonneg v0]
  rw [e] at F'
  have m := mirS3 (f.w.drop v.toNat) (by have := F.1; simp; omega)
  have k := comp_id (f.w.take v.toNat)
  refine ⟨_, F', ?_⟩
  have s1 : exS G3 n (.setA (.loc 4) 1 (.loc 15)) (f.rho e2 e13 e14 (some (.int v)) e16 e17 e18 e19 e20 e21 e22 e23 e24 e25 e26) σ = some (.next, f.rho e2 e13 e14 (some (.int v)) e16 e17 e18 e19 e20 e21 e22 e23 e24 e25 e26, σ.set f.a (.inst C1 (stF f.w v ((f.w.length : Int) - (f.bt : Int)) f.fo f.b f.k))) := by
    simp only [exS_expr, exS_set, exS_setT, exS_setA, exS_augA, exS_ite, exS_whl, exS_for1, exS_forT, exS_ret, exB_nil, exB_cons, ev_non, ev_bool, ev_int, ev_str, ev_loc, ev_glob, ev_bin, ev_cmp, ev_conj, ev_disj, ev_not, ev_neg, ev_ife, ev_idx, ev_slc, ev_lst, ev_tup, ev_attr, ev_cat, ev_bi, ev_rng, ev_mkset, ev_sm, ev_call, ev_scall, ev_meth, ev_new, ev_comp, ev_enum, evs_nil, evs_cons, evC_nil, evC_cons, List.getElem?_cons_succ, List.getElem?_cons_zero, Option.bind_some, Option.map_some, p]
  unfold sB10
  refine (exB_next s1).trans ?_
  simp only [exS_expr, exS_set, exS_setT, exS_setA, exS_augA, exS_ite, exS_whl, exS_for1, exS_forT, exS_ret, exB_nil, exB_cons, ev_non, ev_bool, ev_int, ev_str, ev_loc, ev_glob, ev_bin, ev_cmp, ev_conj, ev_disj, ev_not, ev_neg, ev_ife, ev_idx, ev_slc, ev_lst, ev_tup, ev_attr, ev_cat, ev_bi, ev_rng, ev_mkset, ev_sm, ev_call, ev_scall, ev_meth, ev_new, ev_comp, ev_enum, evs_nil, evs_cons, evC_nil, evC_cons, iterV, List.getElem?_cons_succ, List.getElem?_cons_zero, Option.bind_some, Option.map_some, partV, sliceV, cut_lo f.w v0 v1, cut_hi f.w v0 v1, m, k, setTup, setAll, List.set_cons_succ, List.set_cons_zero, if_true, List.reverse_cons, List.reverse_nil, List.nil_append, List.cons_append]
theorem mod_len (r : Int) (w : List Nat) : ∃ b' : Nat, b' ≤ w.length ∧ binV .mod (.int (r + 1)) (.int ((w.length : Int) + 1)) = some (.int (b' : Int)) := by
  have hl : (0 : Int) < (w.length : Int) + 1 := by omega
  obtain ⟨k0, k1⟩ := fmod_lt (r + 1) hl
  refine ⟨((r + 1).fmod ((w.length : Int) + 1)).toNat, by omega, ?_⟩
  rw [bin_mod _ hl, Int.toNat_of_nonneg k0]
theorem arm11 (F : f.Ok σ) (r : Int) : ∃ b' σ', Fr01.Ok { f with bt := b' } σ' ∧
    exB G3 n sB11 (f.rho e2 e13 (some (.int r)) e15 e16 e17 e18 e19 e20 e21 e22 e23 e24 e25 e26) σ = some (.next, Fr01.rho { f with bt := b' } e2 e13 (some (.int r)) e15 e16 e17 e18 e19 e20 e21 e22 e23 e24 e25 e26, σ') := by
  obtain ⟨b', hb, e⟩ := mod_len r f.w
  have p := pu2 gok3 ((f.w.length : Int) - (b' : Int)) F.2.2.2.2.2.1
  have F' := Ok_set F (b := f.b) (k := f.k) F.1 F.2.1 hb F.2.2.2.1
  refine ⟨b', _, F', ?_⟩
  have s1 : exS G3 n (.set 9 (.bin .mod (.bin .add (.loc 14) (.int 1)) (.bin .add (.bi .len [.loc 1]) (.int 1)))) (f.rho e2 e13 (some (.int r)) e15 e16 e17 e18 e19 e20 e21 e22 e23 e24 e25 e26) σ = some (.next, Fr01.rho { f with bt := b' } e2 e13 (some (.int r)) e15 e16 e17 e18 e19 e20 e21 e22 e23 e24 e25 e26, σ) := by
    simp only [exS_expr, exS_set, exS_setT, exS_setA, exS_augA, exS_ite, exS_whl, exS_for1, exS_forT, exS_ret, exB_nil, exB_cons, ev_non, ev_bool, ev_int, ev_str, ev_loc, ev_glob, ev_bin, ev_cmp, ev_conj, ev_disj, ev_not, ev_neg, ev_ife, ev_idx, ev_slc, ev_lst, ev_tup, ev_attr, ev_cat, ev_bi, ev_rng, ev_mkset, ev_sm, ev_call, ev_scall, ev_meth, ev_new, ev_comp, ev_enum, evs_nil, evs_cons, evC_nil, evC_cons, List.getElem?_cons_succ, List.getElem?_cons_zero, Option.bind_some, Option.map_some, biV, arg1, arg2, lenV, isbV, int2, bin_add, e, List.set_cons_succ, List.set_cons_zero, int1]
  unfold sB11
  refine (exB_next s1).trans ?_
  simp only [exS_expr, exS_set, exS_setT, exS_setA, exS_augA, exS_ite, exS_whl, exS_for1, exS_forT, exS_ret, exB_nil, exB_cons, ev_non, ev_bool, ev_int, ev_str, ev_loc, ev_glob, ev_bin, ev_cmp, ev_conj, ev_disj, ev_not, ev_neg, ev_ife, ev_idx, ev_slc, ev_lst, ev_tup, ev_attr, ev_cat, ev_bi, ev_rng, ev_mkset, ev_sm, ev_call, ev_scall, ev_meth, ev_new, ev_comp, ev_enum, evs_nil, evs_cons, evC_nil, evC_cons, List.getElem?_cons_succ, List.getElem?_cons_zero, Option.bind_some, Option.map_some, biV, arg1, arg2, lenV, isbV, int2, bin_sub, p, int1]
theorem arm12 (F : f.Ok σ) (r : Int) : ∃ b' σ', Fr01.Ok { f with fo := b' } σ' ∧
    exB G3 n sB12 (f.rho e2 e13 (some (.int r)) e15 e16 e17 e18 e19 e20 e21 e22 e23 e24 e25 e26) σ = some (.next, Fr01.rho { f with fo := b' } e2 e13 (some (.int r)) e15 e16 e17 e18 e19 e20 e21 e22 e23 e24 e25 e26, σ') := by
  obtain ⟨b', hb, e⟩ := mod_len r f.w
  have p := pu3 gok3 (b' : Int) F.2.2.2.2.2.1
  have F' := Ok_set F (b := f.b) (k := f.k) F.1 F.2.1 F.2.2.1 hb
  refine ⟨b', _, F', ?_⟩
  have s1 : exS G3 n (.set 10 (.bin .mod (.bin .add (.loc 14) (.int 1)) (.bin .add (.bi .len [.loc 1]) (.int 1)))) (f.rho e2 e13 (some (.int r)) e15 e16 e17 e18 e19 e20 e21 e22 e23 e24 e25 e26) σ = some (.next, Fr01.rho { f with fo := b' } e2 e13 (some (.int r)) e15 e16 e17 e18 e19 e20 e21 e22 e23 e24 e25 e26, σ) := by
    simp only [exS_expr, exS_set, exS_setT, exS_setA, exS_augA, exS_ite, exS_whl, exS_for1, exS_forT, exS_ret, exB_nil, exB_cons, ev_non, ev_bool, ev_int, ev_str, ev_loc, ev_glob, ev_bin, ev_cmp, ev_conj, ev_disj, ev_not, ev_neg, ev_ife, ev_idx, ev_slc, ev_lst, ev_tup, ev_attr, ev_cat, ev_bi, ev_rng, ev_mkset, ev_sm, ev_call, ev_scall, ev_meth, ev_new, ev_comp, ev_enum, evs_nil, evs_cons, evC_nil, evC_cons, List.getElem?_cons_succ, List.getElem?_cons_zero, Option.bind_some, Option.map_some, biV, arg1, arg2, lenV, isbV, int2, bin_add, e, List.set_cons_succ, List.set_cons_zero, int1]
  unfold sB12
  refine (exB_next s1).trans ?_
  simp only [exS_expr, exS_set, exS_setT, exS_setA, exS_augA, exS_ite, exS_whl, exS_for1, exS_forT, exS_ret, exB_nil, exB_cons, ev_non, ev_bool, ev_int, ev_str, ev_loc, ev_glob, ev_bin, ev_cmp, ev_conj, ev_disj, ev_not, ev_neg, ev_ife, ev_idx, ev_slc, ev_lst, ev_tup, ev_attr, ev_cat, ev_bi, ev_rng, ev_mkset, ev_sm, ev_call, ev_scall, ev_meth, ev_new, ev_comp, ev_enum, evs_nil, evs_cons, evC_nil, evC_cons, List.getElem?_cons_succ, List.getElem?_cons_zero, Option.bind_some, Option.map_some, p]
theorem arm13 (F : f.Ok σ) (v r : Int) : ∃ (k' : Int) (σ' : St), Fr01.Ok { f with b := v, k := k' } σ' ∧
    exB G3 n sB13 (f.rho e2 e13 (some (.int r)) (some (.int v)) e16 e17 e18 e19 e20 e21 e22 e23 e24 e25 e26) σ = some (.next, Fr01.rho { f with b := v, k := k' } e2 e13 (some (.int r)) (some (.int v)) e16 e17 e18 e19 e20 e21 e22 e23 e24 e25 e26, σ') := by
  obtain ⟨b', hb, e⟩ := mod_len r f.w
  have p := pu4 gok3 v F.2.2.2.2.2.1
  have F1 := Ok_set F (b := v) (k := f.k) F.1 F.2.1 F.2.2.1 F.2.2.2.1
  have p2 := pu5 gok3 (b' : Int) F1.2.2.2.2.2.1
  have F' := Ok_set F1 (b := v) (k := (b' : Int)) F.1 F.2.1 F.2.2.1 F.2.2.2.1
  refine ⟨(b' : Int), _, F', ?_⟩
  have s1 : exS G3 n (.setT [11, 12] true (.tup [.loc 15, .bin .mod (.bin .add (.loc 14) (.int 1)) (.bin .add (.bi .len [.loc 1]) (.int 1))])) (f.rho e2 e13 (some (.int r)) (some (.int v)) e16 e17 e18 e19 e20 e21 e22 e23 e24 e25 e26) σ = some (.next, Fr01.rho { f with b := v, k := (b' : Int) } e2 e13 (some (.int r)) (some (.int v)) e16 e17 e18 e19 e20 e21 e22 e23 e24 e25 e26, σ) := by
    simp only [exS_expr, exS_set, exS_setT, exS_setA, exS_augA, exS_ite, exS_whl, exS_for1, exS_forT, exS_ret, exB_nil, exB_cons, ev_non, ev_bool, ev_int, ev_str, ev_loc, ev_glob, ev_bin, ev_cmp, ev_conj, ev_disj, ev_not, ev_neg, ev_ife, ev_idx, ev_slc, ev_lst, ev_tup, ev_attr, ev_cat, ev_bi, ev_rng, ev_mkset, ev_sm, ev_call, ev_scall, ev_meth, ev_new, ev_comp, ev_enum, evs_nil, evs_cons, evC_nil, evC_cons, List.getElem?_cons_succ, List.getElem?_cons_zero, Option.bind_some, Option.map_some, biV, arg1, arg2, lenV, isbV, int2, bin_add, e, setTup, setAll, List.set_cons_succ, List.set_cons_zero, if_true, List.reverse_cons, List.reverse_nil, List.nil_append, List.cons_append, int1]
  unfold sB13
  refine (exB_next s1).trans ?_
  simp only [exS_expr, exS_set, exS_setT, exS_setA, exS_augA, exS_ite, exS_whl, exS_for1, exS_forT, exS_ret, exB_nil, exB_cons, ev_non, ev_bool, ev_int, ev_str, ev_loc, ev_glob, ev_bin, ev_cmp, ev_conj, ev_disj, ev_not, ev_neg, ev_ife, ev_idx, ev_slc, ev_lst, ev_tup, ev_attr, ev_cat, ev_bi, ev_rng, ev_mkset, ev_sm, ev_call, ev_scall, ev_meth, ev_new, ev_comp, ev_enum, evs_nil, evs_cons, evC_nil, evC_cons, List.getElem?_cons_succ, List.getElem?_cons_zero, Option.bind_some, Option.map_some, p, p2]
theorem arm15 (F : f.Ok σ) : ∃ σ', Fr01.Ok { f with a := f.o, o := f.a, w2 := f.w, c2 := f.c, l2 := (f.w.length : Int) - (f.bt : Int), lb2 := f.fo, b2 := f.b, k2 := f.k } σ' ∧
    exB G3 n sB15 (f.rho e2 e13 e14 e15 e16 e17 e18 e19 e20 e21 e22 e23 e24 e25 e26) σ = some (.next, Fr01.rho { f with a := f.o, o := f.a, w2 := f.w, c2 := f.c, l2 := (f.w.length : Int) - (f.bt : Int), lb2 := f.fo, b2 := f.b, k2 := f.k } e2 e13 e14 e15 e16 e17 e18 e19 e20 e21 e22 e23 e24 e25 e26, σ') := by
  have cl : ((f.w.take f.c).length : Int) = (f.c : Int) := by have := F.2.1; simp; omega
  have cp := copy3 (Ne.symm F.2.2.2.2.1) F.2.2.2.2.2.2 F.2.2.2.2.2.1
  refine ⟨σ.set f.o (obAt f.w f.c f.bt f.fo f.b f.k), ⟨F.1, F.2.1, F.2.2.1, F.2.2.2.1, Ne.symm F.2.2.2.2.1, set_at F.2.2.2.2.2.2, (List.getElem?_set_ne (Ne.symm F.2.2.2.2.1)).trans F.2.2.2.2.2.1⟩, ?_⟩
  unfold sB15
  simp only [exS_expr, exS_set, exS_setT, exS_setA, exS_augA, exS_ite, exS_whl, exS_for1, exS_forT, exS_ret, exB_nil, exB_cons, ev_non, ev_bool, ev_int, ev_str, ev_loc, ev_glob, ev_bin, ev_cmp, ev_conj, ev_disj, ev_not, ev_neg, ev_ife, ev_idx, ev_slc, ev_lst, ev_tup, ev_attr, ev_cat, ev_bi, ev_rng, ev_mkset, ev_sm, ev_call, ev_scall, ev_meth, ev_new, ev_comp, ev_enum, evs_nil, evs_cons, evC_nil, evC_cons, List.getElem?_cons_succ, List.getElem?_cons_zero, Option.bind_some, Option.map_some, cp, biV, arg1, arg2, lenV, isbV, int2, lenS, cl, bin_sub, setTup, setAll, List.set_cons_succ, List.set_cons_zero, if_true, List.reverse_cons, List.reverse_nil, List.nil_append, List.cons_append, int1]
end
end Mine
end

section
open PySem PySem.W PyProof.Rows
set_option Elab.async false
set_option maxRecDepth 100000
namespace Mine
theorem clip_nat (n k : Nat) : clipAt n (k : Int) = min k n := by
  unfold clipAt; rw [if_neg (by omega)]; omega
section
variable {σ : St} {f : Fr01} {n : Nat} {e2 e13 e14 e15 e16 e17 e18 e19 e20 e21 e22 e23 e24 e25 e26 : Option V}

/-- the frame while the word is turned -/
noncomputable abbrev Fr01.rhoW (f : Fr01) (w' : List Nat) (e2 e13 e14 e15 e16 e17 e18 e19 e20 e21 e22 e23 e24 e25 e26 : Option V) : Rho :=
  [some f.sc, some (.str w'), e2, some f.dd, some (.obj f.a), some (.obj f.o), some (.list [.str f.w2, .int f.c2, .int f.l2, .int f.lb2, .int f.b2, .int f.k2]), some (dnN f.w f.c), some (upN f.w f.c), some (.int (f.bt : Int)), some (.int (f.fo : Int)), some (.int f.b), some (.int f.k), e13, e14, e15, e16, e17, e18, e19, e20, e21, e22, e23, e24, e25, e26]

theorem turn_ok (w : List Nat) (hw : w.length ≤ 24) (r : Int) : ∃ nw : List Nat, nw.length ≤ 24 ∧ ∀ (f : Fr01) (σ : St) (n : Nat) (e2 e13 e15 e16 e17 e18 e19 e20 e21 e22 e23 e24 e25 e26 : Option V),
    exS G3 n (.ite (.cmp .eq (.bin .mod (.loc 14) (.int 3)) (.int 0)) [.set 1 (.slc (.bin .add (.loc 1) (.idx (.glob 0) (.bin .mod (.bin .fdiv (.loc 14) (.int 3)) (.int 17)))) .non (.int 24))] [.ite (.cmp .eq (.bin .mod (.loc 14) (.int 3)) (.int 1)) [.set 1 (.slc (.loc 1) .non (.bin .fdiv (.bi .len [.loc 1]) (.int 2)))] [.set 1 (.slc (.loc 1) (.bin .mod (.bin .fdiv (.loc 14) (.int 3)) (.bin .add (.bi .len [.loc 1]) (.int 1))) .non)]])
      (f.rhoW w e2 e13 (some (.int r)) e15 e16 e17 e18 e19 e20 e21 e22 e23 e24 e25 e26) σ = some (.next, f.rhoW nw e2 e13 (some (.int r)) e15 e16 e17 e18 e19 e20 e21 e22 e23 e24 e25 e26, σ) := by
  have hl : (0 : Int) < (w.length : Int) + 1 := by omega
  obtain ⟨k0, k3⟩ := fmod_lt r (b := 3) (by decide)
  obtain ⟨j0, j1⟩ := fmod_lt (r.fdiv 3) (b := 17) (by decide)
  obtain ⟨x, _, hx⟩ := idx_signs sgns j0 j1
  have e1 := bin_mod r (b := 3) (by decide)
  have e2' := bin_fdiv r (b := 3) (by decide) (by decide)
  have e3 := bin_mod (r.fdiv 3) (b := 17) (by decide)
  have e4 := bin_mod (r.fdiv 3) hl
  have e5 := bin_fdiv (w.length : Int) (b := 2) (by decide) (by decide)
  have g0 : G3.P.gls[0]? = some (("_law_signs" : Str), .list (signsV sgns)) := rfl
  have q : binV .add (.str w) (.str [x]) = some (.str (w ++ [x])) := by
    simp only [binV, addV, mulV, int2, int1, asS, asL]; rw [if_pos (by simp only [List.length_singleton]; unfold big; omega)]
  generalize (r.fdiv 3).fmod 17 = jj at *
  generalize (r.fdiv 3).fmod ((w.length : Int) + 1) = s at *
  generalize r.fmod 3 = k at *
  have hk' : k = 0 ∨ k = 1 ∨ k = 2 := by omega
  rcases hk' with rfl | rfl | rfl
  · refine ⟨cut (w ++ [x]) none (some 24), ?_, fun f σ n e2 e13 e15 e16 e17 e18 e19 e20 e21 e22 e23 e24 e25 e26 => ?_⟩
    · have := clip_nat (w ++ [x]).length 24
      simp only [cut, Option.elim_none, Option.elim_some, List.length_take]
      have e : clipAt (w ++ [x]).length ((24 : Nat) : Int) = min 24 (w ++ [x]).length := this
      have e' : clipAt (w ++ [x]).length (24 : Int) = min 24 (w ++ [x]).length := e
      rw [e']; omega
    · have c : cmpV .eq (.int 0) (.int 0) = some true := rfl
      simp only [exS_expr, exS_set, exS_setT, exS_setA, exS_augA, exS_ite, exS_whl, exS_for1, exS_forT, exS_ret, exB_nil, exB_cons, ev_non, ev_bool, ev_int, ev_str, ev_loc, ev_glob, ev_bin, ev_cmp, ev_conj, ev_disj, ev_not, ev_neg, ev_ife, ev_idx, ev_slc, ev_lst, ev_tup, ev_attr, ev_cat, ev_bi, ev_rng, ev_mkset, ev_sm, ev_call, ev_scall, ev_meth, ev_new, ev_comp, ev_enum, evs_nil, evs_cons, evC_nil, evC_cons, List.getElem?_cons_succ, List.getElem?_cons_zero, Option.bind_some, Option.map_some, e1, e2', e3, c, g0, hx, q, boolOf, if_true, partV, sliceV, List.set_cons_succ, List.set_cons_zero]
  · refine ⟨cut w none (some ((w.length : Int).fdiv 2)), Nat.le_trans (cut_length_le _ _ _) hw, fun f σ n e2 e13 e15 e16 e17 e18 e19 e20 e21 e22 e23 e24 e25 e26 => ?_⟩
    have c : cmpV .eq (.int 1) (.int 0) = some false := rfl
    have c' : cmpV .eq (.int 1) (.int 1) = some true := rfl
    simp only [exS_expr, exS_set, exS_setT, exS_setA, exS_augA, exS_ite, exS_whl, exS_for1, exS_forT, exS_ret, exB_nil, exB_cons, ev_non, ev_bool, ev_int, ev_str, ev_loc, ev_glob, ev_bin, ev_cmp, ev_conj, ev_disj, ev_not, ev_neg, ev_ife, ev_idx, ev_slc, ev_lst, ev_tup, ev_attr, ev_cat, ev_bi, ev_rng, ev_mkset, ev_sm, ev_call, ev_scall, ev_meth, ev_new, ev_comp, ev_enum, evs_nil, evs_cons, evC_nil, evC_cons, List.getElem?_cons_succ, List.getElem?_cons_zero, Option.bind_some, Option.map_some, e1, e5, c, c', boolOf, if_true, Bool.false_eq_true, if_false, partV, sliceV, biV, arg1, arg2, lenV, isbV, int2, List.set_cons_succ, List.set_cons_zero, int1]
  · refine ⟨cut w (some s) none, Nat.le_trans (cut_length_le _ _ _) hw, fun f σ n e2 e13 e15 e16 e17 e18 e19 e20 e21 e22 e23 e24 e25 e26 => ?_⟩
    have c : cmpV .eq (.int 2) (.int 0) = some false := rfl
    have c' : cmpV .eq (.int 2) (.int 1) = some false := rfl
    simp only [exS_expr, exS_set, exS_setT, exS_setA, exS_augA, exS_ite, exS_whl, exS_for1, exS_forT, exS_ret, exB_nil, exB_cons, ev_non, ev_bool, ev_int, ev_str, ev_loc, ev_glob, ev_bin, ev_cmp, ev_conj, ev_disj, ev_not, ev_neg, ev_ife, ev_idx, ev_slc, ev_lst, ev_tup, ev_attr, ev_cat, ev_bi, ev_rng, ev_mkset, ev_sm, ev_call, ev_scall, ev_meth, ev_new, ev_comp, ev_enum, evs_nil, evs_cons, evC_nil, evC_cons, List.getElem?_cons_succ, List.getElem?_cons_zero, Option.bind_some, Option.map_some, e1, e2', e4, c, c', boolOf, if_true, Bool.false_eq_true, if_false, partV, sliceV, biV, arg1, arg2, lenV, isbV, int2, bin_add, List.set_cons_succ, List.set_cons_zero, int1]

theorem arm14 (F : f.Ok σ) (r : Int) : ∃ (f' : Fr01) (σ' : St), f'.sc = f.sc ∧ f'.dd = f.dd ∧ f'.Ok σ' ∧
    exB G3 n sB14 (f.rho e2 e13 (some (.int r)) e15 e16 e17 e18 e19 e20 e21 e22 e23 e24 e25 e26) σ = some (.next, f'.rho e2 e13 (some (.int r)) e15 e16 e17 e18 e19 e20 e21 e22 e23 e24 e25 e26, σ') := by
  have hw := F.1
  obtain ⟨nw, hn, t⟩ := turn_ok f.w.reverse (by simpa using hw) r
  have m1 := mirS3 f.w (by omega)
  have m2 := mirS3 nw (by omega)
  have j := join_signs f.w.reverse (by simp [big]; omega)
  have p := setc3 F.2.2.2.2.2.1 nw
  have F' := Ok_set F (w := nw) (c := 0) (bt := 0) (fo := 0) (b := 0) (k := (nw.length : Int)) hn (Nat.zero_le _) (Nat.zero_le _) (Nat.zero_le _)
  have e : obAt nw 0 0 0 0 (nw.length : Int) = .inst C1 (stF nw 0 nw.length 0 0 nw.length) := by
    unfold obAt
    have : (nw.length : Int) - ((0 : Nat) : Int) = nw.length := by omega
    rw [this]; rfl
  rw [e] at F'
  refine ⟨{ f with w := nw, c := 0, bt := 0, fo := 0, b := 0, k := (nw.length : Int) }, _, rfl, rfl, F', ?_⟩
  have s1 : exS G3 n (.set 1 (.sm .join (.str []) (.call 2 [.loc 1]))) (f.rho e2 e13 (some (.int r)) e15 e16 e17 e18 e19 e20 e21 e22 e23 e24 e25 e26) σ = some (.next, f.rhoW f.w.reverse e2 e13 (some (.int r)) e15 e16 e17 e18 e19 e20 e21 e22 e23 e24 e25 e26, σ) := by
    simp only [exS_expr, exS_set, exS_setT, exS_setA, exS_augA, exS_ite, exS_whl, exS_for1, exS_forT, exS_ret, exB_nil, exB_cons, ev_non, ev_bool, ev_int, ev_str, ev_loc, ev_glob, ev_bin, ev_cmp, ev_conj, ev_disj, ev_not, ev_neg, ev_ife, ev_idx, ev_slc, ev_lst, ev_tup, ev_attr, ev_cat, ev_bi, ev_rng, ev_mkset, ev_sm, ev_call, ev_scall, ev_meth, ev_new, ev_comp, ev_enum, evs_nil, evs_cons, evC_nil, evC_cons, List.getElem?_cons_succ, List.getElem?_cons_zero, Option.bind_some, Option.map_some, m1, j, List.set_cons_succ, List.set_cons_zero]
  unfold sB14
  refine (exB_next s1).trans ((exB_next (t f σ n e2 e13 e15 e16 e17 e18 e19 e20 e21 e22 e23 e24 e25 e26)).trans ?_)
  simp only [exS_expr, exS_set, exS_setT, exS_setA, exS_augA, exS_ite, exS_whl, exS_for1, exS_forT, exS_ret, exB_nil, exB_cons, ev_non, ev_bool, ev_int, ev_str, ev_loc, ev_glob, ev_bin, ev_cmp, ev_conj, ev_disj, ev_not, ev_neg, ev_ife, ev_idx, ev_slc, ev_lst, ev_tup, ev_attr, ev_cat, ev_bi, ev_rng, ev_mkset, ev_sm, ev_call, ev_scall, ev_meth, ev_new, ev_comp, ev_enum, evs_nil, evs_cons, evC_nil, evC_cons, List.getElem?_cons_succ, List.getElem?_cons_zero, Option.bind_some, Option.map_some, p, m2, biV, arg1, arg2, lenV, isbV, int2, setTup, setAll, List.set_cons_succ, List.set_cons_zero, if_true, Bool.false_eq_true, if_false, List.reverse_cons, List.reverse_nil, List.nil_append, List.cons_append, int1]
  rfl

theorem kinds16 {kind : Int} (h0 : 0 ≤ kind) (h16 : kind < 16) : kind = 0 ∨ kind = 1 ∨ kind = 2 ∨ kind = 3 ∨ kind = 4 ∨ kind = 5 ∨ kind = 6 ∨ kind = 7 ∨ kind = 8 ∨ kind = 9 ∨ kind = 10 ∨ kind = 11 ∨ kind = 12 ∨ kind = 13 ∨ kind = 14 ∨ kind = 15 := by
  obtain ⟨m, rfl⟩ := Int.eq_ofNat_of_zero_le h0
  have all : ∀ m : Nat, m < 16 → ((m : Int) = 0 ∨ (m : Int) = 1 ∨ (m : Int) = 2 ∨ (m : Int) = 3 ∨ (m : Int) = 4 ∨ (m : Int) = 5 ∨ (m : Int) = 6 ∨ (m : Int) = 7 ∨ (m : Int) = 8 ∨ (m : Int) = 9 ∨ (m : Int) = 10 ∨ (m : Int) = 11 ∨ (m : Int) = 12 ∨ (m : Int) = 13 ∨ (m : Int) = 14 ∨ (m : Int) = 15) := by decide
  exact all m (Int.ofNat_lt.mp h16)
theorem body_go (kind r : Int) (t : Bool) (c : cmpV .lt (.int kind) (.int 10) = some t) (R : ∀ v : Int, 0 ≤ v → v ≤ f.w.length → ArmR f σ n (f.rho e2 (some (.int kind)) (some (.int r)) (some (.int v)) e16 e17 e18 e19 e20 e21 e22 e23 e24 e25 e26) (if t then armA else sBs) e2 (some (.int kind)) (some (.int r)) (some (.int v)) e26) :
    Goes f.sc f.dd (exB G3 n sBody (f.rho e2 (some (.int kind)) (some (.int r)) e15 e16 e17 e18 e19 e20 e21 e22 e23 e24 e25 e26) σ) := by
  obtain ⟨v, v0, v1, pl⟩ := place_ok (σ := σ) (f := f) (n := n) (e2 := e2) (e13 := some (.int kind)) (e15 := e15) (e16 := e16) (e17 := e17) (e18 := e18) (e19 := e19) (e20 := e20) (e21 := e21) (e22 := e22) (e23 := e23) (e24 := e24) (e25 := e25) (e26 := e26) r
  obtain ⟨f', σ', d16, d17, d18, d19, d20, d21, d22, d23, d24, d25, a1, a2, a3, a4⟩ := R v v0 v1
  have it : exS G3 n (.ite (.cmp .lt (.loc 13) (.int 10)) armA sBs) (f.rho e2 (some (.int kind)) (some (.int r)) (some (.int v)) e16 e17 e18 e19 e20 e21 e22 e23 e24 e25 e26) σ = some (.next, f'.rho e2 (some (.int kind)) (some (.int r)) (some (.int v)) d16 d17 d18 d19 d20 d21 d22 d23 d24 d25 e26, σ') :=
    ite_of (t := t) (σ' := σ) (cmp_of (σ1 := σ) (va := .int kind) (vb := .int 10) rfl rfl c) (by cases t <;> exact a4)
  exact ⟨_, σ', (exB_next pl).trans ((exB_next it).trans ((exB_next (check_ok a3)).trans rfl)), ⟨f', _, _, _, _, _, _, _, _, _, _, _, _, _, _, _, a1, a2, rfl, a3⟩⟩
theorem ch_no {ρ : Rho} {kind j : Int} {a b : List S} (hρ : ρ[13]? = some (some (.int kind))) (c : cmpV .eq (.int kind) (.int j) = some false) (R : ArmR f σ n ρ b e2 e13 e14 e15 e26) : ArmR f σ n ρ [.ite (.cmp .eq (.loc 13) (.int j)) a b] e2 e13 e14 e15 e26 := by
  obtain ⟨f', σ', d16, d17, d18, d19, d20, d21, d22, d23, d24, d25, a1, a2, a3, a4⟩ := R
  exact ⟨f', σ', _, _, _, _, _, _, _, _, _, _, a1, a2, a3, exB_next' (ite_of (cmp_of (by rw [ev_loc, hρ]; rfl) rfl c) a4) rfl⟩
theorem ch_yes {ρ : Rho} {kind j : Int} {a b : List S} (hρ : ρ[13]? = some (some (.int kind))) (c : cmpV .eq (.int kind) (.int j) = some true) (R : ArmR f σ n ρ a e2 e13 e14 e15 e26) : ArmR f σ n ρ [.ite (.cmp .eq (.loc 13) (.int j)) a b] e2 e13 e14 e15 e26 := by
  obtain ⟨f', σ', d16, d17, d18, d19, d20, d21, d22, d23, d24, d25, a1, a2, a3, a4⟩ := R
  exact ⟨f', σ', _, _, _, _, _, _, _, _, _, _, a1, a2, a3, exB_next' (ite_of (cmp_of (by rw [ev_loc, hρ]; rfl) rfl c) a4) rfl⟩
theorem body_ok (F : f.Ok σ) (kind r : Int) (h0 : 0 ≤ kind) (h16 : kind < 16) : Goes f.sc f.dd (exB G3 n sBody (f.rho e2 (some (.int kind)) (some (.int r)) e15 e16 e17 e18 e19 e20 e21 e22 e23 e24 e25 e26) σ) := by
  have hw : f.w.length ≤ 100 := Nat.le_trans F.1 (by decide)
  have hs := F.2.2.2.2.2.1
  rcases kinds16 h0 h16 with rfl | rfl | rfl | rfl | rfl | rfl | rfl | rfl | rfl | rfl | rfl | rfl | rfl | rfl | rfl | rfl
  · exact body_go 0 r true rfl fun v v0 v1 => arm_group F 0 r true false true rfl rfl rfl rfl fun L gv h => deed0 hs h F.2.1 hw
  · exact body_go 1 r true rfl fun v v0 v1 => arm_group F 1 r true false false rfl rfl rfl rfl fun L gv h => deed1 hs h F.2.1 hw
  · exact body_go 2 r true rfl fun v v0 v1 => arm_group F 2 r true true true rfl rfl rfl rfl fun L gv h => deed2 hs h F.2.1 hw F.2.2.1
  · exact body_go 3 r true rfl fun v v0 v1 => arm_group F 3 r true true false rfl rfl rfl rfl fun L gv h => deed3 hs h F.2.1 hw F.2.2.1
  · exact body_go 4 r true rfl fun v v0 v1 => arm_group F 4 r false false true rfl rfl rfl rfl fun L gv h => deed4 hs h F.2.1 hw
  · exact body_go 5 r true rfl fun v v0 v1 => arm_group F 5 r false false false rfl rfl rfl rfl fun L gv h => deed5 hs h F.2.1 hw
  · exact body_go 6 r true rfl fun v v0 v1 => arm_group F 6 r false true true rfl rfl rfl rfl fun L gv h => deed6 hs h F.2.1 hw F.2.2.2.1
  · exact body_go 7 r true rfl fun v v0 v1 => arm_group F 7 r false true false rfl rfl rfl rfl fun L gv h => deed7 hs h F.2.1 hw F.2.2.2.1
  · exact body_go 8 r true rfl fun v v0 v1 => arm_equal F 8 r true rfl rfl fun g h => deed8 hs F.2.1 hw F.2.2.1 h
  · exact body_go 9 r true rfl fun v v0 v1 => arm_equal F 9 r false rfl rfl fun g h => deed9 hs F.2.1 hw F.2.2.2.1 h
  · exact body_go 10 r false rfl fun v v0 v1 => let ⟨σ', a3, a4⟩ := arm10 F v v0 v1; ch_yes rfl rfl ⟨{ f with c := v.toNat }, _, _, _, _, _, _, _, _, _, _, _, rfl, rfl, a3, a4⟩
  · exact body_go 11 r false rfl fun v v0 v1 => let ⟨b', σ', a3, a4⟩ := arm11 F r; ch_no rfl rfl (ch_yes rfl rfl ⟨{ f with bt := b' }, _, _, _, _, _, _, _, _, _, _, _, rfl, rfl, a3, a4⟩)
  · exact body_go 12 r false rfl fun v v0 v1 => let ⟨b', σ', a3, a4⟩ := arm12 F r; ch_no rfl rfl (ch_no rfl rfl (ch_yes rfl rfl ⟨{ f with fo := b' }, _, _, _, _, _, _, _, _, _, _, _, rfl, rfl, a3, a4⟩))
  · exact body_go 13 r false rfl fun v v0 v1 => let ⟨k', σ', a3, a4⟩ := arm13 F v r; ch_no rfl rfl (ch_no rfl rfl (ch_no rfl rfl (ch_yes rfl rfl ⟨{ f with b := v, k := k' }, _, _, _, _, _, _, _, _, _, _, _, rfl, rfl, a3, a4⟩)))
  · exact body_go 14 r false rfl fun v v0 v1 => let ⟨_, σ', a1, a2, a3, a4⟩ := arm14 F r; ch_no rfl rfl (ch_no rfl rfl (ch_no rfl rfl (ch_no rfl rfl (ch_yes rfl rfl ⟨_, _, _, _, _, _, _, _, _, _, _, _, a1, a2, a3, a4⟩))))
  · exact body_go 15 r false rfl fun v v0 v1 => let ⟨σ', a3, a4⟩ := arm15 F; ch_no rfl rfl (ch_no rfl rfl (ch_no rfl rfl (ch_no rfl rfl (ch_no rfl rfl (⟨{ f with a := f.o, o := f.a, w2 := f.w, c2 := f.c, l2 := (f.w.length : Int) - (f.bt : Int), lb2 := f.fo, b2 := f.b, k2 := f.k }, _, _, _, _, _, _, _, _, _, _, _, rfl, rfl, a3, a4⟩)))))
end
end Mine
end

section
open PySem PySem.W PyProof.Rows
set_option Elab.async false
set_option maxRecDepth 100000
namespace Mine

/-- a deed as the law's list bears it -/
noncomputable def IsDeed (v : V) : Prop := ∃ k r : Int, v = .tup [.int k, .int r] ∧ 0 ≤ k ∧ k < 16
theorem deeds_loop (n : Nat) (sc dd : V) : ∀ (D : List V) (ρ : Rho) (σ : St), (∀ v ∈ D, IsDeed v) → Inv sc dd ρ σ → Goes sc dd (loopF (fun v ρ => setTup [13, 14] false v ρ) (fun ρ σ => exB G3 n sBody ρ σ) D ρ σ)
  | [], ρ, σ, _, h => ⟨ρ, σ, rfl, h⟩
  | v :: D, ρ, σ, hD, h => by
    obtain ⟨k, r, rfl, k0, k16⟩ := hD v (by simp)
    obtain ⟨f, e2, e13, e14, e15, e16, e17, e18, e19, e20, e21, e22, e23, e24, e25, e26, rfl, rfl, rfl, F⟩ := h
    obtain ⟨ρ', σ', e, I⟩ := body_ok (n := n) (e2 := e2) (e15 := e15) (e16 := e16) (e17 := e17) (e18 := e18) (e19 := e19) (e20 := e20) (e21 := e21) (e22 := e22) (e23 := e23) (e24 := e24) (e25 := e25) (e26 := e26) F k r k0 k16
    have st : setTup [13, 14] false (.tup [.int k, .int r]) (f.rho e2 e13 e14 e15 e16 e17 e18 e19 e20 e21 e22 e23 e24 e25 e26) = some (f.rho e2 (some (.int k)) (some (.int r)) e15 e16 e17 e18 e19 e20 e21 e22 e23 e24 e25 e26) := rfl
    have ih := deeds_loop n f.sc f.dd D ρ' σ' (fun v hv => hD v (by simp [hv])) I
    rw [loopF, st, Option.bind_some, e, Option.bind_some]
    exact ih

noncomputable abbrev rW (sc : V) (w : List Nat) (e2 e3 : Option V) : Rho := [some sc, some (.str w), e2, e3, none, none, none, none, none, none, none, none, none, none, none, none, none, none, none, none, none, none, none, none, none, none, none]
noncomputable def sWord : S := .set 1 (.bin .add (.loc 1) (.bin .mul (.idx (.glob 0) (.bin .mod (.loc 2) (.int 17))) (.bin .add (.int 1) (.bin .mod (.bin .fdiv (.loc 2) (.int 17)) (.int 3)))))
theorem word_loop (n : Nat) (sc : V) (σ : St) : ∀ (xs : List Int) (w : List Nat) (e2 : Option V), w.length + 3 * xs.length ≤ 1000 → ∃ (w' : List Nat) (e2' : Option V), w'.length ≤ w.length + 3 * xs.length ∧
    loopF (fun v ρ => some (ρ.set 2 (some v))) (fun ρ σ => exB G3 n [sWord] ρ σ) (xs.map .int) (rW sc w e2 none) σ = some (.next, rW sc w' e2' none, σ)
  | [], w, e2, h => ⟨w, e2, by simp, rfl⟩
  | x :: xs, w, e2, h => by
    simp only [List.length_cons] at h
    obtain ⟨j0, j1⟩ := fmod_lt x (b := 17) (by decide)
    obtain ⟨k0, k1⟩ := fmod_lt (x.fdiv 17) (b := 3) (by decide)
    obtain ⟨c, _, hc⟩ := idx_signs sgns j0 j1
    have e1 := bin_mod x (b := 17) (by decide)
    have e2' := bin_fdiv x (b := 17) (by decide) (by decide)
    have e3 := bin_mod (x.fdiv 17) (b := 3) (by decide)
    generalize (x.fdiv 17).fmod 3 = k at *
    have g0 : G3.P.gls[0]? = some (("_law_signs" : Str), .list (signsV sgns)) := rfl
    have m : binV .mul (.str [c]) (.int (1 + k)) = some (.str (rept [c] (1 + k).toNat)) := by
      simp only [binV, addV, mulV, int2, int1, asS, asL]; rw [if_pos ⟨by omega, by omega, by simp⟩]
    have rl : (rept [c] (1 + k).toNat).length ≤ 3 := by rw [rept_length]; simp; omega
    have a : binV .add (.str w) (.str (rept [c] (1 + k).toNat)) = some (.str (w ++ rept [c] (1 + k).toNat)) := by
      simp only [binV, addV, mulV, int2, int1, asS, asL]; rw [if_pos (by unfold big; omega)]
    have s : exB G3 n [sWord] (rW sc w (some (.int x)) none) σ = some (.next, rW sc (w ++ rept [c] (1 + k).toNat) (some (.int x)) none, σ) := by
      unfold sWord
      simp only [exB_nil, exB_cons, exS_expr, exS_set, exS_setT, exS_setA, exS_augA, exS_ite, exS_whl, exS_for1, exS_forT, exS_ret, ev_non, ev_bool, ev_int, ev_str, ev_loc, ev_glob, ev_bin, ev_cmp, ev_conj, ev_disj, ev_not, ev_neg, ev_ife, ev_idx, ev_slc, ev_lst, ev_tup, ev_attr, ev_cat, ev_bi, ev_rng, ev_mkset, ev_sm, ev_call, ev_scall, ev_meth, ev_new, ev_comp, ev_enum, List.getElem?_cons_succ, List.getElem?_cons_zero, Option.bind_some, Option.map_some, e1, e2', e3, g0, hc, m, a, bin_add, List.set_cons_succ, List.set_cons_zero]
    obtain ⟨w', d2, hl, ih⟩ := word_loop n sc σ xs (w ++ rept [c] (1 + k).toNat) (some (.int x)) (by rw [List.length_append]; omega)
    refine ⟨w', d2, by rw [List.length_append] at hl; simp only [List.length_cons]; omega, ?_⟩
    rw [List.map_cons, loopF, Option.bind_some]
    show ((exB G3 n [sWord] (rW sc w (some (.int x)) none) σ).bind _) = _
    rw [s, Option.bind_some]
    exact ih

theorem cut_list {α : Type} (xs : List α) (k : Nat) : cut xs none (some (k : Int)) = xs.take k := by
  simp only [cut, Option.elim_none, Option.elim_some, clip_nat, List.drop_zero, Nat.sub_zero]
  by_cases h : k ≤ xs.length
  · rw [Nat.min_eq_left h]
  · rw [Nat.min_eq_right (by omega), List.take_of_length_le (Nat.le_refl _), List.take_of_length_le (by omega)]
noncomputable def deedOf : V → V
  | .int n => .tup [.int (n.fmod 16), .int (n.fdiv 16)]
  | _ => .none
noncomputable def deedAt (m : Nat) : V → V
  | .int n => .tup [.int n, .int ((m : Int) + n)]
  | _ => .none

theorem law_runs (zs : List Int) (hi : zs.length ≤ 63) : ∃ σ', runB G3 fuel 1 26 b_law [.list (zs.map .int)] [] = some (.bool true, σ') := by
  -- the word
  obtain ⟨w1, d2, hw1, lp⟩ := word_loop fuel (.list (zs.map .int)) [] (zs.take 12) [] none (by simp; omega)
  have hw1' : w1.length ≤ 36 := by simp at hw1; omega
  have c12 : cut (zs.map V.int) none (some (12 : Int)) = (zs.take 12).map .int := (cut_list _ 12).trans (List.map_take ..).symm
  have c16 : cut (zs.map V.int) none (some (16 : Int)) = (zs.take 16).map .int := (cut_list _ 16).trans (List.map_take ..).symm
  have c20 : cut w1 none (some (20 : Int)) = w1.take 20 := cut_list _ 20
  generalize hsc : V.list (zs.map .int) = sc at *
  have s0 : exS G3 fuel (.set 1 (.str [])) [some sc, none, none, none, none, none, none, none, none, none, none, none, none, none, none, none, none, none, none, none, none, none, none, none, none, none, none] [] = some (.next, rW sc [] none none, []) := by
    simp only [exS_expr, exS_set, exS_setT, exS_setA, exS_augA, exS_ite, exS_whl, exS_for1, exS_forT, exS_ret, ev_non, ev_bool, ev_int, ev_str, ev_loc, ev_glob, ev_bin, ev_cmp, ev_conj, ev_disj, ev_not, ev_neg, ev_ife, ev_idx, ev_slc, ev_lst, ev_tup, ev_attr, ev_cat, ev_bi, ev_rng, ev_mkset, ev_sm, ev_call, ev_scall, ev_meth, ev_new, ev_comp, ev_enum, Option.map_some, List.set_cons_succ, List.set_cons_zero]
  have s1 : exS G3 fuel (.for1 2 (.slc (.loc 0) .non (.int 12)) [sWord]) (rW sc [] none none) [] = some (.next, rW sc w1 d2 none, []) := by
    rw [exS_for1]
    subst hsc
    simp only [ev_non, ev_bool, ev_int, ev_str, ev_loc, ev_glob, ev_bin, ev_cmp, ev_conj, ev_disj, ev_not, ev_neg, ev_ife, ev_idx, ev_slc, ev_lst, ev_tup, ev_attr, ev_cat, ev_bi, ev_rng, ev_mkset, ev_sm, ev_call, ev_scall, ev_meth, ev_new, ev_comp, ev_enum, List.getElem?_cons_zero, Option.bind_some, Option.map_some, partV, sliceV, c12, iterV]
    exact lp
  have s2 : exS G3 fuel (.set 1 (.slc (.loc 1) .non (.int 20))) (rW sc w1 d2 none) [] = some (.next, rW sc (w1.take 20) d2 none, []) := by
    simp only [exS_expr, exS_set, exS_setT, exS_setA, exS_augA, exS_ite, exS_whl, exS_for1, exS_forT, exS_ret, ev_non, ev_bool, ev_int, ev_str, ev_loc, ev_glob, ev_bin, ev_cmp, ev_conj, ev_disj, ev_not, ev_neg, ev_ife, ev_idx, ev_slc, ev_lst, ev_tup, ev_attr, ev_cat, ev_bi, ev_rng, ev_mkset, ev_sm, ev_call, ev_scall, ev_meth, ev_new, ev_comp, ev_enum, List.getElem?_cons_succ, List.getElem?_cons_zero, Option.bind_some, Option.map_some, partV, sliceV, c20, List.set_cons_succ, List.set_cons_zero]
  generalize hw2 : w1.take 20 = w at *
  have hw : w.length ≤ 20 := by rw [← hw2]; simp; omega
  -- the deeds
  have k1 := compL_all (test := fun i => (evC G3 true ((rW sc w d2 none).set 2 (some i)) [] []).map (·.1)) (elt := fun i => (ev G3 ((rW sc w d2 none).set 2 (some i)) [] (.tup [.bin .mod (.loc 2) (.int 16), .bin .fdiv (.loc 2) (.int 16)])).map (·.1)) (f := deedOf) ((zs.take 16).map .int) (fun _ _ => rfl) (by
    intro x hx
    obtain ⟨i, _, rfl⟩ := List.mem_map.mp hx
    have e1 := bin_mod i (b := 16) (by decide)
    have e2 := bin_fdiv i (b := 16) (by decide) (by decide)
    simp only [ev_non, ev_bool, ev_int, ev_str, ev_loc, ev_glob, ev_bin, ev_cmp, ev_conj, ev_disj, ev_not, ev_neg, ev_ife, ev_idx, ev_slc, ev_lst, ev_tup, ev_attr, ev_cat, ev_bi, ev_rng, ev_mkset, ev_sm, ev_call, ev_scall, ev_meth, ev_new, ev_comp, ev_enum, evs_nil, evs_cons, List.set_cons_succ, List.set_cons_zero, List.getElem?_cons_succ, List.getElem?_cons_zero, Option.bind_some, Option.map_some, e1, e2, deedOf])
  generalize hD1 : ((zs.take 16).map V.int).map deedOf = D1 at *
  have l1 : D1.length ≤ 16 := by rw [← hD1]; simp; omega
  have s3 : exS G3 fuel (.set 3 (.comp (.tup [.bin .mod (.loc 2) (.int 16), .bin .fdiv (.loc 2) (.int 16)]) 2 (.slc (.loc 0) .non (.int 16)) [])) (rW sc w d2 none) [] = some (.next, rW sc w d2 (some (.list D1)), []) := by
    have y : ev G3 (rW sc w d2 none) [] (.slc (.loc 0) .non (.int 16)) = some (.list ((zs.take 16).map .int), []) := by
      subst hsc
      simp only [ev_non, ev_bool, ev_int, ev_str, ev_loc, ev_glob, ev_bin, ev_cmp, ev_conj, ev_disj, ev_not, ev_neg, ev_ife, ev_idx, ev_slc, ev_lst, ev_tup, ev_attr, ev_cat, ev_bi, ev_rng, ev_mkset, ev_sm, ev_call, ev_scall, ev_meth, ev_new, ev_comp, ev_enum, List.getElem?_cons_zero, Option.bind_some, Option.map_some, partV, sliceV, c16]
    rw [exS_set, ev_comp, y, Option.bind_some]
    simp only [iterV, Option.bind_some]
    rw [k1]; rfl
  have k2 := compL_all (test := fun i => (evC G3 true ((rW sc w d2 (some (.list D1))).set 13 (some i)) [] []).map (·.1)) (elt := fun i => (ev G3 ((rW sc w d2 (some (.list D1))).set 13 (some i)) [] (.tup [.loc 13, .bin .add (.bi .len [.loc 3]) (.loc 13)])).map (·.1)) (f := deedAt D1.length) ((List.range 10).map fun (i : Nat) => V.int (0 + (i : Int) * 1)) (fun _ _ => rfl) (by
    intro x hx
    obtain ⟨i, _, rfl⟩ := List.mem_map.mp hx
    simp only [ev_non, ev_bool, ev_int, ev_str, ev_loc, ev_glob, ev_bin, ev_cmp, ev_conj, ev_disj, ev_not, ev_neg, ev_ife, ev_idx, ev_slc, ev_lst, ev_tup, ev_attr, ev_cat, ev_bi, ev_rng, ev_mkset, ev_sm, ev_call, ev_scall, ev_meth, ev_new, ev_comp, ev_enum, evs_nil, evs_cons, List.set_cons_succ, List.set_cons_zero, List.getElem?_cons_succ, List.getElem?_cons_zero, Option.bind_some, Option.map_some, biV, arg1, arg2, lenV, isbV, int2, bin_add, deedAt, int1])
  generalize hD2 : (((List.range 10).map fun (i : Nat) => V.int (0 + (i : Int) * 1)).map (deedAt D1.length)) = D2 at *
  have l2 : D2.length = 10 := by rw [← hD2]; simp
  have s4 : exS G3 fuel (.set 3 (.bin .add (.loc 3) (.comp (.tup [.loc 13, .bin .add (.bi .len [.loc 3]) (.loc 13)]) 13 (.rng [.int 10]) []))) (rW sc w d2 (some (.list D1))) [] = some (.next, rW sc w d2 (some (.list (D1 ++ D2))), []) := by
    have y : ev G3 (rW sc w d2 (some (.list D1))) [] (.rng [.int 10]) = some (.rng 0 10 1, []) := rfl
    have it : iterV (.rng 0 10 1) = some ((List.range 10).map fun (i : Nat) => V.int (0 + (i : Int) * 1)) := by
      simp only [iterV]
      rw [if_pos (by decide), if_pos trivial]
      rfl
    have z : ev G3 (rW sc w d2 (some (.list D1))) [] (.comp (.tup [.loc 13, .bin .add (.bi .len [.loc 3]) (.loc 13)]) 13 (.rng [.int 10]) []) = some (.list D2, []) := by
      rw [ev_comp, y, Option.bind_some]
      dsimp only
      rw [it, Option.bind_some, k2]; rfl
    have a : binV .add (.list D1) (.list D2) = some (.list (D1 ++ D2)) := by
      simp only [binV, addV, mulV, int2, int1, asS, asL]; rw [if_pos (by unfold big; omega)]
    have x3 : ev G3 (rW sc w d2 (some (.list D1))) [] (.loc 3) = some (.list D1, []) := rfl
    rw [exS_set, ev_bin, x3, Option.bind_some, z, Option.bind_some]
    simp only [a, Option.map_some, List.set_cons_succ, List.set_cons_zero]
  have deeds : ∀ v ∈ D1 ++ D2, IsDeed v := by
    intro v hv
    rcases List.mem_append.mp hv with hv | hv
    · rw [← hD1] at hv
      obtain ⟨x, hx, rfl⟩ := List.mem_map.mp hv
      obtain ⟨i, _, rfl⟩ := List.mem_map.mp hx
      have := fmod_lt i (b := 16) (by decide)
      exact ⟨_, _, rfl, this.1, this.2⟩
    · rw [← hD2] at hv
      obtain ⟨x, hx, rfl⟩ := List.mem_map.mp hv
      obtain ⟨i, hi, rfl⟩ := List.mem_map.mp hx
      have := List.mem_range.mp hi
      exact ⟨_, _, rfl, by omega, by omega⟩
  generalize D1 ++ D2 = D at *
  -- the two stemmers
  have m1 := mirS3 w (by omega)
  have j := join_signs sgns (by decide)
  have n1 : newV G3 0 [] = some (.obj 0, [.inst C1 (stF [] 0 0 0 0 0)]) := new3
  have p1 := setc3 (σ := [.inst C1 (stF [] 0 0 0 0 0)]) (a := 0) rfl w
  have n2 : newV G3 0 [Ob.inst C1 (stF w 0 w.length 0 0 w.length)] = some (.obj 1, [.inst C1 (stF w 0 w.length 0 0 w.length), .inst C1 (stF [] 0 0 0 0 0)]) := new3
  have p2 := setc3 (σ := [.inst C1 (stF w 0 w.length 0 0 w.length), .inst C1 (stF [] 0 0 0 0 0)]) (a := 1) rfl sgns
  have q1 := pu1 gok3 5 (σ := [.inst C1 (stF w 0 w.length 0 0 w.length), .inst C1 (stF sgns 0 sgns.length 0 0 sgns.length)]) (k := 1) rfl
  have q2 := pu2 gok3 12 (σ := [.inst C1 (stF w 0 w.length 0 0 w.length), .inst C1 (stF sgns 5 sgns.length 0 0 sgns.length)]) (a := 1) rfl
  have q3 := pu3 gok3 3 (σ := [.inst C1 (stF w 0 w.length 0 0 w.length), .inst C1 (stF sgns 5 12 0 0 sgns.length)]) (a := 1) rfl
  have q4 := pu4 gok3 4 (σ := [.inst C1 (stF w 0 w.length 0 0 w.length), .inst C1 (stF sgns 5 12 3 0 sgns.length)]) (a := 1) rfl
  have q5 := pu5 gok3 9 (σ := [.inst C1 (stF w 0 w.length 0 0 w.length), .inst C1 (stF sgns 5 12 3 4 sgns.length)]) (a := 1) rfl
  have g0 : G3.P.gls[0]? = some (("_law_signs" : Str), .list (signsV sgns)) := rfl
  simp only [List.set_cons_zero, List.set_cons_succ] at p1 p2 q1 q2 q3 q4 q5
  have rest : exB G3 fuel (sPre.drop 5) (rW sc w d2 (some (.list D))) [] = some (.next, Fr01.rho ⟨sc, .list D, w, 0, 0, 0, 0, (w.length : Int), 0, 1, sgns, 5, 12, 3, 4, 9⟩ d2 none none none none none none none none none none none none none none, [.inst C1 (stF w 0 w.length 0 0 w.length), .inst C1 (stF sgns 5 12 3 4 9)]) := by
    unfold sPre
    simp only [List.drop_succ_cons, List.drop_zero]
    simp only [exB_nil, exB_cons, exS_expr, exS_set, exS_setT, exS_setA, exS_augA, exS_ite, exS_whl, exS_for1, exS_forT, exS_ret, ev_non, ev_bool, ev_int, ev_str, ev_loc, ev_glob, ev_bin, ev_cmp, ev_conj, ev_disj, ev_not, ev_neg, ev_ife, ev_idx, ev_slc, ev_lst, ev_tup, ev_attr, ev_cat, ev_bi, ev_rng, ev_mkset, ev_sm, ev_call, ev_scall, ev_meth, ev_new, ev_comp, ev_enum, evs_nil, evs_cons, List.getElem?_cons_succ, List.getElem?_cons_zero, Option.bind_some, Option.map_some, n1, p1, n2, p2, m1, biV, arg1, arg2, lenV, isbV, int2, g0, j, q1, q2, q3, q4, q5, setTup, setAll, List.set_cons_succ, List.set_cons_zero, if_true, Bool.false_eq_true, if_false, List.reverse_cons, List.reverse_nil, List.nil_append, List.cons_append, int1]
    rfl
  have pre : exB G3 fuel sPre [some sc, none, none, none, none, none, none, none, none, none, none, none, none, none, none, none, none, none, none, none, none, none, none, none, none, none, none] [] = some (.next, Fr01.rho ⟨sc, .list D, w, 0, 0, 0, 0, (w.length : Int), 0, 1, sgns, 5, 12, 3, 4, 9⟩ d2 none none none none none none none none none none none none none none, [.inst C1 (stF w 0 w.length 0 0 w.length), .inst C1 (stF sgns 5 12 3 4 9)]) := by
    rw [← rest]
    exact (exB_next s0).trans ((exB_next s1).trans ((exB_next s2).trans ((exB_next s3).trans ((exB_next s4).trans rfl))))
  have I : Inv sc (.list D) (Fr01.rho ⟨sc, .list D, w, 0, 0, 0, 0, (w.length : Int), 0, 1, sgns, 5, 12, 3, 4, 9⟩ d2 none none none none none none none none none none none none none none) [.inst C1 (stF w 0 w.length 0 0 w.length), .inst C1 (stF sgns 5 12 3 4 9)] := by
    refine ⟨⟨sc, .list D, w, 0, 0, 0, 0, (w.length : Int), 0, 1, sgns, 5, 12, 3, 4, 9⟩, d2, none, none, none, none, none, none, none, none, none, none, none, none, none, none, rfl, rfl, rfl, by show w.length ≤ 24; omega, Nat.zero_le _, Nat.zero_le _, Nat.zero_le _, (by show (0 : Nat) ≠ 1; decide), ?_, rfl⟩
    show some _ = some _
    unfold obAt
    have : (w.length : Int) - ((0 : Nat) : Int) = w.length := by omega
    rw [this]; rfl
  obtain ⟨ρ', σ', e, f, x2, x13, x14, x15, x16, x17, x18, x19, x20, x21, x22, x23, x24, x25, x26, _, _, rfl, F⟩ := deeds_loop fuel sc (.list D) D _ _ deeds I
  refine ⟨σ', ?_⟩
  have app : ∀ (l r : List S) (ρ ρ' : Rho) (σ σ' : St), exB G3 fuel l ρ σ = some (.next, ρ', σ') → exB G3 fuel (l ++ r) ρ σ = exB G3 fuel r ρ' σ' := by
    intro l
    induction l with
    | nil => intro r ρ ρ' σ σ' h; simp only [exB_nil, exB_cons, Option.some.injEq, Prod.mk.injEq, true_and] at h; obtain ⟨rfl, rfl⟩ := h; rfl
    | cons t l ih =>
      intro r ρ ρ' σ σ' h
      rw [exB_cons] at h
      obtain ⟨⟨o, ρ1, σ1⟩, h1, h2⟩ := Option.bind_eq_some_iff.mp h
      cases o with
      | next => rw [List.cons_append, exB_next h1]; exact ih r _ _ _ _ h2
      | _ => cases h2
  have fl : exS G3 fuel (.forT [13, 14] (.loc 3) sBody) (Fr01.rho ⟨sc, .list D, w, 0, 0, 0, 0, (w.length : Int), 0, 1, sgns, 5, 12, 3, 4, 9⟩ d2 none none none none none none none none none none none none none none) [.inst C1 (stF w 0 w.length 0 0 w.length), .inst C1 (stF sgns 5 12 3 4 9)] = some (.next, f.rho x2 x13 x14 x15 x16 x17 x18 x19 x20 x21 x22 x23 x24 x25 x26, σ') := by
    rw [exS_forT]
    simp only [ev_non, ev_bool, ev_int, ev_str, ev_loc, ev_glob, ev_bin, ev_cmp, ev_conj, ev_disj, ev_not, ev_neg, ev_ife, ev_idx, ev_slc, ev_lst, ev_tup, ev_attr, ev_cat, ev_bi, ev_rng, ev_mkset, ev_sm, ev_call, ev_scall, ev_meth, ev_new, ev_comp, ev_enum, List.getElem?_cons_succ, List.getElem?_cons_zero, Option.bind_some, asList]
    exact e
  unfold runB
  rw [law_is]
  simp only [List.length_cons, List.length_nil, if_true]
  show ((exB G3 fuel (sPre ++ [.forT [13, 14] (.loc 3) sBody, .ret (.bool true)]) [some sc, none, none, none, none, none, none, none, none, none, none, none, none, none, none, none, none, none, none, none, none, none, none, none, none, none, none] []).bind _) = _
  rw [app _ _ _ _ _ _ pre, exB_next fl]
  rfl
end Mine
end

section
open PySem PySem.W PyProof.Rows
set_option Elab.async false
set_option maxRecDepth 100000
namespace Mine

/-! a straight run: the machine goes through a tree without leaving its frame -/
section
variable (tb : String → Option Builtin) (p : Program) (w : World) (n₀ : Nat) (ann : Option Value) (c : Code) (B : List Frame)

noncomputable def Run {α : Type} (k : Nat) (x : Sem α) (s : Shared) (pos : Pos) (Q : Nat → α → Shared → Pos → Prop) : Prop :=
  ∃ n a s' pos', Q (k + n) a s' pos' ∧ ∀ (K : α → Sem Fin) (H : Value → Sem Fin) (gd : Bool → Bool) (lv : List Value → List Value),
    topGo tb p w n₀ ann n s ⟨x.wrap K H gd lv, c, pos, B⟩ = some (s', ⟨K a, c, pos', B⟩)
end

section
variable {tb : String → Option Builtin} {p : Program} {w : World} {n₀ : Nat} {ann : Option Value} {c : Code} {B : List Frame} {α β : Type} {s : Shared} {pos : Pos} {j : Nat}

theorem run_pure {a : α} {Q : Nat → α → Shared → Pos → Prop} (h : Q j a s pos) : Run tb p w n₀ ann c B j (.pure a) s pos Q := ⟨0, a, s, pos, h, fun _ _ _ _ => rfl⟩
theorem run_mono {x : Sem α} {Q Q' : Nat → α → Shared → Pos → Prop} (h : Run tb p w n₀ ann c B j x s pos Q) (m : ∀ k a s' pos', Q k a s' pos' → Q' k a s' pos') : Run tb p w n₀ ann c B j x s pos Q' := by
  obtain ⟨n, a, s', pos', q, k⟩ := h
  exact ⟨n, a, s', pos', m _ _ _ _ q, k⟩
theorem topGo_add {n m : Nat} : ∀ {s s' s'' : Shared} {t t' t'' : Thread}, topGo tb p w n₀ ann n s t = some (s', t') → topGo tb p w n₀ ann m s' t' = some (s'', t'') → topGo tb p w n₀ ann (n + m) s t = some (s'', t'') := by
  induction n with
  | zero => intro s s' s'' t t' t'' h k; simp [topGo] at h; obtain ⟨rfl, rfl⟩ := h; rw [Nat.zero_add]; exact k
  | succ n ih =>
    intro s s' s'' t t' t'' h k
    rw [show n + 1 + m = (n + m) + 1 by omega]
    unfold topGo at h ⊢
    cases ht : through t with
    | true => rw [ht] at h; cases h
    | false =>
      rw [ht] at h
      cases hk : stepOk n₀ ann t with
      | false => rw [hk] at h; cases h
      | true =>
        rw [hk] at h
        cases hs : step (denote tb) p w s t with
        | halt o s₂ => rw [hs] at h; cases h
        | go s₂ t₂ => rw [hs] at h; exact ih h k
theorem run_bind {x : Sem α} {f : α → Sem β} {Q : Nat → β → Shared → Pos → Prop} (h : Run tb p w n₀ ann c B j x s pos (fun k a s' pos' => Run tb p w n₀ ann c B k (f a) s' pos' Q)) : Run tb p w n₀ ann c B j (x >>= f) s pos Q := by
  obtain ⟨n, a, s', pos', ⟨m, b, s'', pos'', q, k'⟩, k⟩ := h
  refine ⟨n + m, b, s'', pos'', by rw [← Nat.add_assoc]; exact q, fun K H gd lv => ?_⟩
  rw [Sem.bind_eq_wrap', Sem.wrap_wrap]
  have := k (fun a => (f a).wrap K H gd lv) (fun e => ((Sem.raise e : Sem β)).wrap K H gd lv) gd lv
  exact topGo_add this (k' K H gd lv)
theorem run_keep {x : Sem α} {vs : List Value} {Q : Nat → α → Shared → Pos → Prop} (h : Run tb p w n₀ ann c B j x s pos Q) : Run tb p w n₀ ann c B j (x.keep vs) s pos Q := by
  obtain ⟨n, a, s', pos', q, k⟩ := h
  refine ⟨n, a, s', pos', q, fun K H gd lv => ?_⟩
  rw [Sem.keep_eq_wrap, Sem.wrap_wrap]
  exact k K H gd (fun l => lv (vs ++ l))
theorem run_holding {x : Sem α} {vs : List Value} {Q : Nat → α → Shared → Pos → Prop} (h : Run tb p w n₀ ann c B j x s pos Q) : Run tb p w n₀ ann c B j (holding vs x) s pos Q := by
  unfold PySem.holding
  split
  · exact h
  · exact run_keep h

/-- one step of the machine, and what is left -/
theorem run_step1 {x x' : Sem α} {s₁ : Shared} {pos₁ : Pos} {Q : Nat → α → Shared → Pos → Prop}
    (hs : ∀ (K : α → Sem Fin) (H : Value → Sem Fin) (gd : Bool → Bool) (lv : List Value → List Value), through ⟨x.wrap K H gd lv, c, pos, B⟩ = false ∧ stepOk n₀ ann ⟨x.wrap K H gd lv, c, pos, B⟩ = true ∧
      step (denote tb) p w s ⟨x.wrap K H gd lv, c, pos, B⟩ = .go s₁ ⟨x'.wrap K H gd lv, c, pos₁, B⟩) (h : Run tb p w n₀ ann c B (j + 1) x' s₁ pos₁ Q) : Run tb p w n₀ ann c B j x s pos Q := by
  obtain ⟨n, a, s', pos', q, k⟩ := h
  refine ⟨n + 1, a, s', pos', by rw [show j + (n + 1) = j + 1 + n by omega]; exact q, fun K H gd lv => ?_⟩
  obtain ⟨h1, h2, h3⟩ := hs K H gd lv
  unfold topGo
  rw [h1, h2, h3]
  exact k K H gd lv

theorem run_rule {t : String} {k : Unit → Sem α} {Q : Nat → α → Shared → Pos → Prop} (h : Run tb p w n₀ ann c B (j + 1) (k ()) s pos Q) : Run tb p w n₀ ann c B j (.rule t k) s pos Q :=
  run_step1 (fun K H gd lv => ⟨by simp [Sem.wrap, through], rfl, rfl⟩) h
theorem run_at {q : Pos} {k : Unit → Sem α} {Q : Nat → α → Shared → Pos → Prop} (h : Run tb p w n₀ ann c B (j + 1) (k ()) s q Q) : Run tb p w n₀ ann c B j (.at q k) s pos Q :=
  run_step1 (fun K H gd lv => ⟨by simp [Sem.wrap, through], rfl, rfl⟩) h
theorem run_load {a : Addr} {part : Option Value} {o : Obj} {k : Obj → Sem α} {Q : Nat → α → Shared → Pos → Prop} (e : s.heap.get? a = some o) (h : Run tb p w n₀ ann c B (j + 1) (k o) s pos Q) : Run tb p w n₀ ann c B j (.load a part k) s pos Q := by
  obtain ⟨heap, gens, drawn, toks, os⟩ := s
  exact run_step1 (fun K H gd lv => ⟨by simp [Sem.wrap, through], rfl, by simp only [Sem.wrap, step]; rw [show heap.get? a = some o from e]⟩) h
theorem run_update {a : Addr} {part : Option Value} {o : Obj} {f : Obj → Obj} {k : Unit → Sem α} {Q : Nat → α → Shared → Pos → Prop} (ha : n₀ ≤ a) (e : s.heap.get? a = some o) (h : Run tb p w n₀ ann c B (j + 1) (k ()) { s with heap := s.heap.update a f } pos Q) : Run tb p w n₀ ann c B j (.update a part f k) s pos Q := by
  obtain ⟨heap, gens, drawn, toks, os⟩ := s
  refine run_step1 (fun K H gd lv => ⟨by simp [Sem.wrap, through], ?_, ?_⟩) h
  · have : Nat.ble n₀ a = true := Nat.ble_eq.mpr ha
    simp only [stepOk, Sem.wrap, this, Bool.true_or, Bool.and_true]
    rfl
  · simp only [Sem.wrap, step]
    rw [show heap.get? a = some o from e]; rfl
theorem run_alloc {o : Obj} {k : Addr → Sem α} {Q : Nat → α → Shared → Pos → Prop} (h : Run tb p w n₀ ann c B (j + 1) (k s.heap.objs.size) { s with heap := s.heap.push o } pos Q) : Run tb p w n₀ ann c B j (.alloc o k) s pos Q :=
  run_step1 (fun K H gd lv => ⟨by simp [Sem.wrap, through], rfl, rfl⟩) h
theorem run_point {l : List Value} {k : Unit → Sem α} {Q : Nat → α → Shared → Pos → Prop} (h : Run tb p w n₀ ann c B (j + 1) (k ()) s pos Q) : Run tb p w n₀ ann c B j (.point l k) s pos Q :=
  run_step1 (fun K H gd lv => ⟨by simp [Sem.wrap, through], rfl, rfl⟩) h
theorem run_fresh {k : Tok → Sem α} {Q : Nat → α → Shared → Pos → Prop} (h : Run tb p w n₀ ann c B (j + 1) (k s.toks) { s with toks := s.toks + 1 } pos Q) : Run tb p w n₀ ann c B j (.fresh k) s pos Q :=
  run_step1 (fun K H gd lv => ⟨by simp [Sem.wrap, through], rfl, rfl⟩) h
theorem run_ask {k : Setting → Sem α} {Q : Nat → α → Shared → Pos → Prop} (h : ∀ st : Setting, st.params = w.params → Run tb p w n₀ ann c B (j + 1) (k st) s pos Q) : Run tb p w n₀ ann c B j (.ask k) s pos Q := by
  obtain ⟨heap, gens, drawn, toks, os⟩ := s
  exact run_step1 (s₁ := ⟨heap, gens, drawn, toks, os⟩) (pos₁ := pos) (fun K H gd lv => ⟨by simp [Sem.wrap, through], rfl, rfl⟩) (h _ rfl)
end
end Mine
end

section
open PySem PySem.W PyProof.Rows
set_option Elab.async false
set_option maxRecDepth 100000
namespace Mine
section
variable {p : Program} {w : World} {n₀ : Nat} {ann : Option Value} {c : Code} {B : List Frame} {f : Frame} {α β : Type} {s : Shared} {pos : Pos} {j : Nat}

theorem run_callHash {x : Str} {t : Tok} {Q : Nat → Value → Shared → Pos → Prop} (h : Q (j + 5) (.int (hashStr w x) s.toks) { s with toks := s.toks + 1 } pos) : Run treeTable p w n₀ ann c (f :: B) j (call (.builtin "str.__hash__") [.str x t]) s pos Q := by
  obtain ⟨heap, gens, drawn, toks, os⟩ := s
  refine ⟨5, .int (hashStr w x) toks, ⟨heap, gens, drawn, toks + 1, os⟩, pos, h, fun K H gd lv => ?_⟩
  kernel_rfl

theorem run_hash {x : Str} {t : Tok} {Q : Nat → Int → Shared → Pos → Prop} (h : Q (j + 7) (hashStr w x) { s with toks := s.toks + 1 } pos) : Run treeTable p w n₀ ann c (f :: B) j (pyHash (.str x t)) s pos Q := by
  have hl : typeLookup (.type "str") "__hash__" = pure (some (.builtin "str.__hash__")) := F.slot_str_hash.lookup
  have hb := F.slot_str_hash.bind (.str x t)
  have e : bindSpecialIfBound? (.str x t) "__hash__" = (.ask fun st => .pure (some (.builtin "str.__hash__", [.str x t]))) := by
    have sp : specialOf (.str x t) "__hash__" = pure (some (.builtin "str.__hash__")) := by
      unfold specialOf
      show (typeOf (.str x t) >>= fun ty => typeLookup ty "__hash__") = _
      show typeLookup (.type "str") "__hash__" = _
      exact hl
    unfold bindSpecialIfBound?
    rw [sp]
    simp only [pure_bind, hb]
    show (Sem.ask fun st => _) = _
    congr 1
    funext st
    show (if _ then _ else _) = _
    split <;> rfl
  unfold pyHash
  refine run_bind ?_
  unfold callSpecialIfBound?
  refine run_holding ?_
  rw [e]
  refine run_bind (run_ask fun st _ => run_pure ?_)
  dsimp only
  refine run_bind (run_callHash ?_)
  refine run_pure ?_
  unfold strHash
  refine run_bind (run_ask fun st hst => run_pure ?_)
  refine run_pure ?_
  rw [hst]
  exact h
end
end Mine
end

section
open PySem PySem.W PyProof.Rows
set_option Elab.async false
set_option maxRecDepth 100000
namespace Mine

noncomputable abbrev itemOf (w : World) (x : Str × Tok) : Int × Value := (hashStr w x.1, .str x.1 x.2)
/-- a set of texts, laid somehow -/
noncomputable def GoodSet (w : World) (xs : List (Str × Tok)) (o : Obj) : Prop :=
  ∃ es ep t, o = ⟨.type "set", none, .set es ep t, #[]⟩ ∧ t.fits es.size = true ∧ es.toList.Perm (xs.map (itemOf w))

section
variable {p : Program} {w : World} {n₀ : Nat} {ann : Option Value} {c : Code} {B : List Frame} {f : Frame} {α β : Type} {s : Shared} {pos : Pos} {j : Nat}

theorem run_setState {a : Addr} {es : Array (Int × Value)} {ep : Nat} {t : SetTable} {Q : Nat → Array (Int × Value) × Nat × SetTable → Shared → Pos → Prop} (e : s.heap.get? a = some ⟨.type "set", none, .set es ep t, #[]⟩) (hf : t.fits es.size = true) (h : Q (j + 1) (es, ep, t) s pos) : Run treeTable p w n₀ ann c (f :: B) j (setState a) s pos Q := by
  unfold setState
  refine run_bind (run_load e (run_pure ?_))
  dsimp only
  unfold SetTable.fits at hf
  rw [Bool.and_eq_true, beq_iff_eq, decide_eq_true_eq] at hf
  rw [if_neg (by simp [hf.1]; omega)]
  exact run_pure h

theorem run_storeSet {a : Addr} {es₀ es : Array (Int × Value)} {ep : Nat} {t₀ t : SetTable} {Q : Nat → Unit → Shared → Pos → Prop} (ha : n₀ ≤ a) (e : s.heap.get? a = some ⟨.type "set", none, .set es₀ ep t₀, #[]⟩) (hs : es.size ≤ 1000)
    (h : Q (j + 2) () { s with heap := s.heap.update a (Obj.putSet es t) } pos) : Run treeTable p w n₀ ann c (f :: B) j (storeSet a es t) s pos Q := by
  unfold storeSet
  refine run_bind (run_load e (run_pure ?_))
  dsimp only
  rw [if_neg (by rw [sizeLine_eq]; omega)]
  exact run_update ha e (run_pure h)

theorem update_last (h : Heap) (o : Obj) (g : Obj → Obj) : (h.push o).update h.objs.size g = h.push (g o) := by
  obtain ⟨objs, l⟩ := h
  show (⟨(objs.push o).modify objs.size g, l⟩ : Heap) = ⟨objs.push (g o), l⟩
  congr 1
  apply Array.ext_getElem?
  intro i
  rw [Array.getElem?_modify, Array.getElem?_push, Array.getElem?_push]
  by_cases q : i = objs.size
  · subst q; simp
  · rw [if_neg q, if_neg (Ne.symm q), if_neg q]

theorem run_gave {b : Bool} {Q : Nat → Unit → Shared → Pos → Prop} (h : ∀ i, i ≤ j + 1 → Q i () s pos) : Run treeTable p w n₀ ann c (f :: B) j (match b with | true => rule "set.scan.the-table-gave-way" | false => pure ()) s pos Q := by
  cases b
  · exact run_pure (h _ (by omega))
  · exact run_rule (run_pure (h _ (by omega)))

theorem good_put {xs ys : List (Int × Value)} {es : Array (Int × Value)} (h : es.toList.Perm xs) : es.size = xs.length := by rw [← h.length_eq]; simp

/-- a text that the set does not hold is added -/
theorem run_setAdd {H : Heap} {tk : Nat} {gens : Array GenState} {drawn : Drawn} {os : OsState} {o : Obj} {xs : List (Str × Tok)} {x : Str} {t : Tok} {Q : Nat → Bool → Shared → Pos → Prop} (ha : n₀ ≤ H.objs.size) (g : GoodSet w xs o) (hl : xs.length ≤ 100) (hx : ∀ y ∈ xs, y.1 ≠ x)
    (h : ∀ i, i ≤ j + 20 → ∀ o', GoodSet w (xs ++ [(x, t)]) o' → Q i true ⟨H.push o', gens, drawn, tk + 1, os⟩ pos) : Run treeTable p w n₀ ann c (f :: B) j (setAdd H.objs.size (.str x t)) ⟨H.push o, gens, drawn, tk, os⟩ pos Q := by
  obtain ⟨es, ep, tb, rfl, hf, hp⟩ := g
  have hsz : es.size = xs.length := by rw [good_put (ys := []) hp, List.length_map]
  have at0 : ∀ o : Obj, o.isFreed = false → (H.push o).get? H.objs.size = some o := fun o e => Heap.get?_push_size _ e
  unfold setAdd
  refine run_holding (run_bind (run_hash ?_))
  unfold setAddHashed setAddHashedIn
  refine run_holding (run_bind (run_setState (at0 _ rfl) hf ?_))
  dsimp only
  have mem : ∀ e ∈ es.toList, ∃ y ∈ xs, e = itemOf w y := fun e he => by
    obtain ⟨y, hy, rfl⟩ := List.mem_map.mp (hp.mem_iff.mp he); exact ⟨y, hy, rfl⟩
  have bs : byScan (.str x t) es = true := by
    unfold byScan
    rw [Bool.and_eq_true, Bool.and_eq_true]
    refine ⟨⟨rfl, decide_eq_true (by unfold scanBound; omega)⟩, ?_⟩
    rw [← Array.all_toList, List.all_eq_true]
    intro e he
    obtain ⟨y, _, rfl⟩ := mem e he; rfl
  rw [if_pos bs]
  refine run_bind ?_
  unfold setAddByScan
  refine run_bind (run_rule (run_pure ?_))
  have sc : setScan H.objs.size (.str x t) (hashStr w x) true es = pure .absent := by
    unfold setScan
    dsimp only
    rw [if_pos (by
      rw [← Array.all_toList, List.all_eq_true]
      intro e he
      obtain ⟨y, _, rfl⟩ := mem e he; rfl)]
    unfold setScanStrs
    have : es.findIdx? (·.2.isStr x) = none := by
      rw [Array.findIdx?_eq_none_iff]
      intro e he
      obtain ⟨y, hy, rfl⟩ := mem e (Array.mem_toList_iff.mpr he)
      show (y.1 == x) = false
      exact beq_eq_false_iff_ne.mpr (hx y hy)
    rw [this]
  rw [sc]
  refine run_bind (run_pure ?_)
  dsimp only
  have hperm := layNew_perm tb es (hashStr w x) (.str x t)
  have hfits := layNew_fits tb es (hashStr w x) (.str x t)
  generalize layNew tb es (hashStr w x) (.str x t) = L at hperm hfits ⊢
  obtain ⟨es1, t1, wasDummy, gave⟩ := L
  dsimp only at hperm hfits ⊢
  rw [Array.toList_push] at hperm
  have hp1 : es1.toList.Perm ((xs ++ [(x, t)]).map (itemOf w)) := by
    rw [List.map_append]
    exact hperm.trans (hp.append_right _)
  have hsz1 : es1.size = xs.length + 1 := by rw [good_put (ys := []) hp1, List.length_map, List.length_append]; rfl
  refine run_bind (run_gave fun i hi => ?_)
  have tail : ∀ t2 : SetTable, t2.fits es1.size = true → Run treeTable p w n₀ ann c (f :: B) i (do
      storeSet H.objs.size es1 t2
      if (!wasDummy && t2.tooFull) = true then do
        let (es, t, gave) := relayAll t2 es1 (SetTable.grown es1.size)
        (match gave with | true => rule "set.scan.the-table-gave-way" | false => pure ())
        storeSet H.objs.size es t
        pure (some true)
      else pure (some true)) ⟨H.push ⟨.type "set", none, .set es ep tb, #[]⟩, gens, drawn, tk + 1, os⟩ pos (fun k r s' pos' => Run treeTable p w n₀ ann c (f :: B) k (match r with | some added => pure added | none => setAddHashedIn H.objs.size (.str x t) (hashStr w x) 99999) s' pos' Q) := by
    intro t2 hf2
    refine run_bind (run_storeSet (es₀ := es) (ep := ep) (t₀ := tb) ha (at0 _ rfl) (by omega) ?_)
    rw [show (({ heap := H.push ⟨.type "set", none, .set es ep tb, #[]⟩, gens := gens, drawn := drawn, toks := tk + 1, os := os } : Shared).heap.update H.objs.size (Obj.putSet es1 t2)) = H.push ⟨.type "set", none, .set es1 (ep + 1) t2, #[]⟩ from update_last _ _ _]
    split
    · have hperm2 := relayAll_perm t2 es1 (SetTable.grown es1.size)
      have hfits2 := relayAll_fits t2 es1 (SetTable.grown es1.size)
      generalize relayAll t2 es1 (SetTable.grown es1.size) = L2 at hperm2 hfits2 ⊢
      obtain ⟨es3, t3, gave2⟩ := L2
      dsimp only at hperm2 hfits2 ⊢
      have hsz3 : es3.size = xs.length + 1 := by rw [← hsz1, good_put (ys := []) hperm2, Array.length_toList]
      refine run_bind (run_gave fun i2 hi2 => ?_)
      refine run_bind (run_storeSet (es₀ := es1) (ep := ep + 1) (t₀ := t2) ha (at0 _ rfl) (by omega) ?_)
      rw [show (({ heap := H.push ⟨.type "set", none, .set es1 (ep + 1) t2, #[]⟩, gens := gens, drawn := drawn, toks := tk + 1, os := os } : Shared).heap.update H.objs.size (Obj.putSet es3 t3)) = H.push ⟨.type "set", none, .set es3 (ep + 1 + 1) t3, #[]⟩ from update_last _ _ _]
      exact run_pure (run_pure (h _ (by omega) _ ⟨es3, _, t3, rfl, hfits2, hperm2.trans hp1⟩))
    · exact run_pure (run_pure (h _ (by omega) _ ⟨es1, _, t2, rfl, hf2, hp1⟩))
  split
  · refine run_bind ?_
    rw [hashByValue_scannable 8 rfl]
    refine run_pure ?_
    refine tail _ ?_
    split
    · exact hfits
    · exact SetTable.fits_plain_off hfits
  · refine run_bind (run_pure ?_)
    simp only [if_true]
    exact tail _ hfits
end
end Mine
end

section
open PySem PySem.W PyProof.Rows
set_option Elab.async false
set_option maxRecDepth 100000
namespace Mine
section
variable {p : Program} {w : World} {n₀ : Nat} {ann : Option Value} {c : Code} {B : List Frame} {f : Frame} {α β : Type} {s : Shared} {pos : Pos} {j : Nat}

/-- a text's tree in a display -/
noncomputable abbrev eltOf (pos : Pos) (x : Str) : Bool × Sem Value := (false, do let v ← (do let v ← mkText x; pure v : Sem Value); standAt pos; pure v)

/-- the texts, each with the mark it got -/
noncomputable def marked (xs : List Str) (tk : Nat) : List (Str × Tok) :=
  match xs with
  | [] => []
  | x :: r => (x, tk) :: marked r (tk + 1)
noncomputable def valOf (y : Str × Tok) : Value := .str y.1 y.2
theorem marked_fst : ∀ (xs : List Str) (tk : Nat), (marked xs tk).map (·.1) = xs
  | [], _ => rfl
  | x :: r, tk => by unfold marked; rw [List.map_cons, marked_fst r]

theorem run_evalAll {elt : Str → Sem Value} (helt : ∀ (j : Nat) (x : Str) (s : Shared) (Q : Nat → Value → Shared → Pos → Prop), Q (j + 2) (.str x s.toks) { s with toks := s.toks + 1 } pos → Run treeTable p w n₀ ann c (f :: B) j (elt x) s pos Q) :
    ∀ (xs : List Str) (j : Nat) (s : Shared) (Q : Nat → List Value → Shared → Pos → Prop), Q (j + 2 * xs.length) ((marked xs s.toks).map valOf) { s with toks := s.toks + xs.length } pos → Run treeTable p w n₀ ann c (f :: B) j (evalAll (xs.map elt)) s pos Q
  | [], j, s, Q, h => run_pure h
  | x :: r, j, s, Q, h => by
    show Run treeTable p w n₀ ann c (f :: B) j (do let v ← elt x; return v :: (← holding [v] (evalAll (r.map elt)))) s pos Q
    refine run_bind (helt j x s _ (run_bind (run_holding (run_evalAll helt r _ _ _ (run_pure ?_)))))
    have : s.toks + (x :: r).length = s.toks + 1 + r.length := by simp only [List.length_cons]; omega
    rw [this] at h
    rw [show j + 2 * (x :: r).length = j + 2 + 2 * r.length by simp only [List.length_cons]; omega] at h
    exact h

theorem run_adds {H : Heap} {gens : Array GenState} {drawn : Drawn} {os : OsState} {Q : Nat → PUnit → Shared → Pos → Prop} (ha : n₀ ≤ H.objs.size) (g : Value → PUnit → Sem (ForInStep PUnit)) (hg : ∀ v u, g v u = (do let _ ← setAdd H.objs.size v; pure (.yield ⟨⟩))) :
    ∀ (ys xs : List (Str × Tok)) (j tk : Nat) (o : Obj), GoodSet w xs o → (xs ++ ys).length ≤ 100 → ((xs ++ ys).map (·.1)).Nodup → (∀ i, i ≤ j + 20 * ys.length → ∀ o', GoodSet w (xs ++ ys) o' → Q i ⟨⟩ ⟨H.push o', gens, drawn, tk + ys.length, os⟩ pos) → Run treeTable p w n₀ ann c (f :: B) j (forIn (ys.map valOf) ⟨⟩ g) ⟨H.push o, gens, drawn, tk, os⟩ pos Q
  | [], xs, j, tk, o, go, hl, nd, h => by
    rw [List.map_nil, List.forIn_nil]
    rw [List.append_nil] at h
    exact run_pure (h _ (by omega) o go)
  | y :: ys, xs, j, tk, o, go, hl, nd, h => by
    rw [List.map_cons, List.forIn_cons, hg]
    have e : xs ++ y :: ys = (xs ++ [y]) ++ ys := by rw [List.append_assoc]; rfl
    rw [e] at hl nd h
    have nd' := nd
    rw [List.map_append, List.map_append, List.append_assoc, List.nodup_append] at nd'
    refine run_bind (run_bind (run_setAdd ha go (by simp only [List.length_append, List.length_singleton] at hl; omega) (fun z hz q => nd'.2.2 _ (List.mem_map_of_mem hz) y.1 (by simp) q) fun i hi o' g' => run_pure ?_))
    refine run_adds ha g hg ys (xs ++ [y]) i (tk + 1) o' g' hl nd fun i2 hi2 o'' g'' => ?_
    have := h i2 (by simp only [List.length_cons]; omega) o'' g''
    rw [show tk + (y :: ys).length = tk + 1 + ys.length by simp only [List.length_cons]; omega] at this
    exact this

theorem run_setUnled {H : Heap} {tk : Nat} {gens : Array GenState} {drawn : Drawn} {os : OsState} {o : Obj} {xs : List (Str × Tok)} {Q : Nat → Unit → Shared → Pos → Prop} (ha : n₀ ≤ H.objs.size) (g : GoodSet w xs o) (hl : xs.length ≤ 100)
    (h : ∀ o', GoodSet w xs o' → Q (j + 3) () ⟨H.push o', gens, drawn, tk, os⟩ pos) : Run treeTable p w n₀ ann c (f :: B) j (setUnled H.objs.size) ⟨H.push o, gens, drawn, tk, os⟩ pos Q := by
  obtain ⟨es, ep, tb, rfl, hf, hp⟩ := g
  have hsz : es.size = xs.length := by rw [good_put (ys := []) hp, List.length_map]
  have at0 : (H.push ⟨.type "set", none, .set es ep tb, #[]⟩).get? H.objs.size = some ⟨.type "set", none, .set es ep tb, #[]⟩ := Heap.get?_push_size _ rfl
  unfold setUnled
  refine run_bind (run_setState at0 hf ?_)
  dsimp only
  refine run_storeSet (es₀ := es) (ep := ep) (t₀ := tb) ha at0 (by omega) ?_
  rw [show (({ heap := H.push ⟨.type "set", none, .set es ep tb, #[]⟩, gens := gens, drawn := drawn, toks := tk, os := os } : Shared).heap.update H.objs.size (Obj.putSet es { tb with led := false })) = H.push ⟨.type "set", none, .set es (ep + 1) { tb with led := false }, #[]⟩ from update_last _ _ _]
  exact h _ ⟨es, _, _, rfl, hf, hp⟩

theorem run_display {H : Heap} {tk : Nat} {gens : Array GenState} {drawn : Drawn} {os : OsState} {elt : Str → Sem Value} {b : Bool} {xs : List Str} {Q : Nat → Value → Shared → Pos → Prop} (ha : n₀ ≤ H.objs.size) (hl : xs.length ≤ 30) (nd : xs.Nodup)
    (helt : ∀ (j : Nat) (x : Str) (s : Shared) (Q : Nat → Value → Shared → Pos → Prop), Q (j + 2) (.str x s.toks) { s with toks := s.toks + 1 } pos → Run treeTable p w n₀ ann c (f :: B) j (elt x) s pos Q)
    (h : ∀ i, i ≤ j + 25 * xs.length + 10 → ∀ o', GoodSet w (marked xs tk) o' → Q i (.ref H.objs.size) ⟨H.push o', gens, drawn, tk + xs.length + xs.length, os⟩ pos) : Run treeTable p w n₀ ann c (f :: B) j (setDisplay .unsure b (xs.map fun x => (false, elt x))) ⟨H, gens, drawn, tk, os⟩ pos Q := by
  unfold setDisplay
  rw [if_neg (by decide)]
  have hnew : ∀ (Q' : Nat → Value → Shared → Pos → Prop), (∀ led : Bool, Q' (j + 2) (.ref H.objs.size) ⟨H.push ⟨.type "set", none, .set #[] 0 (.fresh 0 0 led), #[]⟩, gens, drawn, tk, os⟩ pos) → Run treeTable p w n₀ ann c (f :: B) j (newSet (.type "set")) ⟨H, gens, drawn, tk, os⟩ pos Q' := fun Q' hq => by
    unfold newSet setsByText
    refine run_bind (run_bind (run_ask fun st _ => run_pure (run_pure ?_)))
    dsimp only
    unfold newObj
    refine run_bind (run_alloc (run_pure ?_))
    exact run_pure (hq _)
  refine run_bind (hnew _ fun led => ?_)
  dsimp only
  have nf : (if (xs.map fun x => (false, elt x)).length > 30 then 0 else ((xs.map fun x => (false, elt x)).findIdx? (·.1)).getD (xs.map fun x => (false, elt x)).length) = xs.length := by
    rw [List.length_map, if_neg (by omega)]
    have : (xs.map fun x => (false, elt x)).findIdx? (·.1) = none := by
      rw [List.findIdx?_eq_none_iff]
      intro e he
      obtain ⟨y, _, rfl⟩ := List.mem_map.mp he; rfl
    rw [this]; rfl
  rw [nf]
  have tk1 : ((xs.map fun x => (false, elt x)).take xs.length).map (·.2) = xs.map elt := by
    rw [List.take_of_length_le (by rw [List.length_map]; exact Nat.le_refl _), List.map_map]; rfl
  have dr : (xs.map fun x => (false, elt x)).drop xs.length = [] := List.drop_of_length_le (by rw [List.length_map]; exact Nat.le_refl _)
  rw [tk1, dr]
  refine run_bind (run_holding (run_bind (run_evalAll helt xs _ _ _ ?_)))
  have ml : (marked xs tk).length = xs.length := by
    have := congrArg List.length (marked_fst xs tk)
    rwa [List.length_map] at this
  refine run_bind (run_holding (run_bind (run_adds ha _ (fun v u => rfl) (marked xs tk) [] _ _ _ ⟨#[], 0, .fresh 0 0 led, rfl, rfl, List.Perm.nil⟩ (by rw [List.nil_append, ml]; omega) (by rw [List.nil_append, marked_fst]; exact nd) fun i hi o' g' => ?_)))
  rw [List.nil_append] at g'
  rw [if_pos (by decide)]
  refine run_bind (run_rule (run_pure (run_setUnled ha g' (by omega) fun o'' g'' => ?_)))
  rw [List.forIn_nil]
  refine run_pure (run_pure ?_)
  rw [ml]
  rw [ml] at hi
  exact h _ (by omega) o'' g''
end
end Mine
end

section
open PySem PySem.W PyProof.Rows
set_option Elab.async false
set_option maxRecDepth 100000
namespace Mine

noncomputable def strsOf : List Expr → Option (List Str)
  | [] => some []
  | .Constant (.str x) _ _ :: r => (strsOf r).map (x :: ·)
  | _ => none

theorem strsOf_each {env : Env} {pos : Pos} : ∀ {es : List Expr} {xs : List Str}, strsOf es = some xs → ((starEach es env).map fun (star, t) => (star, do let v ← t; standAt pos; pure v)) = xs.map fun x => (false, (do let v ← mkText x; standAt pos; pure v : Sem Value))
  | [], xs, h => by simp only [strsOf] at h; cases h; rfl
  | e :: r, xs, h => by
    unfold strsOf at h
    split at h
    · cases ‹_ :: _ = []›
    · rename_i x k q r' heq
      cases heq
      obtain ⟨xs', h', rfl⟩ := Option.map_eq_some_iff.mp h
      show _ :: _ = _ :: _
      rw [strsOf_each (env := env) (pos := pos) h']
      rfl
    · cases h

section
variable {p : Program} {w : World} {n₀ : Nat} {ann : Option Value} {c : Code} {B : List Frame} {f : Frame} {α β : Type} {s : Shared} {pos : Pos} {env : Env} {j : Nat}

theorem run_inMain {Q : Nat → Bool → Shared → Pos → Prop} (hc : env.code = .none ∨ ∃ a o vs, env.code = .ref a ∧ s.heap.get? a = some o ∧ o.data = .fields vs) (h : ∀ i, i ≤ j + 2 → ∀ b, Q i b s pos) : Run treeTable p w n₀ ann c (f :: B) j (inMainModule env) s pos Q := by
  unfold inMainModule
  rcases hc with hc | ⟨a, o, vs, hc, e, hd⟩
  · rw [hc, if_pos (by rfl)]; exact run_pure (h _ (by omega) _)
  · rw [hc, if_neg (by intro q; cases q)]
    have : Run treeTable p w n₀ ann c (f :: B) j (fieldsOf (.ref a)) s pos (fun i vs' s' pos' => i = j + 1 ∧ vs' = vs ∧ s' = s ∧ pos' = pos) := by
      unfold fieldsOf
      refine run_bind (run_load e (run_pure ?_))
      rw [hd]
      exact run_pure ⟨rfl, rfl, rfl, rfl⟩
    refine run_bind (run_mono this ?_)
    rintro _ _ _ _ ⟨rfl, rfl, rfl, rfl⟩
    split
    · exact run_bind (run_ask fun st _ => run_pure (run_pure (h _ (by omega) _)))
    · exact run_pure (h _ (by omega) _)

theorem run_Set {H : Heap} {tk : Nat} {gens : Array GenState} {drawn : Drawn} {os : OsState} {es : List Expr} {xs : List Str} {q : Pos} {Q : Nat → Value → Shared → Pos → Prop} (he : strsOf es = some xs) (hr : displayRoad 0 es = .unsure) (ha : n₀ ≤ H.objs.size) (hl : xs.length ≤ 30) (nd : xs.Nodup)
    (hc : env.code = .none ∨ ∃ a o vs, env.code = .ref a ∧ H.get? a = some o ∧ o.data = .fields vs)
    (h : ∀ i, i ≤ j + 25 * xs.length + 20 → ∀ o', GoodSet w (marked xs tk) o' → Q i (.ref H.objs.size) ⟨H.push o', gens, drawn, tk + xs.length + xs.length, os⟩ q) : Run treeTable p w n₀ ann c (f :: B) j (eval (.Set es 0 q) env) ⟨H, gens, drawn, tk, os⟩ pos Q := by
  rw [arm_eval_Set, hr]
  refine run_bind (run_at (run_pure (run_bind (run_inMain hc fun i hi b => ?_))))
  rw [strsOf_each he]
  refine run_display ha hl nd (fun j x s Q hq => ?_) fun i2 hi2 => h i2 (by omega)
  unfold mkText
  refine run_bind (run_bind (run_fresh (run_pure (run_pure ?_))))
  exact run_bind (run_at (run_pure (run_pure hq)))

/-- how a text is hashed -/
noncomputable def nameHash (w : World) (x : Str) : Int := if x.cps.isEmpty then 0 else reduceHash (w.params.strHash x.cps)

theorem run_nsSet {H : Heap} {tk : Nat} {gens : Array GenState} {drawn : Drawn} {os : OsState} {a : Addr} {nm : Str} {v : Value} {cl : Value} {od : Option Addr} {es : Array DictEntry} {ep : Nat} {sl : Array (Option Value)} {Q : Nat → Unit → Shared → Pos → Prop} (ha : n₀ ≤ a) (e : H.get? a = some ⟨cl, od, .dict es ep, sl⟩)
    (hk : aRefKeyMayBeTheName nm es = false) (h : Q (j + 4) () ⟨H.update a (Obj.putName nm (nameHash w nm) (.str nm tk) v), gens, drawn, tk + 1, os⟩ pos) : Run treeTable p w n₀ ann c (f :: B) j (nsSet a nm v) ⟨H, gens, drawn, tk, os⟩ pos Q := by
  unfold nsSet strHash mkText
  refine run_bind (run_bind (run_ask fun st hst => run_pure (run_pure ?_)))
  refine run_bind (run_bind (run_fresh (run_pure (run_pure ?_))))
  refine run_bind (run_load e (run_pure ?_))
  dsimp only
  rw [hk, if_neg (by decide), hst]
  exact run_update ha e (run_pure h)

/-- a class statement's own set -/
theorem run_setStmt {H : Heap} {tk : Nat} {gens : Array GenState} {drawn : Drawn} {os : OsState} {es : List Expr} {xs : List Str} {p1 p2 p3 : Pos} {nm : Str} {ds : Array DictEntry} {ep : Nat} {od : Option Addr} {sl : Array (Option Value)} {Q : Nat → Flow → Shared → Pos → Prop}
    (he : strsOf es = some xs) (hr : displayRoad 0 es = .unsure) (hl : xs.length ≤ 30) (nd : xs.Nodup) (hc : env.code = .none ∨ ∃ a o vs, env.code = .ref a ∧ H.get? a = some o ∧ o.data = .fields vs)
    (hk : env.scope.kind = .class) (hn : env.kindOf nm = some .local) (hd : H.get? env.locals = some ⟨.type "dict", od, .dict ds ep, sl⟩) (hf : aRefKeyMayBeTheName nm ds = false) (ha : n₀ ≤ env.locals)
    (h : ∀ i, i ≤ j + 25 * xs.length + 60 → ∀ o', GoodSet w (marked xs tk) o' → Q i .next ⟨(H.push o').update env.locals (Obj.putName nm (nameHash w nm) (.str nm (tk + xs.length + xs.length)) (.ref H.objs.size)), gens, drawn, tk + xs.length + xs.length + 1, os⟩ p1) :
    Run treeTable p w n₀ ann c (f :: B) j (exec (.Assign [.Name nm p1] (.Set es 0 p2) p3) env) ⟨H, gens, drawn, tk, os⟩ pos Q := by
  rw [exec_Assign_Name _ _ _ _ _ rfl]
  have hlt : env.locals < H.objs.size := Heap.lt_size hd
  refine run_bind (run_at (run_pure (run_bind (run_Set he hr (Nat.le_of_lt (Nat.lt_of_le_of_lt ha hlt)) hl nd hc fun i hi o' g => ?_))))
  refine run_bind (run_at (run_pure (run_bind ?_)))
  unfold bindName
  refine run_bind (run_holding (run_point (run_pure (run_bind ?_))))
  unfold storeName
  rw [hn]
  dsimp only
  have : ((some NameKind.local == some NameKind.globalImplicit) && env.blockKind != ScopeKind.function) = false := rfl
  rw [this, if_neg (by decide)]
  dsimp only
  rw [if_pos (by rw [hk]; rfl)]
  unfold localSet
  have hd' : (H.push o').get? env.locals = some ⟨.type "dict", od, .dict ds ep, sl⟩ := Heap.get?_push_of_some _ hd
  refine run_bind (run_load (s := ⟨H.push o', gens, drawn, _, os⟩) hd' (run_pure ?_))
  rw [if_pos (by rfl)]
  exact run_nsSet ha hd' hf (run_point (run_pure (run_pure (h _ (by omega) o' g))))
end
end Mine
end

section
open PySem PySem.W PyProof.Rows
set_option Elab.async false
set_option maxRecDepth 100000
namespace Mine

/-- a namespace that may be written by name -/
noncomputable def NsReady (H : Heap) (a : Addr) : Prop := ∃ es n, H.get? a = some (dictOf es n) ∧ es.any (·.refKey) = false

theorem putL_ref {nm : Str} {hsh : Int} {tk : Tok} {v : Value} : ∀ {es : List DictEntry}, es.any (·.refKey) = false → (putL nm hsh (.str nm tk) v es).any (·.refKey) = false
  | [], _ => rfl
  | e :: r, h => by
    rw [List.any_cons, Bool.or_eq_false_iff] at h
    unfold putL
    split
    · rw [List.any_cons, Bool.or_eq_false_iff]
      exact ⟨h.1, h.2⟩
    · rw [List.any_cons, Bool.or_eq_false_iff]
      exact ⟨h.1, putL_ref h.2⟩

theorem NsReady.put {H : Heap} {a : Addr} {nm : Str} {hsh : Int} {tk : Tok} {v : Value} {o : Obj} (h : NsReady H a) : NsReady ((H.push o).update a (Obj.putName nm hsh (.str nm tk) v)) a := by
  obtain ⟨es, n, e, r⟩ := h
  refine ⟨putL nm hsh (.str nm tk) v es, putN nm es n, ?_, putL_ref r⟩
  have := Heap.get?_update_self (h := H.push o) (Obj.putName nm hsh (.str nm tk) v) (Heap.get?_push_of_some o e) (by rw [putName_dict]; rfl)
  rw [this, putName_dict]

noncomputable def curOf (env : Env) (l : List Stmt) : Sem Fin := ((execs l env).onRaise (leaving env)).bind fun f => Sem.pure (Fin.done f)
theorem curOf_wrap (env : Env) (l : List Stmt) : curOf env l = (execs l env).wrap doneF (leaveH env) id id := by
  unfold curOf
  rw [Sem.bind_eq_wrap, Sem.onRaise_eq_wrap, Sem.wrap_wrap]
  rfl

structure SetSt where
  nm : Str
  es : List Expr
  xs : List Str
  p1 : Pos
  p2 : Pos
  p3 : Pos
noncomputable def SetSt.st (t : SetSt) : Stmt := .Assign [.Name t.nm t.p1] (.Set t.es 0 t.p2) t.p3
structure SetSt.Ok (t : SetSt) (env : Env) : Prop where
  xs : strsOf t.es = some t.xs
  road : displayRoad 0 t.es = .unsure
  few : t.xs.length ≤ 30
  nd : t.xs.Nodup
  loc : env.kindOf t.nm = some .local
noncomputable def SetSt.heap (w : World) (t : SetSt) (a : Addr) (H : Heap) (tk : Nat) (o : Obj) : Heap := (H.push o).update a (Obj.putName t.nm (nameHash w t.nm) (.str t.nm (tk + t.xs.length + t.xs.length)) (.ref H.objs.size))
noncomputable def SetSt.tk (t : SetSt) (tk : Nat) : Nat := tk + t.xs.length + t.xs.length + 1

section
variable {p : Program} {w : World} {n₀ : Nat} {ann : Option Value} {c : Code} {B : List Frame} {f : Frame} {pos : Pos} {env : Env} {H : Heap} {tk : Nat} {gens : Array GenState} {drawn : Drawn} {os : OsState}

structure EnvOk (n₀ : Nat) (env : Env) (H : Heap) : Prop where
  code : env.code = .none ∨ ∃ a o vs, env.code = .ref a ∧ a ≠ env.locals ∧ H.get? a = some o ∧ o.data = .fields vs
  cls : env.scope.kind = .class
  ns : NsReady H env.locals
  low : n₀ ≤ env.locals

theorem EnvOk.next {t : SetSt} {o : Obj} (E : EnvOk n₀ env H) : EnvOk n₀ env (t.heap w env.locals H tk o) := by
  refine ⟨?_, E.cls, E.ns.put, E.low⟩
  rcases E.code with h | ⟨a, o', vs, h1, h2, h3, h4⟩
  · exact .inl h
  · exact .inr ⟨a, o', vs, h1, h2, (Heap.get?_update_ne _ _ _ _ h2).trans (Heap.get?_push_of_some _ h3), h4⟩

theorem set_step (t : SetSt) (T : t.Ok env) (E : EnvOk n₀ env H) (rest : List Stmt) : ∃ n o, n ≤ 25 * t.xs.length + 60 ∧ GoodSet w (marked t.xs tk) o ∧
    topGo treeTable p w n₀ ann n ⟨H, gens, drawn, tk, os⟩ ⟨curOf env (t.st :: rest), c, pos, f :: B⟩ = some (⟨t.heap w env.locals H tk o, gens, drawn, t.tk tk, os⟩, ⟨curOf env rest, c, t.p1, f :: B⟩) := by
  obtain ⟨es, n, hd, hr⟩ := E.ns
  have hf : aRefKeyMayBeTheName t.nm es.toArray = false := by
    rw [aRefKeyMayBeTheName_at]
    have : es.toArray.any (·.refKey) = false := by rw [← Array.any_toList]; exact hr
    rw [this, Bool.and_false]
  have := run_setStmt (p := p) (w := w) (n₀ := n₀) (ann := ann) (c := c) (B := B) (f := f) (pos := pos) (env := env) (H := H) (tk := tk) (gens := gens) (drawn := drawn) (os := os) (es := t.es) (xs := t.xs) (p1 := t.p1) (p2 := t.p2) (p3 := t.p3) (nm := t.nm) (ds := es.toArray) (ep := n) (od := none) (sl := #[])
    (j := 0) (Q := fun i fl s' pos' => i ≤ 25 * t.xs.length + 60 ∧ fl = .next ∧ pos' = t.p1 ∧ ∃ o, GoodSet w (marked t.xs tk) o ∧ s' = ⟨t.heap w env.locals H tk o, gens, drawn, t.tk tk, os⟩) T.xs T.road T.few T.nd
    (E.code.imp id fun ⟨a, o, vs, h1, _, h3, h4⟩ => ⟨a, o, vs, h1, h3, h4⟩) E.cls T.loc hd hf E.low (fun i hi o' g => ⟨by omega, rfl, rfl, o', g, rfl⟩)
  obtain ⟨m, fl, s', pos', ⟨hm, rfl, rfl, o, g, rfl⟩, k⟩ := this
  refine ⟨m, o, by omega, g, ?_⟩
  rw [curOf_wrap, curOf_wrap, execs_cons_wrap]
  exact k _ _ _ _

theorem sets_three (t1 t2 t3 : SetSt) (T1 : t1.Ok env) (T2 : t2.Ok env) (T3 : t3.Ok env) (E : EnvOk n₀ env H) (rest : List Stmt) : ∃ n o1 o2 o3, n ≤ 25 * (t1.xs.length + t2.xs.length + t3.xs.length) + 180 ∧ GoodSet w (marked t1.xs tk) o1 ∧ GoodSet w (marked t2.xs (t1.tk tk)) o2 ∧ GoodSet w (marked t3.xs (t2.tk (t1.tk tk))) o3 ∧
    topGo treeTable p w n₀ ann n ⟨H, gens, drawn, tk, os⟩ ⟨curOf env (t1.st :: t2.st :: t3.st :: rest), c, pos, f :: B⟩ =
      some (⟨t3.heap w env.locals (t2.heap w env.locals (t1.heap w env.locals H tk o1) (t1.tk tk) o2) (t2.tk (t1.tk tk)) o3, gens, drawn, t3.tk (t2.tk (t1.tk tk)), os⟩, ⟨curOf env rest, c, t3.p1, f :: B⟩) := by
  obtain ⟨n1, o1, b1, g1, k1⟩ := set_step (p := p) (w := w) (ann := ann) (c := c) (B := B) (f := f) (pos := pos) (tk := tk) (gens := gens) (drawn := drawn) (os := os) t1 T1 E (t2.st :: t3.st :: rest)
  obtain ⟨n2, o2, b2, g2, k2⟩ := set_step (p := p) (w := w) (ann := ann) (c := c) (B := B) (f := f) (pos := t1.p1) (tk := t1.tk tk) (gens := gens) (drawn := drawn) (os := os) t2 T2 (E.next (w := w) (t := t1) (tk := tk) (o := o1)) (t3.st :: rest)
  obtain ⟨n3, o3, b3, g3, k3⟩ := set_step (p := p) (w := w) (ann := ann) (c := c) (B := B) (f := f) (pos := t2.p1) (tk := t2.tk (t1.tk tk)) (gens := gens) (drawn := drawn) (os := os) t3 T3 ((E.next (w := w) (t := t1) (tk := tk) (o := o1)).next (w := w) (t := t2) (tk := t1.tk tk) (o := o2)) rest
  exact ⟨n1 + (n2 + n3), o1, o2, o3, by omega, g1, g2, g3, topGo_add k1 (topGo_add k2 k3)⟩
end
end Mine
end

section
open PySem PySem.W PyProof.Rows
set_option Elab.async false
set_option maxRecDepth 100000
namespace Mine

/-- a tree whose places are told by a function -/
noncomputable def bt (f : Nat → Obj) (n : Nat) : Nat → Nat → Nat → BT
  | 0, _, _ => .nil
  | k + 1, a, b => match Nat.blt b n with
    | true => .node (f b) (bt f n k (2 * a) (a + b)) (bt f n k (2 * a) (2 * a + b))
    | false => .nil
theorem bt_get (f : Nat → Obj) (n : Nat) : ∀ (k a b i : Nat), 0 < a → b + a * i < n → i + 1 < 2 ^ k → (bt f n k a b).get i = some (f (b + a * i))
  | 0, a, b, i, _, _, h => by simp at h
  | k + 1, a, b, i, ha, hn, hk => by
    have lt : b < n := Nat.lt_of_le_of_lt (Nat.le_add_right _ _) hn
    unfold bt
    rw [show Nat.blt b n = true from Nat.ble_eq_true_of_le lt]
    dsimp only
    rw [BT.get_node]
    by_cases h0 : i = 0
    · subst h0; simp
    · rw [if_neg h0]
      rw [Nat.pow_succ] at hk
      by_cases h1 : i % 2 = 1
      · rw [if_pos h1]
        have e : i = 2 * (i / 2) + 1 := by omega
        have e2 : a + b + 2 * a * (i / 2) = b + a * i := by
          have : a * i = a * (2 * (i / 2) + 1) := by rw [← e]
          rw [this, Nat.mul_add, Nat.mul_one, ← Nat.mul_assoc, Nat.mul_comm a 2]; omega
        rw [bt_get f n k (2 * a) (a + b) (i / 2) (by omega) (by rw [e2]; exact hn) (by omega), e2]
      · rw [if_neg h1]
        have e : i = 2 * (i / 2 - 1) + 2 := by omega
        have e2 : 2 * a + b + 2 * a * (i / 2 - 1) = b + a * i := by
          have : a * i = a * (2 * (i / 2 - 1) + 2) := by rw [← e]
          rw [this, Nat.mul_add, ← Nat.mul_assoc, Nat.mul_comm a 2]; omega
        rw [bt_get f n k (2 * a) (2 * a + b) (i / 2 - 1) (by omega) (by rw [e2]; exact hn) (by omega), e2]
noncomputable def btOf (f : Nat → Obj) (n : Nat) : BT := bt f n 12 1 0
theorem btOf_get {f : Nat → Obj} {n i : Nat} (h : i < n) (hn : n ≤ 4000) : (btOf f n).get i = some (f i) := by
  have := bt_get f n 12 1 0 i (by omega) (by omega) (by omega)
  simpa [btOf] using this

noncomputable def atO (h : Heap) (i : Nat) : Obj := (h.objs[i]?).getD default
theorem absHeap_btOf {h : Heap} (hn : h.objs.size ≤ 4000) : absHeap (btOf (atO h) h.objs.size) h.objs.size h.life = h := by
  obtain ⟨objs, life⟩ := h
  have : (absHeap (btOf (atO ⟨objs, life⟩) objs.size) objs.size life).objs = objs := by
    apply Array.ext_getElem?
    intro i
    rw [absHeap_at]
    by_cases q : i < objs.size
    · rw [if_pos q, btOf_get q hn]
      simp [atO, q]
    · rw [if_neg q]; simp [q]
  show Heap.mk _ _ = Heap.mk _ _
  exact congrArg (Heap.mk · life) this

/-- the given places, else f's -/
noncomputable def ov (f : Nat → Obj) : List (Nat × Obj) → Nat → Obj
  | [], i => f i
  | (a, o) :: r, i => match Nat.beq i a with
    | true => o
    | false => ov f r i
theorem ov_same {f : Nat → Obj} {i : Nat} : ∀ {l : List (Nat × Obj)}, (∀ p ∈ l, f p.1 = p.2) → ov f l i = f i
  | [], _ => rfl
  | (a, o) :: r, h => by
    unfold ov
    cases q : Nat.beq i a with
    | true => rw [Nat.eq_of_beq_eq_true q]; exact (h (a, o) (by simp)).symm
    | false => exact ov_same fun p hp => h p (List.mem_cons_of_mem _ hp)

theorem get_atO {h : Heap} {a : Addr} {o : Obj} (e : h.get? a = some o) : atO h a = o := by
  unfold Heap.get? at e
  unfold atO
  split at e
  · cases e
  · rw [e]; rfl

section
variable {p : Program} {w : World} {n₀ : Nat} {ann : Option Value}
theorem segGo_top : ∀ {n : Nat} {s s' : Shared} {t t' : Thread}, segGo treeTable p w n₀ ann 0 n s t = some (s', t') → topGo treeTable p w n₀ ann n s t = some (s', t')
  | 0, _, _, _, _, h => h
  | n + 1, s, s', t, t', h => by
    unfold segGo at h
    unfold topGo
    have : through t = match endAt 0 t with | some _ => true | none => false := by
      unfold through endAt
      obtain ⟨cur, c, p, st⟩ := t
      cases st with
      | nil => cases cur <;> try rfl
               rename_i f; cases f <;> rfl
      | cons f r => rfl
    rw [this]
    cases he : endAt 0 t with
    | some x => rw [he] at h; cases h
    | none =>
      rw [he] at h
      cases hk : stepOk n₀ ann t with
      | false => rw [hk] at h; cases h
      | true =>
        rw [hk] at h
        cases hs : step (denote treeTable) p w s t with
        | halt o s₂ => rw [hs] at h; cases h
        | go s₂ t₂ => rw [hs] at h; exact segGo_top h
theorem segGoT_top {n : Nat} {s s' : SharedT} {t t' : Thread} (h : segGoT treeTable p w n₀ ann 0 n s t = some (s', t')) : topGo treeTable p w n₀ ann n s.abs t = some (s'.abs, t') := segGo_top (segGo_of h)

theorem stepOk_less {m₀ : Nat} {a b : Nat} {t : Thread} (l : n₀ ≤ m₀) (l' : n₀ ≤ a) (h : stepOk m₀ (some (.ref a)) t = true) : stepOk n₀ ann t = true := by
  unfold stepOk at h ⊢
  rw [Bool.and_eq_true] at h ⊢
  refine ⟨h.1, ?_⟩
  have h2 := h.2
  revert h2
  cases t.cur <;> intro h2 <;> try exact h2
  rename_i a' _ _ _
  simp only [Bool.or_eq_true, Nat.ble_eq, beq_iff_eq, Option.some.injEq, Value.ref.injEq] at h2 ⊢
  rcases h2 with ((q | q) | q) | q
  · exact .inl (.inl (.inl (Nat.le_trans l q)))
  · exact .inl (.inl (.inr q))
  · exact .inl (.inr q)
  · exact .inl (.inl (.inl (q ▸ l')))
theorem topGo_less {m₀ : Nat} {a : Nat} (l : n₀ ≤ m₀) (l' : n₀ ≤ a) : ∀ {n : Nat} {s s' : Shared} {t t' : Thread}, topGo treeTable p w m₀ (some (.ref a)) n s t = some (s', t') → topGo treeTable p w n₀ ann n s t = some (s', t')
  | 0, _, _, _, _, h => h
  | n + 1, s, s', t, t', h => by
    unfold topGo at h ⊢
    cases ht : through t with
    | true => rw [ht] at h; cases h
    | false =>
      rw [ht] at h
      cases hk : stepOk m₀ (some (.ref a)) t with
      | false => rw [hk] at h; cases h
      | true =>
        rw [hk] at h
        rw [stepOk_less (b := 0) l l' hk]
        cases hs : step (denote treeTable) p w s t with
        | halt o s₂ => rw [hs] at h; cases h
        | go s₂ t₂ => rw [hs] at h; exact topGo_less l l' h
theorem topGo_keeps {m₀ : Nat} {a : Nat} : ∀ {n : Nat} {s s' : Shared} {t t' : Thread}, topGo treeTable p w m₀ (some (.ref a)) n s t = some (s', t') →
    ∀ b o, b < m₀ → b ≠ mainNs → b ≠ cStatics → b ≠ a → s.heap.get? b = some o → s'.heap.get? b = some o
  | 0, s, s', t, t', h, b, o, _, _, _, _, e => by simp [topGo] at h; obtain ⟨rfl, rfl⟩ := h; exact e
  | n + 1, s, s', t, t', h, b, o, h1, h2, h3, h4, e => by
    unfold topGo at h
    cases ht : through t with
    | true => rw [ht] at h; cases h
    | false =>
      rw [ht] at h
      cases hk : stepOk m₀ (some (.ref a)) t with
      | false => rw [hk] at h; cases h
      | true =>
        rw [hk] at h
        cases hs : step (denote treeTable) p w s t with
        | halt o s₂ => rw [hs] at h; cases h
        | go s₂ t₂ =>
          rw [hs] at h
          refine topGo_keeps h b o h1 h2 h3 h4 ?_
          rw [PySem.step_heap (denote treeTable) p w s s₂ t t₂ hs]
          obtain ⟨_, hk⟩ := Bool.and_eq_true_iff.mp hk
          revert hk
          cases t.cur <;> intro hk <;> try exact e
          case update a' _ f _ =>
            have : b ≠ a' := by
              rintro rfl
              simp only [Bool.or_eq_true, Nat.ble_eq, beq_iff_eq, Option.some.injEq, Value.ref.injEq] at hk
              rcases hk with ((q | q) | q) | q
              · exact absurd h1 (Nat.not_lt.mpr q)
              · exact h2 q
              · exact h3 q
              · exact h4 q.symm
            exact (Heap.get?_update_ne _ _ _ _ this).trans e
          case alloc x _ => exact Heap.get?_push_of_some x e
end
end Mine
end

section
open PySem PySem.W PyProof.Rows
set_option Elab.async false
set_option maxRecDepth 100000
namespace Mine

noncomputable abbrev seenG (ps : List (Nat × Obj)) (r : SharedT × Thread) := (r.2, r.1.n, r.1.life, r.1.gens, r.1.drawn, r.1.toks, r.1.os, ps.map fun q => r.1.tree.get q.1)
noncomputable abbrev toldG (ps : List (Nat × Obj)) (t : Thread) (n : Nat) (life : Life) (gens : Array GenState) (drawn : Drawn) (tk : Nat) (os : OsState) := some (t, n, life, gens, drawn, tk, os, ps.map fun q => some q.2)
/-- is the place a function of the class c -/
noncomputable def isOf (o : Option Obj) : Option (Value × Bool) := o.map fun o => (o.cls, match o.data with | .func _ => true | _ => false)
noncomputable abbrev seenF (ps : List (Nat × Obj)) (fs : List Nat) (r : SharedT × Thread) := (seenG ps r, fs.map fun a => isOf (r.1.tree.get a))

theorem map_at {α β : Type} {f g : α → β} : ∀ {l : List α}, l.map f = l.map g → ∀ q ∈ l, f q = g q
  | x :: r, h, q, hq => by
    rw [List.map_cons, List.map_cons, List.cons.injEq] at h
    rcases List.mem_cons.mp hq with rfl | m
    · exact h.1
    · exact map_at h.2 q m

theorem pieceG {p : Program} {w : World} {os os' : OsState} {life life' : Life} {gens gens' : Array GenState} {drawn drawn' : Drawn} {tk tk' n n' N n₁ a : Nat} {H : Heap} {L ps : List (Nat × Obj)} {t t' : Thread} {β : Type} {G : SharedT × Thread → β} {g : β}
    (hs : H.objs.size = n) (hl : H.life = life) (hn : n ≤ 4000) (hL : ∀ q ∈ L, H.get? q.1 = some q.2)
    (k : (segGoT treeTable p w n₁ (some (.ref a)) 0 N ⟨btOf (ov (atO H) L) n, n, life, gens, drawn, tk, os⟩ t).map (fun r => (seenG ps r, G r)) = (toldG ps t' n' life' gens' drawn' tk' os').map (·, g)) :
    ∃ T, topGo treeTable p w n₁ (some (.ref a)) N ⟨H, gens, drawn, tk, os⟩ t = some (⟨absHeap T n' life', gens', drawn', tk', os'⟩, t') ∧ (∀ q ∈ ps, T.get q.1 = some q.2) ∧ G (⟨T, n', life', gens', drawn', tk', os'⟩, t') = g := by
  have e : ov (atO H) L = atO H := funext fun i => ov_same fun q hq => get_atO (hL q hq)
  rw [e] at k
  obtain ⟨⟨⟨T, m, lf, gs, dr, tt, oo⟩, th⟩, h1, h2⟩ := Option.map_eq_some_iff.mp k
  simp only [seenG, Prod.mk.injEq] at h2
  obtain ⟨⟨rfl, rfl, rfl, rfl, rfl, rfl, rfl, h3⟩, h4⟩ := h2
  have g := segGoT_top h1
  subst hs hl
  have ea : SharedT.abs ⟨btOf (atO H) H.objs.size, H.objs.size, H.life, gens, drawn, tk, os⟩ = ⟨H, gens, drawn, tk, os⟩ := by
    show Shared.mk _ _ _ _ _ = _
    rw [absHeap_btOf hn]
  rw [ea] at g
  exact ⟨T, g, fun q hq => map_at h3 q hq, h4⟩
theorem piece {p : Program} {w : World} {os os' : OsState} {life life' : Life} {gens gens' : Array GenState} {drawn drawn' : Drawn} {tk tk' n n' N n₁ a : Nat} {H : Heap} {L ps : List (Nat × Obj)} {t t' : Thread}
    (hs : H.objs.size = n) (hl : H.life = life) (hn : n ≤ 4000) (hL : ∀ q ∈ L, H.get? q.1 = some q.2)
    (k : (segGoT treeTable p w n₁ (some (.ref a)) 0 N ⟨btOf (ov (atO H) L) n, n, life, gens, drawn, tk, os⟩ t).map (seenG ps) = toldG ps t' n' life' gens' drawn' tk' os') :
    ∃ H', topGo treeTable p w n₁ (some (.ref a)) N ⟨H, gens, drawn, tk, os⟩ t = some (⟨H', gens', drawn', tk', os'⟩, t') ∧ H'.objs.size = n' ∧ H'.life = life' ∧ ∀ q ∈ ps, q.1 < n' → H'.get? q.1 = alive q.2 := by
  have k' : (segGoT treeTable p w n₁ (some (.ref a)) 0 N ⟨btOf (ov (atO H) L) n, n, life, gens, drawn, tk, os⟩ t).map (fun r => (seenG ps r, ())) = (toldG ps t' n' life' gens' drawn' tk' os').map (·, ()) := by
    rw [← k, Option.map_map]; rfl
  obtain ⟨T, g, h, _⟩ := pieceG hs hl hn hL k'
  exact ⟨_, g, absHeap_size _ _ _, rfl, fun q hq lt => abs_get lt (h q hq)⟩

theorem alive_of {c : Value} {d : Option Addr} {dt : Data} {sl : Array (Option Value)} (h : dt ≠ .freed) : alive ⟨c, d, dt, sl⟩ = some ⟨c, d, dt, sl⟩ := by
  cases dt <;> first | rfl | exact absurd rfl h
theorem isOf_get {T : BT} {n : Nat} {life : Life} {a : Nat} {c : Value} (lt : a < n) (h : isOf (T.get a) = some (c, true)) : ∃ d dt sl, (absHeap T n life).get? a = some ⟨c, d, .func dt, sl⟩ := by
  unfold isOf at h
  obtain ⟨⟨c', d, dt, sl⟩, h1, h2⟩ := Option.map_eq_some_iff.mp h
  simp only [Prod.mk.injEq] at h2
  obtain ⟨rfl, h3⟩ := h2
  cases dt with
  | func fd => exact ⟨d, fd, sl, abs_get lt h1⟩
  | _ => cases h3
end Mine
end

section
open PySem PySem.W PyProof.Rows
set_option Elab.async false
set_option maxRecDepth 1000000
namespace Mine
noncomputable def clsFind (name : Str) : List Stmt → Option (List Stmt × Scope)
  | .ClassDef n _ _ b _ _ sc _ _ _ _ :: r => if n == name then some (b, sc) else clsFind name r
  | _ :: r => clsFind name r
  | [] => none
noncomputable def esBody : List Stmt := ((clsFind "EnglishStemmer" pw.main.body).map (·.1)).getD []
noncomputable def esScope : Scope := ((clsFind "EnglishStemmer" pw.main.body).map (·.2)).getD default
noncomputable def esEnv : Env := { scope := esScope, locals := 227, globals := 3, cells := [], qual := "EnglishStemmer.", func := none, code := .ref 230, frame := some 231, builtins := 0 }
noncomputable def nsAll (P : Params) : List DictEntry := [
  { hash := PySem.PyData.keyHash P (PySem.Str.ofString "__module__"), key := PySem.Value.str (PySem.Str.ofString "__module__") 457, val := PySem.Value.str (PySem.Str.ofString "snowballstemmer.english_stemmer") 448 },
  { hash := PySem.PyData.keyHash P (PySem.Str.ofString "__qualname__"), key := PySem.Value.str (PySem.Str.ofString "__qualname__") 459, val := PySem.Value.str (PySem.Str.ofString "EnglishStemmer") 458 },
  { hash := PySem.PyData.keyHash P (PySem.Str.ofString "__firstlineno__"), key := PySem.Value.str (PySem.Str.ofString "__firstlineno__") 461, val := PySem.Value.int 138 460 },
  { hash := PySem.PyData.keyHash P (PySem.Str.ofString "g_aeo"), key := PySem.Value.str (PySem.Str.ofString "g_aeo") 463, val := PySem.Value.str (PySem.Str.ofString "aeo") 462 },
  { hash := PySem.PyData.keyHash P (PySem.Str.ofString "g_v"), key := PySem.Value.str (PySem.Str.ofString "g_v") 476, val := PySem.Value.ref 232 },
  { hash := PySem.PyData.keyHash P (PySem.Str.ofString "g_v_WXY"), key := PySem.Value.str (PySem.Str.ofString "g_v_WXY") 495, val := PySem.Value.ref 233 },
  { hash := PySem.PyData.keyHash P (PySem.Str.ofString "g_valid_LI"), key := PySem.Value.str (PySem.Str.ofString "g_valid_LI") 516, val := PySem.Value.ref 234 },
  { hash := PySem.PyData.keyHash P (PySem.Str.ofString "B_Y_found"), key := PySem.Value.str (PySem.Str.ofString "B_Y_found") 517, val := PySem.Value.bool Bool.false },
  { hash := PySem.PyData.keyHash P (PySem.Str.ofString "I_p2"), key := PySem.Value.str (PySem.Str.ofString "I_p2") 519, val := PySem.Value.int 0 518 },
  { hash := PySem.PyData.keyHash P (PySem.Str.ofString "I_p1"), key := PySem.Value.str (PySem.Str.ofString "I_p1") 521, val := PySem.Value.int 0 520 },
  { hash := PySem.PyData.keyHash P (PySem.Str.ofString "r_prelude"), key := PySem.Value.str (PySem.Str.ofString "r_prelude") 528, val := PySem.Value.ref 241 },
  { hash := PySem.PyData.keyHash P (PySem.Str.ofString "r_mark_regions"), key := PySem.Value.str (PySem.Str.ofString "r_mark_regions") 535, val := PySem.Value.ref 248 },
  { hash := PySem.PyData.keyHash P (PySem.Str.ofString "r_shortv"), key := PySem.Value.str (PySem.Str.ofString "r_shortv") 542, val := PySem.Value.ref 255 },
  { hash := PySem.PyData.keyHash P (PySem.Str.ofString "r_R1"), key := PySem.Value.str (PySem.Str.ofString "r_R1") 549, val := PySem.Value.ref 262 },
  { hash := PySem.PyData.keyHash P (PySem.Str.ofString "r_R2"), key := PySem.Value.str (PySem.Str.ofString "r_R2") 556, val := PySem.Value.ref 269 },
  { hash := PySem.PyData.keyHash P (PySem.Str.ofString "r_Step_1a"), key := PySem.Value.str (PySem.Str.ofString "r_Step_1a") 563, val := PySem.Value.ref 276 },
  { hash := PySem.PyData.keyHash P (PySem.Str.ofString "r_Step_1b"), key := PySem.Value.str (PySem.Str.ofString "r_Step_1b") 570, val := PySem.Value.ref 283 },
  { hash := PySem.PyData.keyHash P (PySem.Str.ofString "r_Step_1c"), key := PySem.Value.str (PySem.Str.ofString "r_Step_1c") 577, val := PySem.Value.ref 290 },
  { hash := PySem.PyData.keyHash P (PySem.Str.ofString "r_Step_2"), key := PySem.Value.str (PySem.Str.ofString "r_Step_2") 584, val := PySem.Value.ref 297 },
  { hash := PySem.PyData.keyHash P (PySem.Str.ofString "r_Step_3"), key := PySem.Value.str (PySem.Str.ofString "r_Step_3") 591, val := PySem.Value.ref 304 },
  { hash := PySem.PyData.keyHash P (PySem.Str.ofString "r_Step_4"), key := PySem.Value.str (PySem.Str.ofString "r_Step_4") 598, val := PySem.Value.ref 311 },
  { hash := PySem.PyData.keyHash P (PySem.Str.ofString "r_Step_5"), key := PySem.Value.str (PySem.Str.ofString "r_Step_5") 605, val := PySem.Value.ref 318 },
  { hash := PySem.PyData.keyHash P (PySem.Str.ofString "r_exception1"), key := PySem.Value.str (PySem.Str.ofString "r_exception1") 612, val := PySem.Value.ref 325 },
  { hash := PySem.PyData.keyHash P (PySem.Str.ofString "r_postlude"), key := PySem.Value.str (PySem.Str.ofString "r_postlude") 619, val := PySem.Value.ref 332 },
  { hash := PySem.PyData.keyHash P (PySem.Str.ofString "_stem"), key := PySem.Value.str (PySem.Str.ofString "_stem") 626, val := PySem.Value.ref 339 },
  { hash := PySem.PyData.keyHash P (PySem.Str.ofString "a_0"), key := PySem.Value.str (PySem.Str.ofString "a_0") 762, val := PySem.Value.ref 367 },
  { hash := PySem.PyData.keyHash P (PySem.Str.ofString "a_1"), key := PySem.Value.str (PySem.Str.ofString "a_1") 804, val := PySem.Value.ref 377 },
  { hash := PySem.PyData.keyHash P (PySem.Str.ofString "a_2"), key := PySem.Value.str (PySem.Str.ofString "a_2") 887, val := PySem.Value.ref 396 },
  { hash := PySem.PyData.keyHash P (PySem.Str.ofString "a_3"), key := PySem.Value.str (PySem.Str.ofString "a_3") 930, val := PySem.Value.ref 406 },
  { hash := PySem.PyData.keyHash P (PySem.Str.ofString "a_4"), key := PySem.Value.str (PySem.Str.ofString "a_4") 1029, val := PySem.Value.ref 428 },
  { hash := PySem.PyData.keyHash P (PySem.Str.ofString "a_5"), key := PySem.Value.str (PySem.Str.ofString "a_5") 1123, val := PySem.Value.ref 450 },
  { hash := PySem.PyData.keyHash P (PySem.Str.ofString "a_6"), key := PySem.Value.str (PySem.Str.ofString "a_6") 1294, val := PySem.Value.ref 490 },
  { hash := PySem.PyData.keyHash P (PySem.Str.ofString "a_7"), key := PySem.Value.str (PySem.Str.ofString "a_7") 1636, val := PySem.Value.ref 566 },
  { hash := PySem.PyData.keyHash P (PySem.Str.ofString "a_8"), key := PySem.Value.str (PySem.Str.ofString "a_8") 1762, val := PySem.Value.ref 594 },
  { hash := PySem.PyData.keyHash P (PySem.Str.ofString "a_9"), key := PySem.Value.str (PySem.Str.ofString "a_9") 2013, val := PySem.Value.ref 649 },
  { hash := PySem.PyData.keyHash P (PySem.Str.ofString "a_10"), key := PySem.Value.str (PySem.Str.ofString "a_10") 2042, val := PySem.Value.ref 656 },
  { hash := PySem.PyData.keyHash P (PySem.Str.ofString "a_11"), key := PySem.Value.str (PySem.Str.ofString "a_11") 2260, val := PySem.Value.ref 702 }]
noncomputable def nsObj (P : Params) (k : Nat) : Obj := { cls := PySem.Value.type "dict", data := PySem.Data.dict ((nsAll P).take k).toArray k }
noncomputable def o_2 (P : Params) : Obj :=
{ cls := PySem.Value.none, data := PySem.Data.dict #[] }
noncomputable def o_3 (P : Params) : Obj :=
{ cls := PySem.Value.type "dict",
  data :=
    PySem.Data.dict
      #[{ hash := PySem.PyData.keyHash P (PySem.Str.ofString "__name__"), key := PySem.Value.str (PySem.Str.ofString "__name__") 165,
          val := PySem.Value.str (PySem.Str.ofString "snowballstemmer.english_stemmer") 448 },
        { hash := PySem.PyData.keyHash P (PySem.Str.ofString "__doc__"), key := PySem.Value.str (PySem.Str.ofString "__doc__") 166, val := PySem.Value.none },
        { hash := PySem.PyData.keyHash P (PySem.Str.ofString "__package__"), key := PySem.Value.str (PySem.Str.ofString "__package__") 167, val := PySem.Value.none },
        { hash := PySem.PyData.keyHash P (PySem.Str.ofString "__loader__"), key := PySem.Value.str (PySem.Str.ofString "__loader__") 168, val := PySem.Value.builtin "__main__.__loader__#opaque" },
        { hash := PySem.PyData.keyHash P (PySem.Str.ofString "__spec__"), key := PySem.Value.str (PySem.Str.ofString "__spec__") 169, val := PySem.Value.none },
        { hash := PySem.PyData.keyHash P (PySem.Str.ofString "__annotations__"), key := PySem.Value.str (PySem.Str.ofString "__annotations__") 170, val := PySem.Value.ref 6 },
        { hash := PySem.PyData.keyHash P (PySem.Str.ofString "__builtins__"), key := PySem.Value.str (PySem.Str.ofString "__builtins__") 171, val := PySem.Value.ref 4 },
        { hash := PySem.PyData.keyHash P (PySem.Str.ofString "__file__"), key := PySem.Value.str (PySem.Str.ofString "__file__") 173, val := PySem.Value.str (PySem.Str.ofString "/claim/cut.py") 172 },
        { hash := PySem.PyData.keyHash P (PySem.Str.ofString "__cached__"), key := PySem.Value.str (PySem.Str.ofString "__cached__") 174, val := PySem.Value.none },
        { hash := PySem.PyData.keyHash P (PySem.Str.ofString "_wall"), key := PySem.Value.str (PySem.Str.ofString "_wall") 193, val := PySem.Value.ref 21 },
        { hash := PySem.PyData.keyHash P (PySem.Str.ofString "BaseStemmer"), key := PySem.Value.str (PySem.Str.ofString "BaseStemmer") 412, val := PySem.Value.ref 199 },
        { hash := PySem.PyData.keyHash P (PySem.Str.ofString "Among"), key := PySem.Value.str (PySem.Str.ofString "Among") 447, val := PySem.Value.ref 220 }]
      12 }
noncomputable def o_216 (P : Params) : Obj :=
{ cls := PySem.Value.type "code",
  data :=
    PySem.Data.fields
      #[PySem.Value.str (PySem.Str.ofString "__init__") 427, PySem.Value.str (PySem.Str.ofString "Among.__init__") 428, PySem.Value.str (PySem.Str.ofString "/claim/cut.py") 429, PySem.Value.int 133 0,
        PySem.Value.int 4 0, PySem.Value.int 0 0, PySem.Value.int 0 0, PySem.Value.int 3 0, PySem.Value.ref 211, PySem.Value.bool Bool.true, PySem.Value.int 181 0, PySem.Value.ref 212,
        PySem.Value.none, PySem.Value.ref 213, PySem.Value.ref 214, PySem.Value.ref 215, PySem.Value.int 434 0, PySem.Value.int 133 0, PySem.Value.str (PySem.Str.ofString "/claim/cut.py") 435] }
noncomputable def o_217 (P : Params) : Obj :=
{ cls := PySem.Value.type "function",
  data :=
    PySem.Data.func
      { name := PySem.Str.ofString "__init__", qualname := PySem.Str.ofString "Among.__init__",
        params :=
          { posonlyargs := [],
            args :=
              [{ arg := PySem.Str.ofString "self", annotation := Option.none, pos := { line := 133, col := 17, endLine := 133, endCol := 21 } },
                { arg := PySem.Str.ofString "s", annotation := Option.none, pos := { line := 133, col := 23, endLine := 133, endCol := 24 } },
                { arg := PySem.Str.ofString "substring_i", annotation := Option.none, pos := { line := 133, col := 26, endLine := 133, endCol := 37 } },
                { arg := PySem.Str.ofString "result", annotation := Option.none, pos := { line := 133, col := 39, endLine := 133, endCol := 45 } }],
            vararg := Option.none, kwonlyargs := [], kw_defaults := [], kwarg := Option.none, defaults := [] },
        body :=
          PySem.FuncBody.stmts
            [PySem.Stmt.Assign
                [(PySem.Expr.Name (PySem.Str.ofString "self") { line := 134, col := 8, endLine := 134, endCol := 12 }).Attribute (PySem.Str.ofString "s")
                    { line := 134, col := 8, endLine := 134, endCol := 14 }]
                (PySem.Expr.Name (PySem.Str.ofString "s") { line := 134, col := 17, endLine := 134, endCol := 18 }) { line := 134, col := 8, endLine := 134, endCol := 18 },
              PySem.Stmt.Assign
                [(PySem.Expr.Name (PySem.Str.ofString "self") { line := 135, col := 8, endLine := 135, endCol := 12 }).Attribute (PySem.Str.ofString "substring_i")
                    { line := 135, col := 8, endLine := 135, endCol := 24 }]
                (PySem.Expr.Name (PySem.Str.ofString "substring_i") { line := 135, col := 27, endLine := 135, endCol := 38 }) { line := 135, col := 8, endLine := 135, endCol := 38 },
              PySem.Stmt.Assign
                [(PySem.Expr.Name (PySem.Str.ofString "self") { line := 136, col := 8, endLine := 136, endCol := 12 }).Attribute (PySem.Str.ofString "result")
                    { line := 136, col := 8, endLine := 136, endCol := 19 }]
                (PySem.Expr.Name (PySem.Str.ofString "result") { line := 136, col := 22, endLine := 136, endCol := 28 }) { line := 136, col := 8, endLine := 136, endCol := 28 }],
        scope :=
          { kind := PySem.ScopeKind.function,
            names :=
              [(PySem.Str.ofString "self", PySem.NameKind.local), (PySem.Str.ofString "s", PySem.NameKind.local), (PySem.Str.ofString "substring_i", PySem.NameKind.local),
                (PySem.Str.ofString "result", PySem.NameKind.local)],
            isGenerator := Bool.false, isCoroutine := Bool.false },
        globals := 3, closure := [], defaults := PySem.Value.none, kwdefaults := PySem.Value.none, pyModule := PySem.Value.str (PySem.Str.ofString "snowballstemmer.among") 413,
        code := PySem.Value.ref 216 } }
noncomputable def o_219 (P : Params) : Obj :=
{ cls := PySem.Value.type "dict",
  data :=
    PySem.Data.dict
      #[{ hash := PySem.PyData.keyHash P (PySem.Str.ofString "__module__"), key := PySem.Value.str (PySem.Str.ofString "__module__") 422,
          val := PySem.Value.str (PySem.Str.ofString "snowballstemmer.among") 413 },
        { hash := PySem.PyData.keyHash P (PySem.Str.ofString "__firstlineno__"), key := PySem.Value.str (PySem.Str.ofString "__firstlineno__") 426, val := PySem.Value.int 131 425 },
        { hash := PySem.PyData.keyHash P (PySem.Str.ofString "__init__"), key := PySem.Value.str (PySem.Str.ofString "__init__") 436, val := PySem.Value.ref 217 },
        { hash := PySem.PyData.keyHash P (PySem.Str.ofString "__static_attributes__"), key := PySem.Value.str (PySem.Str.ofString "__static_attributes__") 440, val := PySem.Value.ref 218 },
        { hash := PySem.PyData.keyHash P (PySem.Str.ofString "__dict__"), key := PySem.Value.str (PySem.Str.ofString "__dict__") 442, val := PySem.Value.ref 221 },
        { hash := PySem.PyData.keyHash P (PySem.Str.ofString "__weakref__"), key := PySem.Value.str (PySem.Str.ofString "__weakref__") 444, val := PySem.Value.ref 222 },
        { hash := PySem.PyData.keyHash P (PySem.Str.ofString "__doc__"), key := PySem.Value.str (PySem.Str.ofString "__doc__") 445, val := PySem.Value.none }]
      4 }
noncomputable def o_220 (P : Params) : Obj :=
{ cls := PySem.Value.type "type",
  data :=
    PySem.Data.cls
      { name := PySem.Str.ofString "Among", bases := [PySem.Value.type "object"], mro := [PySem.Value.ref 220, PySem.Value.type "object"], ns := 219, qualname := PySem.Str.ofString "Among" },
  slots :=
    #[Option.none, Option.none, Option.some (PySem.Value.str (PySem.Str.ofString "Among") 415), Option.some (PySem.Value.str (PySem.Str.ofString "Among") 423),
      Option.some (PySem.Value.builtin "object.__new__"), Option.some (PySem.Value.bool Bool.true)] }
noncomputable def o_4 : Obj :=
{ cls := PySem.Value.type "module", dict := Option.some 0 }
noncomputable def o_229 : Obj :=
{ cls := PySem.Value.none, data := PySem.Data.fields #[] }
noncomputable def o_230 : Obj :=
{ cls := PySem.Value.type "code",
  data :=
    PySem.Data.fields
      #[PySem.Value.str (PySem.Str.ofString "EnglishStemmer") 452, PySem.Value.str (PySem.Str.ofString "EnglishStemmer") 453, PySem.Value.str (PySem.Str.ofString "/claim/cut.py") 454,
        PySem.Value.int 138 0, PySem.Value.int 0 0, PySem.Value.int 0 0, PySem.Value.int 0 0, PySem.Value.int 0 0, PySem.Value.ref 228, PySem.Value.bool Bool.false, PySem.Value.int 181 0,
        PySem.Value.ref 229, PySem.Value.none, PySem.Value.none, PySem.Value.none, PySem.Value.none, PySem.Value.int 455 0, PySem.Value.int 138 0,
        PySem.Value.str (PySem.Str.ofString "/claim/cut.py") 456] }
noncomputable def o_367 : Obj :=
{ cls := PySem.Value.type "list",
  data :=
    PySem.Data.seq
      #[PySem.Value.ref 341, PySem.Value.ref 344, PySem.Value.ref 347, PySem.Value.ref 350, PySem.Value.ref 353, PySem.Value.ref 356, PySem.Value.ref 359, PySem.Value.ref 362, PySem.Value.ref 365] }
noncomputable def o_377 : Obj :=
{ cls := PySem.Value.type "list", data := PySem.Data.seq #[PySem.Value.ref 369, PySem.Value.ref 372, PySem.Value.ref 375] }
noncomputable def o_396 : Obj :=
{ cls := PySem.Value.type "list", data := PySem.Data.seq #[PySem.Value.ref 379, PySem.Value.ref 382, PySem.Value.ref 385, PySem.Value.ref 388, PySem.Value.ref 391, PySem.Value.ref 394] }
noncomputable def o_406 : Obj :=
{ cls := PySem.Value.type "list", data := PySem.Data.seq #[PySem.Value.ref 398, PySem.Value.ref 401, PySem.Value.ref 404] }
noncomputable def o_428 : Obj :=
{ cls := PySem.Value.type "list",
  data := PySem.Data.seq #[PySem.Value.ref 408, PySem.Value.ref 411, PySem.Value.ref 414, PySem.Value.ref 417, PySem.Value.ref 420, PySem.Value.ref 423, PySem.Value.ref 426] }
noncomputable def o_450 : Obj :=
{ cls := PySem.Value.type "list",
  data := PySem.Data.seq #[PySem.Value.ref 430, PySem.Value.ref 433, PySem.Value.ref 436, PySem.Value.ref 439, PySem.Value.ref 442, PySem.Value.ref 445, PySem.Value.ref 448] }
noncomputable def o_490 : Obj :=
{ cls := PySem.Value.type "list",
  data :=
    PySem.Data.seq
      #[PySem.Value.ref 452, PySem.Value.ref 455, PySem.Value.ref 458, PySem.Value.ref 461, PySem.Value.ref 464, PySem.Value.ref 467, PySem.Value.ref 470, PySem.Value.ref 473, PySem.Value.ref 476,
        PySem.Value.ref 479, PySem.Value.ref 482, PySem.Value.ref 485, PySem.Value.ref 488] }
noncomputable def o_566 : Obj :=
{ cls := PySem.Value.type "list",
  data :=
    PySem.Data.seq
      #[PySem.Value.ref 492, PySem.Value.ref 495, PySem.Value.ref 498, PySem.Value.ref 501, PySem.Value.ref 504, PySem.Value.ref 507, PySem.Value.ref 510, PySem.Value.ref 513, PySem.Value.ref 516,
        PySem.Value.ref 519, PySem.Value.ref 522, PySem.Value.ref 525, PySem.Value.ref 528, PySem.Value.ref 531, PySem.Value.ref 534, PySem.Value.ref 537, PySem.Value.ref 540, PySem.Value.ref 543,
        PySem.Value.ref 546, PySem.Value.ref 549, PySem.Value.ref 552, PySem.Value.ref 555, PySem.Value.ref 558, PySem.Value.ref 561, PySem.Value.ref 564] }
noncomputable def o_594 : Obj :=
{ cls := PySem.Value.type "list",
  data :=
    PySem.Data.seq
      #[PySem.Value.ref 568, PySem.Value.ref 571, PySem.Value.ref 574, PySem.Value.ref 577, PySem.Value.ref 580, PySem.Value.ref 583, PySem.Value.ref 586, PySem.Value.ref 589, PySem.Value.ref 592] }
noncomputable def o_649 : Obj :=
{ cls := PySem.Value.type "list",
  data :=
    PySem.Data.seq
      #[PySem.Value.ref 596, PySem.Value.ref 599, PySem.Value.ref 602, PySem.Value.ref 605, PySem.Value.ref 608, PySem.Value.ref 611, PySem.Value.ref 614, PySem.Value.ref 617, PySem.Value.ref 620,
        PySem.Value.ref 623, PySem.Value.ref 626, PySem.Value.ref 629, PySem.Value.ref 632, PySem.Value.ref 635, PySem.Value.ref 638, PySem.Value.ref 641, PySem.Value.ref 644, PySem.Value.ref 647] }
noncomputable def o_656 : Obj :=
{ cls := PySem.Value.type "list", data := PySem.Data.seq #[PySem.Value.ref 651, PySem.Value.ref 654] }
noncomputable def o_702 : Obj :=
{ cls := PySem.Value.type "list",
  data :=
    PySem.Data.seq
      #[PySem.Value.ref 658, PySem.Value.ref 661, PySem.Value.ref 664, PySem.Value.ref 667, PySem.Value.ref 670, PySem.Value.ref 673, PySem.Value.ref 676, PySem.Value.ref 679, PySem.Value.ref 682,
        PySem.Value.ref 685, PySem.Value.ref 688, PySem.Value.ref 691, PySem.Value.ref 694, PySem.Value.ref 697, PySem.Value.ref 700] }
noncomputable def amongs (P : Params) (k : Nat) : List (Nat × Obj) := [(227, nsObj P k), (3, o_3 P), (220, o_220 P), (219, o_219 P), (217, o_217 P), (216, o_216 P), (2, o_2 P)]
noncomputable def esCode : Code := .body esBody esEnv
end Mine
end

section
open PySem PySem.W PyProof.Rows
set_option Elab.async false
set_option maxRecDepth 1000000
namespace Mine
noncomputable abbrev ps_0 (P : Params) : List (Nat × Obj) := [(227, nsObj P 29), (2, o_2 P), (3, o_3 P), (367, o_367), (377, o_377), (396, o_396), (406, o_406)]
theorem pc_0 (w : World) (os : OsState) (life : Life) (gens : Array GenState) (drawn : Drawn) (X : Nat → Obj) (k1 : Result → Sem Fin) (l1 kept1 : List Value) (b1 : List Stmt) (e1 : Env) (p1 p2 pos : Pos) :
  (segGoT treeTable pw w 340 (some (.ref 227)) 0 3644 ⟨btOf (ov X (amongs w.params 25)) 340, 340, life, gens, drawn, 627, os⟩ ⟨curOf esEnv (esBody.drop 22), esCode, pos, [.ret k1 none false l1 (.body b1 e1) p1 kept1, topFrame p2]⟩).map (seenG (ps_0 w.params)) =
    toldG (ps_0 w.params) ⟨curOf esEnv (esBody.drop 26), esCode, ⟨194, 4, 194, 7⟩, [.ret k1 none false l1 (.body b1 e1) p1 kept1, topFrame p2]⟩ 407 life gens drawn 931 os := by
  unfold curOf
  rw [PySem.W.Fast.te10295753902157049106, PySem.W.Fast.te12563942051412417395, PySem.W.Fast.te9442747609961115081, PySem.W.R.bindR_eq, PySem.W.R.onRaiseR_eq]
  kernel_rfl
end Mine
end

section
open PySem PySem.W PyProof.Rows
set_option Elab.async false
set_option maxRecDepth 1000000
namespace Mine
noncomputable abbrev ps_1 (P : Params) : List (Nat × Obj) := [(227, nsObj P 32), (2, o_2 P), (3, o_3 P), (428, o_428), (450, o_450), (490, o_490)]
theorem pc_1 (w : World) (os : OsState) (life : Life) (gens : Array GenState) (drawn : Drawn) (X : Nat → Obj) (k1 : Result → Sem Fin) (l1 kept1 : List Value) (b1 : List Stmt) (e1 : Env) (p1 p2 pos : Pos) :
  (segGoT treeTable pw w 407 (some (.ref 227)) 0 4538 ⟨btOf (ov X (amongs w.params 29)) 407, 407, life, gens, drawn, 931, os⟩ ⟨curOf esEnv (esBody.drop 26), esCode, pos, [.ret k1 none false l1 (.body b1 e1) p1 kept1, topFrame p2]⟩).map (seenG (ps_1 w.params)) =
    toldG (ps_1 w.params) ⟨curOf esEnv (esBody.drop 29), esCode, ⟨197, 4, 197, 7⟩, [.ret k1 none false l1 (.body b1 e1) p1 kept1, topFrame p2]⟩ 491 life gens drawn 1295 os := by
  unfold curOf
  rw [PySem.W.Fast.te10295753902157049106, PySem.W.Fast.te12563942051412417395, PySem.W.Fast.te9442747609961115081, PySem.W.R.bindR_eq, PySem.W.R.onRaiseR_eq]
  kernel_rfl
end Mine
end

section
open PySem PySem.W PyProof.Rows
set_option Elab.async false
set_option maxRecDepth 1000000
namespace Mine
noncomputable abbrev ps_2 (P : Params) : List (Nat × Obj) := [(227, nsObj P 33), (2, o_2 P), (3, o_3 P), (566, o_566)]
theorem pc_2 (w : World) (os : OsState) (life : Life) (gens : Array GenState) (drawn : Drawn) (X : Nat → Obj) (k1 : Result → Sem Fin) (l1 kept1 : List Value) (b1 : List Stmt) (e1 : Env) (p1 p2 pos : Pos) :
  (segGoT treeTable pw w 491 (some (.ref 227)) 0 4216 ⟨btOf (ov X (amongs w.params 32)) 491, 491, life, gens, drawn, 1295, os⟩ ⟨curOf esEnv (esBody.drop 29), esCode, pos, [.ret k1 none false l1 (.body b1 e1) p1 kept1, topFrame p2]⟩).map (seenG (ps_2 w.params)) =
    toldG (ps_2 w.params) ⟨curOf esEnv (esBody.drop 30), esCode, ⟨198, 4, 198, 7⟩, [.ret k1 none false l1 (.body b1 e1) p1 kept1, topFrame p2]⟩ 567 life gens drawn 1637 os := by
  unfold curOf
  rw [PySem.W.Fast.te10295753902157049106, PySem.W.Fast.te12563942051412417395, PySem.W.Fast.te9442747609961115081, PySem.W.R.bindR_eq, PySem.W.R.onRaiseR_eq]
  kernel_rfl
end Mine
end

section
open PySem PySem.W PyProof.Rows
set_option Elab.async false
set_option maxRecDepth 1000000
namespace Mine
noncomputable abbrev ps_3 (P : Params) : List (Nat × Obj) := [(227, nsObj P 35), (2, o_2 P), (3, o_3 P), (594, o_594), (649, o_649)]
theorem pc_3 (w : World) (os : OsState) (life : Life) (gens : Array GenState) (drawn : Drawn) (X : Nat → Obj) (k1 : Result → Sem Fin) (l1 kept1 : List Value) (b1 : List Stmt) (e1 : Env) (p1 p2 pos : Pos) :
  (segGoT treeTable pw w 567 (some (.ref 227)) 0 4597 ⟨btOf (ov X (amongs w.params 33)) 567, 567, life, gens, drawn, 1637, os⟩ ⟨curOf esEnv (esBody.drop 30), esCode, pos, [.ret k1 none false l1 (.body b1 e1) p1 kept1, topFrame p2]⟩).map (seenG (ps_3 w.params)) =
    toldG (ps_3 w.params) ⟨curOf esEnv (esBody.drop 32), esCode, ⟨200, 4, 200, 7⟩, [.ret k1 none false l1 (.body b1 e1) p1 kept1, topFrame p2]⟩ 650 life gens drawn 2014 os := by
  unfold curOf
  rw [PySem.W.Fast.te10295753902157049106, PySem.W.Fast.te12563942051412417395, PySem.W.Fast.te9442747609961115081, PySem.W.R.bindR_eq, PySem.W.R.onRaiseR_eq]
  kernel_rfl
end Mine
end

section
open PySem PySem.W PyProof.Rows
set_option Elab.async false
set_option maxRecDepth 1000000
namespace Mine
noncomputable abbrev ps_4 (P : Params) : List (Nat × Obj) := [(227, nsObj P 37), (2, o_2 P), (3, o_3 P), (656, o_656), (702, o_702)]
theorem pc_4 (w : World) (os : OsState) (life : Life) (gens : Array GenState) (drawn : Drawn) (X : Nat → Obj) (k1 : Result → Sem Fin) (l1 kept1 : List Value) (b1 : List Stmt) (e1 : Env) (p1 p2 pos : Pos) :
  (segGoT treeTable pw w 650 (some (.ref 227)) 0 2947 ⟨btOf (ov X (amongs w.params 35)) 650, 650, life, gens, drawn, 2014, os⟩ ⟨curOf esEnv (esBody.drop 32), esCode, pos, [.ret k1 none false l1 (.body b1 e1) p1 kept1, topFrame p2]⟩).map (seenG (ps_4 w.params)) =
    toldG (ps_4 w.params) ⟨curOf esEnv (esBody.drop 34), esCode, ⟨202, 4, 202, 8⟩, [.ret k1 none false l1 (.body b1 e1) p1 kept1, topFrame p2]⟩ 703 life gens drawn 2261 os := by
  unfold curOf
  rw [PySem.W.Fast.te10295753902157049106, PySem.W.Fast.te12563942051412417395, PySem.W.Fast.te9442747609961115081, PySem.W.R.bindR_eq, PySem.W.R.onRaiseR_eq]
  kernel_rfl
end Mine
end

section
open PySem PySem.W PyProof.Rows
set_option Elab.async false
set_option maxRecDepth 1000000
namespace Mine
noncomputable def S0 (w : World) (os : OsState) : SharedT := ⟨btOf (atO (boot_heap w.params)) 11, 11, (boot_heap w.params).life, #[], boot_drawn, boot_toks, os⟩
noncomputable def seg0 (w : World) (os : OsState) : Option (SharedT × Thread) := PySem.W.Fast.tw10295753902157049106 treeTable pw w 11 (some (.ref 6)) 0 1330 (S0 w os) (topStub pw)
theorem seg0_eq (w : World) (os : OsState) : segGoT treeTable pw w 11 (some (.ref 6)) 0 1330 (S0 w os) (topStub pw) = seg0 w os := by
  rw [PySem.W.Fast.te10295753902157049106]; rfl
noncomputable def stk0 (w : World) (os : OsState) : List Frame := ((seg0 w os).map (·.2.stack)).getD []
noncomputable def obj0 (w : World) (os : OsState) (i : Nat) : Obj := ((seg0 w os).map fun r => (r.1.tree.get i).getD default).getD default
noncomputable def fr1 : List Frame → (Result → Sem Fin) × List Value × List Stmt × Env × Pos × List Value
  | .ret k _ _ l (.body b e) p kept :: _ => (k, l, b, e, p, kept)
  | _ => (fun _ => .unsupported "", [], [], default, default, [])
noncomputable def stkOf (x : (Result → Sem Fin) × List Value × List Stmt × Env × Pos × List Value) : List Frame := [.ret x.1 none false x.2.1 (.body x.2.2.1 x.2.2.2.1) x.2.2.2.2.1 x.2.2.2.2.2, topFrame ⟨0, 0, 0, 0⟩]
noncomputable abbrev ps0 (P : Params) : List (Nat × Obj) := [(227, nsObj P 4), (2, o_2 P), (3, o_3 P), (216, o_216 P), (217, o_217 P), (219, o_219 P), (220, o_220 P), (4, o_4), (229, o_229), (230, o_230)]
noncomputable def isLive (o : Option Obj) : Bool := match o with
  | some ⟨_, _, .freed, _⟩ => false
  | some _ => true
  | none => false
theorem seg0_is (w : World) (os : OsState) : (seg0 w os).map (fun r => (seenG (ps0 w.params) r, (List.range 227).all fun i => isLive (r.1.tree.get i))) = (toldG (ps0 w.params) ⟨curOf esEnv (esBody.drop 1), esCode, ⟨139, 4, 139, 9⟩, stkOf (fr1 (stk0 w os))⟩ 232 (boot_heap w.params).life #[] boot_drawn 464 os).map (·, true) := by
  unfold curOf
  rw [PySem.W.Fast.te12563942051412417395, PySem.W.Fast.te9442747609961115081, PySem.W.R.bindR_eq, PySem.W.R.onRaiseR_eq]
  kernel_rfl
end Mine
end

section
open PySem PySem.W PyProof.Rows
set_option Elab.async false
set_option maxRecDepth 1000000
namespace Mine
noncomputable abbrev psP (P : Params) (X : Nat → Obj) : List (Nat × Obj) := [(227, nsObj P 25), (2, o_2 P), (3, o_3 P), (228, X 228), (231, X 231), (232, X 232), (233, X 233), (234, X 234)]
noncomputable abbrev fnsP : List Nat := [241, 248, 255, 262, 269, 276, 283, 290, 297, 304, 311, 318, 325, 332, 339]
noncomputable def LP (P : Params) : List (Nat × Obj) := [(227, nsObj P 7), (3, o_3 P), (4, o_4), (229, o_229), (230, o_230), (2, o_2 P)]
theorem pcP (w : World) (os : OsState) (life : Life) (gens : Array GenState) (drawn : Drawn) (X : Nat → Obj) (k1 : Result → Sem Fin) (l1 kept1 : List Value) (b1 : List Stmt) (e1 : Env) (p1 p2 pos : Pos) :
  (segGoT treeTable pw w 227 (some (.ref 227)) 0 479 ⟨btOf (ov X (LP w.params)) 235, 235, life, gens, drawn, 517, os⟩ ⟨curOf esEnv (esBody.drop 4), esCode, pos, [.ret k1 none false l1 (.body b1 e1) p1 kept1, topFrame p2]⟩).map (fun r => (seenG (psP w.params X) r, fnsP.map fun a => isOf (r.1.tree.get a))) =
    (toldG (psP w.params X) ⟨curOf esEnv (esBody.drop 22), esCode, ⟨189, 4, 190, 17⟩, [.ret k1 none false l1 (.body b1 e1) p1 kept1, topFrame p2]⟩ 340 life gens drawn 627 os).map (·, fnsP.map fun _ => some (.type "function", true)) := by
  unfold curOf
  rw [PySem.W.Fast.te10295753902157049106, PySem.W.Fast.te12563942051412417395, PySem.W.Fast.te9442747609961115081, PySem.W.R.bindR_eq, PySem.W.R.onRaiseR_eq]
  kernel_rfl
end Mine
end

section
open PySem PySem.W PyProof.Rows
set_option Elab.async false
set_option maxRecDepth 1000000
namespace Mine
/-- a def's object, as the top leaves it -/
noncomputable def fobj (d : Option (Arguments × List Stmt × Scope)) (name qual : Str) (pm : Value) (cd : Addr) : Obj := match d with
  | some (a, b, sc) => ⟨.type "function", none, .func { name := name, qualname := qual, params := a, body := .stmts b, scope := sc, globals := 3, closure := [], defaults := .none, kwdefaults := .none, pyModule := pm, code := .ref cd }, #[]⟩
  | none => default
noncomputable def k_2 (P : Params) : Obj :=
{ cls := PySem.Value.none, data := PySem.Data.dict #[] }
noncomputable def k_3 (P : Params) : Obj :=
{ cls := PySem.Value.type "dict",
  data :=
    PySem.Data.dict
      #[{ hash := PySem.PyData.keyHash P (PySem.Str.ofString "__name__"), key := PySem.Value.str (PySem.Str.ofString "__name__") 165,
          val := PySem.Value.str (PySem.Str.ofString "law_is0019_01") 2274 },
        { hash := PySem.PyData.keyHash P (PySem.Str.ofString "__doc__"), key := PySem.Value.str (PySem.Str.ofString "__doc__") 166, val := PySem.Value.none },
        { hash := PySem.PyData.keyHash P (PySem.Str.ofString "__package__"), key := PySem.Value.str (PySem.Str.ofString "__package__") 167, val := PySem.Value.none },
        { hash := PySem.PyData.keyHash P (PySem.Str.ofString "__loader__"), key := PySem.Value.str (PySem.Str.ofString "__loader__") 168, val := PySem.Value.builtin "__main__.__loader__#opaque" },
        { hash := PySem.PyData.keyHash P (PySem.Str.ofString "__spec__"), key := PySem.Value.str (PySem.Str.ofString "__spec__") 169, val := PySem.Value.none },
        { hash := PySem.PyData.keyHash P (PySem.Str.ofString "__annotations__"), key := PySem.Value.str (PySem.Str.ofString "__annotations__") 170, val := PySem.Value.ref 6 },
        { hash := PySem.PyData.keyHash P (PySem.Str.ofString "__builtins__"), key := PySem.Value.str (PySem.Str.ofString "__builtins__") 171, val := PySem.Value.ref 4 },
        { hash := PySem.PyData.keyHash P (PySem.Str.ofString "__file__"), key := PySem.Value.str (PySem.Str.ofString "__file__") 173, val := PySem.Value.str (PySem.Str.ofString "/claim/cut.py") 172 },
        { hash := PySem.PyData.keyHash P (PySem.Str.ofString "__cached__"), key := PySem.Value.str (PySem.Str.ofString "__cached__") 174, val := PySem.Value.none },
        { hash := PySem.PyData.keyHash P (PySem.Str.ofString "_wall"), key := PySem.Value.str (PySem.Str.ofString "_wall") 193, val := PySem.Value.ref 21 },
        { hash := PySem.PyData.keyHash P (PySem.Str.ofString "BaseStemmer"), key := PySem.Value.str (PySem.Str.ofString "BaseStemmer") 412, val := PySem.Value.ref 199 },
        { hash := PySem.PyData.keyHash P (PySem.Str.ofString "Among"), key := PySem.Value.str (PySem.Str.ofString "Among") 447, val := PySem.Value.ref 220 },
        { hash := PySem.PyData.keyHash P (PySem.Str.ofString "EnglishStemmer"), key := PySem.Value.str (PySem.Str.ofString "EnglishStemmer") 2273, val := PySem.Value.ref 706 },
        { hash := PySem.PyData.keyHash P (PySem.Str.ofString "_law_signs"), key := PySem.Value.str (PySem.Str.ofString "_law_signs") 2293, val := PySem.Value.ref 709 },
        { hash := PySem.PyData.keyHash P (PySem.Str.ofString "_law_own"), key := PySem.Value.str (PySem.Str.ofString "_law_own") 2322, val := PySem.Value.ref 714 },
        { hash := PySem.PyData.keyHash P (PySem.Str.ofString "_law_group"), key := PySem.Value.str (PySem.Str.ofString "_law_group") 2328, val := PySem.Value.ref 719 },
        { hash := PySem.PyData.keyHash P (PySem.Str.ofString "_law_text"), key := PySem.Value.str (PySem.Str.ofString "_law_text") 2342, val := PySem.Value.ref 726 },
        { hash := PySem.PyData.keyHash P (PySem.Str.ofString "_law_mirrored"), key := PySem.Value.str (PySem.Str.ofString "_law_mirrored") 2348, val := PySem.Value.ref 731 },
        { hash := PySem.PyData.keyHash P (PySem.Str.ofString "_law_one"), key := PySem.Value.str (PySem.Str.ofString "_law_one") 2359, val := PySem.Value.ref 738 },
        { hash := PySem.PyData.keyHash P (PySem.Str.ofString "_law_go"), key := PySem.Value.str (PySem.Str.ofString "_law_go") 2365, val := PySem.Value.ref 743 },
        { hash := PySem.PyData.keyHash P (PySem.Str.ofString "_law_equal"), key := PySem.Value.str (PySem.Str.ofString "_law_equal") 2376, val := PySem.Value.ref 750 },
        { hash := PySem.PyData.keyHash P (PySem.Str.ofString "_law_asked"), key := PySem.Value.str (PySem.Str.ofString "_law_asked") 2385, val := PySem.Value.ref 757 },
        { hash := PySem.PyData.keyHash P (PySem.Str.ofString "_law_shown"), key := PySem.Value.str (PySem.Str.ofString "_law_shown") 2392, val := PySem.Value.ref 764 },
        { hash := PySem.PyData.keyHash P (PySem.Str.ofString "law"), key := PySem.Value.str (PySem.Str.ofString "law") 2398, val := PySem.Value.ref 769 }]
      24 }
noncomputable def k_198 (P : Params) : Obj :=
{ cls := PySem.Value.type "dict",
  data :=
    PySem.Data.dict
      #[{ hash := PySem.PyData.keyHash P (PySem.Str.ofString "__module__"), key := PySem.Value.str (PySem.Str.ofString "__module__") 203,
          val := PySem.Value.str (PySem.Str.ofString "snowballstemmer.basestemmer") 194 },
        { hash := PySem.PyData.keyHash P (PySem.Str.ofString "__firstlineno__"), key := PySem.Value.str (PySem.Str.ofString "__firstlineno__") 207, val := PySem.Value.int 5 206 },
        { hash := PySem.PyData.keyHash P (PySem.Str.ofString "__init__"), key := PySem.Value.str (PySem.Str.ofString "__init__") 214, val := PySem.Value.ref 35 },
        { hash := PySem.PyData.keyHash P (PySem.Str.ofString "set_current"), key := PySem.Value.str (PySem.Str.ofString "set_current") 222, val := PySem.Value.ref 42 },
        { hash := PySem.PyData.keyHash P (PySem.Str.ofString "get_current"), key := PySem.Value.str (PySem.Str.ofString "get_current") 229, val := PySem.Value.ref 49 },
        { hash := PySem.PyData.keyHash P (PySem.Str.ofString "copy_from"), key := PySem.Value.str (PySem.Str.ofString "copy_from") 237, val := PySem.Value.ref 56 },
        { hash := PySem.PyData.keyHash P (PySem.Str.ofString "in_grouping"), key := PySem.Value.str (PySem.Str.ofString "in_grouping") 245, val := PySem.Value.ref 63 },
        { hash := PySem.PyData.keyHash P (PySem.Str.ofString "go_in_grouping"), key := PySem.Value.str (PySem.Str.ofString "go_in_grouping") 253, val := PySem.Value.ref 70 },
        { hash := PySem.PyData.keyHash P (PySem.Str.ofString "in_grouping_b"), key := PySem.Value.str (PySem.Str.ofString "in_grouping_b") 261, val := PySem.Value.ref 77 },
        { hash := PySem.PyData.keyHash P (PySem.Str.ofString "go_in_grouping_b"), key := PySem.Value.str (PySem.Str.ofString "go_in_grouping_b") 269, val := PySem.Value.ref 84 },
        { hash := PySem.PyData.keyHash P (PySem.Str.ofString "out_grouping"), key := PySem.Value.str (PySem.Str.ofString "out_grouping") 277, val := PySem.Value.ref 91 },
        { hash := PySem.PyData.keyHash P (PySem.Str.ofString "go_out_grouping"), key := PySem.Value.str (PySem.Str.ofString "go_out_grouping") 285, val := PySem.Value.ref 98 },
        { hash := PySem.PyData.keyHash P (PySem.Str.ofString "out_grouping_b"), key := PySem.Value.str (PySem.Str.ofString "out_grouping_b") 293, val := PySem.Value.ref 105 },
        { hash := PySem.PyData.keyHash P (PySem.Str.ofString "go_out_grouping_b"), key := PySem.Value.str (PySem.Str.ofString "go_out_grouping_b") 301, val := PySem.Value.ref 112 },
        { hash := PySem.PyData.keyHash P (PySem.Str.ofString "eq_s"), key := PySem.Value.str (PySem.Str.ofString "eq_s") 309, val := PySem.Value.ref 119 },
        { hash := PySem.PyData.keyHash P (PySem.Str.ofString "eq_s_b"), key := PySem.Value.str (PySem.Str.ofString "eq_s_b") 317, val := PySem.Value.ref 126 },
        { hash := PySem.PyData.keyHash P (PySem.Str.ofString "find_among"), key := PySem.Value.str (PySem.Str.ofString "find_among") 325, val := PySem.Value.ref 133 },
        { hash := PySem.PyData.keyHash P (PySem.Str.ofString "find_among_b"), key := PySem.Value.str (PySem.Str.ofString "find_among_b") 333, val := PySem.Value.ref 140 },
        { hash := PySem.PyData.keyHash P (PySem.Str.ofString "replace_s"), key := PySem.Value.str (PySem.Str.ofString "replace_s") 343, val := PySem.Value.ref 147 },
        { hash := PySem.PyData.keyHash P (PySem.Str.ofString "slice_from"), key := PySem.Value.str (PySem.Str.ofString "slice_from") 351, val := PySem.Value.ref 154 },
        { hash := PySem.PyData.keyHash P (PySem.Str.ofString "slice_del"), key := PySem.Value.str (PySem.Str.ofString "slice_del") 358, val := PySem.Value.ref 161 },
        { hash := PySem.PyData.keyHash P (PySem.Str.ofString "insert"), key := PySem.Value.str (PySem.Str.ofString "insert") 368, val := PySem.Value.ref 168 },
        { hash := PySem.PyData.keyHash P (PySem.Str.ofString "slice_to"), key := PySem.Value.str (PySem.Str.ofString "slice_to") 375, val := PySem.Value.ref 175 },
        { hash := PySem.PyData.keyHash P (PySem.Str.ofString "assign_to"), key := PySem.Value.str (PySem.Str.ofString "assign_to") 382, val := PySem.Value.ref 182 },
        { hash := PySem.PyData.keyHash P (PySem.Str.ofString "stemWord"), key := PySem.Value.str (PySem.Str.ofString "stemWord") 390, val := PySem.Value.ref 189 },
        { hash := PySem.PyData.keyHash P (PySem.Str.ofString "stemWords"), key := PySem.Value.str (PySem.Str.ofString "stemWords") 398, val := PySem.Value.ref 196 },
        { hash := PySem.PyData.keyHash P (PySem.Str.ofString "__static_attributes__"), key := PySem.Value.str (PySem.Str.ofString "__static_attributes__") 405, val := PySem.Value.ref 197 },
        { hash := PySem.PyData.keyHash P (PySem.Str.ofString "__dict__"), key := PySem.Value.str (PySem.Str.ofString "__dict__") 407, val := PySem.Value.ref 200 },
        { hash := PySem.PyData.keyHash P (PySem.Str.ofString "__weakref__"), key := PySem.Value.str (PySem.Str.ofString "__weakref__") 409, val := PySem.Value.ref 201 },
        { hash := PySem.PyData.keyHash P (PySem.Str.ofString "__doc__"), key := PySem.Value.str (PySem.Str.ofString "__doc__") 410, val := PySem.Value.none }]
      4 }
noncomputable def k_199 (P : Params) : Obj :=
{ cls := PySem.Value.type "type",
  data :=
    PySem.Data.cls
      { name := PySem.Str.ofString "BaseStemmer", bases := [PySem.Value.type "object"], mro := [PySem.Value.ref 199, PySem.Value.type "object"], ns := 198,
        qualname := PySem.Str.ofString "BaseStemmer", subclasses := [PySem.Value.ref 706] },
  slots :=
    #[Option.none, Option.none, Option.some (PySem.Value.str (PySem.Str.ofString "BaseStemmer") 196), Option.some (PySem.Value.str (PySem.Str.ofString "BaseStemmer") 204),
      Option.some (PySem.Value.builtin "object.__new__"), Option.some (PySem.Value.bool Bool.true)] }
noncomputable def k_705 (P : Params) : Obj :=
{ cls := PySem.Value.type "dict",
  data :=
    PySem.Data.dict
      #[{ hash := PySem.PyData.keyHash P (PySem.Str.ofString "__module__"), key := PySem.Value.str (PySem.Str.ofString "__module__") 457,
          val := PySem.Value.str (PySem.Str.ofString "snowballstemmer.english_stemmer") 448 },
        { hash := PySem.PyData.keyHash P (PySem.Str.ofString "__firstlineno__"), key := PySem.Value.str (PySem.Str.ofString "__firstlineno__") 461, val := PySem.Value.int 138 460 },
        { hash := PySem.PyData.keyHash P (PySem.Str.ofString "g_aeo"), key := PySem.Value.str (PySem.Str.ofString "g_aeo") 463, val := PySem.Value.str (PySem.Str.ofString "aeo") 462 },
        { hash := PySem.PyData.keyHash P (PySem.Str.ofString "g_v"), key := PySem.Value.str (PySem.Str.ofString "g_v") 476, val := PySem.Value.ref 232 },
        { hash := PySem.PyData.keyHash P (PySem.Str.ofString "g_v_WXY"), key := PySem.Value.str (PySem.Str.ofString "g_v_WXY") 495, val := PySem.Value.ref 233 },
        { hash := PySem.PyData.keyHash P (PySem.Str.ofString "g_valid_LI"), key := PySem.Value.str (PySem.Str.ofString "g_valid_LI") 516, val := PySem.Value.ref 234 },
        { hash := PySem.PyData.keyHash P (PySem.Str.ofString "B_Y_found"), key := PySem.Value.str (PySem.Str.ofString "B_Y_found") 517, val := PySem.Value.bool Bool.false },
        { hash := PySem.PyData.keyHash P (PySem.Str.ofString "I_p2"), key := PySem.Value.str (PySem.Str.ofString "I_p2") 519, val := PySem.Value.int 0 518 },
        { hash := PySem.PyData.keyHash P (PySem.Str.ofString "I_p1"), key := PySem.Value.str (PySem.Str.ofString "I_p1") 521, val := PySem.Value.int 0 520 },
        { hash := PySem.PyData.keyHash P (PySem.Str.ofString "r_prelude"), key := PySem.Value.str (PySem.Str.ofString "r_prelude") 528, val := PySem.Value.ref 241 },
        { hash := PySem.PyData.keyHash P (PySem.Str.ofString "r_mark_regions"), key := PySem.Value.str (PySem.Str.ofString "r_mark_regions") 535, val := PySem.Value.ref 248 },
        { hash := PySem.PyData.keyHash P (PySem.Str.ofString "r_shortv"), key := PySem.Value.str (PySem.Str.ofString "r_shortv") 542, val := PySem.Value.ref 255 },
        { hash := PySem.PyData.keyHash P (PySem.Str.ofString "r_R1"), key := PySem.Value.str (PySem.Str.ofString "r_R1") 549, val := PySem.Value.ref 262 },
        { hash := PySem.PyData.keyHash P (PySem.Str.ofString "r_R2"), key := PySem.Value.str (PySem.Str.ofString "r_R2") 556, val := PySem.Value.ref 269 },
        { hash := PySem.PyData.keyHash P (PySem.Str.ofString "r_Step_1a"), key := PySem.Value.str (PySem.Str.ofString "r_Step_1a") 563, val := PySem.Value.ref 276 },
        { hash := PySem.PyData.keyHash P (PySem.Str.ofString "r_Step_1b"), key := PySem.Value.str (PySem.Str.ofString "r_Step_1b") 570, val := PySem.Value.ref 283 },
        { hash := PySem.PyData.keyHash P (PySem.Str.ofString "r_Step_1c"), key := PySem.Value.str (PySem.Str.ofString "r_Step_1c") 577, val := PySem.Value.ref 290 },
        { hash := PySem.PyData.keyHash P (PySem.Str.ofString "r_Step_2"), key := PySem.Value.str (PySem.Str.ofString "r_Step_2") 584, val := PySem.Value.ref 297 },
        { hash := PySem.PyData.keyHash P (PySem.Str.ofString "r_Step_3"), key := PySem.Value.str (PySem.Str.ofString "r_Step_3") 591, val := PySem.Value.ref 304 },
        { hash := PySem.PyData.keyHash P (PySem.Str.ofString "r_Step_4"), key := PySem.Value.str (PySem.Str.ofString "r_Step_4") 598, val := PySem.Value.ref 311 },
        { hash := PySem.PyData.keyHash P (PySem.Str.ofString "r_Step_5"), key := PySem.Value.str (PySem.Str.ofString "r_Step_5") 605, val := PySem.Value.ref 318 },
        { hash := PySem.PyData.keyHash P (PySem.Str.ofString "r_exception1"), key := PySem.Value.str (PySem.Str.ofString "r_exception1") 612, val := PySem.Value.ref 325 },
        { hash := PySem.PyData.keyHash P (PySem.Str.ofString "r_postlude"), key := PySem.Value.str (PySem.Str.ofString "r_postlude") 619, val := PySem.Value.ref 332 },
        { hash := PySem.PyData.keyHash P (PySem.Str.ofString "_stem"), key := PySem.Value.str (PySem.Str.ofString "_stem") 626, val := PySem.Value.ref 339 },
        { hash := PySem.PyData.keyHash P (PySem.Str.ofString "a_0"), key := PySem.Value.str (PySem.Str.ofString "a_0") 762, val := PySem.Value.ref 367 },
        { hash := PySem.PyData.keyHash P (PySem.Str.ofString "a_1"), key := PySem.Value.str (PySem.Str.ofString "a_1") 804, val := PySem.Value.ref 377 },
        { hash := PySem.PyData.keyHash P (PySem.Str.ofString "a_2"), key := PySem.Value.str (PySem.Str.ofString "a_2") 887, val := PySem.Value.ref 396 },
        { hash := PySem.PyData.keyHash P (PySem.Str.ofString "a_3"), key := PySem.Value.str (PySem.Str.ofString "a_3") 930, val := PySem.Value.ref 406 },
        { hash := PySem.PyData.keyHash P (PySem.Str.ofString "a_4"), key := PySem.Value.str (PySem.Str.ofString "a_4") 1029, val := PySem.Value.ref 428 },
        { hash := PySem.PyData.keyHash P (PySem.Str.ofString "a_5"), key := PySem.Value.str (PySem.Str.ofString "a_5") 1123, val := PySem.Value.ref 450 },
        { hash := PySem.PyData.keyHash P (PySem.Str.ofString "a_6"), key := PySem.Value.str (PySem.Str.ofString "a_6") 1294, val := PySem.Value.ref 490 },
        { hash := PySem.PyData.keyHash P (PySem.Str.ofString "a_7"), key := PySem.Value.str (PySem.Str.ofString "a_7") 1636, val := PySem.Value.ref 566 },
        { hash := PySem.PyData.keyHash P (PySem.Str.ofString "a_8"), key := PySem.Value.str (PySem.Str.ofString "a_8") 1762, val := PySem.Value.ref 594 },
        { hash := PySem.PyData.keyHash P (PySem.Str.ofString "a_9"), key := PySem.Value.str (PySem.Str.ofString "a_9") 2013, val := PySem.Value.ref 649 },
        { hash := PySem.PyData.keyHash P (PySem.Str.ofString "a_10"), key := PySem.Value.str (PySem.Str.ofString "a_10") 2042, val := PySem.Value.ref 656 },
        { hash := PySem.PyData.keyHash P (PySem.Str.ofString "a_11"), key := PySem.Value.str (PySem.Str.ofString "a_11") 2260, val := PySem.Value.ref 702 },
        { hash := PySem.PyData.keyHash P (PySem.Str.ofString "as_11"), key := PySem.Value.str (PySem.Str.ofString "as_11") 2269, val := PySem.Value.ref 703 },
        { hash := PySem.PyData.keyHash P (PySem.Str.ofString "__static_attributes__"), key := PySem.Value.str (PySem.Str.ofString "__static_attributes__") 2270, val := PySem.Value.ref 704 },
        { hash := PySem.PyData.keyHash P (PySem.Str.ofString "__doc__"), key := PySem.Value.str (PySem.Str.ofString "__doc__") 2271, val := PySem.Value.none }]
      2 }
noncomputable def k_706 (P : Params) : Obj :=
{ cls := PySem.Value.type "type",
  data :=
    PySem.Data.cls
      { name := PySem.Str.ofString "EnglishStemmer", bases := [PySem.Value.ref 199], mro := [PySem.Value.ref 706, PySem.Value.ref 199, PySem.Value.type "object"], ns := 705,
        qualname := PySem.Str.ofString "EnglishStemmer" },
  slots :=
    #[Option.some (PySem.Value.ref 225), Option.none, Option.some (PySem.Value.str (PySem.Str.ofString "EnglishStemmer") 450), Option.some (PySem.Value.str (PySem.Str.ofString "EnglishStemmer") 458),
      Option.some (PySem.Value.builtin "object.__new__"), Option.some (PySem.Value.bool Bool.true)] }
noncomputable def k_709 (P : Params) : Obj :=
{ cls := PySem.Value.type "list",
  data :=
    PySem.Data.seq
      #[PySem.Value.str (PySem.Str.ofString "a") 2276, PySem.Value.str (PySem.Str.ofString "s") 2277, PySem.Value.str (PySem.Str.ofString "e") 2278, PySem.Value.str (PySem.Str.ofString "t") 2279,
        PySem.Value.str (PySem.Str.ofString "i") 2280, PySem.Value.str (PySem.Str.ofString "n") 2281, PySem.Value.str (PySem.Str.ofString "y") 2282, PySem.Value.str (PySem.Str.ofString "d") 2283,
        PySem.Value.str (PySem.Str.ofString "o") 2284, PySem.Value.str (PySem.Str.ofString "b") 2285, PySem.Value.str (PySem.Str.ofString "Y") 2286, PySem.Value.str (PySem.Str.ofString "w") 2287,
        PySem.Value.str (PySem.Str.ofString "u") 2288, PySem.Value.str (PySem.Str.ofString "é") 2289, PySem.Value.str (PySem.Str.ofString "ä") 2290, PySem.Value.str (PySem.Str.ofString "-") 2291,
        PySem.Value.str (PySem.Str.ofString "ш") 2292] }
noncomputable def k_710 (P : Params) : Obj :=
{ cls := PySem.Value.type "list",
  data :=
    PySem.Data.seq
      #[PySem.Value.str (PySem.Str.ofString "a") 2294, PySem.Value.str (PySem.Str.ofString "e") 2295, PySem.Value.str (PySem.Str.ofString "i") 2296, PySem.Value.str (PySem.Str.ofString "o") 2297,
        PySem.Value.str (PySem.Str.ofString "u") 2298, PySem.Value.str (PySem.Str.ofString "y") 2299] }
noncomputable def k_711 (P : Params) : Obj :=
{ cls := PySem.Value.type "list",
  data :=
    PySem.Data.seq
      #[PySem.Value.str (PySem.Str.ofString "a") 2300, PySem.Value.str (PySem.Str.ofString "e") 2301, PySem.Value.str (PySem.Str.ofString "i") 2302, PySem.Value.str (PySem.Str.ofString "o") 2303,
        PySem.Value.str (PySem.Str.ofString "u") 2304, PySem.Value.str (PySem.Str.ofString "y") 2305, PySem.Value.str (PySem.Str.ofString "w") 2306, PySem.Value.str (PySem.Str.ofString "x") 2307,
        PySem.Value.str (PySem.Str.ofString "Y") 2308] }
noncomputable def k_712 (P : Params) : Obj :=
{ cls := PySem.Value.type "list",
  data := PySem.Data.seq #[PySem.Value.str (PySem.Str.ofString "a") 2309, PySem.Value.str (PySem.Str.ofString "e") 2310, PySem.Value.str (PySem.Str.ofString "o") 2311] }
noncomputable def k_713 (P : Params) : Obj :=
{ cls := PySem.Value.type "list",
  data :=
    PySem.Data.seq
      #[PySem.Value.str (PySem.Str.ofString "c") 2312, PySem.Value.str (PySem.Str.ofString "d") 2313, PySem.Value.str (PySem.Str.ofString "e") 2314, PySem.Value.str (PySem.Str.ofString "g") 2315,
        PySem.Value.str (PySem.Str.ofString "h") 2316, PySem.Value.str (PySem.Str.ofString "k") 2317, PySem.Value.str (PySem.Str.ofString "m") 2318, PySem.Value.str (PySem.Str.ofString "n") 2319,
        PySem.Value.str (PySem.Str.ofString "r") 2320, PySem.Value.str (PySem.Str.ofString "t") 2321] }
noncomputable def k_714 (P : Params) : Obj :=
{ cls := PySem.Value.type "list", data := PySem.Data.seq #[PySem.Value.ref 710, PySem.Value.ref 711, PySem.Value.ref 712, PySem.Value.ref 713] }
noncomputable def k_34 : Obj :=
{ cls := PySem.Value.type "code",
  data :=
    PySem.Data.fields
      #[PySem.Value.str (PySem.Str.ofString "__init__") 208, PySem.Value.str (PySem.Str.ofString "BaseStemmer.__init__") 209, PySem.Value.str (PySem.Str.ofString "/claim/cut.py") 210,
        PySem.Value.int 7 0, PySem.Value.int 1 0, PySem.Value.int 0 0, PySem.Value.int 0 0, PySem.Value.int 3 0, PySem.Value.ref 29, PySem.Value.bool Bool.true, PySem.Value.int 181 0,
        PySem.Value.ref 30, PySem.Value.none, PySem.Value.ref 31, PySem.Value.ref 32, PySem.Value.ref 33, PySem.Value.int 212 0, PySem.Value.int 7 0,
        PySem.Value.str (PySem.Str.ofString "/claim/cut.py") 213] }
noncomputable def k_35 : Obj := fobj (meth "__init__") "__init__" "BaseStemmer.__init__" (PySem.Value.str (PySem.Str.ofString "snowballstemmer.basestemmer") 194) 34
noncomputable def k_41 : Obj :=
{ cls := PySem.Value.type "code",
  data :=
    PySem.Data.fields
      #[PySem.Value.str (PySem.Str.ofString "set_current") 215, PySem.Value.str (PySem.Str.ofString "BaseStemmer.set_current") 216, PySem.Value.str (PySem.Str.ofString "/claim/cut.py") 217,
        PySem.Value.int 10 0, PySem.Value.int 2 0, PySem.Value.int 0 0, PySem.Value.int 0 0, PySem.Value.int 3 0, PySem.Value.ref 36, PySem.Value.bool Bool.true, PySem.Value.int 181 0,
        PySem.Value.ref 37, PySem.Value.none, PySem.Value.ref 38, PySem.Value.ref 39, PySem.Value.ref 40, PySem.Value.int 220 0, PySem.Value.int 10 0,
        PySem.Value.str (PySem.Str.ofString "/claim/cut.py") 221] }
noncomputable def k_42 : Obj := fobj (meth "set_current") "set_current" "BaseStemmer.set_current" (PySem.Value.str (PySem.Str.ofString "snowballstemmer.basestemmer") 194) 41
noncomputable def k_48 : Obj :=
{ cls := PySem.Value.type "code",
  data :=
    PySem.Data.fields
      #[PySem.Value.str (PySem.Str.ofString "get_current") 223, PySem.Value.str (PySem.Str.ofString "BaseStemmer.get_current") 224, PySem.Value.str (PySem.Str.ofString "/claim/cut.py") 225,
        PySem.Value.int 18 0, PySem.Value.int 1 0, PySem.Value.int 0 0, PySem.Value.int 0 0, PySem.Value.int 3 0, PySem.Value.ref 43, PySem.Value.bool Bool.true, PySem.Value.int 181 0,
        PySem.Value.ref 44, PySem.Value.none, PySem.Value.ref 45, PySem.Value.ref 46, PySem.Value.ref 47, PySem.Value.int 227 0, PySem.Value.int 18 0,
        PySem.Value.str (PySem.Str.ofString "/claim/cut.py") 228] }
noncomputable def k_49 : Obj := fobj (meth "get_current") "get_current" "BaseStemmer.get_current" (PySem.Value.str (PySem.Str.ofString "snowballstemmer.basestemmer") 194) 48
noncomputable def k_55 : Obj :=
{ cls := PySem.Value.type "code",
  data :=
    PySem.Data.fields
      #[PySem.Value.str (PySem.Str.ofString "copy_from") 230, PySem.Value.str (PySem.Str.ofString "BaseStemmer.copy_from") 231, PySem.Value.str (PySem.Str.ofString "/claim/cut.py") 232,
        PySem.Value.int 21 0, PySem.Value.int 2 0, PySem.Value.int 0 0, PySem.Value.int 0 0, PySem.Value.int 3 0, PySem.Value.ref 50, PySem.Value.bool Bool.true, PySem.Value.int 181 0,
        PySem.Value.ref 51, PySem.Value.none, PySem.Value.ref 52, PySem.Value.ref 53, PySem.Value.ref 54, PySem.Value.int 235 0, PySem.Value.int 21 0,
        PySem.Value.str (PySem.Str.ofString "/claim/cut.py") 236] }
noncomputable def k_56 : Obj := fobj (meth "copy_from") "copy_from" "BaseStemmer.copy_from" (PySem.Value.str (PySem.Str.ofString "snowballstemmer.basestemmer") 194) 55
noncomputable def k_62 : Obj :=
{ cls := PySem.Value.type "code",
  data :=
    PySem.Data.fields
      #[PySem.Value.str (PySem.Str.ofString "in_grouping") 238, PySem.Value.str (PySem.Str.ofString "BaseStemmer.in_grouping") 239, PySem.Value.str (PySem.Str.ofString "/claim/cut.py") 240,
        PySem.Value.int 29 0, PySem.Value.int 2 0, PySem.Value.int 0 0, PySem.Value.int 0 0, PySem.Value.int 3 0, PySem.Value.ref 57, PySem.Value.bool Bool.true, PySem.Value.int 181 0,
        PySem.Value.ref 58, PySem.Value.none, PySem.Value.ref 59, PySem.Value.ref 60, PySem.Value.ref 61, PySem.Value.int 243 0, PySem.Value.int 29 0,
        PySem.Value.str (PySem.Str.ofString "/claim/cut.py") 244] }
noncomputable def k_63 : Obj := fobj (meth "in_grouping") "in_grouping" "BaseStemmer.in_grouping" (PySem.Value.str (PySem.Str.ofString "snowballstemmer.basestemmer") 194) 62
noncomputable def k_69 : Obj :=
{ cls := PySem.Value.type "code",
  data :=
    PySem.Data.fields
      #[PySem.Value.str (PySem.Str.ofString "go_in_grouping") 246, PySem.Value.str (PySem.Str.ofString "BaseStemmer.go_in_grouping") 247, PySem.Value.str (PySem.Str.ofString "/claim/cut.py") 248,
        PySem.Value.int 37 0, PySem.Value.int 2 0, PySem.Value.int 0 0, PySem.Value.int 0 0, PySem.Value.int 3 0, PySem.Value.ref 64, PySem.Value.bool Bool.true, PySem.Value.int 181 0,
        PySem.Value.ref 65, PySem.Value.none, PySem.Value.ref 66, PySem.Value.ref 67, PySem.Value.ref 68, PySem.Value.int 251 0, PySem.Value.int 37 0,
        PySem.Value.str (PySem.Str.ofString "/claim/cut.py") 252] }
noncomputable def k_70 : Obj := fobj (meth "go_in_grouping") "go_in_grouping" "BaseStemmer.go_in_grouping" (PySem.Value.str (PySem.Str.ofString "snowballstemmer.basestemmer") 194) 69
noncomputable def k_76 : Obj :=
{ cls := PySem.Value.type "code",
  data :=
    PySem.Data.fields
      #[PySem.Value.str (PySem.Str.ofString "in_grouping_b") 254, PySem.Value.str (PySem.Str.ofString "BaseStemmer.in_grouping_b") 255, PySem.Value.str (PySem.Str.ofString "/claim/cut.py") 256,
        PySem.Value.int 44 0, PySem.Value.int 2 0, PySem.Value.int 0 0, PySem.Value.int 0 0, PySem.Value.int 3 0, PySem.Value.ref 71, PySem.Value.bool Bool.true, PySem.Value.int 181 0,
        PySem.Value.ref 72, PySem.Value.none, PySem.Value.ref 73, PySem.Value.ref 74, PySem.Value.ref 75, PySem.Value.int 259 0, PySem.Value.int 44 0,
        PySem.Value.str (PySem.Str.ofString "/claim/cut.py") 260] }
noncomputable def k_77 : Obj := fobj (meth "in_grouping_b") "in_grouping_b" "BaseStemmer.in_grouping_b" (PySem.Value.str (PySem.Str.ofString "snowballstemmer.basestemmer") 194) 76
noncomputable def k_83 : Obj :=
{ cls := PySem.Value.type "code",
  data :=
    PySem.Data.fields
      #[PySem.Value.str (PySem.Str.ofString "go_in_grouping_b") 262, PySem.Value.str (PySem.Str.ofString "BaseStemmer.go_in_grouping_b") 263, PySem.Value.str (PySem.Str.ofString "/claim/cut.py") 264,
        PySem.Value.int 52 0, PySem.Value.int 2 0, PySem.Value.int 0 0, PySem.Value.int 0 0, PySem.Value.int 3 0, PySem.Value.ref 78, PySem.Value.bool Bool.true, PySem.Value.int 181 0,
        PySem.Value.ref 79, PySem.Value.none, PySem.Value.ref 80, PySem.Value.ref 81, PySem.Value.ref 82, PySem.Value.int 267 0, PySem.Value.int 52 0,
        PySem.Value.str (PySem.Str.ofString "/claim/cut.py") 268] }
noncomputable def k_84 : Obj := fobj (meth "go_in_grouping_b") "go_in_grouping_b" "BaseStemmer.go_in_grouping_b" (PySem.Value.str (PySem.Str.ofString "snowballstemmer.basestemmer") 194) 83
noncomputable def k_90 : Obj :=
{ cls := PySem.Value.type "code",
  data :=
    PySem.Data.fields
      #[PySem.Value.str (PySem.Str.ofString "out_grouping") 270, PySem.Value.str (PySem.Str.ofString "BaseStemmer.out_grouping") 271, PySem.Value.str (PySem.Str.ofString "/claim/cut.py") 272,
        PySem.Value.int 59 0, PySem.Value.int 2 0, PySem.Value.int 0 0, PySem.Value.int 0 0, PySem.Value.int 3 0, PySem.Value.ref 85, PySem.Value.bool Bool.true, PySem.Value.int 181 0,
        PySem.Value.ref 86, PySem.Value.none, PySem.Value.ref 87, PySem.Value.ref 88, PySem.Value.ref 89, PySem.Value.int 275 0, PySem.Value.int 59 0,
        PySem.Value.str (PySem.Str.ofString "/claim/cut.py") 276] }
noncomputable def k_91 : Obj := fobj (meth "out_grouping") "out_grouping" "BaseStemmer.out_grouping" (PySem.Value.str (PySem.Str.ofString "snowballstemmer.basestemmer") 194) 90
noncomputable def k_97 : Obj :=
{ cls := PySem.Value.type "code",
  data :=
    PySem.Data.fields
      #[PySem.Value.str (PySem.Str.ofString "go_out_grouping") 278, PySem.Value.str (PySem.Str.ofString "BaseStemmer.go_out_grouping") 279, PySem.Value.str (PySem.Str.ofString "/claim/cut.py") 280,
        PySem.Value.int 67 0, PySem.Value.int 2 0, PySem.Value.int 0 0, PySem.Value.int 0 0, PySem.Value.int 3 0, PySem.Value.ref 92, PySem.Value.bool Bool.true, PySem.Value.int 181 0,
        PySem.Value.ref 93, PySem.Value.none, PySem.Value.ref 94, PySem.Value.ref 95, PySem.Value.ref 96, PySem.Value.int 283 0, PySem.Value.int 67 0,
        PySem.Value.str (PySem.Str.ofString "/claim/cut.py") 284] }
noncomputable def k_98 : Obj := fobj (meth "go_out_grouping") "go_out_grouping" "BaseStemmer.go_out_grouping" (PySem.Value.str (PySem.Str.ofString "snowballstemmer.basestemmer") 194) 97
noncomputable def k_104 : Obj :=
{ cls := PySem.Value.type "code",
  data :=
    PySem.Data.fields
      #[PySem.Value.str (PySem.Str.ofString "out_grouping_b") 286, PySem.Value.str (PySem.Str.ofString "BaseStemmer.out_grouping_b") 287, PySem.Value.str (PySem.Str.ofString "/claim/cut.py") 288,
        PySem.Value.int 74 0, PySem.Value.int 2 0, PySem.Value.int 0 0, PySem.Value.int 0 0, PySem.Value.int 3 0, PySem.Value.ref 99, PySem.Value.bool Bool.true, PySem.Value.int 181 0,
        PySem.Value.ref 100, PySem.Value.none, PySem.Value.ref 101, PySem.Value.ref 102, PySem.Value.ref 103, PySem.Value.int 291 0, PySem.Value.int 74 0,
        PySem.Value.str (PySem.Str.ofString "/claim/cut.py") 292] }
noncomputable def k_105 : Obj := fobj (meth "out_grouping_b") "out_grouping_b" "BaseStemmer.out_grouping_b" (PySem.Value.str (PySem.Str.ofString "snowballstemmer.basestemmer") 194) 104
noncomputable def k_111 : Obj :=
{ cls := PySem.Value.type "code",
  data :=
    PySem.Data.fields
      #[PySem.Value.str (PySem.Str.ofString "go_out_grouping_b") 294, PySem.Value.str (PySem.Str.ofString "BaseStemmer.go_out_grouping_b") 295,
        PySem.Value.str (PySem.Str.ofString "/claim/cut.py") 296, PySem.Value.int 82 0, PySem.Value.int 2 0, PySem.Value.int 0 0, PySem.Value.int 0 0, PySem.Value.int 3 0, PySem.Value.ref 106,
        PySem.Value.bool Bool.true, PySem.Value.int 181 0, PySem.Value.ref 107, PySem.Value.none, PySem.Value.ref 108, PySem.Value.ref 109, PySem.Value.ref 110, PySem.Value.int 299 0,
        PySem.Value.int 82 0, PySem.Value.str (PySem.Str.ofString "/claim/cut.py") 300] }
noncomputable def k_112 : Obj := fobj (meth "go_out_grouping_b") "go_out_grouping_b" "BaseStemmer.go_out_grouping_b" (PySem.Value.str (PySem.Str.ofString "snowballstemmer.basestemmer") 194) 111
noncomputable def k_118 : Obj :=
{ cls := PySem.Value.type "code",
  data :=
    PySem.Data.fields
      #[PySem.Value.str (PySem.Str.ofString "eq_s") 302, PySem.Value.str (PySem.Str.ofString "BaseStemmer.eq_s") 303, PySem.Value.str (PySem.Str.ofString "/claim/cut.py") 304, PySem.Value.int 89 0,
        PySem.Value.int 2 0, PySem.Value.int 0 0, PySem.Value.int 0 0, PySem.Value.int 3 0, PySem.Value.ref 113, PySem.Value.bool Bool.true, PySem.Value.int 181 0, PySem.Value.ref 114,
        PySem.Value.none, PySem.Value.ref 115, PySem.Value.ref 116, PySem.Value.ref 117, PySem.Value.int 307 0, PySem.Value.int 89 0, PySem.Value.str (PySem.Str.ofString "/claim/cut.py") 308] }
noncomputable def k_119 : Obj := fobj (meth "eq_s") "eq_s" "BaseStemmer.eq_s" (PySem.Value.str (PySem.Str.ofString "snowballstemmer.basestemmer") 194) 118
noncomputable def k_125 : Obj :=
{ cls := PySem.Value.type "code",
  data :=
    PySem.Data.fields
      #[PySem.Value.str (PySem.Str.ofString "eq_s_b") 310, PySem.Value.str (PySem.Str.ofString "BaseStemmer.eq_s_b") 311, PySem.Value.str (PySem.Str.ofString "/claim/cut.py") 312,
        PySem.Value.int 95 0, PySem.Value.int 2 0, PySem.Value.int 0 0, PySem.Value.int 0 0, PySem.Value.int 3 0, PySem.Value.ref 120, PySem.Value.bool Bool.true, PySem.Value.int 181 0,
        PySem.Value.ref 121, PySem.Value.none, PySem.Value.ref 122, PySem.Value.ref 123, PySem.Value.ref 124, PySem.Value.int 315 0, PySem.Value.int 95 0,
        PySem.Value.str (PySem.Str.ofString "/claim/cut.py") 316] }
noncomputable def k_126 : Obj := fobj (meth "eq_s_b") "eq_s_b" "BaseStemmer.eq_s_b" (PySem.Value.str (PySem.Str.ofString "snowballstemmer.basestemmer") 194) 125
noncomputable def k_718 : Obj :=
{ cls := PySem.Value.type "code",
  data :=
    PySem.Data.fields
      #[PySem.Value.str (PySem.Str.ofString "_law_group") 2323, PySem.Value.str (PySem.Str.ofString "_law_group") 2324, PySem.Value.str (PySem.Str.ofString "/claim/cut.py") 2325,
        PySem.Value.int 207 0, PySem.Value.int 1 0, PySem.Value.int 0 0, PySem.Value.int 0 0, PySem.Value.int 3 0, PySem.Value.ref 715, PySem.Value.bool Bool.true, PySem.Value.int 181 0,
        PySem.Value.ref 716, PySem.Value.none, PySem.Value.none, PySem.Value.none, PySem.Value.ref 717, PySem.Value.int 2326 0, PySem.Value.int 207 0,
        PySem.Value.str (PySem.Str.ofString "/claim/cut.py") 2327] }
noncomputable def k_719 : Obj := fobj (fn "_law_group") "_law_group" "_law_group" (PySem.Value.str (PySem.Str.ofString "law_is0019_01") 2274) 718
noncomputable def k_725 : Obj :=
{ cls := PySem.Value.type "code",
  data :=
    PySem.Data.fields
      #[PySem.Value.str (PySem.Str.ofString "_law_text") 2329, PySem.Value.str (PySem.Str.ofString "_law_text") 2330, PySem.Value.str (PySem.Str.ofString "/claim/cut.py") 2331, PySem.Value.int 218 0,
        PySem.Value.int 4 0, PySem.Value.int 0 0, PySem.Value.int 0 0, PySem.Value.int 3 0, PySem.Value.ref 720, PySem.Value.bool Bool.true, PySem.Value.int 181 0, PySem.Value.ref 721,
        PySem.Value.none, PySem.Value.ref 722, PySem.Value.ref 723, PySem.Value.ref 724, PySem.Value.int 2340 0, PySem.Value.int 218 0, PySem.Value.str (PySem.Str.ofString "/claim/cut.py") 2341] }
noncomputable def k_726 : Obj := fobj (fn "_law_text") "_law_text" "_law_text" (PySem.Value.str (PySem.Str.ofString "law_is0019_01") 2274) 725
noncomputable def k_730 : Obj :=
{ cls := PySem.Value.type "code",
  data :=
    PySem.Data.fields
      #[PySem.Value.str (PySem.Str.ofString "_law_mirrored") 2343, PySem.Value.str (PySem.Str.ofString "_law_mirrored") 2344, PySem.Value.str (PySem.Str.ofString "/claim/cut.py") 2345,
        PySem.Value.int 230 0, PySem.Value.int 1 0, PySem.Value.int 0 0, PySem.Value.int 0 0, PySem.Value.int 3 0, PySem.Value.ref 727, PySem.Value.bool Bool.true, PySem.Value.int 181 0,
        PySem.Value.ref 728, PySem.Value.none, PySem.Value.none, PySem.Value.none, PySem.Value.ref 729, PySem.Value.int 2346 0, PySem.Value.int 230 0,
        PySem.Value.str (PySem.Str.ofString "/claim/cut.py") 2347] }
noncomputable def k_731 : Obj := fobj (fn "_law_mirrored") "_law_mirrored" "_law_mirrored" (PySem.Value.str (PySem.Str.ofString "law_is0019_01") 2274) 730
noncomputable def k_737 : Obj :=
{ cls := PySem.Value.type "code",
  data :=
    PySem.Data.fields
      #[PySem.Value.str (PySem.Str.ofString "_law_one") 2349, PySem.Value.str (PySem.Str.ofString "_law_one") 2350, PySem.Value.str (PySem.Str.ofString "/claim/cut.py") 2351, PySem.Value.int 232 0,
        PySem.Value.int 5 0, PySem.Value.int 0 0, PySem.Value.int 0 0, PySem.Value.int 3 0, PySem.Value.ref 732, PySem.Value.bool Bool.true, PySem.Value.int 181 0, PySem.Value.ref 733,
        PySem.Value.none, PySem.Value.ref 734, PySem.Value.ref 735, PySem.Value.ref 736, PySem.Value.int 2357 0, PySem.Value.int 232 0, PySem.Value.str (PySem.Str.ofString "/claim/cut.py") 2358] }
noncomputable def k_738 : Obj := fobj (fn "_law_one") "_law_one" "_law_one" (PySem.Value.str (PySem.Str.ofString "law_is0019_01") 2274) 737
noncomputable def k_742 : Obj :=
{ cls := PySem.Value.type "code",
  data :=
    PySem.Data.fields
      #[PySem.Value.str (PySem.Str.ofString "_law_go") 2360, PySem.Value.str (PySem.Str.ofString "_law_go") 2361, PySem.Value.str (PySem.Str.ofString "/claim/cut.py") 2362, PySem.Value.int 236 0,
        PySem.Value.int 5 0, PySem.Value.int 0 0, PySem.Value.int 0 0, PySem.Value.int 3 0, PySem.Value.ref 739, PySem.Value.bool Bool.true, PySem.Value.int 181 0, PySem.Value.ref 740,
        PySem.Value.none, PySem.Value.none, PySem.Value.none, PySem.Value.ref 741, PySem.Value.int 2363 0, PySem.Value.int 236 0, PySem.Value.str (PySem.Str.ofString "/claim/cut.py") 2364] }
noncomputable def k_743 : Obj := fobj (fn "_law_go") "_law_go" "_law_go" (PySem.Value.str (PySem.Str.ofString "law_is0019_01") 2274) 742
noncomputable def k_749 : Obj :=
{ cls := PySem.Value.type "code",
  data :=
    PySem.Data.fields
      #[PySem.Value.str (PySem.Str.ofString "_law_equal") 2366, PySem.Value.str (PySem.Str.ofString "_law_equal") 2367, PySem.Value.str (PySem.Str.ofString "/claim/cut.py") 2368,
        PySem.Value.int 240 0, PySem.Value.int 4 0, PySem.Value.int 0 0, PySem.Value.int 0 0, PySem.Value.int 3 0, PySem.Value.ref 744, PySem.Value.bool Bool.true, PySem.Value.int 181 0,
        PySem.Value.ref 745, PySem.Value.none, PySem.Value.ref 746, PySem.Value.ref 747, PySem.Value.ref 748, PySem.Value.int 2374 0, PySem.Value.int 240 0,
        PySem.Value.str (PySem.Str.ofString "/claim/cut.py") 2375] }
noncomputable def k_750 : Obj := fobj (fn "_law_equal") "_law_equal" "_law_equal" (PySem.Value.str (PySem.Str.ofString "law_is0019_01") 2274) 749
noncomputable def k_756 : Obj :=
{ cls := PySem.Value.type "code",
  data :=
    PySem.Data.fields
      #[PySem.Value.str (PySem.Str.ofString "_law_asked") 2377, PySem.Value.str (PySem.Str.ofString "_law_asked") 2378, PySem.Value.str (PySem.Str.ofString "/claim/cut.py") 2379,
        PySem.Value.int 245 0, PySem.Value.int 3 0, PySem.Value.int 0 0, PySem.Value.int 0 0, PySem.Value.int 3 0, PySem.Value.ref 751, PySem.Value.bool Bool.true, PySem.Value.int 181 0,
        PySem.Value.ref 752, PySem.Value.none, PySem.Value.ref 753, PySem.Value.ref 754, PySem.Value.ref 755, PySem.Value.int 2383 0, PySem.Value.int 245 0,
        PySem.Value.str (PySem.Str.ofString "/claim/cut.py") 2384] }
noncomputable def k_757 : Obj := fobj (fn "_law_asked") "_law_asked" "_law_asked" (PySem.Value.str (PySem.Str.ofString "law_is0019_01") 2274) 756
noncomputable def k_763 : Obj :=
{ cls := PySem.Value.type "code",
  data :=
    PySem.Data.fields
      #[PySem.Value.str (PySem.Str.ofString "_law_shown") 2386, PySem.Value.str (PySem.Str.ofString "_law_shown") 2387, PySem.Value.str (PySem.Str.ofString "/claim/cut.py") 2388,
        PySem.Value.int 265 0, PySem.Value.int 1 0, PySem.Value.int 0 0, PySem.Value.int 0 0, PySem.Value.int 3 0, PySem.Value.ref 758, PySem.Value.bool Bool.true, PySem.Value.int 181 0,
        PySem.Value.ref 759, PySem.Value.none, PySem.Value.ref 760, PySem.Value.ref 761, PySem.Value.ref 762, PySem.Value.int 2390 0, PySem.Value.int 265 0,
        PySem.Value.str (PySem.Str.ofString "/claim/cut.py") 2391] }
noncomputable def k_764 : Obj := fobj (fn "_law_shown") "_law_shown" "_law_shown" (PySem.Value.str (PySem.Str.ofString "law_is0019_01") 2274) 763
noncomputable def k_768 : Obj :=
{ cls := PySem.Value.type "code",
  data :=
    PySem.Data.fields
      #[PySem.Value.str (PySem.Str.ofString "law") 2393, PySem.Value.str (PySem.Str.ofString "law") 2394, PySem.Value.str (PySem.Str.ofString "/claim/cut.py") 2395, PySem.Value.int 267 0,
        PySem.Value.int 1 0, PySem.Value.int 0 0, PySem.Value.int 0 0, PySem.Value.int 3 0, PySem.Value.ref 765, PySem.Value.bool Bool.true, PySem.Value.int 181 0, PySem.Value.ref 766,
        PySem.Value.none, PySem.Value.none, PySem.Value.none, PySem.Value.ref 767, PySem.Value.int 2396 0, PySem.Value.int 267 0, PySem.Value.str (PySem.Str.ofString "/claim/cut.py") 2397] }
noncomputable def k_769 : Obj := fobj (fn "law") "law" "law" (PySem.Value.str (PySem.Str.ofString "law_is0019_01") 2274) 768
noncomputable def kobs (P : Params) : List (Nat × Obj) := [
  (2, k_2 P), (3, k_3 P), (198, k_198 P), (199, k_199 P), (705, k_705 P), (706, k_706 P), (709, k_709 P), (710, k_710 P), (711, k_711 P), (712, k_712 P), (713, k_713 P), (714, k_714 P), (35, k_35), (34, k_34), (42, k_42), (41, k_41), (49, k_49), (48, k_48), (56, k_56), (55, k_55), (63, k_63), (62, k_62), (70, k_70), (69, k_69), (77, k_77), (76, k_76), (84, k_84), (83, k_83), (91, k_91), (90, k_90), (98, k_98), (97, k_97), (105, k_105), (104, k_104), (112, k_112), (111, k_111), (119, k_119), (118, k_118), (126, k_126), (125, k_125), (719, k_719), (718, k_718), (726, k_726), (725, k_725), (731, k_731), (730, k_730), (738, k_738), (737, k_737), (743, k_743), (742, k_742), (750, k_750), (749, k_749), (757, k_757), (756, k_756), (764, k_764), (763, k_763), (769, k_769), (768, k_768)]
end Mine
end

section
open PySem PySem.W PyProof.Rows
set_option Elab.async false
set_option maxRecDepth 1000000
namespace Mine
noncomputable def loose01 : List Str := ["_wall", "BaseStemmer", "Among", "EnglishStemmer", "_law_signs", "_law_own", "_law_group", "_law_text", "_law_mirrored", "_law_one", "_law_go", "_law_equal", "_law_asked", "_law_shown"]
noncomputable def lawSt : Stmt := (pw.main.body.getLast?).getD default
noncomputable abbrev q01 : Program := { pw with main := { pw.main with body := [lawSt] } }
structure Rest where
  X : Nat → Obj
  fd : Nat → Option Addr
  ft : Nat → FuncData
  fs : Nat → Array (Option Value)
  es : Nat → Array (Int × Value)
  ep : Nat → Nat
  st : Nat → SetTable
noncomputable def fnO (R : Rest) (a : Nat) : Nat × Obj := (a, ⟨.type "function", R.fd a, .func (R.ft a), R.fs a⟩)
noncomputable def setO (R : Rest) (a : Nat) : Nat × Obj := (a, ⟨.type "set", none, .set (R.es a) (R.ep a) (R.st a), #[]⟩)
noncomputable def LT (P : Params) (R : Rest) : List (Nat × Obj) := [(227, nsObj P 37), setO R 232, setO R 233, setO R 234, fnO R 241, fnO R 248, fnO R 255, fnO R 262, fnO R 269, fnO R 276, fnO R 283, fnO R 290, fnO R 297, fnO R 304, fnO R 311, fnO R 318, fnO R 325, fnO R 332, fnO R 339, (367, o_367), (377, o_377), (396, o_396), (406, o_406), (428, o_428), (450, o_450), (490, o_490), (566, o_566), (594, o_594), (649, o_649), (656, o_656), (702, o_702)]
noncomputable def baseO (w : World) (os : OsState) (X : Nat → Obj) (i : Nat) : Obj := match Nat.blt i 227 with
  | true => obj0 w os i
  | false => X i
noncomputable def end0 (w : World) (os : OsState) (R : Rest) : Option (Flow × SharedT × Code × Pos) :=
  PySem.W.Fast.tw10110043849684766642 treeTable pw w 11 (some (.ref 6)) 0 600 ⟨btOf (ov (baseO w os R.X) (LT w.params R)) 703, 703, (boot_heap w.params).life, #[], boot_drawn, 2261, os⟩ ⟨curOf esEnv (esBody.drop 34), esCode, ⟨202, 4, 202, 8⟩, stkOf (fr1 (stk0 w os))⟩
noncomputable abbrev seenE (P : Params) (R : Rest) (r : Flow × SharedT × Code × Pos) := ((staticsOk (importedModules pw.main.body) (boot_heap P) r.2.1.abs.heap && namesBound pw r.2.1.abs.heap && gensDone r.2.1.abs && laidKept (boot_heap P) r.2.1.abs.heap), openSeen q01 loose01 (importedModules pw.main.body) (fun _ => true) true r.2.1.abs, r.2.1.n, r.2.1.life, r.2.1.gens, r.2.1.drawn, r.2.1.toks, r.2.1.os, (kobs P).map fun q => r.2.1.tree.get q.1, r.2.1.tree.get 232, r.2.1.tree.get 233, r.2.1.tree.get 234)
theorem end0_is (w : World) (os : OsState) (R : Rest) : (end0 w os R).map (seenE w.params R) = some (true, openGood q01 loose01, 770, (boot_heap w.params).life, #[], boot_drawn, 2399, os, (kobs w.params).map fun q => some q.2, some (setO R 232).2, some (setO R 233).2, some (setO R 234).2) := by
  unfold end0 curOf seenE
  rw [PySem.W.Fast.te4187177175401517315, PySem.W.Fast.te12563942051412417395, PySem.W.Fast.te9442747609961115081, PySem.W.R.bindR_eq, PySem.W.R.onRaiseR_eq]
  kernel_rfl
end Mine
end

section
open PySem PySem.W PyProof.Rows
set_option Elab.async false
set_option maxRecDepth 1000000
namespace Mine
noncomputable def setSt (i : Nat) : SetSt := match esBody[i]? with
  | some (.Assign [.Name n p1] (.Set es _ p2) p3) => ⟨n, es, (strsOf es).getD [], p1, p2, p3⟩
  | _ => ⟨"", [], [], default, default, default⟩
theorem body_sets : esBody.drop 1 = (setSt 1).st :: (setSt 2).st :: (setSt 3).st :: esBody.drop 4 := by kernel_rfl
theorem es_kind : esEnv.scope.kind = .class := by kernel_rfl
theorem set_xs1 : strsOf (setSt 1).es = some (setSt 1).xs := by kernel_rfl
theorem set_xs2 : strsOf (setSt 2).es = some (setSt 2).xs := by kernel_rfl
theorem set_xs3 : strsOf (setSt 3).es = some (setSt 3).xs := by kernel_rfl
theorem xs1_is : (setSt 1).xs = (["a", "e", "i", "o", "u", "y"] : List Str) := by kernel_rfl
theorem xs2_is : (setSt 2).xs = (["Y", "a", "e", "i", "o", "u", "w", "x", "y"] : List Str) := by kernel_rfl
theorem xs3_is : (setSt 3).xs = (["c", "d", "e", "g", "h", "k", "m", "n", "r", "t"] : List Str) := by kernel_rfl
theorem ok1 : (setSt 1).Ok esEnv := ⟨set_xs1, by kernel_rfl, by rw [xs1_is]; decide, by rw [xs1_is]; decide +kernel, by kernel_rfl⟩
theorem ok2 : (setSt 2).Ok esEnv := ⟨set_xs2, by kernel_rfl, by rw [xs2_is]; decide, by rw [xs2_is]; decide +kernel, by kernel_rfl⟩
theorem ok3 : (setSt 3).Ok esEnv := ⟨set_xs3, by kernel_rfl, by rw [xs3_is]; decide, by rw [xs3_is]; decide +kernel, by kernel_rfl⟩
theorem tk1 : (setSt 1).tk 464 = 477 := by kernel_rfl
theorem tk2 : (setSt 2).tk 477 = 496 := by kernel_rfl
theorem tk3 : (setSt 3).tk 496 = 517 := by kernel_rfl
theorem ns5 (w : World) : Obj.putName (setSt 1).nm (nameHash w (setSt 1).nm) (.str (setSt 1).nm (464 + (setSt 1).xs.length + (setSt 1).xs.length)) (.ref 232) (nsObj w.params 4) = nsObj w.params 5 := by kernel_rfl
theorem ns6 (w : World) : Obj.putName (setSt 2).nm (nameHash w (setSt 2).nm) (.str (setSt 2).nm (477 + (setSt 2).xs.length + (setSt 2).xs.length)) (.ref 233) (nsObj w.params 5) = nsObj w.params 6 := by kernel_rfl
theorem ns7 (w : World) : Obj.putName (setSt 3).nm (nameHash w (setSt 3).nm) (.str (setSt 3).nm (496 + (setSt 3).xs.length + (setSt 3).xs.length)) (.ref 234) (nsObj w.params 6) = nsObj w.params 7 := by kernel_rfl
theorem ns_ready (P : Params) (H : Heap) (h : H.get? 227 = some (nsObj P 4)) : NsReady H 227 := ⟨(nsAll P).take 4, 4, h, by kernel_rfl⟩
theorem end3 : (setSt 3).p1 = ⟨142, 4, 142, 14⟩ := by kernel_rfl

theorem good_form {w : World} {xs : List (Str × Tok)} {o : Obj} (h : GoodSet w xs o) : ∃ es ep t, o = ⟨.type "set", none, .set es ep t, #[]⟩ := by
  obtain ⟨es, ep, t, e, _, _⟩ := h
  exact ⟨es, ep, t, e⟩
theorem good_get {w : World} {xs : List (Str × Tok)} {o : Obj} (h : GoodSet w xs o) (H : Heap) : (H.push o).get? H.objs.size = some o := by
  obtain ⟨es, ep, t, rfl⟩ := good_form h
  exact Heap.get?_push_size _ rfl

section
variable {w : World} {t : SetSt} {a : Addr} {H : Heap} {tk : Nat} {o : Obj}
theorem heap_size : (t.heap w a H tk o).objs.size = H.objs.size + 1 := by
  unfold SetSt.heap
  rw [Heap.size_update, Heap.size_push]
theorem heap_life : (t.heap w a H tk o).life = H.life := rfl
theorem heap_self {x : Obj} (h : H.get? a = some x) (hx : ∀ o', Obj.putName t.nm (nameHash w t.nm) (.str t.nm (tk + t.xs.length + t.xs.length)) (.ref H.objs.size) x = o' → alive o' = some o') : (t.heap w a H tk o).get? a = some (Obj.putName t.nm (nameHash w t.nm) (.str t.nm (tk + t.xs.length + t.xs.length)) (.ref H.objs.size) x) := by
  unfold SetSt.heap
  have e := Heap.get?_push_of_some o h
  have := hx _ rfl
  refine Heap.get?_update_self _ e ?_
  revert this
  generalize Obj.putName t.nm (nameHash w t.nm) (.str t.nm (tk + t.xs.length + t.xs.length)) (.ref H.objs.size) x = y
  obtain ⟨c, d, dt, sl⟩ := y
  intro q
  cases dt <;> first | rfl | cases q
theorem heap_other {b : Addr} {x : Obj} (ne : b ≠ a) (h : H.get? b = some x) : (t.heap w a H tk o).get? b = some x := by
  unfold SetSt.heap
  rw [Heap.get?_update_ne _ _ _ _ ne]
  exact Heap.get?_push_of_some o h
theorem heap_new {xs : List (Str × Tok)} (ne : H.objs.size ≠ a) (g : GoodSet w xs o) : (t.heap w a H tk o).get? H.objs.size = some o := by
  unfold SetSt.heap
  rw [Heap.get?_update_ne _ _ _ _ ne]
  exact good_get g H
end

theorem after_sets {w : World} {os : OsState} {gens : Array GenState} {drawn : Drawn} {ann : Option Value} {c : Code} {B : List Frame} {f : Frame} {pos : Pos} {H : Heap} (hs : H.objs.size = 232) (h1 : H.get? 227 = some (nsObj w.params 4)) (h2 : H.get? 230 = some o_230) :
    ∃ n H' o1 o2 o3, n ≤ 1000 ∧ topGo treeTable pw w 11 ann n ⟨H, gens, drawn, 464, os⟩ ⟨curOf esEnv (esBody.drop 1), c, pos, f :: B⟩ = some (⟨H', gens, drawn, 517, os⟩, ⟨curOf esEnv (esBody.drop 4), c, ⟨142, 4, 142, 14⟩, f :: B⟩) ∧
      H'.objs.size = 235 ∧ H'.life = H.life ∧ H'.get? 227 = some (nsObj w.params 7) ∧ (GoodSet w (marked (setSt 1).xs 464) o1 ∧ H'.get? 232 = some o1) ∧ (GoodSet w (marked (setSt 2).xs 477) o2 ∧ H'.get? 233 = some o2) ∧ (GoodSet w (marked (setSt 3).xs 496) o3 ∧ H'.get? 234 = some o3) ∧
      ∀ b x, b ≠ 227 → H.get? b = some x → H'.get? b = some x := by
  have E : EnvOk 11 esEnv H := ⟨.inr ⟨230, o_230, _, rfl, by decide, h2, rfl⟩, es_kind, ns_ready _ _ h1, by decide⟩
  obtain ⟨n, o1, o2, o3, hn, g1, g2, g3, k⟩ := sets_three (p := pw) (w := w) (ann := ann) (c := c) (B := B) (f := f) (pos := pos) (tk := 464) (gens := gens) (drawn := drawn) (os := os) (setSt 1) (setSt 2) (setSt 3) ok1 ok2 ok3 E (esBody.drop 4)
  rw [tk1] at g2 g3 k
  rw [tk2] at g3 k
  rw [tk3, end3, ← body_sets] at k
  have al : ∀ k, alive (nsObj w.params k) = some (nsObj w.params k) := fun k => rfl
  have s1 : ((setSt 1).heap w esEnv.locals H 464 o1).objs.size = 233 := by rw [heap_size, hs]
  have s2 : ((setSt 2).heap w esEnv.locals ((setSt 1).heap w esEnv.locals H 464 o1) 477 o2).objs.size = 234 := by rw [heap_size, s1]
  have a1 : ((setSt 1).heap w esEnv.locals H 464 o1).get? 227 = some (nsObj w.params 5) := by
    have := heap_self (w := w) (t := setSt 1) (a := 227) (H := H) (tk := 464) (o := o1) h1 (by rw [hs, ns5]; rintro _ rfl; exact al 5)
    rw [hs, ns5] at this; exact this
  have a2 : ((setSt 2).heap w esEnv.locals ((setSt 1).heap w esEnv.locals H 464 o1) 477 o2).get? 227 = some (nsObj w.params 6) := by
    have := heap_self (w := w) (t := setSt 2) (a := 227) (tk := 477) (o := o2) a1 (by rw [s1, ns6]; rintro _ rfl; exact al 6)
    rw [s1, ns6] at this; exact this
  have a3 : ((setSt 3).heap w esEnv.locals ((setSt 2).heap w esEnv.locals ((setSt 1).heap w esEnv.locals H 464 o1) 477 o2) 496 o3).get? 227 = some (nsObj w.params 7) := by
    have := heap_self (w := w) (t := setSt 3) (a := 227) (tk := 496) (o := o3) a2 (by rw [s2, ns7]; rintro _ rfl; exact al 7)
    rw [s2, ns7] at this; exact this
  have n1 : ((setSt 1).heap w esEnv.locals H 464 o1).get? 232 = some o1 := by
    have := heap_new (t := setSt 1) (a := 227) (tk := 464) (H := H) (by rw [hs]; decide) g1
    rw [hs] at this; exact this
  have n2 : ((setSt 2).heap w esEnv.locals ((setSt 1).heap w esEnv.locals H 464 o1) 477 o2).get? 233 = some o2 := by
    have := heap_new (t := setSt 2) (a := 227) (tk := 477) (H := (setSt 1).heap w esEnv.locals H 464 o1) (by rw [s1]; decide) g2
    rw [s1] at this; exact this
  have n3 : ((setSt 3).heap w esEnv.locals ((setSt 2).heap w esEnv.locals ((setSt 1).heap w esEnv.locals H 464 o1) 477 o2) 496 o3).get? 234 = some o3 := by
    have := heap_new (t := setSt 3) (a := 227) (tk := 496) (H := (setSt 2).heap w esEnv.locals ((setSt 1).heap w esEnv.locals H 464 o1) 477 o2) (by rw [s2]; decide) g3
    rw [s2] at this; exact this
  rw [xs1_is, xs2_is, xs3_is] at hn
  refine ⟨n, _, o1, o2, o3, Nat.le_trans hn (by decide), k, by rw [heap_size, s2], rfl, a3, ⟨g1, heap_other (by decide) (heap_other (by decide) n1)⟩, ⟨g2, heap_other (by decide) n2⟩, ⟨g3, n3⟩, fun b x ne e => ?_⟩
  exact heap_other ne (heap_other ne (heap_other ne e))
end Mine
end

section
open PySem PySem.W PyProof.Rows
set_option Elab.async false
set_option maxRecDepth 1000000
namespace Mine

theorem segRun_top {p : Program} {w : World} {n₀ : Nat} {ann : Option Value} : ∀ {n : Nat} {s s' : Shared} {t : Thread} {f : Flow} {c : Code} {q : Pos}, segRun treeTable p w n₀ ann 0 n s t = some (f, s', c, q) → topRun treeTable p w n₀ ann n s t = some s'
  | 0, _, _, _, _, _, _, h => by cases h
  | n + 1, s, s', t, f, c, q, h => by
    unfold segRun at h
    unfold topRun
    have : through t = match endAt 0 t with | some _ => true | none => false := by
      unfold through endAt
      obtain ⟨cur, c, p, st⟩ := t
      cases st with
      | nil => cases cur <;> try rfl
               rename_i f; cases f <;> rfl
      | cons f r => rfl
    rw [this]
    cases he : endAt 0 t with
    | some x => rw [he] at h; cases h; rfl
    | none =>
      rw [he] at h
      cases hk : stepOk n₀ ann t with
      | false => rw [hk] at h; cases h
      | true =>
        rw [hk] at h
        cases hs : step (denote treeTable) p w s t with
        | halt o s₂ => rw [hs] at h; cases h
        | go s₂ t₂ => rw [hs] at h; exact segRun_top h

theorem live_alive {o : Obj} (h : isLive (some o) = true) : alive o = some o := by
  obtain ⟨c, d, dt, sl⟩ := o
  cases dt <;> first | rfl | cases h
theorem live_get {T : BT} {i n : Nat} {life : Life} (lt : i < n) (h : isLive (T.get i) = true) : (absHeap T n life).get? i = some ((T.get i).getD default) := by
  cases e : T.get i with
  | none => rw [e] at h; cases h
  | some o => rw [e] at h; rw [abs_get lt e, live_alive h]; rfl
theorem ov_to {f g : Nat → Obj} {i : Nat} : ∀ {l : List (Nat × Obj)}, (∀ p ∈ l, g p.1 = p.2) → f i = g i → ov f l i = g i
  | [], _, h => h
  | (a, o) :: r, h, hf => by
    unfold ov
    cases q : Nat.beq i a with
    | true => rw [Nat.eq_of_beq_eq_true q]; exact (h (a, o) (by simp)).symm
    | false => exact ov_to (fun p hp => h p (List.mem_cons_of_mem _ hp)) hf
theorem ov_low {f g : Nat → Obj} {i : Nat} : ∀ {l : List (Nat × Obj)}, (∀ p ∈ l, g p.1 = p.2) → ((∀ p ∈ l, p.1 ≠ i) → f i = g i) → ov f l i = g i
  | [], _, h => h (fun _ m => nomatch m)
  | (a, o) :: r, h, hf => by
    unfold ov
    cases q : Nat.beq i a with
    | true => rw [Nat.eq_of_beq_eq_true q]; exact (h (a, o) (by simp)).symm
    | false =>
      refine ov_low (fun p hp => h p (List.mem_cons_of_mem _ hp)) fun hne => hf fun p hp => ?_
      rcases List.mem_cons.mp hp with rfl | hp
      · exact fun e => by rw [show Nat.beq i a = true from (by rw [← e]; exact Nat.beq_refl _)] at q; cases q
      · exact hne p hp

/-- the state between two pieces of EnglishStemmer's body -/
structure StB (w : World) (os : OsState) (H : Heap) (k n : Nat) (ls : List (Nat × Obj)) (o1 o2 o3 : Obj) : Prop where
  size : H.objs.size = n
  life : H.life = (boot_heap w.params).life
  ns : H.get? 227 = some (nsObj w.params k)
  low : ∀ i : Nat, i < 227 → H.get? i = some (obj0 w os i)
  s1 : H.get? 232 = some o1
  s2 : H.get? 233 = some o2
  s3 : H.get? 234 = some o3
  fns : ∀ a ∈ fnsP, ∃ d fd sl, H.get? a = some ⟨.type "function", d, .func fd, sl⟩
  lists : ∀ q ∈ ls, H.get? q.1 = some q.2

structure Low0 (w : World) (os : OsState) : Prop where
  a2 : obj0 w os 2 = o_2 w.params
  a3 : obj0 w os 3 = o_3 w.params
  a216 : obj0 w os 216 = o_216 w.params
  a217 : obj0 w os 217 = o_217 w.params
  a219 : obj0 w os 219 = o_219 w.params
  a220 : obj0 w os 220 = o_220 w.params

theorem StB.step {w : World} {os : OsState} {H : Heap} {k k' n n' N tk tk' : Nat} {ls new : List (Nat × Obj)} {o1 o2 o3 : Obj} {t t' : Thread} (Z : Low0 w os) (S : StB w os H k n ls o1 o2 o3) (hn : 340 ≤ n) (hle : n ≤ n') (hmax : n ≤ 4000)
    (hls : ∀ q ∈ ls, 227 < q.1 ∧ q.1 < n) (hnew : ∀ q ∈ new, q.1 < n' ∧ isLive (some q.2) = true)
    (kk : ∀ X : Nat → Obj, (segGoT treeTable pw w n (some (.ref 227)) 0 N ⟨btOf (ov X (amongs w.params k)) n, n, (boot_heap w.params).life, #[], boot_drawn, tk, os⟩ t).map (seenG ((227, nsObj w.params k') :: (2, o_2 w.params) :: (3, o_3 w.params) :: new)) =
      toldG ((227, nsObj w.params k') :: (2, o_2 w.params) :: (3, o_3 w.params) :: new) t' n' (boot_heap w.params).life #[] boot_drawn tk' os) :
    ∃ H', topGo treeTable pw w 11 (some (.ref 6)) N ⟨H, #[], boot_drawn, tk, os⟩ t = some (⟨H', #[], boot_drawn, tk', os⟩, t') ∧ StB w os H' k' n' (ls ++ new) o1 o2 o3 := by
  have hL : ∀ q ∈ amongs w.params k, H.get? q.1 = some q.2 := by
    intro q hq
    simp only [amongs, List.mem_cons, List.not_mem_nil, or_false] at hq
    rcases hq with rfl | rfl | rfl | rfl | rfl | rfl | rfl
    · exact S.ns
    · show H.get? 3 = some (o_3 w.params); exact (S.low 3 (by decide)).trans (congrArg some Z.a3)
    · show H.get? 220 = some (o_220 w.params); exact (S.low 220 (by decide)).trans (congrArg some Z.a220)
    · show H.get? 219 = some (o_219 w.params); exact (S.low 219 (by decide)).trans (congrArg some Z.a219)
    · show H.get? 217 = some (o_217 w.params); exact (S.low 217 (by decide)).trans (congrArg some Z.a217)
    · show H.get? 216 = some (o_216 w.params); exact (S.low 216 (by decide)).trans (congrArg some Z.a216)
    · show H.get? 2 = some (o_2 w.params); exact (S.low 2 (by decide)).trans (congrArg some Z.a2)
  obtain ⟨H', g, hs, hl, hp⟩ := piece S.size S.life hmax hL (kk (atO H))
  have kp := topGo_keeps g
  have keep : ∀ b o, b < n → b ≠ 3 → b ≠ 2 → b ≠ 227 → H.get? b = some o → H'.get? b = some o := fun b o h1 h2 h3 h4 e => kp b o h1 h2 h3 h4 e
  refine ⟨H', topGo_less (by omega) (by decide) g, hs, hl, ?_, fun i hi => ?_, keep _ _ (by omega) (by decide) (by decide) (by decide) S.s1, keep _ _ (by omega) (by decide) (by decide) (by decide) S.s2, keep _ _ (by omega) (by decide) (by decide) (by decide) S.s3, fun a ha => ?_, fun q hq => ?_⟩
  · exact (hp (227, nsObj w.params k') (by simp) (by show 227 < n'; omega)).trans rfl
  · by_cases h3 : i = 3
    · subst h3; refine Eq.trans ?_ (congrArg some Z.a3.symm); exact (hp (3, o_3 w.params) (by simp) (by show 3 < n'; omega)).trans rfl
    · by_cases h2 : i = 2
      · subst h2; refine Eq.trans ?_ (congrArg some Z.a2.symm); exact (hp (2, o_2 w.params) (by simp) (by show 2 < n'; omega)).trans rfl
      · exact keep _ _ (by omega) h3 h2 (by omega) (S.low i hi)
  · obtain ⟨d, fd, sl, e⟩ := S.fns a ha
    have hb := (by decide : ∀ a ∈ fnsP, a ≠ 3 ∧ a ≠ 2 ∧ a ≠ 227 ∧ a < 340) a ha
    exact ⟨d, fd, sl, keep _ _ (Nat.lt_of_lt_of_le hb.2.2.2 hn) hb.1 hb.2.1 hb.2.2.1 e⟩
  · rcases List.mem_append.mp hq with hq | hq
    · obtain ⟨b1, b2⟩ := hls q hq
      exact keep _ _ b2 (by omega) (by omega) (by omega) (S.lists q hq)
    · obtain ⟨b1, b2⟩ := hnew q hq
      exact (hp q (by simp [hq]) b1).trans (live_alive b2)
end Mine
end

section
open PySem PySem.W PyProof.Rows
set_option Elab.async false
set_option maxRecDepth 1000000
namespace Mine

theorem go_go {p : Program} {w : World} {n₀ : Nat} {ann : Option Value} {n m : Nat} {s s' s'' : Shared} {t t' t'' : Thread} (h : topGo treeTable p w n₀ ann n s t = some (s', t')) (k : topGo treeTable p w n₀ ann m s' t' = some (s'', t'')) : topGo treeTable p w n₀ ann (n + m) s t = some (s'', t'') := topGo_add h k

section
variable (w : World) (os : OsState)
/-- the top up to the first set -/
theorem start0 : ∃ H0, topGo treeTable pw w 11 (some (.ref 6)) 1330 ⟨boot_heap w.params, #[], boot_drawn, boot_toks, os⟩ (topStub pw) = some (⟨H0, #[], boot_drawn, 464, os⟩, ⟨curOf esEnv (esBody.drop 1), esCode, ⟨139, 4, 139, 9⟩, stkOf (fr1 (stk0 w os))⟩) ∧
    H0.objs.size = 232 ∧ H0.life = (boot_heap w.params).life ∧ H0.get? 227 = some (nsObj w.params 4) ∧ H0.get? 4 = some o_4 ∧ H0.get? 229 = some o_229 ∧ H0.get? 230 = some o_230 ∧ (∀ i : Nat, i < 227 → H0.get? i = some (obj0 w os i)) ∧ Low0 w os := by
  obtain ⟨⟨⟨T, n, lf, gs, dr, tk, oo⟩, th⟩, h1, h2⟩ := Option.map_eq_some_iff.mp (seg0_is w os)
  simp only [seenG, Prod.mk.injEq] at h2
  obtain ⟨⟨e1, e2, e3, e4, e5, e6, e7, h3⟩, h4⟩ := h2
  rw [e1, e2, e3, e4, e5, e6, e7] at h1
  have ob : ∀ i, obj0 w os i = (T.get i).getD default := fun i => by unfold obj0; rw [h1]; rfl
  have g := segGoT_top ((seg0_eq w os).trans h1)
  have ea : (S0 w os).abs = ⟨boot_heap w.params, #[], boot_drawn, boot_toks, os⟩ := by
    have := absHeap_btOf (h := boot_heap w.params) (by show (11 : Nat) ≤ 4000; decide)
    show Shared.mk _ _ _ _ _ = _
    exact congrArg (fun h => Shared.mk h #[] boot_drawn boot_toks os) this
  rw [ea] at g
  have at_ : ∀ q ∈ ps0 w.params, T.get q.1 = some q.2 := fun q hq => map_at h3 q hq
  have low : ∀ i : Nat, i < 227 → (absHeap T 232 (boot_heap w.params).life).get? i = some (obj0 w os i) := fun i hi => by
    rw [ob]
    rw [List.all_eq_true] at h4
    exact live_get (Nat.lt_trans hi (by decide)) (h4 i (List.mem_range.mpr hi))
  have gt : ∀ (a : Nat) (o : Obj), (a, o) ∈ ps0 w.params → a < 232 → isLive (some o) = true → (absHeap T 232 (boot_heap w.params).life).get? a = some o := fun a o hq lt lv => (abs_get lt (at_ (a, o) hq)).trans (live_alive lv)
  have lo : ∀ (a : Nat) (o : Obj), (a, o) ∈ ps0 w.params → obj0 w os a = o := fun a o hq => by rw [ob, at_ (a, o) hq]; rfl
  refine ⟨_, g, absHeap_size _ _ _, rfl, gt 227 (nsObj w.params 4) (List.mem_of_getElem? (i := 0) rfl) (by decide) rfl, gt 4 o_4 (List.mem_of_getElem? (i := 7) rfl) (by decide) rfl, gt 229 o_229 (List.mem_of_getElem? (i := 8) rfl) (by decide) rfl, gt 230 o_230 (List.mem_of_getElem? (i := 9) rfl) (by decide) rfl, low, ?_⟩
  exact ⟨lo 2 (o_2 w.params) (List.mem_of_getElem? (i := 1) rfl), lo 3 (o_3 w.params) (List.mem_of_getElem? (i := 2) rfl), lo 216 (o_216 w.params) (List.mem_of_getElem? (i := 3) rfl), lo 217 (o_217 w.params) (List.mem_of_getElem? (i := 4) rfl), lo 219 (o_219 w.params) (List.mem_of_getElem? (i := 5) rfl), lo 220 (o_220 w.params) (List.mem_of_getElem? (i := 6) rfl)⟩

/-- the state when the first list of Amongs is made -/
theorem start1 : Low0 w os ∧ ∃ N H o1 o2 o3, N ≤ 3000 ∧ topGo treeTable pw w 11 (some (.ref 6)) N ⟨boot_heap w.params, #[], boot_drawn, boot_toks, os⟩ (topStub pw) = some (⟨H, #[], boot_drawn, 627, os⟩, ⟨curOf esEnv (esBody.drop 22), esCode, ⟨189, 4, 190, 17⟩, stkOf (fr1 (stk0 w os))⟩) ∧
    StB w os H 25 340 [] o1 o2 o3 ∧ GoodSet w (marked (setSt 1).xs 464) o1 ∧ GoodSet w (marked (setSt 2).xs 477) o2 ∧ GoodSet w (marked (setSt 3).xs 496) o3 := by
  obtain ⟨H0, g0, hs0, hl0, a227, a4, a229, a230, low0, Z⟩ := start0 w os
  refine ⟨Z, ?_⟩
  obtain ⟨n, H1, o1, o2, o3, hn, g1, hs1, hl1, b227, ⟨q1, c1⟩, ⟨q2, c2⟩, ⟨q3, c3⟩, kp1⟩ := after_sets (w := w) (os := os) (gens := #[]) (drawn := boot_drawn) (ann := some (.ref 6)) (c := esCode) (B := [topFrame ⟨0, 0, 0, 0⟩]) (f := .ret (fr1 (stk0 w os)).1 none false (fr1 (stk0 w os)).2.1 (.body (fr1 (stk0 w os)).2.2.1 (fr1 (stk0 w os)).2.2.2.1) (fr1 (stk0 w os)).2.2.2.2.1 (fr1 (stk0 w os)).2.2.2.2.2) (pos := ⟨139, 4, 139, 9⟩) hs0 a227 a230
  have lowK : ∀ i : Nat, i < 227 → H1.get? i = some (obj0 w os i) := fun i hi => kp1 i _ (Nat.ne_of_lt hi) (low0 i hi)
  have hL : ∀ q ∈ LP w.params, H1.get? q.1 = some q.2 := by
    intro q hq
    simp only [LP, List.mem_cons, List.not_mem_nil, or_false] at hq
    rcases hq with rfl | rfl | rfl | rfl | rfl | rfl
    · exact b227
    · show H1.get? 3 = some (o_3 w.params); exact (lowK 3 (by decide)).trans (congrArg some Z.a3)
    · exact kp1 4 _ (by decide) a4
    · exact kp1 229 _ (by decide) a229
    · exact kp1 230 _ (by decide) a230
    · show H1.get? 2 = some (o_2 w.params); exact (lowK 2 (by decide)).trans (congrArg some Z.a2)
  obtain ⟨T, g2, ps, fs⟩ := pieceG (G := fun r => fnsP.map fun a => isOf (r.1.tree.get a)) hs1 (hl1.trans hl0) (by decide) hL (pcP w os (boot_heap w.params).life #[] boot_drawn (atO H1) (fr1 (stk0 w os)).1 (fr1 (stk0 w os)).2.1 (fr1 (stk0 w os)).2.2.2.2.2 (fr1 (stk0 w os)).2.2.1 (fr1 (stk0 w os)).2.2.2.1 (fr1 (stk0 w os)).2.2.2.2.1 ⟨0, 0, 0, 0⟩ ⟨142, 4, 142, 14⟩)
  have g := go_go g0 (go_go g1 (topGo_less (n₀ := 11) (ann := some (.ref 6)) (by decide) (by decide) g2))
  have kp := topGo_keeps g2
  have at_ : ∀ (a : Nat) (o : Obj), (a, o) ∈ psP w.params (atO H1) → a < 340 → isLive (some o) = true → (absHeap T 340 (boot_heap w.params).life).get? a = some o := fun a o hq lt lv => (abs_get lt (ps (a, o) hq)).trans (live_alive lv)
  have setat : ∀ (a : Nat) (o : Obj), (∃ es ep t, o = ⟨.type "set", none, .set es ep t, #[]⟩) → H1.get? a = some o → (a, atO H1 a) ∈ psP w.params (atO H1) → a < 340 → (absHeap T 340 (boot_heap w.params).life).get? a = some o := fun a o ho e hq lt => by
    rw [get_atO e] at hq
    obtain ⟨es, ep, t, rfl⟩ := ho
    exact at_ a _ hq lt rfl
  refine ⟨_, _, o1, o2, o3, by omega, g, ⟨absHeap_size _ _ _, rfl, at_ 227 (nsObj w.params 25) (List.mem_of_getElem? (i := 0) rfl) (by decide) rfl, fun i hi => ?_, setat 232 _ (good_form q1) c1 (List.mem_of_getElem? (i := 5) rfl) (by decide), setat 233 _ (good_form q2) c2 (List.mem_of_getElem? (i := 6) rfl) (by decide), setat 234 _ (good_form q3) c3 (List.mem_of_getElem? (i := 7) rfl) (by decide), fun a ha => ?_, fun q hq => nomatch hq⟩, q1, q2, q3⟩
  · by_cases h3 : i = 3
    · subst h3; refine Eq.trans ?_ (congrArg some Z.a3.symm); exact at_ 3 (o_3 w.params) (List.mem_of_getElem? (i := 2) rfl) (by decide) rfl
    · by_cases h2 : i = 2
      · subst h2; refine Eq.trans ?_ (congrArg some Z.a2.symm); exact at_ 2 (o_2 w.params) (List.mem_of_getElem? (i := 1) rfl) (by decide) rfl
      · exact kp i _ hi h3 h2 (by omega) (lowK i hi)
  · have := map_at fs a ha
    exact isOf_get ((by decide : ∀ a ∈ fnsP, a < 340) a ha) this
end
end Mine
end

section
open PySem PySem.W PyProof.Rows
set_option Elab.async false
set_option maxRecDepth 1000000
namespace Mine
section
variable (w : World) (os : OsState)
theorem start2 : ∃ N H o1 o2 o3, N ≤ 25000 ∧ topGo treeTable pw w 11 (some (.ref 6)) N ⟨boot_heap w.params, #[], boot_drawn, boot_toks, os⟩ (topStub pw) = some (⟨H, #[], boot_drawn, 2261, os⟩, ⟨curOf esEnv (esBody.drop 34), esCode, ⟨202, 4, 202, 8⟩, stkOf (fr1 (stk0 w os))⟩) ∧
    StB w os H 37 703 [(367, o_367), (377, o_377), (396, o_396), (406, o_406), (428, o_428), (450, o_450), (490, o_490), (566, o_566), (594, o_594), (649, o_649), (656, o_656), (702, o_702)] o1 o2 o3 ∧ GoodSet w (marked (setSt 1).xs 464) o1 ∧ GoodSet w (marked (setSt 2).xs 477) o2 ∧ GoodSet w (marked (setSt 3).xs 496) o3 := by
  obtain ⟨Z, N0, H0, o1, o2, o3, hN, g0, S0, q1, q2, q3⟩ := start1 w os
  obtain ⟨H1, g1, S1⟩ := S0.step (new := [(367, o_367), (377, o_377), (396, o_396), (406, o_406)]) Z (by decide) (by decide) (by decide) (fun q hq => nomatch hq) (by
    intro q hq
    simp only [List.mem_cons, List.not_mem_nil, or_false] at hq
    rcases hq with rfl | rfl | rfl | rfl <;> exact ⟨by decide, rfl⟩) (fun X => pc_0 w os (boot_heap w.params).life #[] boot_drawn X (fr1 (stk0 w os)).1 (fr1 (stk0 w os)).2.1 (fr1 (stk0 w os)).2.2.2.2.2 (fr1 (stk0 w os)).2.2.1 (fr1 (stk0 w os)).2.2.2.1 (fr1 (stk0 w os)).2.2.2.2.1 ⟨0, 0, 0, 0⟩ ⟨189, 4, 190, 17⟩)
  obtain ⟨H2, g2, S2⟩ := S1.step (new := [(428, o_428), (450, o_450), (490, o_490)]) Z (by decide) (by decide) (by decide) (by
    intro q hq
    simp only [List.mem_cons, List.not_mem_nil, or_false, List.nil_append] at hq
    rcases hq with rfl | rfl | rfl | rfl <;> exact ⟨by decide, by decide⟩) (by
    intro q hq
    simp only [List.mem_cons, List.not_mem_nil, or_false] at hq
    rcases hq with rfl | rfl | rfl <;> exact ⟨by decide, rfl⟩) (fun X => pc_1 w os (boot_heap w.params).life #[] boot_drawn X (fr1 (stk0 w os)).1 (fr1 (stk0 w os)).2.1 (fr1 (stk0 w os)).2.2.2.2.2 (fr1 (stk0 w os)).2.2.1 (fr1 (stk0 w os)).2.2.2.1 (fr1 (stk0 w os)).2.2.2.2.1 ⟨0, 0, 0, 0⟩ ⟨194, 4, 194, 7⟩)
  obtain ⟨H3, g3, S3⟩ := S2.step (new := [(566, o_566)]) Z (by decide) (by decide) (by decide) (by
    intro q hq
    simp only [List.mem_cons, List.not_mem_nil, or_false, List.nil_append, List.cons_append] at hq
    rcases hq with rfl | rfl | rfl | rfl | rfl | rfl | rfl <;> exact ⟨by decide, by decide⟩) (by
    intro q hq
    simp only [List.mem_cons, List.not_mem_nil, or_false] at hq
    rcases hq with rfl <;> exact ⟨by decide, rfl⟩) (fun X => pc_2 w os (boot_heap w.params).life #[] boot_drawn X (fr1 (stk0 w os)).1 (fr1 (stk0 w os)).2.1 (fr1 (stk0 w os)).2.2.2.2.2 (fr1 (stk0 w os)).2.2.1 (fr1 (stk0 w os)).2.2.2.1 (fr1 (stk0 w os)).2.2.2.2.1 ⟨0, 0, 0, 0⟩ ⟨197, 4, 197, 7⟩)
  obtain ⟨H4, g4, S4⟩ := S3.step (new := [(594, o_594), (649, o_649)]) Z (by decide) (by decide) (by decide) (by
    intro q hq
    simp only [List.mem_cons, List.not_mem_nil, or_false, List.nil_append, List.cons_append] at hq
    rcases hq with rfl | rfl | rfl | rfl | rfl | rfl | rfl | rfl <;> exact ⟨by decide, by decide⟩) (by
    intro q hq
    simp only [List.mem_cons, List.not_mem_nil, or_false] at hq
    rcases hq with rfl | rfl <;> exact ⟨by decide, rfl⟩) (fun X => pc_3 w os (boot_heap w.params).life #[] boot_drawn X (fr1 (stk0 w os)).1 (fr1 (stk0 w os)).2.1 (fr1 (stk0 w os)).2.2.2.2.2 (fr1 (stk0 w os)).2.2.1 (fr1 (stk0 w os)).2.2.2.1 (fr1 (stk0 w os)).2.2.2.2.1 ⟨0, 0, 0, 0⟩ ⟨198, 4, 198, 7⟩)
  obtain ⟨H5, g5, S5⟩ := S4.step (new := [(656, o_656), (702, o_702)]) Z (by decide) (by decide) (by decide) (by
    intro q hq
    simp only [List.mem_cons, List.not_mem_nil, or_false, List.nil_append, List.cons_append] at hq
    rcases hq with rfl | rfl | rfl | rfl | rfl | rfl | rfl | rfl | rfl | rfl <;> exact ⟨by decide, by decide⟩) (by
    intro q hq
    simp only [List.mem_cons, List.not_mem_nil, or_false] at hq
    rcases hq with rfl | rfl <;> exact ⟨by decide, rfl⟩) (fun X => pc_4 w os (boot_heap w.params).life #[] boot_drawn X (fr1 (stk0 w os)).1 (fr1 (stk0 w os)).2.1 (fr1 (stk0 w os)).2.2.2.2.2 (fr1 (stk0 w os)).2.2.1 (fr1 (stk0 w os)).2.2.2.1 (fr1 (stk0 w os)).2.2.2.2.1 ⟨0, 0, 0, 0⟩ ⟨200, 4, 200, 7⟩)
  exact ⟨_, H5, o1, o2, o3, by omega, go_go g0 (go_go g1 (go_go g2 (go_go g3 (go_go g4 g5)))), S5, q1, q2, q3⟩

noncomputable def restOfH (H : Heap) : Rest where
  X := atO H
  fd a := (atO H a).dict
  ft a := match (atO H a).data with | .func fd => fd | _ => default
  fs a := (atO H a).slots
  es a := match (atO H a).data with | .set es _ _ => es | _ => #[]
  ep a := match (atO H a).data with | .set _ ep _ => ep | _ => 0
  st a := match (atO H a).data with | .set _ _ t => t | _ => .fresh 0 0 false

theorem fn_form {H : Heap} {a : Nat} (h : ∃ d fd sl, H.get? a = some ⟨.type "function", d, .func fd, sl⟩) : atO H (fnO (restOfH H) a).1 = (fnO (restOfH H) a).2 := by
  obtain ⟨d, fd, sl, e⟩ := h
  have := get_atO e
  show atO H a = ⟨.type "function", (atO H a).dict, .func (match (atO H a).data with | .func fd => fd | _ => default), (atO H a).slots⟩
  rw [this]
theorem set_form {w : World} {H : Heap} {a : Nat} {o : Obj} {xs : List (Str × Tok)} (g : GoodSet w xs o) (h : H.get? a = some o) : atO H (setO (restOfH H) a).1 = (setO (restOfH H) a).2 := by
  obtain ⟨es, ep, t, rfl⟩ := good_form g
  have := get_atO h
  show atO H a = ⟨.type "set", none, .set (match (atO H a).data with | .set es _ _ => es | _ => #[]) (match (atO H a).data with | .set _ ep _ => ep | _ => 0) (match (atO H a).data with | .set _ _ t => t | _ => .fresh 0 0 false), #[]⟩
  rw [this]
end
end Mine
end

section
open PySem PySem.W PyProof.Rows
set_option Elab.async false
set_option maxRecDepth 1000000
namespace Mine

theorem kobs_ok (P : Params) : ((kobs P).all fun q => Nat.blt q.1 770 && isLive (some q.2)) = true := by kernel_rfl

/-- what the call finds -/
structure EndOk (w : World) (H : Heap) : Prop where
  K : ∀ q ∈ kobs w.params, H.get? q.1 = some q.2
  s1 : ∃ o, GoodSet w (marked (setSt 1).xs 464) o ∧ H.get? 232 = some o
  s2 : ∃ o, GoodSet w (marked (setSt 2).xs 477) o ∧ H.get? 233 = some o
  s3 : ∃ o, GoodSet w (marked (setSt 3).xs 496) o ∧ H.get? 234 = some o

theorem all_cons {H : Nat → Obj} {a : Nat × Obj} {l : List (Nat × Obj)} (h : H a.1 = a.2) (k : ∀ q ∈ l, H q.1 = q.2) : ∀ q ∈ a :: l, H q.1 = q.2 := fun q hq => (List.mem_cons.mp hq).elim (fun e => e ▸ h) (k q)
theorem run_end (w : World) (os : OsState) : ∃ N H, N ≤ 26000 ∧ topRun treeTable pw w 11 (some (.ref 6)) N ⟨boot_heap w.params, #[], boot_drawn, boot_toks, os⟩ (topStub pw) = some ⟨H, #[], boot_drawn, 2399, os⟩ ∧
    (staticsOk (importedModules pw.main.body) (boot_heap w.params) H && namesBound pw H && gensDone ⟨H, #[], boot_drawn, 2399, os⟩ && laidKept (boot_heap w.params) H) = true ∧
    openSeen q01 loose01 (importedModules pw.main.body) (fun _ => true) true ⟨H, #[], boot_drawn, 2399, os⟩ = openGood q01 loose01 ∧ EndOk w H := by
  obtain ⟨N, H, o1, o2, o3, hN, g, S, q1, q2, q3⟩ := start2 w os
  have e := end0_is w os (restOfH H)
  obtain ⟨⟨f, ⟨T, n, lf, gs, dr, tk, oo⟩, c, q⟩, h1, h2⟩ := Option.map_eq_some_iff.mp e
  simp only [seenE, Prod.mk.injEq] at h2
  obtain ⟨c1, c2, e1, e2, e3, e4, e5, e6, k, z1, z2, z3⟩ := h2
  have hov : ov (baseO w os (atO H)) (LT w.params (restOfH H)) = atO H := by
    funext i
    refine ov_to ?_ ?_
    · have l : ∀ q ∈ [(367, o_367), (377, o_377), (396, o_396), (406, o_406), (428, o_428), (450, o_450), (490, o_490), (566, o_566), (594, o_594), (649, o_649), (656, o_656), (702, o_702)], atO H q.1 = q.2 := fun q hq => get_atO (S.lists q hq)
      exact all_cons (get_atO S.ns) (all_cons (set_form q1 S.s1) (all_cons (set_form q2 S.s2) (all_cons (set_form q3 S.s3) (all_cons (fn_form (S.fns _ (by decide))) (all_cons (fn_form (S.fns _ (by decide))) (all_cons (fn_form (S.fns _ (by decide))) (all_cons (fn_form (S.fns _ (by decide))) (all_cons (fn_form (S.fns _ (by decide))) (all_cons (fn_form (S.fns _ (by decide))) (all_cons (fn_form (S.fns _ (by decide))) (all_cons (fn_form (S.fns _ (by decide))) (all_cons (fn_form (S.fns _ (by decide))) (all_cons (fn_form (S.fns _ (by decide))) (all_cons (fn_form (S.fns _ (by decide))) (all_cons (fn_form (S.fns _ (by decide))) (all_cons (fn_form (S.fns _ (by decide))) (all_cons (fn_form (S.fns _ (by decide))) (all_cons (fn_form (S.fns _ (by decide))) l))))))))))))))))))
    · unfold baseO
      cases hb : Nat.blt i 227 with
      | true => exact (get_atO (S.low i (Nat.le_of_ble_eq_true hb))).symm
      | false => rfl
  have h3 : segRunT treeTable pw w 11 (some (.ref 6)) 0 600 ⟨btOf (ov (baseO w os (restOfH H).X) (LT w.params (restOfH H))) 703, 703, (boot_heap w.params).life, #[], boot_drawn, 2261, os⟩ ⟨curOf esEnv (esBody.drop 34), esCode, ⟨202, 4, 202, 8⟩, stkOf (fr1 (stk0 w os))⟩ = end0 w os (restOfH H) := by
    rw [PySem.W.Fast.te10110043849684766642]; rfl
  rw [h1] at h3
  have h4 := segRun_top (segRun_of h3)
  have ea : SharedT.abs ⟨btOf (ov (baseO w os (restOfH H).X) (LT w.params (restOfH H))) 703, 703, (boot_heap w.params).life, #[], boot_drawn, 2261, os⟩ = ⟨H, #[], boot_drawn, 2261, os⟩ := by
    have := absHeap_btOf (h := H) (by rw [S.size]; decide)
    rw [S.size, S.life] at this
    show Shared.mk (absHeap (btOf (ov (baseO w os (atO H)) (LT w.params (restOfH H))) 703) 703 (boot_heap w.params).life) _ _ _ _ = _
    rw [hov, this]
  rw [ea] at h4
  have r := go_top g h4
  have ab : SharedT.abs ⟨T, n, lf, gs, dr, tk, oo⟩ = ⟨absHeap T 770 (boot_heap w.params).life, #[], boot_drawn, 2399, os⟩ := by
    rw [e1, e2, e3, e4, e5, e6]; rfl
  rw [ab] at r c1 c2
  refine ⟨_, _, by omega, r, c1, c2, ?_⟩
  have kk := List.all_eq_true.mp (kobs_ok w.params)
  refine ⟨fun q hq => ?_, ⟨o1, q1, ?_⟩, ⟨o2, q2, ?_⟩, ⟨o3, q3, ?_⟩⟩
  · have := kk q hq
    rw [Bool.and_eq_true] at this
    exact (abs_get (Nat.le_of_ble_eq_true this.1) (map_at k q hq)).trans (live_alive this.2)
  · have f1 := set_form q1 S.s1
    rw [show (setO (restOfH H) 232).2 = o1 from f1.symm.trans (get_atO S.s1)] at z1
    obtain ⟨_, _, _, rfl⟩ := good_form q1
    exact abs_get (by decide) z1
  · have f1 := set_form q2 S.s2
    rw [show (setO (restOfH H) 233).2 = o2 from f1.symm.trans (get_atO S.s2)] at z2
    obtain ⟨_, _, _, rfl⟩ := good_form q2
    exact abs_get (by decide) z2
  · have f1 := set_form q3 S.s3
    rw [show (setO (restOfH H) 234).2 = o3 from f1.symm.trans (get_atO S.s3)] at z3
    obtain ⟨_, _, _, rfl⟩ := good_form q3
    exact abs_get (by decide) z3
end Mine
end

section
open PySem PySem.W PyProof.Rows
set_option Elab.async false
set_option maxRecDepth 1000000
namespace Mine
theorem EndOk.keeps {w : World} {h h' : Heap} (E : EndOk w h) (k : ∀ b o, h.get? b = some o → h'.get? b = some o) : EndOk w h' :=
  ⟨fun q hq => k _ _ (E.K q hq), E.s1.imp fun o x => ⟨x.1, k _ _ x.2⟩, E.s2.imp fun o x => ⟨x.1, k _ _ x.2⟩, E.s3.imp fun o x => ⟨x.1, k _ _ x.2⟩⟩

theorem opening01 : opening pw = plainProg pw.main.scope.names := by kernel_rfl
theorem fence01 (s : Shared) : fenceModules? pw s = some s := by kernel_rfl
theorem boot_ns (P : Params) : ((boot_heap P).isNs mainGlobals && (#[] : Array GenState).size == 0) = true := by kernel_rfl
theorem boot_ann (P : Params) : (boot_heap P).nsMap mainGlobals "__annotations__" = some (.ref 6) := by kernel_rfl

theorem topFrom_of {p : Program} {w : World} {N m : Nat} {ann : Option Value} {s₀ s₁ : Shared} (h1 : (s₀.heap.isNs mainGlobals && s₀.gens.size == 0) = true) (h2 : s₀.heap.objs.size = m) (h3 : s₀.heap.nsMap mainGlobals "__annotations__" = ann)
    (r : topRun treeTable p w m ann N s₀ (topStub p) = some s₁) (c : (staticsOk (importedModules p.main.body) s₀.heap s₁.heap && namesBound p s₁.heap && gensDone s₁ && laidKept s₀.heap s₁.heap) = true) : topFrom treeTable p w N s₀ = some s₁ := by
  subst h2 h3
  unfold topFrom
  rw [h1]
  dsimp only
  rw [r]
  show (match staticsOk (importedModules p.main.body) s₀.heap s₁.heap && namesBound p s₁.heap && gensDone s₁ && laidKept s₀.heap s₁.heap with | true => some s₁ | false => none) = some s₁
  rw [c]
theorem openEnds_of {p : Program} {w : World} {N : Nat} {s₀ s₁ : Shared} (e : fencedOpening treeTable p w N = some s₀) (h : topFrom treeTable p w N s₀ = some s₁) : openEnds treeTable p w N = some s₁ := by
  unfold openEnds
  rw [e]
  exact h
theorem boot_size (P : Params) : (boot_heap P).objs.size = 11 := rfl
theorem run_up_to {p : Program} {w : World} {n₀ : Nat} {ann : Option Value} {N M : Nat} {s r : Shared} {t : Thread} (h : topRun treeTable p w n₀ ann N s t = some r) (le : N ≤ M) : topRun treeTable p w n₀ ann M s t = some r := by
  have := topRun_mono (M - N) _ _ _ _ h
  rwa [show N + (M - N) = M by omega] at this

theorem ends01 (w : World) : ∃ s, openEnds treeTable pw w 26000 = some s ∧ openSeen q01 loose01 (importedModules pw.main.body) (fun _ => true) true s = openGood q01 loose01 ∧ EndOk w s.heap := by
  obtain ⟨⟨h, gs, d, k, os⟩, e, e'⟩ := Option.map_eq_some_iff.mp (boot_open (p := pw) (N := 26000) opening01 (by decide) fence01 w)
  simp only [Prod.mk.injEq] at e'
  obtain ⟨e1, e2, e3, e4⟩ := e'
  rw [e1, e2, e3, e4] at e
  obtain ⟨N, H, hN, r, c1, c2, E⟩ := run_end w os
  exact ⟨_, openEnds_of e (topFrom_of (boot_ns w.params) (boot_size w.params) (boot_ann w.params) (run_up_to r hN) c1), c2, E⟩

noncomputable def Yf01 (s : Shared) : Addr → Option Obj := fun a => s.heap.get? a
noncomputable def Ya01 (w : World) : Addr → Option Obj := ((openEnds treeTable pw w 26000).map Yf01).getD fun _ => none
theorem left01 : LeftO pw q01 loose01 (fun _ => true) Yf01 Ya01 26000 := fun w => by
  obtain ⟨s, e, c, _⟩ := ends01 w
  unfold Ya01
  rw [e]
  show some (_, _) = some (_, _)
  rw [c]; rfl
theorem hY01 (w : World) (s : Shared) (h : Yf01 s = Ya01 w) : EndOk w s.heap := by
  obtain ⟨s', e, _, E⟩ := ends01 w
  unfold Ya01 at h
  rw [e] at h
  exact E.keeps fun b o x => (congrFun h b).trans x
end Mine
end

section
open PySem PySem.W PyProof.Rows
set_option Elab.async false
set_option maxRecDepth 1000000
namespace Mine
theorem anF_inj : ∀ i j, anF i = anF j → i = j := by
  intro i j h
  have names : ∀ k : Fin 19, ∀ l : Fin 19, anames.getD k.1 "?" = anames.getD l.1 "?" → k = l := by decide +kernel
  have far : ∀ k : Fin 19, (anames.getD k.1 "?").cps.toList.head? ≠ some 63 := by decide +kernel
  have hd : ∀ n : Nat, 19 ≤ n → (txt (List.replicate n 63)).cps.toList.head? = some 63 := by
    intro n hn
    obtain ⟨m, rfl⟩ : ∃ m, n = m + 1 := ⟨n - 1, by omega⟩
    simp [txt, List.replicate_succ]
  unfold anF at h
  by_cases hi : i < 19 <;> by_cases hj : j < 19
  · rw [if_pos hi, if_pos hj] at h
    have := names ⟨i, hi⟩ ⟨j, hj⟩ h
    exact congrArg Fin.val this
  · rw [if_pos hi, if_neg hj] at h
    exact absurd ((congrArg (fun x => x.cps.toList.head?) h).trans (hd j (by omega))) (far ⟨i, hi⟩)
  · rw [if_neg hi, if_pos hj] at h
    exact absurd ((congrArg (fun x => x.cps.toList.head?) h.symm).trans (hd i (by omega))) (far ⟨j, hj⟩)
  · rw [if_neg hi, if_neg hj] at h
    have := congrArg List.length (txt_inj h)
    simpa using this
noncomputable def N1 : Names := ⟨anF, anF_inj⟩

theorem goodset_str {w : World} {xs : List (Str × Tok)} {o : Obj} (g : GoodSet w xs o) (L : List (List Nat)) (hL : ∀ k : Str, (∃ y ∈ xs, y.1 = k) ↔ k.cps.toList ∈ L) : StrSetOf w o (member L) xs.length := by
  obtain ⟨es, ep, t, rfl, hf, hp⟩ := g
  intro prog
  have mem : ∀ e ∈ es.toList, ∃ y ∈ xs, e = itemOf w y := fun e he => by
    obtain ⟨y, hy, rfl⟩ := List.mem_map.mp (hp.mem_iff.mp he); exact ⟨y, hy, rfl⟩
  refine ⟨⟨rfl, rfl, rfl⟩, es, ep, t, rfl, fun e he => ?_, fun k => ?_, ?_, hf⟩
  · obtain ⟨y, _, rfl⟩ := mem e he
    exact ⟨⟨y.1, strKind_is _ _ _ _, rfl⟩, rfl⟩
  · unfold member
    rw [decide_eq_true_eq, ← hL k]
    constructor
    · rintro ⟨y, hy, rfl⟩
      exact ⟨itemOf w y, hp.mem_iff.mpr (List.mem_map_of_mem hy), strKind_is _ _ _ _⟩
    · rintro ⟨e, he, hk⟩
      obtain ⟨y, hy, rfl⟩ := mem e he
      exact ⟨y, hy, Value.isStrOf_inj (.str y.1 y.2) y.1 k (strKind_is prog w y.1 y.2) hk⟩
  · have := hp.length_eq
    rw [Array.length_toList, List.length_map] at this
    exact this
end Mine
end

section
open PySem PySem.W PyProof.Rows
set_option Elab.async false
set_option maxRecDepth 1000000
namespace Mine
/-- what the call reads -/
noncomputable def K1 (P : Params) (R : Rest) : Frag := setO R 232 :: setO R 233 :: setO R 234 :: kobs P
theorem f_get (P : Params) (R : Rest) : plainGet (K1 P R) 199 "" = true := by kernel_rfl
theorem f_set (P : Params) (R : Rest) : findIn (K1 P R) (.ref 199) "__setattr__" = some (some (.builtin "object.__setattr__")) := by kernel_rfl
theorem f_over (P : Params) (R : Rest) : plainOver (K1 P R) 199 = true := by kernel_rfl
theorem f_dict (P : Params) (R : Rest) : hasDictIn (K1 P R) 199 = true := by kernel_rfl
theorem f_attr (P : Params) (R : Rest) : ((List.range 6).all fun a => (findIn (K1 P R) (.ref 199) (anF a)).any (noGet (K1 P R)) && takerIn (K1 P R) 199 (anF a) == some none) = true := by kernel_rfl
noncomputable def mAddr (m : Nat) : Addr := [42, 49, 56, 63, 70, 77, 84, 91, 98, 105, 112, 119, 126].getD (m - 6) 0
theorem f_meth (P : Params) (R : Rest) : (([6, 7, 8, 9, 10, 11, 12, 13, 14, 15, 16, 17, 18] : List Nat).all fun m => findIn (K1 P R) (.ref 199) (anF m) == some (some (.ref (mAddr m))) && typeIn (K1 P R) (.ref (mAddr m)) == some (.type "function")) = true := by kernel_rfl
theorem f_init (P : Params) (R : Rest) : findIn (K1 P R) (.ref 199) "__init__" = some (some (.ref 35)) ∧ typeIn (K1 P R) (.ref 35) = some (.type "function") := ⟨by kernel_rfl, by kernel_rfl⟩
theorem f_makes (P : Params) (R : Rest) : makesIn (K1 P R) 199 = true := by kernel_rfl
theorem f_keep (P : Params) (R : Rest) : keepIn (K1 P R) (.ref 199) = true := by kernel_rfl
theorem f_reads (P : Params) (R : Rest) : readsIn (K1 P R) 706 (.type "type") = true := by kernel_rfl
theorem f_gv (P : Params) (R : Rest) : findCls (K1 P R) (.ref 706) (.type "type") "g_v" = some (.val (.ref 232)) := by kernel_rfl
theorem f_gw (P : Params) (R : Rest) : findCls (K1 P R) (.ref 706) (.type "type") "g_v_WXY" = some (.val (.ref 233)) := by kernel_rfl
theorem f_ga (P : Params) (R : Rest) : findCls (K1 P R) (.ref 706) (.type "type") "g_aeo" = some (.val (.str "aeo" 462)) := by kernel_rfl
theorem f_gl (P : Params) (R : Rest) : findCls (K1 P R) (.ref 706) (.type "type") "g_valid_LI" = some (.val (.ref 234)) := by kernel_rfl
end Mine
end

section
open PySem PySem.W PyProof.Rows
set_option Elab.async false
set_option maxRecDepth 1000000
namespace Mine

noncomputable def listVs (o : Obj) : List Value := match o.data with | .seq a _ => a.toList | _ => []
noncomputable def okStrs : List Value → List Nat → Bool
  | [], [] => true
  | .str x _ :: r, c :: l => x == txt [c] && decide (c < 0x110000) && okStrs r l
  | _, _ => false
theorem reps_strs {w : World} {φ : Phi} {h : Heap} : ∀ {vs : List Value} {l : List Nat}, okStrs vs l = true → Reps w φ h (signsV l) vs
  | [], [], _ => by simp [signsV, Reps]
  | .str x t :: r, c :: l, e => by
    simp only [okStrs, Bool.and_eq_true, beq_iff_eq, decide_eq_true_eq] at e
    obtain ⟨⟨rfl, hc⟩, e⟩ := e
    have i := reps_strs (w := w) (φ := φ) (h := h) e
    simp only [signsV, List.map_cons] at i ⊢
    rw [Reps]
    refine ⟨_, _, rfl, ?_, i⟩
    rw [Rep]
    exact ⟨⟨by simp [big], fun y hy => by simp at hy; omega⟩, t, rfl⟩
noncomputable def isList (o : Obj) : Prop := o = ⟨.type "list", none, .seq (listVs o).toArray 0, #[]⟩
theorem rep_strs {w : World} {h : Heap} {a : Addr} {o : Obj} {l : List Nat} (e : h.get? a = some o) (ho : isList o) (hk : okStrs (listVs o) l = true) (hl : l.length ≤ 100) : Rep w ⟨[], []⟩ h (.list (signsV l)) (.ref a) := by
  rw [Rep]
  refine ⟨by simp [signsV, big]; omega, a, listVs o, 0, rfl, by simp [muts], ?_, reps_strs hk⟩
  rw [e]; exact congrArg some ho

theorem il709 (P : Params) : isList (k_709 P) := by unfold isList; kernel_rfl
theorem il710 (P : Params) : isList (k_710 P) := by unfold isList; kernel_rfl
theorem il711 (P : Params) : isList (k_711 P) := by unfold isList; kernel_rfl
theorem il712 (P : Params) : isList (k_712 P) := by unfold isList; kernel_rfl
theorem il713 (P : Params) : isList (k_713 P) := by unfold isList; kernel_rfl
theorem il714 (P : Params) : isList (k_714 P) := by unfold isList; kernel_rfl
theorem ok709 (P : Params) : okStrs (listVs (k_709 P)) sgns = true := by kernel_rfl
theorem ok710 (P : Params) : okStrs (listVs (k_710 P)) own0 = true := by kernel_rfl
theorem ok711 (P : Params) : okStrs (listVs (k_711 P)) own1 = true := by kernel_rfl
theorem ok712 (P : Params) : okStrs (listVs (k_712 P)) own2 = true := by kernel_rfl
theorem ok713 (P : Params) : okStrs (listVs (k_713 P)) own3 = true := by kernel_rfl
theorem vs714 (P : Params) : listVs (k_714 P) = [.ref 710, .ref 711, .ref 712, .ref 713] := by kernel_rfl

/-- a global's value, as the main dict has it -/
noncomputable def mainVal (P : Params) (n : Str) : Option Value := match (k_3 P).data with | .dict es _ => nsFind es n | _ => none
theorem main_isNs (P : Params) (h : Heap) (e : h.get? 3 = some (k_3 P)) : h.isNs 3 = true := by
  unfold Heap.isNs
  rw [e]
  kernel_rfl
theorem main_map (P : Params) (h : Heap) (e : h.get? 3 = some (k_3 P)) (n : Str) : h.nsMap 3 n = mainVal P n := by
  unfold Heap.nsMap
  rw [e]
  rfl
noncomputable def fAddr (f : Nat) : Addr := [719, 726, 731, 738, 743, 750, 757, 764, 769].getD f 0
theorem m_fns (P : Params) : ((List.range 9).all fun f => mainVal P (P1.fns.getD f "") == some (.ref (fAddr f))) = true := by kernel_rfl
theorem m_cls (P : Params) : mainVal P "BaseStemmer" = some (.ref 199) ∧ mainVal P "EnglishStemmer" = some (.ref 706) ∧ mainVal P "_law_signs" = some (.ref 709) ∧ mainVal P "_law_own" = some (.ref 714) := ⟨by kernel_rfl, by kernel_rfl, by kernel_rfl, by kernel_rfl⟩
theorem m_none (P : Params) : ((["bool", "len", "min", "max", "isinstance", "ord", "chr", "range", "set", "enumerate"] : List Str).all fun n => (mainVal P n).isNone) = true := by kernel_rfl
theorem b_vals : bootBuiltins "bool" = some (.type "bool") ∧ bootBuiltins "range" = some (.type "range") ∧ bootBuiltins "set" = some (.type "set") ∧ bootBuiltins "enumerate" = some (.type "enumerate") := ⟨by kernel_rfl, by kernel_rfl, by kernel_rfl, by kernel_rfl⟩
theorem b_fns : ∀ b : Bi, bootBuiltins b.nm = some (.builtin b.id) := by intro b; cases b <;> kernel_rfl
end Mine
end

section
open PySem PySem.W PyProof.Rows
set_option Elab.async false
set_option maxRecDepth 1000000
namespace Mine

noncomputable def plainD (k : Nat) (d : Option (Arguments × List Stmt × Scope)) : Bool := match d with
  | some (a, _, _) => a.posonlyargs.isEmpty && a.vararg.isNone && a.kwonlyargs.isEmpty && a.kw_defaults.isEmpty && a.kwarg.isNone && a.defaults.isEmpty && a.args.length == k
  | none => false
theorem plainD_of {k : Nat} {a : Arguments} {b : List Stmt} {sc : Scope} (h : plainD k (some (a, b, sc)) = true) : a = plainParams a.args ∧ a.args.length = k := by
  obtain ⟨po, ar, va, ko, kd, kw, df⟩ := a
  simp only [plainD, Bool.and_eq_true, List.isEmpty_iff, Option.isNone_iff_eq_none, beq_iff_eq] at h
  obtain ⟨⟨⟨⟨⟨⟨rfl, rfl⟩, rfl⟩, rfl⟩, rfl⟩, rfl⟩, hl⟩ := h
  exact ⟨rfl, hl⟩

section
variable {w : World} {h : Heap} {K : Frag} {n : Nat} {G : Sg}
theorem fnobj_of {d : Option (Arguments × List Stmt × Scope)} {f cd : Addr} {nm qual : Str} {pm : Value} {v : List Str} {nv k : Nat} {body : List S} (hl : K.lookup f = some (fobj d nm qual pm cd)) (hc : codeIn K (.ref cd) qual = true) (hd : plainD k d = true) (hk : chk1 d v nv body = true) :
    ∃ a b sc, FnObj K f a b sc ∧ a.length = k ∧ okFn P1 a v sc nv body b = true := by
  cases d with
  | none => cases hd
  | some d =>
    obtain ⟨a, b, sc⟩ := d
    obtain ⟨hp, hn⟩ := plainD_of hd
    refine ⟨a.args, b, sc, ⟨.type "function", none, none, #[], nm, qual, .none, .none, pm, .ref cd, .none, ?_, hc⟩, hn, hk⟩
    rw [hl]
    unfold fobj
    dsimp only
    rw [← hp]
    rfl
theorem mk_fn (hP : G.P = P1) (B : Base G pw w N1 h K mainGlobals builtinsNs n) (hlim : h.NoLimit) {d : Option (Arguments × List Stmt × Scope)} {f cd : Addr} {nm qual : Str} {pm : Value} {v : List Str} {nv k : Nat} {body : List S}
    (hl : K.lookup f = some (fobj d nm qual pm cd)) (hc : codeIn K (.ref cd) qual = true) (hd : plainD k d = true) (hk : chk1 d v nv body = true) : FnOk pw w N1 h (n + 1) (.ref f) (runB G fuel k nv body) := by
  obtain ⟨a, b, sc, fo, rfl, ok⟩ := fnobj_of hl hc hd hk
  exact fn_ok B (long_ok B) hlim fo (by rw [hP]; exact ok) fun xs σ r σ' e => ⟨fuel, e⟩
theorem mk_pure (hP : G.P = P1) (B : Base G pw w N1 h K mainGlobals builtinsNs n) (hlim : h.NoLimit) {d : Option (Arguments × List Stmt × Scope)} {f cd : Addr} {nm qual : Str} {pm : Value} {v : List Str} {nv k : Nat} {body : List S}
    (hl : K.lookup f = some (fobj d nm qual pm cd)) (hc : codeIn K (.ref cd) qual = true) (hd : plainD k d = true) (hk : chk1 d v nv body = true) (hb : pureB body = true) : PureOk pw w N1 h (n + 1) (.ref f) (pureM G fuel k nv body) := by
  obtain ⟨a, b, sc, fo, rfl, ok⟩ := fnobj_of hl hc hd hk
  exact pure_ok B (long_ok B) hlim fo (by rw [hP]; exact ok) hb fun xs r σ e => ⟨fuel, pureM_run σ e⟩
theorem no_fn {f : Value} {M : Sem1} (hM : ∀ xs σ, M xs σ = none) : FnOk pw w N1 h n f M := fun A s σ σ' φ xs vs r R _ _ _ e => by rw [hM] at e; cases e
theorem no_pure {f : Value} {M : List V → Option V} (hM : ∀ xs, M xs = none) : PureOk pw w N1 h n f M := fun A s σ φ xs vs r R _ _ _ e => by rw [hM] at e; cases e
end

/-- what the call stands on -/
structure Ready (w : World) (h : Heap) (R : Rest) (mb : Str → Option Value) : Prop where
  X : (K1 w.params R).In h
  main : h.get? 3 = some (k_3 w.params)
  lim : h.NoLimit
  b : h.Ns builtinsNs mb
  bv : ∀ x : Str, x ≠ "__name__" → mb x = bootBuiltins x
  s1 : StrSetOf w (setO R 232).2 (member (own0.map fun c => [c])) 6
  s2 : StrSetOf w (setO R 233).2 (member (own1.map fun c => [c])) 9
  s3 : StrSetOf w (setO R 234).2 (member (own3.map fun c => [c])) 10

section
variable {w : World} {h : Heap} {R : Rest} {mb : Str → Option Value}
theorem Ready.ns (Y : Ready w h R mb) : h.Ns mainGlobals (mainVal w.params) := by
  have := Heap.Ns.of_isNs (main_isNs w.params h Y.main)
  rw [show h.nsMap 3 = mainVal w.params from funext (main_map w.params h Y.main)] at this
  exact this
theorem Ready.own (Y : Ready w h R mb) {n : Str} {u : Value} (e : mainVal w.params n = some u) : Glob h mainGlobals builtinsNs n u := ⟨_, _, Y.ns, Y.b, .inl e⟩
theorem Ready.built (Y : Ready w h R mb) {n : Str} {u : Value} (hn : n ∈ (["bool", "len", "min", "max", "isinstance", "ord", "chr", "range", "set", "enumerate"] : List Str)) (e : bootBuiltins n = some u) : Glob h mainGlobals builtinsNs n u := by
  refine ⟨_, _, Y.ns, Y.b, .inr ⟨Option.isNone_iff_eq_none.mp (List.all_eq_true.mp (m_none w.params) n hn), ?_⟩⟩
  rw [Y.bv n (fun q => by subst q; revert hn; decide +kernel)]
  exact e
theorem Ready.at (Y : Ready w h R mb) {a : Addr} {o : Obj} (e : (K1 w.params R).lookup a = some o) : h.get? a = some o := Y.X a o e
theorem rep_sset {a : Addr} {o : Obj} {l : List Nat} {n : Nat} (e : h.get? a = some o) (s : StrSetOf w o (member (l.map fun c => [c])) n) (hn : n < 4096) : Rep w ⟨[], []⟩ h (setOf l) (.ref a) := by
  rw [Rep]
  exact ⟨a, o, n, rfl, by simp [muts], e, s, hn⟩

theorem fAddr_lt : ∀ f, f < 9 → f ∈ List.range 9 := fun f hf => List.mem_range.mpr hf
theorem isfn_of {a : Addr} {o : Obj} (e : h.get? a = some o) (ho : ∃ fd, o.data = .func fd) : IsFn h a := by
  obtain ⟨fd, hd⟩ := ho
  exact ⟨o, fd, e, hd⟩
noncomputable def isFuncB (o : Option Obj) : Bool := match o with | some ⟨_, _, .func _, _⟩ => true | _ => false
theorem isFuncB_of (Y : Ready w h R mb) {a : Addr} (e : isFuncB ((K1 w.params R).lookup a) = true) : IsFn h a := by
  cases q : (K1 w.params R).lookup a with
  | none => rw [q] at e; cases e
  | some o =>
    rw [q] at e
    obtain ⟨c, d, dt, sl⟩ := o
    cases dt with
    | func fd => exact ⟨_, fd, Y.at q, rfl⟩
    | _ => cases e
theorem f_funcs (P : Params) (R : Rest) : (([35] ++ (List.range 9).map fAddr ++ ([6, 7, 8, 9, 10, 11, 12, 13, 14, 15, 16, 17, 18] : List Nat).map mAddr).all fun a => isFuncB ((K1 P R).lookup a)) = true := by kernel_rfl

theorem base01 {G : Sg} (hP : G.P = P1) {n : Nat} (Y : Ready w h R mb) (fns : ∀ f, f < 9 → FnOk pw w N1 h n (.ref (fAddr f)) (G.Φ f) ∧ PureOk pw w N1 h n (.ref (fAddr f)) (G.Ψ f))
    (mts : ∀ m ∈ ([6, 7, 8, 9, 10, 11, 12, 13, 14, 15, 16, 17, 18] : List Nat), FnOk pw w N1 h n (.ref (mAddr m)) (G.Φ (m + 10))) (ini : ∃ k, k + 1 ≤ n ∧ FnOk pw w N1 h k (.ref 35) (G.Φ 29)) : Base G pw w N1 h (K1 w.params R) mainGlobals builtinsNs n where
  an := fun i => by rw [hP]; rfl
  X := Y.X
  gl := fun i g e => by
    rw [hP] at e
    match i, e with
    | 0, e => cases e; exact ⟨_, Y.own (m_cls w.params).2.2.1, rep_strs (Y.at (o := k_709 w.params) rfl) (il709 _) (ok709 _) (by decide)⟩
    | 1, e =>
      cases e
      refine ⟨_, Y.own (m_cls w.params).2.2.2, ?_⟩
      show Rep w ⟨[], []⟩ h (.list [.list (signsV own0), .list (signsV own1), .list (signsV own2), .list (signsV own3)]) (.ref 714)
      rw [Rep]
      refine ⟨by decide, 714, listVs (k_714 w.params), 0, rfl, by simp [muts], (Y.at (o := k_714 w.params) rfl).trans (congrArg some (il714 _)), ?_⟩
      rw [vs714]
      rw [Reps]
      refine ⟨_, _, rfl, rep_strs (Y.at (o := k_710 w.params) rfl) (il710 _) (ok710 _) (by decide), ?_⟩
      rw [Reps]
      refine ⟨_, _, rfl, rep_strs (Y.at (o := k_711 w.params) rfl) (il711 _) (ok711 _) (by decide), ?_⟩
      rw [Reps]
      refine ⟨_, _, rfl, rep_strs (Y.at (o := k_712 w.params) rfl) (il712 _) (ok712 _) (by decide), ?_⟩
      rw [Reps]
      refine ⟨_, _, rfl, rep_strs (Y.at (o := k_713 w.params) rfl) (il713 _) (ok713 _) (by decide), ?_⟩
      rw [Reps]
    | 2, e => cases e; exact ⟨_, Y.built (by decide +kernel) b_vals.1, by rw [Rep]⟩
    | i + 3, e => cases e
  bi := fun b => Y.built (by cases b <;> decide +kernel) (b_fns b)
  rg := Y.built (by decide +kernel) b_vals.2.1
  st := Y.built (by decide +kernel) b_vals.2.2.1
  en := Y.built (by decide +kernel) b_vals.2.2.2
  cat := fun k q e => by
    rw [hP] at e
    match k, e with
    | 0, e => cases e; exact ⟨.type "type", _, Y.own (m_cls w.params).2.1, f_reads _ _, f_gv _ _, rfl, rep_sset (Y.at (o := (setO R 232).2) rfl) Y.s1 (by decide)⟩
    | 1, e => cases e; exact ⟨.type "type", _, Y.own (m_cls w.params).2.1, f_reads _ _, f_gw _ _, rfl, rep_sset (Y.at (o := (setO R 233).2) rfl) Y.s2 (by decide)⟩
    | 2, e =>
      cases e
      refine ⟨.type "type", _, Y.own (m_cls w.params).2.1, f_reads _ _, f_ga _ _, rfl, ?_⟩
      show Rep w ⟨[], []⟩ h (.str own2) (.str "aeo" 462)
      rw [Rep]
      exact ⟨⟨by decide, by decide⟩, 462, congrArg (Value.str · 462) (by decide +kernel)⟩
    | 3, e => cases e; exact ⟨.type "type", _, Y.own (m_cls w.params).2.1, f_reads _ _, f_gl _ _, rfl, rep_sset (Y.at (o := (setO R 234).2) rfl) Y.s3 (by decide)⟩
    | k + 4, e => cases e
  pc := fun C hC => by
    rw [hP] at hC ⊢
    have : C = 199 := by simpa [P1] using hC
    subst this
    refine ⟨fun _ => f_get _ _, f_set _ _, f_over _ _, f_dict _ _, fun a ha => ?_⟩
    have ha' : a ∈ List.range 6 := by
      have : a ∈ ([0, 1, 2, 3, 4, 5] : List Nat) := ha
      simp only [List.mem_cons, List.not_mem_nil, or_false] at this
      exact List.mem_range.mpr (by omega)
    have := List.all_eq_true.mp (f_attr w.params R) a ha'
    rw [Bool.and_eq_true, Option.any_eq_true, beq_iff_eq] at this
    exact ⟨this.1, this.2⟩
  fn := fun f nm e => by
    rw [hP] at e
    have hf : f < 9 := by
      rcases Nat.lt_or_ge f 9 with q | q
      · exact q
      · rw [List.getElem?_eq_none (by exact q)] at e; cases e
    have := List.all_eq_true.mp (m_fns w.params) f (List.mem_range.mpr hf)
    rw [beq_iff_eq, List.getD_eq_getElem?_getD, e] at this
    have fl := List.all_eq_true.mp (f_funcs w.params R) (fAddr f) (by
      refine List.mem_append_left _ (List.mem_append_right _ (List.mem_map_of_mem (List.mem_range.mpr hf))))
    exact ⟨fAddr f, Y.own this, isFuncB_of Y fl, fns f hf⟩
  mt := fun C m f e => by
    rw [hP] at e
    have hm : C = 199 ∧ m ∈ ([6, 7, 8, 9, 10, 11, 12, 13, 14, 15, 16, 17, 18] : List Nat) ∧ f = m + 10 := by
      unfold Pg.meth P1 at e
      obtain ⟨⟨c, m', f'⟩, hx, rfl⟩ := Option.map_eq_some_iff.mp e
      have hp := List.find?_some hx
      have hmem := List.mem_of_find?_eq_some hx
      simp only [Bool.and_eq_true, beq_iff_eq] at hp
      obtain ⟨rfl, rfl⟩ := hp
      have all : ∀ x ∈ P1.mt, x.1 = 199 ∧ x.2.1 ∈ ([6, 7, 8, 9, 10, 11, 12, 13, 14, 15, 16, 17, 18] : List Nat) ∧ x.2.2 = x.2.1 + 10 := by decide
      exact all _ hmem
    obtain ⟨rfl, hm, rfl⟩ := hm
    have := List.all_eq_true.mp (f_meth w.params R) m hm
    rw [Bool.and_eq_true, beq_iff_eq, beq_iff_eq] at this
    have fl := List.all_eq_true.mp (f_funcs w.params R) (mAddr m) (List.mem_append_right _ (List.mem_map_of_mem hm))
    exact ⟨mAddr m, fun _ => f_get _ _, this.1, this.2, isFuncB_of Y fl, mts m hm⟩
  cl := fun k q e => by
    rw [hP] at e
    match k, e with
    | 0, e =>
      cases e
      exact ⟨Y.own (m_cls w.params).1, 35, f_makes _ _, f_keep _ _, (f_init _ _).1, (f_init _ _).2, ini⟩
    | k + 1, e => cases e
end
end Mine
end

section
open PySem PySem.W PyProof.Rows
set_option Elab.async false
set_option maxRecDepth 1000000
namespace Mine
theorem l_42 (P : Params) (R : Rest) : (K1 P R).lookup 42 = some k_42 := by kernel_rfl
theorem c_42 (P : Params) (R : Rest) : codeIn (K1 P R) (.ref 41) "BaseStemmer.set_current" = true := by kernel_rfl
theorem d_42 : plainD 2 (meth "set_current") = true := by decide +kernel
theorem l_49 (P : Params) (R : Rest) : (K1 P R).lookup 49 = some k_49 := by kernel_rfl
theorem c_49 (P : Params) (R : Rest) : codeIn (K1 P R) (.ref 48) "BaseStemmer.get_current" = true := by kernel_rfl
theorem d_49 : plainD 1 (meth "get_current") = true := by decide +kernel
theorem l_56 (P : Params) (R : Rest) : (K1 P R).lookup 56 = some k_56 := by kernel_rfl
theorem c_56 (P : Params) (R : Rest) : codeIn (K1 P R) (.ref 55) "BaseStemmer.copy_from" = true := by kernel_rfl
theorem d_56 : plainD 2 (meth "copy_from") = true := by decide +kernel
theorem l_63 (P : Params) (R : Rest) : (K1 P R).lookup 63 = some k_63 := by kernel_rfl
theorem c_63 (P : Params) (R : Rest) : codeIn (K1 P R) (.ref 62) "BaseStemmer.in_grouping" = true := by kernel_rfl
theorem d_63 : plainD 2 (meth "in_grouping") = true := by decide +kernel
theorem l_70 (P : Params) (R : Rest) : (K1 P R).lookup 70 = some k_70 := by kernel_rfl
theorem c_70 (P : Params) (R : Rest) : codeIn (K1 P R) (.ref 69) "BaseStemmer.go_in_grouping" = true := by kernel_rfl
theorem d_70 : plainD 2 (meth "go_in_grouping") = true := by decide +kernel
theorem l_77 (P : Params) (R : Rest) : (K1 P R).lookup 77 = some k_77 := by kernel_rfl
theorem c_77 (P : Params) (R : Rest) : codeIn (K1 P R) (.ref 76) "BaseStemmer.in_grouping_b" = true := by kernel_rfl
theorem d_77 : plainD 2 (meth "in_grouping_b") = true := by decide +kernel
theorem l_84 (P : Params) (R : Rest) : (K1 P R).lookup 84 = some k_84 := by kernel_rfl
theorem c_84 (P : Params) (R : Rest) : codeIn (K1 P R) (.ref 83) "BaseStemmer.go_in_grouping_b" = true := by kernel_rfl
theorem d_84 : plainD 2 (meth "go_in_grouping_b") = true := by decide +kernel
theorem l_91 (P : Params) (R : Rest) : (K1 P R).lookup 91 = some k_91 := by kernel_rfl
theorem c_91 (P : Params) (R : Rest) : codeIn (K1 P R) (.ref 90) "BaseStemmer.out_grouping" = true := by kernel_rfl
theorem d_91 : plainD 2 (meth "out_grouping") = true := by decide +kernel
theorem l_98 (P : Params) (R : Rest) : (K1 P R).lookup 98 = some k_98 := by kernel_rfl
theorem c_98 (P : Params) (R : Rest) : codeIn (K1 P R) (.ref 97) "BaseStemmer.go_out_grouping" = true := by kernel_rfl
theorem d_98 : plainD 2 (meth "go_out_grouping") = true := by decide +kernel
theorem l_105 (P : Params) (R : Rest) : (K1 P R).lookup 105 = some k_105 := by kernel_rfl
theorem c_105 (P : Params) (R : Rest) : codeIn (K1 P R) (.ref 104) "BaseStemmer.out_grouping_b" = true := by kernel_rfl
theorem d_105 : plainD 2 (meth "out_grouping_b") = true := by decide +kernel
theorem l_112 (P : Params) (R : Rest) : (K1 P R).lookup 112 = some k_112 := by kernel_rfl
theorem c_112 (P : Params) (R : Rest) : codeIn (K1 P R) (.ref 111) "BaseStemmer.go_out_grouping_b" = true := by kernel_rfl
theorem d_112 : plainD 2 (meth "go_out_grouping_b") = true := by decide +kernel
theorem l_119 (P : Params) (R : Rest) : (K1 P R).lookup 119 = some k_119 := by kernel_rfl
theorem c_119 (P : Params) (R : Rest) : codeIn (K1 P R) (.ref 118) "BaseStemmer.eq_s" = true := by kernel_rfl
theorem d_119 : plainD 2 (meth "eq_s") = true := by decide +kernel
theorem l_126 (P : Params) (R : Rest) : (K1 P R).lookup 126 = some k_126 := by kernel_rfl
theorem c_126 (P : Params) (R : Rest) : codeIn (K1 P R) (.ref 125) "BaseStemmer.eq_s_b" = true := by kernel_rfl
theorem d_126 : plainD 2 (meth "eq_s_b") = true := by decide +kernel
theorem l_35 (P : Params) (R : Rest) : (K1 P R).lookup 35 = some k_35 := by kernel_rfl
theorem c_35 (P : Params) (R : Rest) : codeIn (K1 P R) (.ref 34) "BaseStemmer.__init__" = true := by kernel_rfl
theorem d_35 : plainD 1 (meth "__init__") = true := by decide +kernel
theorem l_719 (P : Params) (R : Rest) : (K1 P R).lookup 719 = some k_719 := by kernel_rfl
theorem c_719 (P : Params) (R : Rest) : codeIn (K1 P R) (.ref 718) "_law_group" = true := by kernel_rfl
theorem d_719 : plainD 1 (fn "_law_group") = true := by decide +kernel
theorem l_726 (P : Params) (R : Rest) : (K1 P R).lookup 726 = some k_726 := by kernel_rfl
theorem c_726 (P : Params) (R : Rest) : codeIn (K1 P R) (.ref 725) "_law_text" = true := by kernel_rfl
theorem d_726 : plainD 4 (fn "_law_text") = true := by decide +kernel
theorem l_731 (P : Params) (R : Rest) : (K1 P R).lookup 731 = some k_731 := by kernel_rfl
theorem c_731 (P : Params) (R : Rest) : codeIn (K1 P R) (.ref 730) "_law_mirrored" = true := by kernel_rfl
theorem d_731 : plainD 1 (fn "_law_mirrored") = true := by decide +kernel
theorem l_738 (P : Params) (R : Rest) : (K1 P R).lookup 738 = some k_738 := by kernel_rfl
theorem c_738 (P : Params) (R : Rest) : codeIn (K1 P R) (.ref 737) "_law_one" = true := by kernel_rfl
theorem d_738 : plainD 5 (fn "_law_one") = true := by decide +kernel
theorem l_743 (P : Params) (R : Rest) : (K1 P R).lookup 743 = some k_743 := by kernel_rfl
theorem c_743 (P : Params) (R : Rest) : codeIn (K1 P R) (.ref 742) "_law_go" = true := by kernel_rfl
theorem d_743 : plainD 5 (fn "_law_go") = true := by decide +kernel
theorem l_750 (P : Params) (R : Rest) : (K1 P R).lookup 750 = some k_750 := by kernel_rfl
theorem c_750 (P : Params) (R : Rest) : codeIn (K1 P R) (.ref 749) "_law_equal" = true := by kernel_rfl
theorem d_750 : plainD 4 (fn "_law_equal") = true := by decide +kernel
theorem l_757 (P : Params) (R : Rest) : (K1 P R).lookup 757 = some k_757 := by kernel_rfl
theorem c_757 (P : Params) (R : Rest) : codeIn (K1 P R) (.ref 756) "_law_asked" = true := by kernel_rfl
theorem d_757 : plainD 3 (fn "_law_asked") = true := by decide +kernel
theorem l_764 (P : Params) (R : Rest) : (K1 P R).lookup 764 = some k_764 := by kernel_rfl
theorem c_764 (P : Params) (R : Rest) : codeIn (K1 P R) (.ref 763) "_law_shown" = true := by kernel_rfl
theorem d_764 : plainD 1 (fn "_law_shown") = true := by decide +kernel
theorem l_769 (P : Params) (R : Rest) : (K1 P R).lookup 769 = some k_769 := by kernel_rfl
theorem c_769 (P : Params) (R : Rest) : codeIn (K1 P R) (.ref 768) "law" = true := by kernel_rfl
theorem d_769 : plainD 1 (fn "law") = true := by decide +kernel

section
variable {w : World} {h : Heap} {R : Rest} {mb : Str → Option Value}
theorem low1 (Y : Ready w h R mb) : Base G1 pw w N1 h (K1 w.params R) mainGlobals builtinsNs 1 :=
  base01 rfl Y (fun f hf => ⟨no_fn fun _ _ => rfl, no_pure fun _ => rfl⟩) (fun m hm => no_fn fun _ _ => rfl) ⟨0, Nat.le_refl _, no_fn fun _ _ => rfl⟩
theorem m_16 (Y : Ready w h R mb) : FnOk pw w N1 h 2 (.ref 42) (Φ2 16) := mk_fn rfl (low1 Y) Y.lim (d := meth "set_current") (l_42 _ _) (c_42 _ _) d_42 k1_set_current
theorem m_17 (Y : Ready w h R mb) : FnOk pw w N1 h 2 (.ref 49) (Φ2 17) := mk_fn rfl (low1 Y) Y.lim (d := meth "get_current") (l_49 _ _) (c_49 _ _) d_49 k1_get_current
theorem m_18 (Y : Ready w h R mb) : FnOk pw w N1 h 2 (.ref 56) (Φ2 18) := mk_fn rfl (low1 Y) Y.lim (d := meth "copy_from") (l_56 _ _) (c_56 _ _) d_56 k1_copy_from
theorem m_19 (Y : Ready w h R mb) : FnOk pw w N1 h 2 (.ref 63) (Φ2 19) := mk_fn rfl (low1 Y) Y.lim (d := meth "in_grouping") (l_63 _ _) (c_63 _ _) d_63 k1_in_grouping
theorem m_20 (Y : Ready w h R mb) : FnOk pw w N1 h 2 (.ref 70) (Φ2 20) := mk_fn rfl (low1 Y) Y.lim (d := meth "go_in_grouping") (l_70 _ _) (c_70 _ _) d_70 k1_go_in_grouping
theorem m_21 (Y : Ready w h R mb) : FnOk pw w N1 h 2 (.ref 77) (Φ2 21) := mk_fn rfl (low1 Y) Y.lim (d := meth "in_grouping_b") (l_77 _ _) (c_77 _ _) d_77 k1_in_grouping_b
theorem m_22 (Y : Ready w h R mb) : FnOk pw w N1 h 2 (.ref 84) (Φ2 22) := mk_fn rfl (low1 Y) Y.lim (d := meth "go_in_grouping_b") (l_84 _ _) (c_84 _ _) d_84 k1_go_in_grouping_b
theorem m_23 (Y : Ready w h R mb) : FnOk pw w N1 h 2 (.ref 91) (Φ2 23) := mk_fn rfl (low1 Y) Y.lim (d := meth "out_grouping") (l_91 _ _) (c_91 _ _) d_91 k1_out_grouping
theorem m_24 (Y : Ready w h R mb) : FnOk pw w N1 h 2 (.ref 98) (Φ2 24) := mk_fn rfl (low1 Y) Y.lim (d := meth "go_out_grouping") (l_98 _ _) (c_98 _ _) d_98 k1_go_out_grouping
theorem m_25 (Y : Ready w h R mb) : FnOk pw w N1 h 2 (.ref 105) (Φ2 25) := mk_fn rfl (low1 Y) Y.lim (d := meth "out_grouping_b") (l_105 _ _) (c_105 _ _) d_105 k1_out_grouping_b
theorem m_26 (Y : Ready w h R mb) : FnOk pw w N1 h 2 (.ref 112) (Φ2 26) := mk_fn rfl (low1 Y) Y.lim (d := meth "go_out_grouping_b") (l_112 _ _) (c_112 _ _) d_112 k1_go_out_grouping_b
theorem m_27 (Y : Ready w h R mb) : FnOk pw w N1 h 2 (.ref 119) (Φ2 27) := mk_fn rfl (low1 Y) Y.lim (d := meth "eq_s") (l_119 _ _) (c_119 _ _) d_119 k1_eq_s
theorem m_28 (Y : Ready w h R mb) : FnOk pw w N1 h 2 (.ref 126) (Φ2 28) := mk_fn rfl (low1 Y) Y.lim (d := meth "eq_s_b") (l_126 _ _) (c_126 _ _) d_126 k1_eq_s_b
theorem meths2 (Y : Ready w h R mb) : ∀ m ∈ ([6, 7, 8, 9, 10, 11, 12, 13, 14, 15, 16, 17, 18] : List Nat), FnOk pw w N1 h 2 (.ref (mAddr m)) (Φ2 (m + 10)) := by
  intro m hm
  simp only [List.mem_cons, List.not_mem_nil, or_false] at hm
  rcases hm with rfl | rfl | rfl | rfl | rfl | rfl | rfl | rfl | rfl | rfl | rfl | rfl | rfl
  · exact m_16 Y
  · exact m_17 Y
  · exact m_18 Y
  · exact m_19 Y
  · exact m_20 Y
  · exact m_21 Y
  · exact m_22 Y
  · exact m_23 Y
  · exact m_24 Y
  · exact m_25 Y
  · exact m_26 Y
  · exact m_27 Y
  · exact m_28 Y
theorem p_0 (Y : Ready w h R mb) : PureOk pw w N1 h 2 (.ref 719) (Ψ2 0) := mk_pure rfl (low1 Y) Y.lim (d := fn "_law_group") (l_719 _ _) (c_719 _ _) d_719 k1_law_group (by decide)
theorem p_1 (Y : Ready w h R mb) : PureOk pw w N1 h 2 (.ref 726) (Ψ2 1) := mk_pure rfl (low1 Y) Y.lim (d := fn "_law_text") (l_726 _ _) (c_726 _ _) d_726 k1_law_text (by decide)
theorem p_2 (Y : Ready w h R mb) : PureOk pw w N1 h 2 (.ref 731) (Ψ2 2) := mk_pure rfl (low1 Y) Y.lim (d := fn "_law_mirrored") (l_731 _ _) (c_731 _ _) d_731 k1_law_mirrored (by decide)
theorem p_3 (Y : Ready w h R mb) : PureOk pw w N1 h 2 (.ref 738) (Ψ2 3) := mk_pure rfl (low1 Y) Y.lim (d := fn "_law_one") (l_738 _ _) (c_738 _ _) d_738 k1_law_one (by decide)
theorem low2 (Y : Ready w h R mb) : Base G2 pw w N1 h (K1 w.params R) mainGlobals builtinsNs 2 :=
  base01 rfl Y (fun f hf => by
    match f, hf with
    | 0, _ => exact ⟨no_fn fun _ _ => rfl, p_0 Y⟩
    | 1, _ => exact ⟨no_fn fun _ _ => rfl, p_1 Y⟩
    | 2, _ => exact ⟨no_fn fun _ _ => rfl, p_2 Y⟩
    | 3, _ => exact ⟨no_fn fun _ _ => rfl, p_3 Y⟩
    | 4, _ => exact ⟨no_fn fun _ _ => rfl, no_pure fun _ => rfl⟩
    | 5, _ => exact ⟨no_fn fun _ _ => rfl, no_pure fun _ => rfl⟩
    | 6, _ => exact ⟨no_fn fun _ _ => rfl, no_pure fun _ => rfl⟩
    | 7, _ => exact ⟨no_fn fun _ _ => rfl, no_pure fun _ => rfl⟩
    | 8, _ => exact ⟨no_fn fun _ _ => rfl, no_pure fun _ => rfl⟩
    | f + 9, hf => exact absurd hf (by omega)) (meths2 Y) ⟨0, by decide, no_fn fun _ _ => rfl⟩
theorem i_29 (Y : Ready w h R mb) : FnOk pw w N1 h 3 (.ref 35) (Φ3 29) := mk_fn rfl (low2 Y) Y.lim (d := meth "__init__") (l_35 _ _) (c_35 _ _) d_35 k1_init
theorem s_6 (Y : Ready w h R mb) : FnOk pw w N1 h 3 (.ref 757) (Φ3 6) := mk_fn rfl (low2 Y) Y.lim (d := fn "_law_asked") (l_757 _ _) (c_757 _ _) d_757 k1_law_asked
theorem s_7 (Y : Ready w h R mb) : FnOk pw w N1 h 3 (.ref 764) (Φ3 7) := mk_fn rfl (low2 Y) Y.lim (d := fn "_law_shown") (l_764 _ _) (c_764 _ _) d_764 k1_law_shown
theorem p_4 (Y : Ready w h R mb) : PureOk pw w N1 h 3 (.ref 743) (Ψ3 4) := mk_pure rfl (low2 Y) Y.lim (d := fn "_law_go") (l_743 _ _) (c_743 _ _) d_743 k1_law_go (by decide)
theorem p_5 (Y : Ready w h R mb) : PureOk pw w N1 h 3 (.ref 750) (Ψ3 5) := mk_pure rfl (low2 Y) Y.lim (d := fn "_law_equal") (l_750 _ _) (c_750 _ _) d_750 k1_law_equal (by decide)
theorem low3 (Y : Ready w h R mb) : Base G3 pw w N1 h (K1 w.params R) mainGlobals builtinsNs 4 :=
  base01 rfl Y (fun f hf => by
    match f, hf with
    | 0, _ => exact ⟨no_fn fun _ _ => rfl, (p_0 Y).mono (by decide)⟩
    | 1, _ => exact ⟨no_fn fun _ _ => rfl, (p_1 Y).mono (by decide)⟩
    | 2, _ => exact ⟨no_fn fun _ _ => rfl, (p_2 Y).mono (by decide)⟩
    | 3, _ => exact ⟨no_fn fun _ _ => rfl, (p_3 Y).mono (by decide)⟩
    | 4, _ => exact ⟨no_fn fun _ _ => rfl, (p_4 Y).mono (by decide)⟩
    | 5, _ => exact ⟨no_fn fun _ _ => rfl, (p_5 Y).mono (by decide)⟩
    | 6, _ => exact ⟨(s_6 Y).mono (by decide), no_pure fun _ => rfl⟩
    | 7, _ => exact ⟨(s_7 Y).mono (by decide), no_pure fun _ => rfl⟩
    | 8, _ => exact ⟨no_fn fun _ _ => rfl, no_pure fun _ => rfl⟩
    | f + 9, hf => exact absurd hf (by omega)) (fun m hm => by
      have := meths2 Y m hm
      simp only [List.mem_cons, List.not_mem_nil, or_false] at hm
      rcases hm with rfl | rfl | rfl | rfl | rfl | rfl | rfl | rfl | rfl | rfl | rfl | rfl | rfl <;> exact this.mono (by decide)) ⟨3, by decide, i_29 Y⟩
theorem law_fn (Y : Ready w h R mb) : FnOk pw w N1 h 5 (.ref 769) (runB G3 fuel 1 26 b_law) := mk_fn rfl (low3 Y) Y.lim (d := fn "law") (l_769 _ _) (c_769 _ _) d_769 k1_law
end
end Mine
end

section
open PySem PySem.W PyProof.Rows
set_option Elab.async false
set_option maxRecDepth 1000000
namespace Mine

theorem lookup_in {a : Nat} {o : Obj} : ∀ {l : List (Nat × Obj)}, l.lookup a = some o → (a, o) ∈ l
  | (k, v) :: r, h => by
    rw [List.lookup_cons] at h
    cases q : a == k with
    | true =>
      rw [q] at h
      obtain rfl := beq_iff_eq.mp q
      cases h; exact List.mem_cons_self
    | false => rw [q] at h; exact List.mem_cons_of_mem _ (lookup_in h)
theorem ns_same {h : Heap} {a : Addr} {m m' : Str → Option Value} (x : h.Ns a m) (y : h.Ns a m') : m = m' := by
  obtain ⟨o, es, ep, e1, d1, _, f1⟩ := x
  obtain ⟨o', es', ep', e2, d2, _, f2⟩ := y
  rw [e1] at e2; cases e2
  rw [d1] at d2; cases d2
  funext n
  rw [← f1, f2]
theorem txt_list (k : Str) (c : Nat) : txt [c] = k ↔ k.cps.toList = [c] := by
  constructor
  · rintro rfl; simp [txt]
  · intro e
    obtain ⟨cps⟩ := k
    simp only at e
    simp only [txt, ← e]
theorem mem_signs (k : Str) (l : List Nat) : k ∈ l.map (fun c => txt [c]) ↔ k.cps.toList ∈ l.map fun c => [c] := by
  simp only [List.mem_map]
  constructor
  · rintro ⟨c, hc, e⟩; exact ⟨c, hc, ((txt_list k c).mp e).symm⟩
  · rintro ⟨c, hc, e⟩; exact ⟨c, hc, (txt_list k c).mpr e.symm⟩
theorem set_of {w : World} {xs : List Str} {tk : Nat} {o : Obj} (g : GoodSet w (marked xs tk) o) (l : List Nat) (hx : ∀ k, k ∈ xs ↔ k ∈ l.map fun c => txt [c]) : StrSetOf w o (member (l.map fun c => [c])) xs.length := by
  have hl : (marked xs tk).length = xs.length := by
    have := congrArg List.length (marked_fst xs tk)
    rwa [List.length_map] at this
  rw [← hl]
  refine goodset_str g _ fun k => ?_
  rw [← mem_signs, ← hx k]
  have := marked_fst xs tk
  constructor
  · rintro ⟨y, hy, rfl⟩; rw [← this]; exact List.mem_map_of_mem hy
  · intro hk; rw [← this] at hk; obtain ⟨y, hy, e⟩ := List.mem_map.mp hk; exact ⟨y, hy, e⟩
theorem xs1_l : (setSt 1).xs = own0.map fun c => txt [c] := by rw [xs1_is]; decide +kernel
theorem xs2_l : (setSt 2).xs = ([89, 97, 101, 105, 111, 117, 119, 120, 121] : List Nat).map fun c => txt [c] := by rw [xs2_is]; decide +kernel
theorem xs3_l : (setSt 3).xs = own3.map fun c => txt [c] := by rw [xs3_is]; decide +kernel

theorem perm1 : (([89, 97, 101, 105, 111, 117, 119, 120, 121] : List Nat).map fun c => [c]).Perm (own1.map fun c => [c]) := by decide
theorem ready_of {w : World} {h : Heap} {mb : Str → Option Value} (E : EndOk w h) (lim : h.NoLimit) (b : h.Ns builtinsNs mb) (bv : ∀ x : Str, x ≠ "__name__" → mb x = bootBuiltins x) : ∃ R, Ready w h R mb := by
  obtain ⟨o1, g1, e1⟩ := E.s1
  obtain ⟨o2, g2, e2⟩ := E.s2
  obtain ⟨o3, g3, e3⟩ := E.s3
  have t1 := set_of g1 own0 (fun k => by rw [xs1_l])
  have t2 := set_of g2 own1 (fun k => by
    rw [xs2_l, mem_signs, mem_signs]
    exact perm1.mem_iff)
  have t3 := set_of g3 own3 (fun k => by rw [xs3_l])
  rw [show (setSt 1).xs.length = 6 by rw [xs1_is]; rfl] at t1
  rw [show (setSt 2).xs.length = 9 by rw [xs2_is]; rfl] at t2
  rw [show (setSt 3).xs.length = 10 by rw [xs3_is]; rfl] at t3
  obtain ⟨es1, ep1, st1, rfl⟩ := good_form g1
  obtain ⟨es2, ep2, st2, rfl⟩ := good_form g2
  obtain ⟨es3, ep3, st3, rfl⟩ := good_form g3
  refine ⟨⟨fun _ => default, fun _ => none, fun _ => default, fun _ => #[], fun a => if a = 232 then es1 else if a = 233 then es2 else es3, fun a => if a = 232 then ep1 else if a = 233 then ep2 else ep3, fun a => if a = 232 then st1 else if a = 233 then st2 else st3⟩, ?_, ?_, lim, b, bv, t1, t2, t3⟩
  · intro a o e
    have m := lookup_in e
    unfold K1 at m
    rcases List.mem_cons.mp m with q | m
    · cases q; exact e1
    rcases List.mem_cons.mp m with q | m
    · cases q; exact e2
    rcases List.mem_cons.mp m with q | m
    · cases q; exact e3
    exact E.K (a, o) m
  · have : (kobs w.params).lookup 3 = some (k_3 w.params) := by kernel_rfl
    exact E.K (3, k_3 w.params) (lookup_in this)

theorem reps_ints {w : World} {P : Params} {φ : Phi} {h : Heap} : ∀ {zs : List Int} {vs : List Value}, WellAll P h vs (zs.map .int) → Reps w φ h (zs.map .int) vs
  | [], _, x => by cases x; simp [Reps]
  | z :: zs, _, x => by
    cases x with
    | cons a b =>
      cases a with
      | int i t =>
        rw [List.map_cons, Reps]
        exact ⟨_, _, rfl, by rw [Rep]; exact ⟨t, rfl⟩, reps_ints b⟩

theorem pre63 {xs : List WData} (h : PySem.Challenge.rw_is0019_01.row.pre.holds [] { args := [.list xs] } = true) : xs.length ≤ 63 := by
  have h' : ((WTm.and (.not (.lt (.lit (.int 63)) (.len (.arg 0)))) (.lit (.bool true))).holds [] { args := [.list xs] }) = true := h
  by_cases q : xs.length ≤ 63
  · exact q
  · have l : less? (.int 63) (.int (xs.length : Int)) = some true := by
      show some (decide ((63 : Int) < (xs.length : Int))) = some true
      rw [decide_eq_true (by omega)]
    simp [WTm.holds, WTm.value, l] at h'
theorem law_val (P : Params) : mainVal P "law" = some (.ref 769) := by kernel_rfl

theorem walk01 (d : DefRec) (kwd : List (Str × Expr)) (hdef : defOf q01 "law" = some (d, kwd)) : WalkO q01 loose01 (fun _ _ => True) EndOk PySem.Challenge.rw_is0019_01.row.toRowW d kwd fun f vs => PySem.call f vs := by
  intro w s₀ s₁ mg mb G Y a o pm cd doc dV kV ho hd hcd hD hmg hg args vals as hpre hlay hrd hwl hlo
  obtain ⟨R, Z⟩ := ready_of Y G.T.nolimit G.T.b G.T.builtins
  have e := ns_same G.T.g Z.ns
  rw [e, defOf_name hdef, law_val] at hmg
  obtain rfl : (769 : Addr) = a := by simpa using hmg
  obtain ⟨h1, h2⟩ := pre_splitW hpre
  obtain ⟨x, r, rfl, h3, h4⟩ := hasAllW_cons h1
  obtain rfl := hasAllW_nil h4
  obtain ⟨xs, rfl, h5⟩ := hasW_list h3
  obtain ⟨zs, rfl⟩ := items_int h5
  have h63 := pre63 h2
  rw [List.length_map] at h63
  obtain ⟨σ', run⟩ := law_runs zs h63
  cases hwl with
  | cons wl wn =>
    cases wn
    cases wl with
    | list hget wi =>
      rename_i a' vs
      have rep : Reps w ⟨[], []⟩ s₁.heap [.list (zs.map .int)] [.ref a'] := by
        rw [Reps]
        refine ⟨_, _, rfl, ?_, by rw [Reps]⟩
        rw [Rep]
        exact ⟨by rw [List.length_map]; unfold big; omega, a', vs, 0, rfl, by simp [muts], hget, reps_ints wi⟩
      have rel : Rel N1 w s₁.heap [] ⟨[], []⟩ s₁.heap := ⟨Ext.refl _, rfl, (fun b hb => nomatch hb), List.nodup_nil, (fun b hb => nomatch hb), (fun k ob p hk => nomatch hk)⟩
      refine (law_fn Z).call callerA _ s₁ [] σ' ⟨[], []⟩ _ _ (.bool true) _ ⟨rfl, by decide, by decide⟩ rel rep run ?_
      intro φ' h' tk u S R' ru
      rw [Rep] at ru
      subst ru
      have keep : ∀ b o, s₁.heap.get? b = some o → h'.get? b = some o := fun b o eb => S.keep b o eb (fun hm => nomatch hm) (fun hm => nomatch hm)
      exact ⟨.inl ⟨_, .bool true, [], rfl, fun _ => rfl, .bool true, (by kernel_rfl), fun _ => ⟨.nil, fun _ ha => nomatch ha⟩⟩, .of_keep keep, rfl, .of_eq hg⟩
theorem bare01 : pw.bare := ⟨rfl, rfl, rfl, rfl, rfl, by decide +kernel⟩
theorem well01 : (chainsOk q01 && opensWell pw && (frees PySem.Challenge.rw_is0019_01.row.toRowW && PySem.Challenge.rw_is0019_01.row.toRowW.within.isEmpty)) = true := by decide +kernel
theorem promised01 : PySem.Challenge.rw_is0019_01.row.toRowW.promised := by w_witness2
theorem def01 : ∃ d kwd, defOf q01 "law" = some (d, kwd) ∧ pw.theDef "law" = some (d.params, d.body, d.scope) ∧ kwWritten? d.params.kwonlyargs d.params.kw_defaults = some kwd := ⟨_, _, by rfl, by rfl, by rfl⟩
theorem row01 (said : PySem.Challenge.rw_is0019_01.row.wellSaid = true) : PySem.Challenge.rw_is0019_01.row.Holds := by
  obtain ⟨d, kwd, h1, h2, h3⟩ := def01
  exact holds_open (q := q01) (loose := loose01) (Xt := fun _ => true) (XP := fun _ _ => True) (Yf := Yf01) (Ya := Ya01) (YP := EndOk) (N := 26000) left01 hY01 (fun _ _ _ E k => E.keeps k) (fun _ _ => trivial) (fun _ _ _ _ _ => trivial) h1 h2 h3 (fun s _ => recFacts_nil rfl) rfl said well01 bare01 promised01 (walk01 d kwd h1)
set_option maxHeartbeats 8000000 in
theorem said01 : PySem.Challenge.rw_is0019_01.wellSaid = true := by
  unfold OpenLaw.wellSaid
  iterate 18 (refine look_both ?_ ?_)
  all_goals first
    | (rw [PySem.W.Fast.te17960256430627541270]; as_aux_lemma => kernel_rfl)
    | (rw [PySem.W.Fast.te8326940854005059898]; as_aux_lemma => kernel_rfl)
    | (rw [PySem.W.Fast.te17119622794617984870]; as_aux_lemma => kernel_rfl)
    | (as_aux_lemma => kernel_rfl)
end Mine
end

open PySem PySem.W PyProof.Rows
set_option maxRecDepth 1000000 in
set_option maxHeartbeats 8000000 in
theorem PySem.Challenge.cw_is0019_01_holds : PySem.Challenge.rw_is0019_01.Holds :=
  holds_law Mine.said01 Mine.row01
