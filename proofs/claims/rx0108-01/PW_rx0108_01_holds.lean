import PyProof.Rows.All
import Wide.All
import OpenK.AllK
import Wide.FinOn
import Lean
import PySem.Challenge.RW_rx0108_01
set_option Elab.async false
set_option maxRecDepth 100000
set_option linter.unusedVariables false
set_option compiler.extract_closed false
set_option maxHeartbeats 4000000
namespace Mine
open PySem PySem.Calls PyProof.Rows

section


/-! small arithmetic -/
theorem ar_to {n k : Nat} (h : n ≤ k) (c : Nat) (e : Nat.ble k c = true := by rfl) : n ≤ c := Nat.le_trans h (Nat.le_of_ble_eq_true e)
theorem ar_toI {n k : Nat} (h : n ≤ k) (c : Nat) (e : Nat.ble (k + 1) c = true := by rfl) : (n : Int) < c := Int.ofNat_lt.mpr (Nat.lt_of_le_of_lt h (Nat.le_of_ble_eq_true e))
theorem ar_back {n i : Nat} (h : i < n) : n - (i + 1) < n - i := Nat.sub_lt_sub_left h (Nat.lt_succ_self i)
theorem ar_end {n i : Nat} (h : i ≤ n) (h' : ¬ i < n) : i = n := Nat.le_antisymm h (Nat.not_lt.mp h')
theorem ar_m1 {n : Nat} (h : 0 < n) : -(n : Int) ≤ -1 := Int.neg_le_neg (Int.ofNat_le.mpr h)
theorem ar_neg {n : Nat} {i : Int} (h : 0 ≤ i) : -(n : Int) ≤ i := Int.le_trans (Int.neg_nonpos_of_nonneg (Int.natCast_nonneg n)) h
theorem ar_last {n : Nat} : (-1 + (n : Int)).toNat = n - 1 := by rw [Int.add_comm]; exact Int.toNat_sub n 1
theorem ar_max (z : Int) : (max 0 z).toNat = z.toNat := by
  rcases Int.le_total 0 z with h | h
  · rw [Int.max_eq_right h]
  · rw [Int.max_eq_left h, Int.toNat_of_nonpos h]; rfl
theorem ar_d {d k c : Nat} (h : d + (k + 1) < c) : d + 1 + k < c := by rw [Nat.add_right_comm]; exact h
theorem ar_d0 {d k c : Nat} (h : d + k < c) : d < c := Nat.lt_of_le_of_lt (Nat.le_add_right _ _) h
theorem ar_dm {d k k' c : Nat} (e : k' ≤ k) (h : d + k < c) : d + k' < c := Nat.lt_of_le_of_lt (Nat.add_le_add_left e _) h
theorem ar_um {u k k' c : Nat} (e : k' ≤ k) (h : u + 32 * k + 32 < c) : u + 32 * k' + 32 < c := Nat.lt_of_le_of_lt (Nat.add_le_add_right (Nat.add_le_add_left (Nat.mul_le_mul_left 32 e) _) _) h
theorem ar_u {u k c : Nat} (h : u + 32 * (k + 1) + 32 < c) : u + 3 + 32 * k + 32 < c := by
  rw [Nat.mul_succ] at h
  exact Nat.lt_of_le_of_lt (Nat.add_le_add_right (by rw [Nat.add_assoc u, Nat.add_comm 3]; exact Nat.add_le_add_left (Nat.add_le_add_left (Nat.le_of_ble_eq_true rfl) _) _) _) h
theorem ar_u0 {u k c : Nat} (h : u + 32 * k + 32 < c) : u < c := ar_d0 (ar_d0 h)
theorem ar_lt {k : Int} {n : Nat} (h0 : 0 ≤ k) (h : k < n) : k.toNat < n := (Int.toNat_lt h0).mpr h
theorem seq_nn {n : Nat} {k : Int} (h0 : 0 ≤ k) (h1 : k < n) : seqIndex? k n = some k.toNat := by
  simp only [seqIndex?, if_neg (Int.not_lt.mpr h0), h0, h1, decide_true, Bool.and_self, if_true]
theorem ar_mm (a n : Nat) : max (0 : Int) (min (a : Int) n) = ((min a n : Nat) : Int) := by
  rcases Nat.le_total a n with h | h
  · rw [Nat.min_eq_left h, Int.min_eq_left (Int.ofNat_le.mpr h), Int.max_eq_right (Int.natCast_nonneg _)]
  · rw [Nat.min_eq_right h, Int.min_eq_right (Int.ofNat_le.mpr h), Int.max_eq_right (Int.natCast_nonneg _)]
theorem ar_63 {n : Nat} (h : n ≤ 16777216) : (n : Int) < 9223372036854775808 := Int.ofNat_lt.mpr (Nat.lt_of_le_of_lt h (by decide))
theorem ar_64 {n : Nat} (h : n ≤ 16777216) : ¬ (n : Int) ≥ 2 ^ 63 := fun c => absurd (Int.le_trans c (Int.ofNat_le.mpr h)) (by decide)
theorem ar_2 {x s n : Nat} (h : x ≤ 2 * s) (h1 : s ≤ n) (h2 : n ≤ 10000) : x ≤ 20000 := Nat.le_trans h (Nat.mul_le_mul_left 2 (Nat.le_trans h1 h2))
theorem ar_snoc {α : Type} {l : List α} {x : α} {k : Nat} (h : l.length ≤ k) (c : Nat) (e : Nat.ble (k + 1) c = true := by rfl) : (l ++ [x]).length ≤ c := by
  rw [List.length_append]; exact Nat.le_trans (Nat.add_le_add_right h 1) (Nat.le_of_ble_eq_true e)
theorem ar_dec {n s p k : Nat} (hn : n - s = k) (h1 : s ≤ p) (h2 : p < n) : n - (p + 1) < k := hn ▸ Nat.sub_lt_sub_left (Nat.lt_of_le_of_lt h1 h2) (Nat.lt_succ_of_le h1)
theorem ar_x1 {x s p : Nat} (h : x ≤ 2 * s) (h1 : s ≤ p) : x + 1 + 1 ≤ 2 * (p + 1) := Nat.add_le_add_right (Nat.le_trans h (Nat.mul_le_mul_left 2 h1)) 2
theorem ar_sub {j m s : Nat} (h : j < m - s) : s + j < m := by rw [Nat.add_comm]; exact Nat.add_lt_of_lt_sub h
theorem ar_p1 {n : Nat} (h : 0 < n) : n = n - 1 + 1 := (Nat.sub_add_cancel h).symm
theorem ar_eq {n m : Nat} (hn : n = m) (k : Nat) : (n : Int) = (k : Int) ↔ m = k := hn ▸ Int.ofNat_inj
theorem ar_gt {n m : Nat} (hn : n = m) (k : Nat) : (k : Int) < (n : Int) ↔ k < m := hn ▸ Int.ofNat_lt
theorem ar_ch {w i p c f : Nat} (h : i ≤ p) (e : w + (p + 1) ≤ c + (p - i + 1) + f) : w + i ≤ c + f := by
  obtain ⟨d, rfl⟩ := Nat.exists_eq_add_of_le h
  rw [Nat.add_sub_cancel_left, Nat.add_assoc i d 1, ← Nat.add_assoc w, Nat.add_right_comm c] at e
  exact Nat.le_of_add_le_add_right e
theorem ar_w {x i f j c n : Nat} (h1 : x + i ≤ 0 + f) (h2 : f ≤ j) (h3 : j ≤ n) (h4 : c ≤ x + (j - f) + 1) : c ≤ n + 1 :=
  Nat.le_trans h4 (Nat.succ_le_succ (Nat.le_trans (Nat.add_le_add_right (Nat.le_trans (Nat.le_add_right _ i) (Nat.zero_add f ▸ h1)) _) (by rw [Nat.add_sub_cancel' h2]; exact h3)))
theorem ar_f {j n k p : Nat} (h : j ≤ n + 1 + k) (e : k ≤ p) : j ≤ n + (p + 3) :=
  Nat.le_trans h (by rw [Nat.add_assoc]; exact Nat.add_le_add_left (Nat.le_trans (Nat.le_of_eq (Nat.add_comm 1 k)) (Nat.add_le_add e (by decide))) n)
theorem ar_take {α : Type} {l : List α} {i j c : Nat} (h : l.length ≤ c) : ((l.take j).drop i).length ≤ c := by
  rw [List.length_drop, List.length_take]; exact Nat.le_trans (Nat.sub_le _ _) (Nat.le_trans (Nat.min_le_right _ _) h)
theorem ar_i1 {a b : Nat} {c i : Int} (e : a = b) (h : (a : Int) = c) (hi : i < c) : i < (b : Int) := e ▸ h ▸ hi
theorem ar_i2 {a b i : Nat} {c : Int} (e : a = b) (h : (a : Int) = c) (hi : (i : Int) < c) : i < b := Int.ofNat_lt.mp (ar_i1 e h hi)
theorem ar_i3 {a b : Nat} {c i : Int} (e : a = b) (h : c < (a : Int)) (hi : i ≤ c) : i < (b : Int) := e ▸ Int.lt_of_le_of_lt hi h
theorem ar_i4 {a b i : Nat} {c : Int} (e : a = b) (h : c < (a : Int)) (hi : (i : Int) ≤ c) : i < b := Int.ofNat_lt.mp (ar_i3 e h hi)
abbrev PW : Program := PySem.Challenge.pw_rx0108_01
noncomputable def stAt (n : Nat) : Stmt := PW.main.body.getD n (.Pass default)
noncomputable def fName (n : Nat) : Str := match stAt n with | .FunctionDef x _ _ _ _ _ _ _ _ _ => x | _ => Str.empty
noncomputable def fParams (n : Nat) : Arguments := match stAt n with | .FunctionDef _ x _ _ _ _ _ _ _ _ => x | _ => ⟨[], [], none, [], [], none, []⟩
noncomputable def fBody (n : Nat) : List Stmt := match stAt n with | .FunctionDef _ _ x _ _ _ _ _ _ _ => x | _ => []
noncomputable def fScope (n : Nat) : Scope := match stAt n with | .FunctionDef _ _ _ _ _ _ x _ _ _ => x | _ => default

/-! names and values of a frame -/
noncomputable def look : List Str → List (Option Value) → Str → Option Value
  | n :: ns, v :: vs, x => if x = n then v else look ns vs x
  | _, _, _ => none

inductive Fd : List Str → List (Option Value) → Str → Value → Prop
  | here {x ns v vs} : Fd (x :: ns) (some v :: vs) x v
  | there {x ns v vs y w} : Fd ns vs x v → Fd (y :: ns) (w :: vs) x v
inductive Up : List Str → List (Option Value) → Str → Value → List (Option Value) → Prop
  | here {x ns v u vs} : Up (x :: ns) (u :: vs) x v (some v :: vs)
  | there {x ns v vs vs' y w} : Up ns vs x v vs' → Up (y :: ns) (w :: vs) x v (w :: vs')

theorem Fd.mem {ns vs x v} (h : Fd ns vs x v) : x ∈ ns := by
  induction h with
  | here => exact List.mem_cons_self
  | there _ ih => exact List.mem_cons_of_mem _ ih
theorem Up.mem {ns vs x v vs'} (h : Up ns vs x v vs') : x ∈ ns := by
  induction h with
  | here => exact List.mem_cons_self
  | there _ ih => exact List.mem_cons_of_mem _ ih
theorem Fd.look {ns vs x v} (h : Fd ns vs x v) (hn : ns.Nodup) : look ns vs x = some v := by
  induction h with
  | here => simp [Mine.look]
  | @there x ns v vs y w h ih =>
    have hn' := List.nodup_cons.mp hn
    have : ¬ x = y := fun e => hn'.1 (e ▸ h.mem)
    simp only [Mine.look, if_neg this]
    exact ih hn'.2
theorem Up.look {ns vs x v vs'} (h : Up ns vs x v vs') (hn : ns.Nodup) : (fun y => if y = x then some v else look ns vs y) = look ns vs' := by
  induction h with
  | here =>
    funext y
    simp only [Mine.look]
    split <;> rfl
  | @there x ns v vs vs' y₀ w h ih =>
    have hn' := List.nodup_cons.mp hn
    have hne : ¬ y₀ = x := fun e => hn'.1 (e ▸ h.mem)
    funext y
    have ih' := congrFun (ih hn'.2) y
    simp only [Mine.look]
    by_cases e : y = y₀
    · subst e
      rw [if_pos rfl, if_neg hne, if_pos rfl]
    · rw [if_neg e, if_neg e]
      exact ih'

/-! the ledger -/
inductive Got : List (Addr × Obj) → Addr → Obj → Prop
  | here {a o l} : Got ((a, o) :: l) a o
  | there {a o l p} : Got l a o → Got (p :: l) a o
inductive Put : List (Addr × Obj) → Addr → Obj → List (Addr × Obj) → Prop
  | here {a o o' l} : Put ((a, o) :: l) a o' ((a, o') :: l)
  | there {a o' l l' p} : Put l a o' l' → Put (p :: l) a o' (p :: l')
theorem Got.mem {l a o} (h : Got l a o) : (a, o) ∈ l := by
  induction h with
  | here => exact List.mem_cons_self
  | there _ ih => exact List.mem_cons_of_mem _ ih
theorem Put.keys {l a o l'} (h : Put l a o l') : l'.map (·.1) = l.map (·.1) := by
  induction h with
  | here => rfl
  | there _ ih => simp only [List.map_cons, ih]
theorem Put.key {l a o l'} (h : Put l a o l') : a ∈ l.map (·.1) := by
  induction h with
  | here => exact List.mem_cons_self
  | there _ ih => exact List.mem_cons_of_mem _ ih
theorem Put.mem {l a o l'} (h : Put l a o l') (hn : (l.map (·.1)).Nodup) : ∀ p ∈ l', p = (a, o) ∨ (p ∈ l ∧ p.1 ≠ a) := by
  induction h with
  | here =>
    intro p hp
    rcases List.mem_cons.mp hp with rfl | hp
    · exact .inl rfl
    · refine .inr ⟨List.mem_cons_of_mem _ hp, fun e => ?_⟩
      have := (List.nodup_cons.mp hn).1
      exact this (List.mem_map.mpr ⟨p, hp, e⟩)
  | there h ih =>
    intro p hp
    have hn' := List.nodup_cons.mp hn
    rcases List.mem_cons.mp hp with rfl | hp
    · refine .inr ⟨List.mem_cons_self, fun e => ?_⟩
      have hk := h.key
      rw [← e] at hk
      exact hn'.1 hk
    · rcases ih hn'.2 p hp with e | ⟨e, ne⟩
      · exact .inl e
      · exact .inr ⟨List.mem_cons_of_mem _ e, ne⟩

/-- the one object of the top that may change: the table of the code of _translate -/
noncomputable def tabA : Addr := 57

noncomputable def Keep (h h' : Heap) : Prop := ∀ b o, h.get? b = some o → h'.get? b = some o
theorem Keep.refl (h : Heap) : Keep h h := fun _ _ e => e
theorem Keep.trans {a b c : Heap} (x : Keep a b) (y : Keep b c) : Keep a c := fun p o e => y p o (x p o e)
theorem Keep.push (h : Heap) (o : Obj) : Keep h (h.push o) := fun _ _ e => Heap.get?_push_of_some o e
theorem Keep.ns {h h' : Heap} {a m} (k : Keep h h') (hn : h.Ns a m) : h'.Ns a m := by
  obtain ⟨o, es, ep, e, r⟩ := hn; exact ⟨o, es, ep, k _ _ e, r⟩

noncomputable def FnAt (h : Heap) (a : Addr) (n : Nat) : Prop :=
  ∃ o pm cd doc, h.get? a = some o ∧ o.data = .func (docDef (fName n) (fParams n) (fBody n) (fScope n) pm (.ref cd) doc) ∧ h.CodeRec (.ref cd) (fName n)

noncomputable def gTab : List (Str × Value) := [("fspath", .ref 135), ("_get_sep", .ref 149), ("join", .ref 156), ("split", .ref 163), ("splitroot", .ref 170), ("normpath", .ref 177),
  ("escape", .ref 55), ("_translate", .ref 62), ("_law_item", .ref 184), ("_law_rows", .ref 189), ("_law_sign", .ref 196), ("_law_read", .ref 201), ("_law_tails", .ref 208),
  ("_twin_re_1", .ref 43), ("_special_chars_map", .ref 45)]
noncomputable def bTab : List (Str × Value) := [("len", .builtin "len"), ("isinstance", .builtin "isinstance"), ("issubclass", .builtin "issubclass"), ("sum", .builtin "sum"),
  ("type", .type "type"), ("str", .type "str"), ("bytes", .type "bytes"), ("list", .type "list"), ("range", .type "range"),
  ("TypeError", .type "TypeError"), ("AttributeError", .type "AttributeError"), ("BytesWarning", .type "BytesWarning")]
noncomputable def fTab : List (Addr × Nat) := [(55, 5), (62, 7), (135, 16), (149, 20), (156, 21), (163, 22), (170, 23), (177, 24), (184, 26), (189, 27), (196, 28), (201, 29), (208, 30), (213, 31)]

/-! texts as lists of numbers -/
noncomputable def T (l : List Nat) : Str := ⟨l.toArray⟩
/-- the table of escape -/
noncomputable def escL : List Nat := [40,41,91,93,123,125,63,42,43,45,124,94,36,92,46,38,126,35,32,9,10,13,11,12]
noncomputable def EscTab (h : Heap) : Prop := ∃ f : Int → Option Value, (∀ prog w, h.MapOf (intKind prog w) 45 f) ∧ ∀ c : Nat, c < 128 → (c ∈ escL ∧ ∃ t, f c = some (.str (T [92, c]) t)) ∨ (c ∉ escL ∧ f c = none)
/-- the pattern and its code -/
noncomputable def patCode : List Int := [14, 14, 4, 1, 1, 9, 0, 64, 0, 1342177280, 0, 0, 0, 0, 0, 17, 0, 13, 11, 9, 0, 64, 0, 1342177280, 0, 0, 0, 0, 0, 17, 1, 1]
noncomputable def patO : Obj := { cls := .type "re.Pattern", data := .fields #[.str (T [40, 91, 38, 126, 124, 93, 41]) 290, .int 32 325, .int 1 0, .none, .none, .ref 42, .int 0 0] }
noncomputable def patC : Obj := { cls := .type "tuple", data := .seq (patCode.map fun i => Value.int i 0).toArray }
/-- the code of _translate: its table is 57 -/
noncomputable def CodeSt (h : Heap) : Prop := ∃ o vs file tf flags tg inF text tt, h.get? 61 = some o ∧ o.cls = .type "code" ∧ o.data = .fields vs ∧ vs.getD 11 .none = .ref tabA ∧ vs[11]? = some (.ref tabA) ∧ vs.getD 18 .none = .str file tf ∧
    vs.getD 7 .none = .int flags tg ∧ vs.getD 9 .none = .bool inF ∧ vs.getD 10 .none = .int text tt
noncomputable def TrAt (h : Heap) : Prop := ∃ o pm doc, h.get? 62 = some o ∧ o.data = .func (docDef (fName 7) (fParams 7) (fBody 7) (fScope 7) pm (.ref 61) doc) ∧ h.CodeRec (.ref 61) (fName 7)

structure TopF (h : Heap) : Prop where
  glob : ∃ mg mb, h.Ns mainGlobals mg ∧ h.Ns builtinsNs mb ∧ (∀ p ∈ gTab, mg p.1 = some p.2) ∧ (∀ p ∈ bTab, mg p.1 = none ∧ mb p.1 = some p.2)
  nolim : h.NoLimit
  fns : ∀ p ∈ fTab, FnAt h p.1 p.2
  esc : EscTab h
  pat : h.get? 43 = some patO ∧ h.get? 42 = some patC
  cod : CodeSt h
  tra : TrAt h

theorem CodeRec_keep {h h' : Heap} {cd : Value} {q : Str} (k : Keep h h') (x : h.CodeRec cd q) : h'.CodeRec cd q :=
  by obtain ⟨c, o, vs, t, e, g, r⟩ := x; exact ⟨c, o, vs, t, e, k _ _ g, r⟩
theorem NoLimit_keep {h h' : Heap} (k : Keep h h') (x : h.NoLimit) : h'.NoLimit := by obtain ⟨mc, e, r⟩ := x; exact ⟨mc, k.ns e, r⟩
theorem FnAt.keep {h h' : Heap} {a n} (k : Keep h h') (x : FnAt h a n) : FnAt h' a n :=
  by obtain ⟨o, pm, cd, doc, e, d, r⟩ := x; exact ⟨o, pm, cd, doc, k _ _ e, d, CodeRec_keep k r⟩
theorem EscTab.keep {h h' : Heap} (k : Keep h h') (x : EscTab h) : EscTab h' :=
  by
    obtain ⟨f, a, b⟩ := x
    refine ⟨f, fun p w => ?_, b⟩
    obtain ⟨o, es, ep, e, r⟩ := a p w
    exact ⟨o, es, ep, k _ _ e, r⟩
theorem CodeSt.keep {h h' : Heap} (k : Keep h h') (x : CodeSt h) : CodeSt h' :=
  by obtain ⟨o, vs, file, tf, flags, tg, inF, text, tt, e, r⟩ := x; exact ⟨o, vs, file, tf, flags, tg, inF, text, tt, k _ _ e, r⟩
theorem TrAt.keep {h h' : Heap} (k : Keep h h') (x : TrAt h) : TrAt h' :=
  by obtain ⟨o, pm, doc, e, r, c⟩ := x; exact ⟨o, pm, doc, k _ _ e, r, CodeRec_keep k c⟩
theorem TopF.keep {h h' : Heap} (x : TopF h) (k : Keep h h') : TopF h' where
  glob := by obtain ⟨mg, mb, a, b, r⟩ := x.glob; exact ⟨mg, mb, k.ns a, k.ns b, r⟩
  nolim := NoLimit_keep k x.nolim
  fns := fun p hp => (x.fns p hp).keep k
  esc := x.esc.keep k
  pat := ⟨k _ _ x.pat.1, k _ _ x.pat.2⟩
  cod := x.cod.keep k
  tra := x.tra.keep k

/-- a frame: the base heap is kept, the names' values, the made objects -/
structure Fm (b : Heap) (L : Addr) (names : List Str) (vals : List (Option Value)) (led : List (Addr × Obj)) (h : Heap) : Prop where
  top : TopF b
  fr : Fr b L h (look names vals)
  nw : News b L h led
  nd : (led.map (·.1)).Nodup

/-- the block's environment -/
structure FE (env : Env) (L : Addr) (names gl : List Str) : Prop where
  loc : env.locals = L
  kind : env.scope.kind = .function
  nd : names.Nodup
  isL : ∀ x ∈ names, env.kindOf x = some .local ∧ (x == ("__debug__" : Str)) = false
  isG : ∀ x ∈ gl, env.kindOf x = some .globalImplicit ∧ (x == ("__debug__" : Str)) = false
  glo : env.globals = mainGlobals
  bui : env.builtins = builtinsNs

structure Rm (A : Around) (k : Nat) : Prop where
  hd : A.handled = none
  dp : A.depth + k < recursionLimit
  un : A.units + 32 * k + 32 < cLine

section
variable {b h : Heap} {L : Addr} {names : List Str} {vals : List (Option Value)} {led : List (Addr × Obj)} {M : Model} {A : Around} {E : Value → Shared → Prop} {env : Env} {gl : List Str}
  {g : Array GenState} {d : Drawn} {tk : Nat} {os : OsState}

theorem Fm.keep (F : Fm b L names vals led h) : Keep b h := F.fr.keep
theorem Fm.top' (F : Fm b L names vals led h) : TopF h := F.top.keep F.fr.keep
theorem Fm.ltL (F : Fm b L names vals led h) : L < h.objs.size := F.fr.ns.lt

/-- a later heap that a call has left -/
theorem Fm.went (F : Fm b L names vals led h) {h' : Heap} (k : Keep h h') : Fm b L names vals led h' where
  top := F.top
  fr := ⟨k.ns F.fr.ns, fun p o e => k _ _ (F.fr.keep p o e), F.fr.above⟩
  nw := fun p hp => ⟨k _ _ (F.nw p hp).1, (F.nw p hp).2⟩
  nd := F.nd
theorem Fm.push (F : Fm b L names vals led h) (o : Obj) : Fm b L names vals led (h.push o) := F.went (Keep.push h o)

/-- what a rule of the library hands back -/
theorem Fm.of (F : Fm b L names vals led h) {h' : Heap} (f : Fr b L h' (look names vals)) (n : News b L h' led) : Fm b L names vals led h' := ⟨F.top, f, n, F.nd⟩

theorem Fm.none_of_led (F : Fm b L names vals led h) {a : Addr} (ha : h.get? a = none) : a ∉ led.map (·.1) := fun hm => by
  obtain ⟨p, hp, rfl⟩ := List.mem_map.mp hm
  rw [(F.nw p hp).1] at ha; cases ha

/-- an object that a call has made -/
theorem Fm.add (F : Fm b L names vals led h) {a : Addr} {o : Obj} {h' : Heap} (k : Keep h h') (ha : h.get? a = none) (e : h'.get? a = some o) : Fm b L names vals ((a, o) :: led) h' where
  top := F.top
  fr := (F.went k).fr
  nw := fun p hp => by
    rcases List.mem_cons.mp hp with rfl | hp
    · refine ⟨e, fun e' => ?_, ?_⟩
      · obtain ⟨_, _, _, q, _⟩ := F.fr.ns
        subst e'; rw [ha] at q; cases q
      · cases q : b.get? a with
        | none => rfl
        | some o' => rw [F.fr.keep _ _ q] at ha; cases ha
    · exact (F.went k).nw p hp
  nd := List.nodup_cons.mpr ⟨F.none_of_led ha, F.nd⟩

theorem Heap.get?_size (h : Heap) : h.get? h.objs.size = none := by
  cases q : h.get? h.objs.size with
  | none => rfl
  | some o' => exact absurd (Heap.lt_size q) (Nat.lt_irrefl _)
theorem Fm.alloc (F : Fm b L names vals led h) {o : Obj} (hf : o.isFreed = false) : Fm b L names vals ((h.objs.size, o) :: led) (h.push o) :=
  F.add (Keep.push h o) (Heap.get?_size h) (Heap.get?_push_size _ hf)
theorem Fm.get (F : Fm b L names vals led h) {a o} (q : Got led a o) : h.get? a = some o := (F.nw _ q.mem).1

/-- fewer of the made objects, in another order -/
theorem Fm.sub (F : Fm b L names vals led h) {led' : List (Addr × Obj)} (hs : ∀ p ∈ led', p ∈ led) (hn : (led'.map (·.1)).Nodup) : Fm b L names vals led' h :=
  ⟨F.top, F.fr, fun p hp => F.nw p (hs p hp), hn⟩

theorem Fm.perm (F : Fm b L names vals led h) {led' : List (Addr × Obj)} (hp : led.Perm led') : Fm b L names vals led' h :=
  F.sub (fun p m => hp.mem_iff.mpr m) ((hp.map _).nodup_iff.mp F.nd)
/-- an object of the ledger changed -/
theorem Fm.put (F : Fm b L names vals led h) {a : Addr} {o' : Obj} {led' : List (Addr × Obj)} {h' : Heap} (u : Put led a o' led') (hs : Heap.SameBut a h h') (e : h'.get? a = some o') : Fm b L names vals led' h' where
  top := F.top
  fr := by
    obtain ⟨p, hp, rfl⟩ := List.mem_map.mp u.key
    have q := F.nw p hp
    refine ⟨F.fr.ns.sameBut hs (fun e' => q.2.1 e'.symm), fun x o e => (hs.2 x (fun e' => ?_)).trans (F.fr.keep x o e), F.fr.above⟩
    subst e'; rw [q.2.2] at e; cases e
  nw := fun p hp => by
    rcases u.mem F.nd p hp with rfl | ⟨hm, ne⟩
    · obtain ⟨p', hp', e'⟩ := List.mem_map.mp u.key
      have q := F.nw p' hp'
      exact ⟨e, by rw [← e']; exact q.2⟩
    · exact ⟨(hs.2 _ ne).trans (F.nw p hm).1, (F.nw p hm).2⟩
  nd := by rw [u.keys]; exact F.nd

theorem Fm.store (F : Fm b L names vals led h) {x : Str} {v : Value} {vals' : List (Option Value)} {h' : Heap} (hn : names.Nodup) (u : Up names vals x v vals')
    (ns : h'.Ns L (fun y => if y = x then some v else look names vals y)) (hs : Heap.SameBut L h h') : Fm b L names vals' led h' where
  top := F.top
  fr := by have := F.fr.set ns hs; rw [u.look hn] at this; exact this
  nw := F.nw.set hs
  nd := F.nd

/-! names -/
theorem nameL {x : Str} {pos : Pos} {v : Value} {Q : Value → Shared → Prop} (X : FE env L names gl) (F : Fm b L names vals led h) (f : Fd names vals x v) (q : Q v ⟨h, g, d, tk, os⟩) :
    wpAny M A (eval (.Name x pos) env) Q E ⟨h, g, d, tk, os⟩ :=
  wpAny_Name (wpAny_loadName_local X.kind (X.isL x f.mem).1 (by rw [X.loc]; exact F.fr.ns) (f.look X.nd) q) (X.isL x f.mem).2
theorem loadL {x : Str} {v : Value} {Q : Value → Shared → Prop} (X : FE env L names gl) (F : Fm b L names vals led h) (f : Fd names vals x v) (q : Q v ⟨h, g, d, tk, os⟩) :
    wpAny M A (loadName env x) Q E ⟨h, g, d, tk, os⟩ :=
  wpAny_loadName_local X.kind (X.isL x f.mem).1 (by rw [X.loc]; exact F.fr.ns) (f.look X.nd) q
theorem storeL {x : Str} {v : Value} {vals' : List (Option Value)} {Q : Unit → Shared → Prop} (X : FE env L names gl) (F : Fm b L names vals led h) (u : Up names vals x v vals')
    (q : ∀ h', Fm b L names vals' led h' → ∀ tk', Q () ⟨h', g, d, tk', os⟩) : wpAny M A (storeName env x v) Q E ⟨h, g, d, tk, os⟩ :=
  wpAny_storeName_local (X.isL x u.mem).1 (m := look names vals) (by rw [X.loc]; exact F.fr.ns)
    (fun h' hn hs => q h' (F.store X.nd u (X.loc ▸ hn) (X.loc ▸ hs)) _)
    (by rw [X.kind]; rfl)

inductive In1 {α : Type} : List α → α → Prop
  | here {x l} : In1 (x :: l) x
  | there {x y l} : In1 l x → In1 (y :: l) x
theorem In1.mem {α : Type} {l : List α} {x : α} (h : In1 l x) : x ∈ l := by
  induction h with
  | here => exact List.mem_cons_self
  | there _ ih => exact List.mem_cons_of_mem _ ih

theorem nameG {x : Str} {pos : Pos} {v : Value} {Q : Value → Shared → Prop} (X : FE env L names gl) (F : Fm b L names vals led h) (f : In1 gl x) (t : In1 gTab (x, v)) (q : Q v ⟨h, g, d, tk, os⟩) :
    wpAny M A (eval (.Name x pos) env) Q E ⟨h, g, d, tk, os⟩ := by
  obtain ⟨mg, mb, e1, e2, t1, t2⟩ := F.top'.glob
  exact Name_function_global X.kind (X.isG x f.mem).1 (loadGlobal_global (by rw [X.glo]; exact e1) (t1 _ t.mem) q) (X.isG x f.mem).2
theorem nameB {x : Str} {pos : Pos} {v : Value} {Q : Value → Shared → Prop} (X : FE env L names gl) (F : Fm b L names vals led h) (f : In1 gl x) (t : In1 bTab (x, v)) (q : Q v ⟨h, g, d, tk, os⟩) :
    wpAny M A (eval (.Name x pos) env) Q E ⟨h, g, d, tk, os⟩ := by
  obtain ⟨mg, mb, e1, e2, t1, t2⟩ := F.top'.glob
  exact Name_function_global X.kind (X.isG x f.mem).1 (loadGlobal_builtin (by rw [X.glo]; exact e1) (t2 _ t.mem).1 (by rw [X.bui]; exact e2) (t2 _ t.mem).2 q) (X.isG x f.mem).2

theorem look_params : ∀ (ps : List Str) (as : List Value) (rest : List Str) (x : Str), ps.length = as.length → look (ps ++ rest) (as.map some ++ rest.map fun _ => none) x = (ps.zip as).lookup x
  | [], [], rest, x, _ => by
    simp only [List.nil_append, List.map_nil, List.zip_nil_left, List.lookup_nil]
    induction rest with
    | nil => rfl
    | cons n ns ih => simp only [List.map_cons, look]; split <;> first | rfl | exact ih
  | p :: ps, a :: as, rest, x, e => by
    simp only [List.cons_append, List.map_cons, look, List.zip_cons_cons, List.lookup_cons]
    by_cases h : x = p
    · subst h; simp
    · have : (x == p) = false := by simpa using h
      rw [if_neg h, this]
      exact look_params ps as rest x (by simpa using e)
  | [], _ :: _, _, _, e => by cases e
  | _ :: _, [], _, _, e => by cases e

/-- the entry into a def -/
theorem enter {prog : Program} {w : World} {n : Nat} {a : Addr} {args : List Value} (ps rest : List Str) {names : List Str} {vals : List (Option Value)} {k : Nat} {Q : Value → Shared → Prop}
    (T : TopF h) (R : Rm A (k + 1)) (hf : In1 fTab (a, n)) (hnm : ps ++ rest = names) (hv : (args.map some ++ rest.map fun _ => none) = vals)
    (hbind : ∀ pm cd doc, bindArgs (docDef (fName n) (fParams n) (fBody n) (fScope n) pm cd doc) ⟨args, []⟩ = pure (ps.zip args))
    (hlen : ps.length = args.length)
    (hfe : ∀ L a cd, FE (envOf (fName n) (fScope n) L a cd) L names gl)
    (hco : (fScope n).isCoroutine = false) (hgen : (fScope n).isGenerator = false) (hcell : ∀ x ∈ (fScope n).names, x.2 ≠ .cell)
    (q : ∀ env L h₁ tk₁ A', Rm A' k → FE env L names gl → (∃ a cd, env = envOf (fName n) (fScope n) L a cd) → Fm h L names vals [] h₁ →
      wpAny (model prog w) A' (execs (fBody n) env) (fun f s' => Q (match f with | .ret v => v | _ => .none) s') (fun _ _ => False) ⟨h₁, g, d, tk₁, os⟩) :
    wpAny (model prog w) A (call (.ref a) args) Q E ⟨h, g, d, tk, os⟩ := by
  subst hnm hv
  obtain ⟨o, pm, cd, doc, ho, hd, hcr⟩ := T.fns _ hf.mem
  have hX := hfe h.objs.size a (.ref cd)
  refine wpAny_call ?_
  refine call_plain_ret (s := ⟨h, g, d, tk, os⟩) (binds := ps.zip args) (ar_d0 R.dp) ho hd T.nolim hcr (hbind pm (.ref cd) doc) ?_ (fun h₁ F => ?_) hco hgen hX.kind hcell
  · intro x hx
    exact (hX.isL x.1 (List.mem_append_left _ (List.of_mem_zip hx).1)).1
  · refine q _ h.objs.size h₁ _ _ ⟨R.hd, ar_d R.dp, ar_u R.un⟩ hX ⟨_, _, rfl⟩ ?_
    refine ⟨T, ?_, (fun p hp => nomatch hp), List.nodup_nil⟩
    have : (fun x => ((ps.zip args).reverse).lookup x) = look (ps ++ rest) (args.map some ++ rest.map fun _ => none) := by
      funext x
      rw [look_params ps args rest x hlen, lookup_reverse_of_nodup]
      rw [List.map_fst_zip (Nat.le_of_eq hlen)]
      exact (List.nodup_append.mp hX.nd).1
    rw [← this]; exact F
end
end

section

section
variable {b h : Heap} {L : Addr} {names : List Str} {vals : List (Option Value)} {led : List (Addr × Obj)} {M : Model} {A : Around} {E : Value → Shared → Prop} {env : Env} {gl : List Str}
  {g : Array GenState} {d : Drawn} {tk : Nat} {os : OsState} {s : Shared} {prog : Program} {w : World}

theorem mkFE {n : Nat} {names gl : List Str} (hk : (fScope n).kind = .function) (hnd : names.Nodup) (hl : ∀ x ∈ names, (fScope n).names.lookup x = some .local ∧ (x == ("__debug__" : Str)) = false)
    (hg : ∀ x ∈ gl, (fScope n).names.lookup x = some .globalImplicit ∧ (x == ("__debug__" : Str)) = false) (L a : Addr) (cd : Value) : FE (envOf (fName n) (fScope n) L a cd) L names gl :=
  ⟨rfl, hk, hnd, hl, hg, rfl, rfl⟩

theorem callG {pos : Pos} {a : Addr} {n : Nat} {e : Expr} {rest : List Expr} {Q : Value → Shared → Prop} (F : Fm b L names vals led s.heap) (hf : In1 fTab (a, n))
    (hq : wpAny M A (spliced (backTo pos (starEach (e :: rest) env))) (fun vs s₁ => (∃ vals led, Fm b L names vals led s₁.heap) ∧ wpAny M A (call (.ref a) vs) Q E s₁) E s)
    (he : starEach (e :: rest) env = (false, eval e env) :: starEach rest env := by rfl) :
    wpAny M A (callWith pos (.ref a) [] (backTo pos (starEach (e :: rest) env)) []) Q E s := by
  obtain ⟨o, pm, cd, doc, ho, hd, hcr⟩ := F.top.fns _ hf.mem
  exact callWith_def (o := o) hd (wpAny_mono hq (fun vs s₁ x => ⟨let ⟨_, _, y⟩ := x.1; y.keep _ _ ho, x.2⟩) fun _ _ x => x) he

theorem Rm.room {A : Around} {k : Nat} (R : Rm A k) : A.units < cLine := ar_u0 R.un
theorem Rm.mono {A : Around} {k k' : Nat} (R : Rm A k) (h : k' ≤ k) : Rm A k' := ⟨R.hd, ar_dm h R.dp, ar_um h R.un⟩

noncomputable def tupObj (vs : List Value) : Obj := { cls := .type "tuple", data := .seq vs.toArray }
noncomputable def listObj (vs : List Value) (n : Nat := 0) : Obj := { cls := .type "list", data := .seq vs.toArray n }

theorem newTupleF {vs : List Value} {Q : Value → Shared → Prop} (F : Fm b L names vals led h) (hsz : vs.length ≤ sizeLine)
    (q : ∀ h' a, Keep h h' → h.get? a = none → Fm b L names vals ((a, tupObj vs) :: led) h' → Q (.ref a) ⟨h', g, d, tk, os⟩) : wpAny M A (newTuple vs) Q E ⟨h, g, d, tk, os⟩ :=
  wpAny_newObj_type (q _ _ (Keep.push _ _) (Heap.get?_size h) (F.alloc rfl)) (by show vs.toArray.size ≤ sizeLine; rw [List.size_toArray]; exact hsz)
theorem newListF {vs : List Value} {Q : Value → Shared → Prop} (F : Fm b L names vals led h) (hsz : vs.length ≤ sizeLine)
    (q : ∀ h' a, Keep h h' → h.get? a = none → Fm b L names vals ((a, listObj vs) :: led) h' → Q (.ref a) ⟨h', g, d, tk, os⟩) : wpAny M A (newList vs) Q E ⟨h, g, d, tk, os⟩ :=
  wpAny_newObj_type (q _ _ (Keep.push _ _) (Heap.get?_size h) (F.alloc rfl)) (by show vs.toArray.size ≤ sizeLine; rw [List.size_toArray]; exact hsz)

/-! issubclass(kind, (str, bytes)) -/
theorem kind_issub_nested : builtinKind "issubclass.nested" = none := by decide +kernel
theorem plain_issub_nested : plainId "issubclass.nested" = true := by decide +kernel
theorem args_issub_nested_3 (a b c : Value) : argsOk "issubclass.nested" ⟨[a, b, c], []⟩ := by unfold argsOk; kernel_rfl
theorem issub_str_str : isSubtype (.type "str") (.type "str") = pure true := by rw [isSubtype_type]; kernel_rfl
theorem typeOf_tstr : typeOf (.type "str") = pure (.type "type") := by kernel_rfl
theorem isType_tstr : isType (.type "str") = pure true := by kernel_rfl

theorem issub_nested_str {k : Value} {dep : Int} {t : Tok} {Q : Fin → Shared → Prop} (hk : k = .int dep t) (hq : Q (.done (.ret (.bool true))) s) :
    wpAny (model prog w) A (Builtin.«issubclass.nested» ⟨[.type "str", .type "str", k], []⟩) Q E s := by
  subst hk
  have h1 := typeOf_tstr
  have h2 := isType_tstr
  have h3 := issub_str_str
  repeat (any_goals (first | assumption | (rw [h1]) | (rw [h2]) | (rw [h3]) | wp_step))

theorem call_issub_nested_str {dep : Int} {t : Tok} {Q : Value → Shared → Prop} (hq : Q (.bool true) s) :
    wpAny (model prog w) A (call (.builtin "issubclass.nested") [.type "str", .type "str", .int dep t]) Q E s :=
  call_function_entry kind_issub_nested plain_issub_nested F.entry_issubclass_nested (args_issub_nested_3 _ _ _) (issub_nested_str rfl ⟨_, rfl, hq⟩)
theorem issub_strs {tp : Addr} {Q : Value → Shared → Prop} (ht : s.heap.get? tp = some (tupObj [.type "str", .type "bytes"])) (h : ∀ tk, Q (.bool true) { s with toks := tk }) :
    wpAny (model prog w) A (call (.builtin "issubclass") [.type "str", .ref tp]) Q E s := by
  refine call_issubclass (S := fun _ R s => s.heap.get? tp = some (tupObj [.type "str", .type "bytes"]) ∧ ∀ tk, R (.ok (.ret (.bool true))) { s with toks := tk }) ?_ ⟨ht, fun tk => h tk⟩
  intro prog w A R s ⟨ht, hs⟩
  refine issubclass_outer ?_
  obtain ⟨h, g, d, t, os⟩ := s
  have hT2 : (⟨h, g, d, t, os⟩ : Shared).TypeIs (.ref tp) "tuple" := ⟨_, ht, rfl⟩
  have f1 := F.isi_sub_tuple
  repeat (any_goals (first | assumption | (refine call_issub_nested_str ?_) | wp_step))
  exact hs t
end
end

section
open PySem PySem.Calls PyProof.Rows PySem.Builtin PySem.Builtin.Str
/-! texts as lists of numbers -/
theorem T_len (l : List Nat) : (T l).length = l.length := by simp [T, Str.length]
theorem T_list (l : List Nat) : (T l).cps.toList = l := by simp [T]
theorem T_of (x : Str) : x = T x.cps.toList := by cases x; simp [T]
theorem T_inj {a b : List Nat} (h : T a = T b) : a = b := by have := congrArg (fun x => x.cps.toList) h; simpa [T_list] using this
theorem T_app (a b : List Nat) : T a ++ T b = T (a ++ b) := by apply Str.ext'; simp [T, Str.cps_append]
theorem T_nil : T [] = Str.empty := rfl

theorem clip_nat (a n : Nat) : max (0 : Int) (min (if (a : Int) < 0 then (a : Int) + n else a) n) = ((min a n : Nat) : Int) := by
  rw [if_neg (Int.not_lt.mpr (Int.natCast_nonneg a))]; exact ar_mm a n
theorem idx_nat (a b n : Nat) : strSliceIndices (some (a : Int)) (some (b : Int)) 1 n = sliceRange ((min a n : Nat) : Int) ((min b n : Nat) : Int) 1 := by
  rw [← clip_nat a n, ← clip_nat b n]; rfl
theorem drop_min {l : List Nat} {a n : Nat} (h : l.length ≤ n) : l.drop (min a n) = l.drop a := by
  rcases Nat.le_total a n with e | e
  · rw [Nat.min_eq_left e]
  · rw [Nat.min_eq_right e, List.drop_of_length_le h, List.drop_of_length_le (Nat.le_trans h e)]
theorem slice_nat {l : List Nat} (a b : Nat) : Txt.slice (T l) (some (a : Int)) (some (b : Int)) = T ((l.take b).drop a) := by
  have e : Txt.slice (T l) (some (a : Int)) (some (b : Int)) = StrLaws.sliceText (T l) (some ((min a l.length : Nat) : Int)) (some ((min b l.length : Nat) : Int)) := by
    unfold Txt.slice StrLaws.sliceText
    rw [T_len, idx_nat, idx_nat, Nat.min_assoc, Nat.min_self, Nat.min_assoc, Nat.min_self]
  have hl : (l.take b).length ≤ l.length := by rw [List.length_take]; exact Nat.min_le_right _ _
  have ht : l.take (min b l.length) = l.take b := by
    rcases Nat.le_total b l.length with e | e
    · rw [Nat.min_eq_left e]
    · rw [Nat.min_eq_right e, List.take_length, List.take_of_length_le e]
  rw [e, ← drop_min hl, ← ht]
  rcases Nat.le_total (min a l.length) (min b l.length) with h | h
  · rw [StrLaws.sliceText_nat _ h (by rw [T_len]; exact Nat.min_le_right _ _), T_list, ← List.drop_take]; rfl
  · have hr : ∀ x y : Int, y ≤ x → sliceRange x y 1 = [] := fun x y hxy => by
      show List.map _ (List.range (if x < y then (y - x + 1 - 1) / 1 else 0 : Int).toNat) = []
      rw [if_neg (Int.not_lt.mpr hxy)]; rfl
    rw [List.drop_of_length_le (by rw [List.length_take]; exact Nat.le_trans (Nat.min_le_left _ _) h)]
    unfold StrLaws.sliceText
    rw [T_len, idx_nat, Nat.min_assoc, Nat.min_self, Nat.min_assoc, Nat.min_self, hr _ _ (Int.ofNat_le.mpr h)]
    cases l with
    | nil => rfl
    | cons x r => rfl
theorem slice_ss {l : List Nat} {i j : Int} (hi : 0 ≤ i) (hj : 0 ≤ j) : Txt.slice (T l) (some i) (some j) = T ((l.take j.toNat).drop i.toNat) := by
  obtain ⟨a, rfl⟩ := Int.eq_ofNat_of_zero_le hi
  obtain ⟨b, rfl⟩ := Int.eq_ofNat_of_zero_le hj
  exact slice_nat a b
theorem slice_ns {l : List Nat} {j : Int} (hj : 0 ≤ j) : Txt.slice (T l) none (some j) = T (l.take j.toNat) := by
  have e : Txt.slice (T l) none (some j) = Txt.slice (T l) (some 0) (some j) := by unfold Txt.slice; rw [StrLaws.sliceIdx_none_lo]
  rw [e, slice_ss (Int.le_refl 0) hj]; simp
theorem slice_sn {l : List Nat} {i : Int} (hi : 0 ≤ i) : Txt.slice (T l) (some i) none = T (l.drop i.toNat) := by
  have e : Txt.slice (T l) (some i) none = Txt.slice (T l) (some i) (some (l.length : Int)) := by unfold Txt.slice; rw [StrLaws.sliceIdx_none_hi, T_len]
  rw [e, slice_ss hi (Int.natCast_nonneg _)]; simp
theorem slice_n1 {l : List Nat} : Txt.slice (T l) none (some (-1)) = T l.dropLast := by
  have e : Txt.slice (T l) none (some (-1)) = Txt.slice (T l) none (some (max 0 ((T l).length + (-1) : Int))) := PyProof.Rows.slice_to_neg (by decide)
  rw [e, slice_ns (Int.le_max_left _ _), T_len, List.dropLast_eq_take, ar_max]; congr 2; exact Int.toNat_sub l.length 1
end

section
open PySem PySem.Calls PyProof.Rows PySem.Builtin PySem.Builtin.Str
theorem item_nat {l : List Nat} {k : Int} (h0 : 0 ≤ k) (h1 : k < l.length) : Txt.item (T l) k = T [l.getD k.toNat 0] := by
  have hk : k.toNat < l.length := ar_lt h0 h1
  have hs : seqIndex? k l.length = some k.toNat := seq_nn h0 h1
  show (⟨#[((seqIndex? k (T l).length).bind ((T l).cps[·]?)).getD 0]⟩ : Str) = _
  rw [T_len, hs]
  simp [T]
theorem item_last {l : List Nat} (h : l ≠ []) : Txt.item (T l) (-1) = T [l.getLastD 0] := by
  have hp : 0 < l.length := List.length_pos_iff.mpr h
  have hs : seqIndex? (-1) l.length = some (l.length - 1) := PyProof.Rows.seqIndex?_neg_one hp
  show (⟨#[((seqIndex? (-1) (T l).length).bind ((T l).cps[·]?)).getD 0]⟩ : Str) = _
  rw [T_len, hs]
  simp [T, List.getLastD_eq_getLast?, List.getLast?_eq_getElem?]
theorem starts_one (l : List Nat) (c : Nat) : Txt.startswith (T l) (T [c]) = (l.head? == some c) := by
  unfold Txt.startswith
  rw [StrLaws.subAt_eq]
  cases l with
  | nil => simp [T_list, T_len]
  | cons x r => simp [T_list, T_len]
theorem ends_one (l : List Nat) (c : Nat) : Txt.endswith (T l) (T [c]) = (l.getLast? == some c) := by
  unfold Txt.endswith
  rw [StrLaws.subAt_eq, T_list, T_list, T_len, T_len]
  rcases List.eq_nil_or_concat l with rfl | ⟨a, x, rfl⟩
  · simp
  · simp
theorem contains_one (l : List Nat) (c : Nat) : Txt.contains (T l) (T [c]) = decide (c ∈ l) := by
  have := StrLaws.found_one (T l) c
  rw [T_list] at this
  exact this

/-- the pieces between the signs c -/
noncomputable def sp (c : Nat) : List Nat → List (List Nat)
  | [] => [[]]
  | x :: r => if x = c then [] :: sp c r else match sp c r with
    | p :: ps => (x :: p) :: ps
    | [] => [[x]]
noncomputable def joinL (sep : List Nat) : List (List Nat) → List Nat
  | [] => []
  | [p] => p
  | p :: q :: r => p ++ sep ++ joinL sep (q :: r)
theorem sp_ne (c : Nat) : ∀ l, sp c l ≠ []
  | [] => by simp [sp]
  | x :: r => by
    unfold sp
    split
    · simp
    · split <;> simp
theorem sp_free {c : Nat} : ∀ {l : List Nat}, c ∉ l → sp c l = [l]
  | [], _ => rfl
  | x :: r, h => by
    have h1 : x ≠ c := fun e => h (by simp [e])
    have h2 : c ∉ r := fun m => h (by simp [m])
    rw [sp, if_neg h1, sp_free h2]
theorem sp_app {c : Nat} : ∀ {a : List Nat} (b : List Nat), c ∉ a → sp c (a ++ c :: b) = a :: sp c b
  | [], b, _ => by simp [sp]
  | x :: r, b, h => by
    have h1 : x ≠ c := fun e => h (by simp [e])
    have h2 : c ∉ r := fun m => h (by simp [m])
    rw [List.cons_append, sp, if_neg h1, sp_app b h2]
theorem sp_join {c : Nat} : ∀ {ps : List (List Nat)}, ps ≠ [] → (∀ p ∈ ps, c ∉ p) → sp c (joinL [c] ps) = ps
  | [], h, _ => absurd rfl h
  | [p], _, h => sp_free (h p (by simp))
  | p :: q :: r, _, h => by
    show sp c (p ++ [c] ++ joinL [c] (q :: r)) = _
    rw [List.append_assoc, List.singleton_append, sp_app _ (h p (by simp)), sp_join (by simp) (fun x m => h x (List.mem_cons_of_mem _ m))]
theorem join_T (sep : List Nat) : ∀ ps : List (List Nat), Str.join (T sep) (ps.map T) = T (joinL sep ps)
  | [] => rfl
  | [p] => rfl
  | p :: q :: r => by
    show T p ++ T sep ++ Str.join (T sep) ((q :: r).map T) = _
    rw [join_T sep (q :: r), T_app, T_app]; rfl
theorem Txt_join (sep : List Nat) (ps : List (List Nat)) : Txt.join (T sep) (ps.map T) = T (joinL sep ps) := (StrLaws.glued_eq_join _ _).trans (join_T sep ps)
theorem split_T (c : Nat) (l : List Nat) : Txt.split (T l) (T [c]) = (sp c l).map T := by
  have h1 := StrLaws.join_split (T l) (T [c])
  have h2 : ∀ p ∈ Txt.split (T l) (T [c]), c ∉ p.cps.toList := StrLaws.split_free (T l) c
  have e : Txt.split (T l) (T [c]) = ((Txt.split (T l) (T [c])).map fun x => x.cps.toList).map T := by
    rw [List.map_map]
    conv => lhs; rw [← List.map_id (Txt.split (T l) (T [c]))]
    exact List.map_congr_left fun x _ => T_of x
  rw [e, join_T] at h1
  have h3 := T_inj h1
  rw [e]
  congr 1
  generalize hX : (Txt.split (T l) (T [c])).map (fun x => x.cps.toList) = X at h3
  rw [← h3]
  refine (sp_join ?_ ?_).symm
  · intro h0
    rw [h0] at hX
    have hs : Txt.split (T l) (T [c]) = [] := by simpa using hX
    revert hs
    unfold Txt.split
    split
    · simp
    · split
      · simp
      · intro hs
        simp [partsBetween] at hs
  · intro p hp
    rw [← hX] at hp
    obtain ⟨x, hx, rfl⟩ := List.mem_map.mp hp
    exact h2 x hx
theorem repl_T (c : Nat) (z l : List Nat) : Txt.replace (T l) (T [c]) (T z) = T (l.flatMap fun k => if k = c then z else [k]) := by
  have : Txt.replace (T l) (T [c]) (T z) = Str.join (T z) (Txt.split (T l) (T [c])) := StrLaws.replace_one (T l) (T z) c
  rw [this, split_T, join_T]
  congr 1
  clear this
  induction l with
  | nil => simp [sp, joinL]
  | cons x r ih =>
    rw [List.flatMap_cons, ← ih, sp]
    by_cases h : x = c
    · rw [if_pos h, if_pos h]
      obtain ⟨p, ps, e⟩ := List.exists_cons_of_ne_nil (sp_ne c r)
      rw [e]; simp [joinL]
    · rw [if_neg h, if_neg h]
      obtain ⟨p, ps, e⟩ := List.exists_cons_of_ne_nil (sp_ne c r)
      rw [e]
      cases ps with
      | nil => simp [joinL]
      | cons q qs => simp [joinL]
end

section
open PySem PySem.Calls PyProof.Rows PySem.Builtin PySem.Builtin.Str
/-- the place behind the last c -/
noncomputable def cutN (c : Nat) (l : List Nat) : Nat := l.length - (l.reverse.takeWhile (· != c)).length
/-- without the c's at the end -/
noncomputable def rst (c : Nat) (l : List Nat) : List Nat := (l.reverse.dropWhile (· == c)).reverse
theorem takeWhile_all {p : Nat → Bool} : ∀ {l : List Nat}, (∀ x ∈ l, p x = true) → l.takeWhile p = l
  | [], _ => rfl
  | x :: r, h => by rw [List.takeWhile_cons_of_pos (h x (by simp)), takeWhile_all fun y hy => h y (by simp [hy])]
theorem cutN_free {c : Nat} {l : List Nat} (h : c ∉ l) : cutN c l = 0 := by
  unfold cutN
  rw [takeWhile_all (by intro x hx; simp at hx ⊢; intro e; exact h (e ▸ hx))]; simp
theorem cutN_at {c : Nat} {a b : List Nat} (h : c ∉ b) : cutN c (a ++ c :: b) = a.length + 1 := by
  unfold cutN
  have : (a ++ c :: b).reverse.takeWhile (· != c) = b.reverse := by
    simp only [List.reverse_append, List.reverse_cons, List.append_assoc, List.singleton_append]
    rw [List.takeWhile_append_of_pos (by intro x hx; simp at hx ⊢; intro e; exact h (e ▸ hx))]
    simp
  rw [this, List.length_append, List.length_reverse, List.length_cons, ← Nat.add_assoc, Nat.add_right_comm, Nat.add_sub_cancel]
theorem last_split (c : Nat) : ∀ l : List Nat, c ∉ l ∨ ∃ a b, l = a ++ c :: b ∧ c ∉ b
  | [] => .inl (by simp)
  | x :: r => by
    rcases last_split c r with h | ⟨a, b, rfl, hb⟩
    · by_cases e : x = c
      · exact .inr ⟨[], r, by simp [e], h⟩
      · exact .inl (by simp; exact ⟨fun e' => e e'.symm, h⟩)
    · exact .inr ⟨x :: a, b, rfl, hb⟩
theorem rfind_one (l : List Nat) (c : Nat) : Txt.rfind (T l) (T [c]) = (cutN c l : Int) - 1 := by
  have one : ∀ i, StrLaws.At (T l) (T [c]) (T l).length i ↔ l[i]? = some c := fun i => by
    have := StrLaws.subAt_one (T l) c i
    rw [T_list] at this
    exact this
  unfold Txt.rfind
  rcases StrLaws.last_spec (T l) (T [c]) with ⟨e, hn⟩ | ⟨i, e, hi, hl⟩
  · rw [e, cutN_free (fun hm => by
      obtain ⟨i, hi⟩ := List.mem_iff_getElem?.mp hm
      exact hn i ((one i).mpr hi))]
    rfl
  · rw [e]
    have h1 := (one i).mp hi
    rcases last_split c l with hf | ⟨a, b, rfl, hb⟩
    · exact absurd (List.mem_iff_getElem?.mpr ⟨i, h1⟩) hf
    · rw [cutN_at hb]
      have h2 : ¬ i < a.length := fun hlt => hl a.length hlt ((one _).mpr (by simp))
      have h3 : ¬ a.length < i := fun hlt => by
        rw [List.getElem?_append_right (Nat.le_of_lt hlt), ← Nat.sub_add_cancel (Nat.sub_pos_of_lt hlt), List.getElem?_cons_succ] at h1
        exact hb (List.mem_iff_getElem?.mpr ⟨_, h1⟩)
      obtain rfl : i = a.length := Nat.le_antisymm (Nat.not_lt.mp h3) (Nat.not_lt.mp h2)
      exact (Int.add_sub_cancel _ 1).symm
theorem contains_fun (c : Nat) : ((T [c]).cps.contains : Nat → Bool) = fun x => x == c := by
  funext x; simp [T]; rw [Bool.eq_iff_iff]; simp
theorem drop_takeWhile (p : Nat → Bool) : ∀ l : List Nat, l.drop (l.takeWhile p).length = l.dropWhile p
  | [] => rfl
  | x :: r => by
    by_cases h : p x = true
    · rw [List.takeWhile_cons_of_pos h, List.dropWhile_cons_of_pos h, List.length_cons, List.drop_succ_cons, drop_takeWhile p r]
    · rw [List.takeWhile_cons_of_neg h, List.dropWhile_cons_of_neg h]; rfl
theorem rst_take (c : Nat) (l : List Nat) : l.take (l.length - (l.reverse.takeWhile (· == c)).length) = rst c l := by
  unfold rst
  have h1 := drop_takeWhile (· == c) l.reverse
  rw [← h1, List.reverse_drop, List.reverse_reverse, List.length_reverse]
theorem strip_sub (goes : Nat → Bool) (l : List Nat) (lo : Nat) : strSub (T l) lo (l.length - ((l.drop lo).reverse.takeWhile goes).length) = T ((l.drop lo).take ((l.drop lo).length - ((l.drop lo).reverse.takeWhile goes).length)) := by
  have e := StrLaws.strSub_toList (T l) lo (l.length - ((l.drop lo).reverse.takeWhile goes).length)
  rw [T_of (strSub (T l) lo _), e, T_list, List.length_drop, Nat.sub_right_comm]
theorem strip_by (c : Nat) (left : Bool) (l : List Nat) : Txt.stripBy (fun x => x == c) left true (T l) = T (rst c (l.drop (if left then (l.takeWhile (· == c)).length else 0))) := by
  have hS : stripped (fun x => x == c) left true (T l) = T (rst c (l.drop (if left then (l.takeWhile (· == c)).length else 0))) := by
    unfold stripped stripLo stripHi
    simp only [if_true, T_list, T_len]
    rw [strip_sub, rst_take]
  unfold Txt.stripBy
  split
  · rename_i h
    rw [← hS]
    unfold stripSame at h
    simp only [Bool.and_eq_true, beq_iff_eq] at h
    unfold stripped
    rw [h.2, h.1, StrLaws.sub_whole]
  · exact hS
theorem rstrip_one (l : List Nat) (c : Nat) : Txt.rstripChars (T l) (T [c]) = T (rst c l) := by
  unfold Txt.rstripChars
  rw [contains_fun, strip_by]; simp
theorem strip_one (l : List Nat) (c : Nat) : Txt.stripChars (T l) (T [c]) = T (rst c (l.dropWhile (· == c))) := by
  unfold Txt.stripChars
  rw [contains_fun, strip_by, if_pos rfl, drop_takeWhile]
end

section
open PySem PySem.Calls PyProof.Rows PySem.Builtin PySem.Builtin.Str
/-- the texts of the program -/
inductive Lit : String → List Nat → Prop
  | l0 : Lit "/" [47]
  | l1 : Lit "\\" [92]
  | l2 : Lit "\\\\" [92, 92]
  | l3 : Lit "-" [45]
  | l4 : Lit "\\-" [92, 45]
  | l5 : Lit "" []
  | l6 : Lit "*" [42]
  | l7 : Lit "?" [63]
  | l8 : Lit "[" [91]
  | l9 : Lit "!" [33]
  | l10 : Lit "]" [93]
  | l11 : Lit "\\[" [92, 91]
  | l12 : Lit "(?!)" [40, 63, 33, 41]
  | l13 : Lit "." [46]
  | l14 : Lit "^" [94]
  | l15 : Lit ".*?[]!-a^\\~&|" [46, 42, 63, 91, 93, 33, 45, 97, 94, 92, 126, 38, 124]
  | l16 : Lit "[!" [91, 33]
  | l17 : Lit "b-a" [98, 45, 97]
  | l18 : Lit "N" [78]
  | l19 : Lit "[a-]" [91, 97, 45, 93]
  | l20 : Lit "P" [80]
  | l21 : Lit "[a-b]" [91, 97, 45, 98, 93]
  | l22 : Lit "R" [82]
  | l23 : Lit "[b-aa-b]" [91, 98, 45, 97, 97, 45, 98, 93]
  | l24 : Lit "[a-bb-a]" [91, 97, 45, 98, 98, 45, 97, 93]
  | l25 : Lit "S" [83]
  | l26 : Lit "Q" [81]
  | l27 : Lit "[b-a]" [91, 98, 45, 97, 93]
  | l28 : Lit "0" [48]
  | l29 : Lit "[!b-a]" [91, 33, 98, 45, 97, 93]
  | l30 : Lit "A" [65]
  | l31 : Lit "*?[" [42, 63, 91]
  | l32 : Lit "[b-a" [91, 98, 45, 97]
  | l33 : Lit "b-a]" [98, 45, 97, 93]
  | l34 : Lit "[.]" [91, 46, 93]
  | l35 : Lit " " [32]
  | l36 : Lit "a" [97]
  | l37 : Lit "b" [98]
  | l38 : Lit "-~&|" [45, 126, 38, 124]
  | l39 : Lit "^[-~&|" [94, 91, 45, 126, 38, 124]
  | l40 : Lit "*[^$+|(){}~&-]" [42, 91, 94, 36, 43, 124, 40, 41, 123, 125, 126, 38, 45, 93]
  | l41 : Lit ".." [46, 46]
  | l42 : Lit "//" [47, 47]
  | l43 : Lit "///.." [47, 47, 47, 46, 46]
  | l44 : Lit "*/.." [42, 47, 46, 46]
  | l45 : Lit "[.]/../." [91, 46, 93, 47, 46, 46, 47, 46]
  | l46 : Lit "[/.." [91, 47, 46, 46]
  | l47 : Lit "a/b]/../.." [97, 47, 98, 93, 47, 46, 46, 47, 46, 46]
  | l48 : Lit "[!/a/..//.." [91, 33, 47, 97, 47, 46, 46, 47, 47, 46, 46]
  | l49 : Lit "[a" [91, 97]
theorem Lit.ok {s : String} {l : List Nat} (h : Lit s l) : Str.ofString s = T l := by induction h <;> decide +kernel
/-! rules in lists of numbers -/
section
variable {b h : Heap} {L : Addr} {names : List Str} {vals : List (Option Value)} {led : List (Addr × Obj)} {M : Model} {A : Around} {E : Value → Shared → Prop} {env : Env} {gl : List Str}
  {g : Array GenState} {d : Drawn} {tk : Nat} {os : OsState} {s : Shared} {prog : Program} {w : World} {l m : List Nat} {t u : Tok} {value slice : Expr}

noncomputable def Small (l : List Nat) : Prop := l.length ≤ 1000000
theorem Small.nil : Small [] := Nat.zero_le _
theorem Small.one {c : Nat} : Small [c] := Nat.le_of_ble_eq_true rfl
theorem Small.of {l m : List Nat} (h : Small l) (k : m.length ≤ l.length) : Small m := Nat.le_trans k h
theorem Small.take {l : List Nat} {n : Nat} (h : Small l) : Small (l.take n) := h.of (by rw [List.length_take]; exact Nat.min_le_right _ _)
theorem Small.drop {l : List Nat} {n : Nat} (h : Small l) : Small (l.drop n) := h.of (by simp)
theorem Small.cut {l : List Nat} {n k : Nat} (h : Small l) : Small ((l.take n).drop k) := h.take.drop
theorem Small.last {l : List Nat} (h : Small l) : Small l.dropLast := h.of (by simp)
theorem Small.line (h : Small l) : (T l).length ≤ sizeLine := by rw [T_len, sizeLine_eq]; exact ar_to h _

theorem constT {x : String} {k : Nat} {pos : Pos} {Q : Value → Shared → Prop} (hx : Lit x m) (q : Q (.str (T m) tk) ⟨h, g, d, tk + 1, os⟩) : wpAny M A (eval (.Constant (.str (Str.ofString x)) k pos) env) Q E ⟨h, g, d, tk, os⟩ := by
  rw [hx.ok]; exact Constant_str q

theorem sliceSS {i j : Int} {ui uj : Tok} {Q : Value → Shared → Prop} (F : Fm b L names vals led h) (hi : 0 ≤ i) (hj : 0 ≤ j) (hl : Small l)
    (q : ∀ h' t' k, Fm b L names vals led h' → Q (.str (T ((l.take j.toNat).drop i.toNat)) t') ⟨h', g, d, k, os⟩)
    (hs : subscripted slice false (.str (T l) t) (.ref h.objs.size) = operate [.ref h.objs.size, .str (T l) t] (getItem (.str (T l) t) (.ref h.objs.size)) := by with_unfolding_all rfl)
    (ht : ∀ r, letTemporaryGo value (.str (T l) t) r = pure () := by intro _; with_unfolding_all rfl) :
    wpAny (model prog w) A (subscriptTail value slice (.str (T l) t) (.ref h.objs.size)) Q E ⟨h.push { cls := .type "slice", data := .fields #[.int i ui, .int j uj, .none] }, g, d, tk, os⟩ :=
  slice_strN_ss (s := ⟨h, g, d, tk, os⟩) F.fr F.nw (fun h' t' k f n => by rw [slice_ss hi hj]; exact q h' t' k (F.of f n)) hs ht hl.line
theorem sliceNS {j : Int} {uj : Tok} {Q : Value → Shared → Prop} (F : Fm b L names vals led h) (hj : 0 ≤ j) (hl : Small l)
    (q : ∀ h' t' k, Fm b L names vals led h' → Q (.str (T (l.take j.toNat)) t') ⟨h', g, d, k, os⟩)
    (hs : subscripted slice false (.str (T l) t) (.ref h.objs.size) = operate [.ref h.objs.size, .str (T l) t] (getItem (.str (T l) t) (.ref h.objs.size)) := by with_unfolding_all rfl)
    (ht : ∀ r, letTemporaryGo value (.str (T l) t) r = pure () := by intro _; with_unfolding_all rfl) :
    wpAny (model prog w) A (subscriptTail value slice (.str (T l) t) (.ref h.objs.size)) Q E ⟨h.push { cls := .type "slice", data := .fields #[.none, .int j uj, .none] }, g, d, tk, os⟩ :=
  slice_strN_ns (s := ⟨h, g, d, tk, os⟩) F.fr F.nw (fun h' t' k f n => by rw [slice_ns hj]; exact q h' t' k (F.of f n)) hs ht hl.line
theorem sliceSN {i : Int} {ui : Tok} {Q : Value → Shared → Prop} (F : Fm b L names vals led h) (hi : 0 ≤ i) (hl : Small l)
    (q : ∀ h' t' k, Fm b L names vals led h' → Q (.str (T (l.drop i.toNat)) t') ⟨h', g, d, k, os⟩)
    (hs : subscripted slice false (.str (T l) t) (.ref h.objs.size) = operate [.ref h.objs.size, .str (T l) t] (getItem (.str (T l) t) (.ref h.objs.size)) := by with_unfolding_all rfl)
    (ht : ∀ r, letTemporaryGo value (.str (T l) t) r = pure () := by intro _; with_unfolding_all rfl) :
    wpAny (model prog w) A (subscriptTail value slice (.str (T l) t) (.ref h.objs.size)) Q E ⟨h.push { cls := .type "slice", data := .fields #[.int i ui, .none, .none] }, g, d, tk, os⟩ :=
  slice_strN_sn (s := ⟨h, g, d, tk, os⟩) F.fr F.nw (fun h' t' k f n => by rw [slice_sn hi]; exact q h' t' k (F.of f n)) hs ht hl.line
theorem sliceN1 {uj : Tok} {Q : Value → Shared → Prop} (F : Fm b L names vals led h) (hl : Small l)
    (q : ∀ h' t' k, Fm b L names vals led h' → Q (.str (T l.dropLast) t') ⟨h', g, d, k, os⟩)
    (hs : subscripted slice false (.str (T l) t) (.ref h.objs.size) = operate [.ref h.objs.size, .str (T l) t] (getItem (.str (T l) t) (.ref h.objs.size)) := by with_unfolding_all rfl)
    (ht : ∀ r, letTemporaryGo value (.str (T l) t) r = pure () := by intro _; with_unfolding_all rfl) :
    wpAny (model prog w) A (subscriptTail value slice (.str (T l) t) (.ref h.objs.size)) Q E ⟨h.push { cls := .type "slice", data := .fields #[.none, .int (-1) uj, .none] }, g, d, tk, os⟩ :=
  slice_strN_ns (s := ⟨h, g, d, tk, os⟩) F.fr F.nw (fun h' t' k f n => by rw [slice_n1]; exact q h' t' k (F.of f n)) hs ht hl.line

theorem itemT {i : Int} {Q : Value → Shared → Prop} (h0 : 0 ≤ i) (h1 : i < l.length) (hl : Small l) (q : ∀ t' k, Q (.str (T [l.getD i.toNat 0]) t') { s with toks := k })
    (hs : subscripted slice false (.str (T l) t) (.int i u) = operate [.str (T l) t, .int i u] (getItem (.str (T l) t) (.int i u)) := by with_unfolding_all rfl)
    (ht : ∀ r, letTemporaryGo value (.str (T l) t) r = pure () := by intro _; with_unfolding_all rfl) :
    wpAny (model prog w) A (subscriptTail value slice (.str (T l) t) (.int i u)) Q E s :=
  item_str (by simp [fitsSsize]; exact ⟨Int.le_trans (by decide) h0, Int.lt_trans h1 (ar_63 (ar_to hl _))⟩) (ar_neg h0) (by rw [T_len]; exact h1) (fun _ => by rw [item_nat h0 h1]; exact q _ _) hs ht
theorem itemLast {Q : Value → Shared → Prop} (h0 : l ≠ []) (q : ∀ t' k, Q (.str (T [l.getLastD 0]) t') { s with toks := k })
    (hs : subscripted slice false (.str (T l) t) (.int (-1) u) = operate [.str (T l) t, .int (-1) u] (getItem (.str (T l) t) (.int (-1) u)) := by with_unfolding_all rfl)
    (ht : ∀ r, letTemporaryGo value (.str (T l) t) r = pure () := by intro _; with_unfolding_all rfl) :
    wpAny (model prog w) A (subscriptTail value slice (.str (T l) t) (.int (-1) u)) Q E s :=
  item_str (by decide) (by rw [T_len]; exact ar_m1 (List.length_pos_iff.mpr h0)) (by rw [T_len]; exact Int.lt_of_lt_of_le (by decide) (Int.natCast_nonneg _)) (fun _ => by rw [item_last h0]; exact q _ _) hs ht

theorem beqT (l m : List Nat) : ((T l).cps.toList == (T m).cps.toList) = decide (l = m) := by rw [T_list, T_list, Bool.eq_iff_iff]; simp
theorem eqT {Q : Value → Shared → Prop} (q : Q (.bool (decide (l = m))) s) : wpAny (model prog w) A (compareOp .Eq (.str (T l) t) (.str (T m) u)) Q E s :=
  P.eq_str (by rw [beqT]; exact q)
theorem neT {Q : Value → Shared → Prop} (q : Q (.bool (decide (l ≠ m))) s) : wpAny (model prog w) A (compareOp .NotEq (.str (T l) t) (.str (T m) u)) Q E s :=
  P.ne_str (by rw [bne, beqT, decide_not.symm]; exact q)
theorem gtT {Q : Value → Shared → Prop} (q : Q (.bool (decide (m < l))) s) : wpAny (model prog w) A (compareOp .Gt (.str (T l) t) (.str (T m) u)) Q E s :=
  P.gt_str (by rw [T_list, T_list]; exact q)
theorem inT {Q : Value → Shared → Prop} {c : Nat} (q : Q (.bool (decide (c ∈ l))) s) : wpAny (model prog w) A (compareOp .In (.str (T [c]) u) (.str (T l) t)) Q E s :=
  P.in_str (by have := contains_one l c; unfold Txt.contains at this; rw [this]; exact q)
theorem notInT {Q : Value → Shared → Prop} {c : Nat} (q : Q (.bool (decide (c ∉ l))) s) : wpAny (model prog w) A (compareOp .NotIn (.str (T [c]) u) (.str (T l) t)) Q E s :=
  P.notIn_str (by have := contains_one l c; unfold Txt.contains at this; rw [this, decide_not.symm]; exact q)
theorem addT {Q : Value → Shared → Prop} (hs : Small (l ++ m)) (q : ∀ t' k, Q (.str (T (l ++ m)) t') { s with toks := k }) : wpAny (model prog w) A (binaryOp .Add (.str (T l) t) (.str (T m) u)) Q E s :=
  PyProof.Rows.add_str (fun t' k => by rw [T_app]; exact q _ _) (by rw [T_len, T_len, sizeLine_eq, ← List.length_append]; exact ar_to hs _)
theorem iaddT {Q : Value → Shared → Prop} (hs : Small (l ++ m)) (q : ∀ t' k, Q (.str (T (l ++ m)) t') { s with toks := k }) : wpAny (model prog w) A (inplaceOp .Add (.str (T l) t) (.str (T m) u)) Q E s :=
  PyProof.Rows.iadd_str (fun t' k => by rw [T_app]; exact q _ _) (by rw [T_len, T_len, sizeLine_eq, ← List.length_append]; exact ar_to hs _)
theorem truthyT {Q : Bool → Shared → Prop} (hs : Small l) (q : ∀ k, Q (decide (l ≠ [])) { s with toks := k }) : wpAny (model prog w) A (truthy (.str (T l) t)) Q E s :=
  P.truthy_str (by rw [T_len]; exact ar_64 (ar_to hs _)) (by
    rw [T_len]
    have : ((l.length : Int) != 0) = decide (l ≠ []) := by
      cases l with
      | nil => rfl
      | cons x r => rfl
    rw [this]; exact q _)
theorem lenT {Q : Value → Shared → Prop} (hs : Small l) (q : ∀ t' k, Q (.int l.length t') { s with toks := k }) : wpAny (model prog w) A (call (.builtin "len") [.str (T l) t]) Q E s :=
  P.len_str (by rw [T_len]; exact ar_64 (ar_to hs _)) (by rw [T_len]; exact q _ _)
theorem startsT {Q : Value → Shared → Prop} {c : Nat} (q : Q (.bool (l.head? == some c)) s) : wpAny (model prog w) A (call (.builtin "str.startswith") [.str (T l) t, .str (T [c]) u]) Q E s :=
  SC.startswith (by rw [starts_one]; exact q)
theorem endsT {Q : Value → Shared → Prop} {c : Nat} (q : Q (.bool (l.getLast? == some c)) s) : wpAny (model prog w) A (call (.builtin "str.endswith") [.str (T l) t, .str (T [c]) u]) Q E s :=
  SC.endswith (by rw [ends_one]; exact q)
theorem rfindT {Q : Value → Shared → Prop} {c : Nat} (q : ∀ t' k, Q (.int ((cutN c l : Int) - 1) t') { s with toks := k }) : wpAny (model prog w) A (call (.builtin "str.rfind") [.str (T l) t, .str (T [c]) u]) Q E s :=
  SC.rfind (by rw [rfind_one]; exact q _ _)
theorem rstripT {Q : Value → Shared → Prop} {c : Nat} (hs : Small l) (q : ∀ t' k, Q (.str (T (rst c l)) t') { s with toks := k }) : wpAny (model prog w) A (call (.builtin "str.rstrip") [.str (T l) t, .str (T [c]) u]) Q E s :=
  SC.rstripChars (fun t' k => by rw [rstrip_one]; exact q _ _) hs.line
theorem stripT {Q : Value → Shared → Prop} {c : Nat} (hs : Small l) (q : ∀ t' k, Q (.str (T (rst c (l.dropWhile (· == c)))) t') { s with toks := k }) : wpAny (model prog w) A (call (.builtin "str.strip") [.str (T l) t, .str (T [c]) u]) Q E s :=
  SC.stripChars (fun t' k => by rw [strip_one]; exact q _ _) hs.line
theorem replT {Q : Value → Shared → Prop} {c : Nat} {z : List Nat} {t2 : Tok} (hs : l.length ≤ 1000) (hz : z.length ≤ 1000) (hu : u ≠ 0) (hv : t2 ≠ 0) (huv : u ≠ t2) (hc : z ≠ [c]) (q : ∀ t' k, Q (.str (T (l.flatMap fun k => if k = c then z else [k])) t') { s with toks := k }) :
    wpAny (model prog w) A (call (.builtin "str.replace") [.str (T l) t, .str (T [c]) u, .str (T z) t2]) Q E s := by
  refine SC.replace hu hv huv ?_ ?_ (fun t' k => by rw [repl_T]; exact q t' k)
  · rw [beq_eq_false_iff_ne]; exact fun e => hc (T_inj e).symm
  · rw [T_len, T_len]
    have : (l.length + 1) * z.length ≤ 1001 * 1000 := Nat.mul_le_mul (Nat.add_le_add_right hs 1) hz
    exact Nat.le_trans (Nat.add_le_add hs this) (by decide)
theorem mul_one (c n : Nat) : Txt.mul (T [c]) n = T (List.replicate n c) := by
  unfold Txt.mul
  by_cases h0 : (n : Int) < 1
  · rw [if_pos h0]
    obtain rfl := Nat.lt_one_iff.mp (Int.ofNat_lt.mp h0)
    rfl
  · rw [if_neg h0]
    by_cases h1 : n = 1
    · subst h1; rfl
    · have : ((n : Int) == 1 || (T [c]).length == 0) = false := by simp [T_len]; (first | exact ar_to (by assumption) _ | lia | omega)
      rw [this, if_neg (by simp)]
      have key : ∀ (n : Nat) (acc : List Nat), (List.replicate n (T [c]).cps).foldl (· ++ ·) acc.toArray = (acc ++ List.replicate n c).toArray := by
        intro n
        induction n with
        | zero => intro acc; simp
        | succ n ih => intro acc; rw [List.replicate_succ, List.foldl_cons, show acc.toArray ++ (T [c]).cps = (acc ++ [c]).toArray by simp [T], ih]; simp [List.replicate_succ]
      have := key n []
      show (⟨_⟩ : Str) = ⟨_⟩
      rw [Int.toNat_natCast]
      simpa using this
theorem mulT {Q : Value → Shared → Prop} {c : Nat} {n : Nat} (hs : n ≤ 1000000) (q : ∀ t' k, Q (.str (T (List.replicate n c)) t') { s with toks := k }) : wpAny (model prog w) A (binaryOp .Mult (.str (T [c]) t) (.int n u)) Q E s := by
  refine SB.mul ?_ (fun t' k => by rw [mul_one]; exact q t' k)
  refine ⟨by simp; exact ar_63 (ar_to hs _), fun h1 _ => ?_, fun h1 _ => ?_⟩
  · rw [T_len]
    have : (1 : Int) ≤ 9223372036854775807 / n := Int.le_ediv_of_mul_le (Int.lt_of_lt_of_le (by decide) (Int.not_lt.mp h1)) (by rw [Int.one_mul]; exact Int.le_trans (Int.ofNat_le.mpr hs) (by decide))
    simp; (first | exact ar_to (by assumption) _ | lia | omega)
  · rw [T_len]
    simp [tooLong, sizeLine_eq]; exact ar_to hs _
end
end

section
open PySem PySem.Calls PyProof.Rows PySem.Builtin PySem.Builtin.Str
section
variable {b h : Heap} {L : Addr} {names : List Str} {vals : List (Option Value)} {led : List (Addr × Obj)} {M : Model} {A : Around} {E : Value → Shared → Prop} {env : Env} {gl : List Str}
  {g : Array GenState} {d : Drawn} {tk : Nat} {os : OsState} {s : Shared} {prog : Program} {w : World} {l m : List Nat} {t u : Tok} {value slice : Expr}
theorem isTup {a : Addr} {vs : List Value} (e : h.get? a = some (tupObj vs)) : IsTup h a vs.toArray := ⟨_, e, rfl, _, rfl⟩
theorem isList {a : Addr} {vs : List Value} {n : Nat} (e : h.get? a = some (listObj vs n)) : h.IsList a vs.toArray := ⟨_, e, rfl, _, rfl⟩
theorem Keep.ext {h h' : Heap} (x : Heap.ExtBut h.objs.size h h') : Keep h h' := fun b o e => x b o (Nat.ne_of_lt (Heap.lt_size e)) e

theorem swap_at {n : Nat} {ts : List Expr} {v : Expr} {o : Option (List Str)} (hE : ∃ a cd, env = envOf (fName n) (fScope n) L a cd)
    (hw : ∀ a cd, swappedStores ts v (envOf (fName n) (fScope n) L a cd) = pure o) : swappedStores ts v env = pure o := by
  obtain ⟨a, cd, rfl⟩ := hE; exact hw a cd
theorem Assign_swapped2 {x y : Str} {px py tp pos : Pos} {value : Expr} {k : Nat} {Q : Flow → Shared → Prop}
    (hq : wpAny M A (eval value env) (fun v s₁ => wpAny M A (unpackItems v 2 none) (fun items s₂ => wpAny M A (assignInOrder [fun v => bindName env y v, fun v => bindName env x v] items.reverse) (fun _ => Q .next) E s₂) E s₁) E s)
    (hs : swapsWithSole [.Tuple [.Name x px, .Name y py] k tp] value pos.line env = pure false) (hw : swappedStores [.Tuple [.Name x px, .Name y py] k tp] value env = pure (some [x, y])) :
    wpAny M A (exec (.Assign [.Tuple [.Name x px, .Name y py] k tp] value pos) env) Q E s := Assign_Tuple_swapped (names := [x, y]) hq hs hw
theorem unpackTup {a : Addr} {vs : List Value} {n : Nat} {Q : List Value → Shared → Prop} (F : Fm b L names vals led h) (R : A.handled = none) (hg : h.get? a = some (tupObj vs)) (hn : n = vs.length)
    (q : ∀ h', Fm b L names vals led h' → Q vs ⟨h', g, d, tk, os⟩) : wpAny (model prog w) A (unpackItems (.ref a) n none) Q E ⟨h, g, d, tk, os⟩ := by
  subst hn
  exact unpackItems_tuple (s := ⟨h, g, d, tk, os⟩) R (isTup hg) (fun h' x => q h' (F.went (Keep.ext x)))
theorem assignTup {a : Addr} {vs : List Value} {elts : List Expr} {k : Nat} {pos : Pos} {Q : Unit → Shared → Prop} (F : Fm b L names vals led h) (R : A.handled = none) (hg : h.get? a = some (tupObj vs))
    (hn : (assignEach elts env).length = vs.length) (hstar : (assignEach elts env).findIdx? (·.1) = none)
    (q : ∀ h', Fm b L names vals led h' → wpAny (model prog w) A (assignInOrder ((assignEach elts env).map (·.2)) vs) Q E ⟨h', g, d, tk, os⟩) :
    wpAny (model prog w) A (assign (.Tuple elts k pos) env (.ref a)) Q E ⟨h, g, d, tk, os⟩ :=
  assign_Tuple_tuple (s := ⟨h, g, d, tk, os⟩) R (isTup hg) (by simpa using hn) hstar fun h' x => q h' (F.went (Keep.ext x))
theorem exprF {e : Expr} {pos : Pos} {Q : Flow → Shared → Prop} (X : FE env L names gl) (hq : wpAny M A (eval e env) (fun v s' => match v with | .ref _ => False | _ => Q .next s') E s)
    (hs : swapsWith e none pos.line env = pure false := by rfl) : wpAny M A (exec (.Expr e pos) env) Q E s :=
  wpAny_Expr hq (by unfold interactive; rw [X.kind]; rfl) hs
end
end

section
open PySem PySem.Calls PyProof.Rows PySem.Builtin PySem.Builtin.Str
section
variable {b h : Heap} {L : Addr} {names : List Str} {vals : List (Option Value)} {led : List (Addr × Obj)} {M : Model} {A : Around} {E : Value → Shared → Prop} {env : Env} {gl : List Str}
  {g : Array GenState} {d : Drawn} {tk : Nat} {os : OsState} {s : Shared} {prog : Program} {w : World} {l m : List Nat} {t u : Tok} {value slice : Expr}

/-- a turn's end: the walk stops here -/
noncomputable def Stop (P : Prop) : Prop := P
inductive TurnEnd (J : List (Option Value) → List (Addr × Obj) → Prop) (b : Heap) (L : Addr) (names : List Str) (it : Addr) (o : Obj) (g : Array GenState) (d : Drawn) (os : OsState) (s : Shared) : Prop
  | mk (vals : List (Option Value)) (led : List (Addr × Obj)) (h : Heap) (tk : Nat) (e : s = ⟨h, g, d, tk, os⟩) (j : J vals led) (F : Fm b L names vals ((it, o) :: led) h)
inductive IterSt (b : Heap) (L : Addr) (names : List Str) (J : Nat → List (Option Value) → List (Addr × Obj) → Prop) (a it : Addr) (c : String) (m : Nat) (g : Array GenState) (d : Drawn) (os : OsState) (n : Nat) (s : Shared) : Prop
  | mk (i : Nat) (vals : List (Option Value)) (led : List (Addr × Obj)) (o : Obj) (h' : Heap) (tk' : Nat) (e : s = ⟨h', g, d, tk', os⟩) (e1 : n = m - i) (hi : i ≤ m) (hJ : J i vals led) (F : Fm b L names vals ((it, o) :: led) h')
    (hc : o.cls = .type c) (hd : o.data = .fields #[.ref a, .int i 0])
inductive RangeSt (b : Heap) (L : Addr) (names : List Str) (J : Nat → List (Option Value) → List (Addr × Obj) → Prop) (it : Addr) (lo st : Int) (n : Nat) (g : Array GenState) (d : Drawn) (os : OsState) (k : Nat) (s : Shared) : Prop
  | mk (i : Nat) (vals : List (Option Value)) (led : List (Addr × Obj)) (h' : Heap) (tk' : Nat) (e : s = ⟨h', g, d, tk', os⟩) (e1 : k = n - i) (hi : i ≤ n) (hJ : J i vals led)
    (F : Fm b L names vals ((it, { cls := .type "range_iterator", data := .fields #[rawInt (lo + i * st), rawInt ((n : Int) - i), rawInt st] }) :: led) h')
/-- a while by a measure -/
theorem while_ {test : Expr} {body : List Stmt} {pos : Pos} {Q : Flow → Shared → Prop} (I : Nat → Shared → Prop) (n : Nat) (h0 : I n s)
    (turn : ∀ n s E', I n s → wpAny (model prog w) A (isTrue test env (eval test env)) (fun b s₂ => if b then wpAny (model prog w) A (execs body env) (fun f s₃ => match f with
        | .next | .cont => Stop (∃ m, m < n ∧ I m s₃)
        | .brk => Q .next s₃
        | .ret v => Q (.ret v) s₃) E' s₂ else Q .next s₂) E' s) : wpAny (model prog w) A (exec (.While test body [] pos) env) Q E s :=
  wpAny_While (codeAny_whileLoop I (fun n s hI => wpAny_mono (turn n s _ hI) (fun b s₂ h₂ => by
    cases b with
    | true => exact h₂
    | false => exact wpAny_execs_nil h₂) fun _ _ x => x) n h0)

theorem Fm.iterGone (F : Fm b L names vals led h) {it : Addr} {o : Obj} (F' : Fm b L names vals ((it, o) :: led) h) {h' : Heap} (x : Heap.ExtBut it h h') : Fm b L names vals led h' where
  top := F.top
  fr := by
    have q := F'.nw _ List.mem_cons_self
    obtain ⟨oL, es, ep, e, r⟩ := F.fr.ns
    refine ⟨⟨oL, es, ep, x _ _ (fun e' => q.2.1 e'.symm) e, r⟩, fun p o e => x _ _ (fun e' => ?_) (F.fr.keep p o e), F.fr.above⟩
    subst e'; rw [q.2.2] at e; cases e
  nw := fun p hp => by
    have ne : p.1 ≠ it := fun e => by
      have := List.nodup_cons.mp F'.nd
      exact this.1 (List.mem_map.mpr ⟨p, hp, e⟩)
    exact ⟨x _ _ ne (F.nw p hp).1, (F.nw p hp).2⟩
  nd := F.nd

/-- for over a list -/
theorem iterList {x : Str} {px : Pos} {body : List Stmt} {Q : Flow → Shared → Prop} {a : Addr} {vs : List Value} (J : Nat → List (Option Value) → List (Addr × Obj) → Prop)
    (X : FE env L names gl) (hA : A.handled = none) (hx : In1 names x) (F : Fm b L names vals led h) (h0 : J 0 vals led)
    (hls : ∀ i vals led h', J i vals led → Fm b L names vals led h' → h'.IsList a vs.toArray)
    (ix : Nat) (hup : ∀ i vals led v, J i vals led → Up names vals x v (vals.set ix (some v)))
    (turn : ∀ i v vals led it o h' tk' E', vs[i]? = some v → J i vals led → Fm b L names (vals.set ix (some v)) ((it, o) :: led) h' →
      wpAny (model prog w) A (execs body env) (fun f s₃ => match f with
        | .next | .cont => TurnEnd (J (i + 1)) b L names it o g d os s₃
        | .brk => Q .next s₃
        | .ret v => Q (.ret v) s₃) E' ⟨h', g, d, tk', os⟩)
    (done : ∀ vals led h' tk', J vs.length vals led → Fm b L names vals led h' → Q .next ⟨h', g, d, tk', os⟩)
    (ht : ∀ it v, letOwnedTupleGo (.Name x px) it v = pure () := by intro _ _; rfl) :
    wpAny (model prog w) A (pyIter (.ref a)) (fun it s₂ => codeAny (model prog w) A (.forLoop (.Name x px) it body [] env) (fun r s' => match r with | .ok f => Q f s' | .error e => cameBackBy (model prog w) A env E e s') s₂) E ⟨h, g, d, tk, os⟩ := by
  refine wpAny_pyIter_list (hls _ _ _ _ h0 F) ?_
  refine codeAny_forLoop (fun n s => IterSt b L names J a h.objs.size "list_iterator" vs.length g d os n s)
    ?_ vs.length ⟨0, vals, led, _, _, tk, rfl, rfl, Nat.zero_le _, h0, F.alloc rfl, rfl, rfl⟩ (ht _)
  rintro n s ⟨i, vals, led, o, h', tk', rfl, rfl, hi, hJ, F', hc, hd⟩
  have Fl : Fm b L names vals led h' := F'.sub (fun p hp => List.mem_cons_of_mem _ hp) (List.nodup_cons.mp F'.nd).2
  have hl := hls _ _ _ _ hJ Fl
  have hit : h'.IsListIter h.objs.size a i := ⟨o, F'.get .here, hc, hd⟩
  by_cases hlt : i < vs.length
  · have hv : vs[i]? = some vs[i] := List.getElem?_eq_getElem hlt
    refine wpAny_pyNext_list_item (s := ⟨h', g, d, tk', os⟩) hit hl (x := vs[i]) (by rw [List.getElem?_toArray]; exact hv) fun h₁ hit₁ hs₁ => ?_
    obtain ⟨o₁, ho₁, hc₁, hd₁⟩ := hit₁
    have F₁ := F'.put Put.here hs₁ ho₁
    have u := hup i vals led vs[i] hJ
    refine wpAny_assign_Name (storeL X F₁ u fun h₂ F₂ tk₂ => ?_)
    refine wpAny_mono (turn i vs[i] vals led _ _ h₂ tk₂ _ hv hJ F₂) (fun f s₃ h₃ => ?_) fun _ _ x => x
    cases f with
    | next | cont =>
      obtain ⟨vals₃, led₃, h₃', tk₃, rfl, hJ₃, F₃⟩ := h₃
      exact ⟨vs.length - (i + 1), ar_back hlt, i + 1, vals₃, led₃, o₁, h₃', tk₃, rfl, rfl, hlt, hJ₃, F₃, hc₁, hd₁⟩
    | brk => exact h₃
    | ret v => exact h₃
  · have hi' : i = vs.length := ar_end hi hlt
    subst hi'
    refine wpAny_pyNext_list_end (s := ⟨h', g, d, tk', os⟩) hA hit hl (by simp) fun h₁ hx₁ => ?_
    exact wpAny_execs_nil (done vals led h₁ tk' hJ (Fl.iterGone F' hx₁))

/-- for over a tuple -/
theorem iterTuple {x : Str} {px : Pos} {body : List Stmt} {Q : Flow → Shared → Prop} {a : Addr} {vs : List Value} (J : Nat → List (Option Value) → List (Addr × Obj) → Prop)
    (X : FE env L names gl) (hA : A.handled = none) (hx : In1 names x) (F : Fm b L names vals led h) (h0 : J 0 vals led)
    (hls : ∀ i vals led h', J i vals led → Fm b L names vals led h' → h'.IsTuple a vs.toArray)
    (ix : Nat) (hup : ∀ i vals led v, J i vals led → Up names vals x v (vals.set ix (some v)))
    (turn : ∀ i v vals led it o h' tk' E', vs[i]? = some v → J i vals led → Fm b L names (vals.set ix (some v)) ((it, o) :: led) h' →
      wpAny (model prog w) A (execs body env) (fun f s₃ => match f with
        | .next | .cont => TurnEnd (J (i + 1)) b L names it o g d os s₃
        | .brk => Q .next s₃
        | .ret v => Q (.ret v) s₃) E' ⟨h', g, d, tk', os⟩)
    (done : ∀ vals led h' tk', J vs.length vals led → Fm b L names vals led h' → Q .next ⟨h', g, d, tk', os⟩)
    (ht : ∀ it v, letOwnedTupleGo (.Name x px) it v = pure () := by intro _ _; rfl) :
    wpAny (model prog w) A (pyIter (.ref a)) (fun it s₂ => codeAny (model prog w) A (.forLoop (.Name x px) it body [] env) (fun r s' => match r with | .ok f => Q f s' | .error e => cameBackBy (model prog w) A env E e s') s₂) E ⟨h, g, d, tk, os⟩ := by
  refine wpAny_pyIter_tuple (hls _ _ _ _ h0 F) ?_
  refine codeAny_forLoop (fun n s => IterSt b L names J a h.objs.size "tuple_iterator" vs.length g d os n s)
    ?_ vs.length ⟨0, vals, led, _, _, tk, rfl, rfl, Nat.zero_le _, h0, F.alloc rfl, rfl, rfl⟩ (ht _)
  rintro n s ⟨i, vals, led, o, h', tk', rfl, rfl, hi, hJ, F', hc, hd⟩
  have Fl : Fm b L names vals led h' := F'.sub (fun p hp => List.mem_cons_of_mem _ hp) (List.nodup_cons.mp F'.nd).2
  have hl := hls _ _ _ _ hJ Fl
  have hit : h'.IsTupleIter h.objs.size a i := ⟨o, F'.get .here, hc, hd⟩
  by_cases hlt : i < vs.length
  · have hv : vs[i]? = some vs[i] := List.getElem?_eq_getElem hlt
    refine wpAny_pyNext_tuple_item (s := ⟨h', g, d, tk', os⟩) hit hl (x := vs[i]) (by rw [List.getElem?_toArray]; exact hv) fun h₁ hit₁ hs₁ => ?_
    obtain ⟨o₁, ho₁, hc₁, hd₁⟩ := hit₁
    have F₁ := F'.put Put.here hs₁ ho₁
    have u := hup i vals led vs[i] hJ
    refine wpAny_assign_Name (storeL X F₁ u fun h₂ F₂ tk₂ => ?_)
    refine wpAny_mono (turn i vs[i] vals led _ _ h₂ tk₂ _ hv hJ F₂) (fun f s₃ h₃ => ?_) fun _ _ x => x
    cases f with
    | next | cont =>
      obtain ⟨vals₃, led₃, h₃', tk₃, rfl, hJ₃, F₃⟩ := h₃
      exact ⟨vs.length - (i + 1), ar_back hlt, i + 1, vals₃, led₃, o₁, h₃', tk₃, rfl, rfl, hlt, hJ₃, F₃, hc₁, hd₁⟩
    | brk => exact h₃
    | ret v => exact h₃
  · have hi' : i = vs.length := ar_end hi hlt
    subst hi'
    refine wpAny_pyNext_tuple_end (s := ⟨h', g, d, tk', os⟩) hA hit hl (by simp) fun h₁ hx₁ => ?_
    exact wpAny_execs_nil (done vals led h₁ tk' hJ (Fl.iterGone F' hx₁))

/-- for over a range -/
theorem iterRange {x : Str} {px : Pos} {body : List Stmt} {Q : Flow → Shared → Prop} {a : Addr} {lo hi st : Int} {t1 t2 t3 : Tok} {n : Nat} (J : Nat → List (Option Value) → List (Addr × Obj) → Prop)
    (X : FE env L names gl) (hA : A.handled = none) (hx : In1 names x) (F : Fm b L names vals led h) (hr : IsRange h a lo hi st t1 t2 t3) (hsm : Builtin.Range.small lo hi st = true) (hn : Builtin.Range.rangeSize lo hi st = n) (h0 : J 0 vals led)
    (ix : Nat) (hup : ∀ i vals led v, J i vals led → Up names vals x v (vals.set ix (some v)))
    (turn : ∀ i tv vals led it o h' tk' E', i < n → J i vals led → Fm b L names (vals.set ix (some (.int (lo + i * st) tv))) ((it, o) :: led) h' →
      wpAny (model prog w) A (execs body env) (fun f s₃ => match f with
        | .next | .cont => TurnEnd (J (i + 1)) b L names it o g d os s₃
        | .brk => Q .next s₃
        | .ret v => Q (.ret v) s₃) E' ⟨h', g, d, tk', os⟩)
    (done : ∀ vals led h' tk', J n vals led → Fm b L names vals led h' → Q .next ⟨h', g, d, tk', os⟩)
    (ht : ∀ it v, letOwnedTupleGo (.Name x px) it v = pure () := by intro _ _; rfl) :
    wpAny (model prog w) A (pyIter (.ref a)) (fun it s₂ => codeAny (model prog w) A (.forLoop (.Name x px) it body [] env) (fun r s' => match r with | .ok f => Q f s' | .error e => cameBackBy (model prog w) A env E e s') s₂) E ⟨h, g, d, tk, os⟩ := by
  refine wpAny_pyIter_range hr hsm ?_
  rw [hn]
  refine codeAny_forLoop (fun k s => RangeSt b L names J h.objs.size lo st n g d os k s)
    ?_ n ⟨0, vals, led, _, tk, rfl, rfl, Nat.zero_le _, h0, by simpa using F.alloc rfl⟩ (ht _)
  rintro k s ⟨i, vals, led, h', tk', rfl, rfl, hi, hJ, F'⟩
  have Fl : Fm b L names vals led h' := F'.sub (fun p hp => List.mem_cons_of_mem _ hp) (List.nodup_cons.mp F'.nd).2
  have hit : IsRangeIter h' h.objs.size (lo + i * st) ((n : Int) - i) st := F'.get .here
  by_cases hlt : i < n
  · refine wpAny_pyNext_range_item (s := ⟨h', g, d, tk', os⟩) hit (Int.sub_pos_of_lt (Int.ofNat_lt.mpr hlt)) fun h₁ hit₁ hs₁ => ?_
    have F₁ := F'.put Put.here hs₁ hit₁
    have u := hup i vals led (.int (lo + i * st) tk') hJ
    refine wpAny_assign_Name (storeL X F₁ u fun h₂ F₂ tk₂ => ?_)
    refine wpAny_mono (turn i tk' vals led _ _ h₂ tk₂ _ hlt hJ F₂) (fun f s₃ h₃ => ?_) fun _ _ x => x
    have e1 : lo + i * st + st = lo + ((i + 1 : Nat) : Int) * st := by show lo + i * st + st = lo + ((i : Int) + 1) * st; rw [Int.add_mul, Int.one_mul, Int.add_assoc]
    have e2 : (n : Int) - i - 1 = (n : Int) - ((i + 1 : Nat) : Int) := Int.sub_sub _ _ _
    rw [e1, e2] at h₃
    cases f with
    | next | cont =>
      obtain ⟨vals₃, led₃, h₃', tk₃, rfl, hJ₃, F₃⟩ := h₃
      exact ⟨n - (i + 1), ar_back hlt, i + 1, vals₃, led₃, h₃', tk₃, rfl, rfl, hlt, hJ₃, F₃⟩
    | brk => exact h₃
    | ret v => exact h₃
  · have hi' : i = n := ar_end hi hlt
    subst hi'
    refine wpAny_pyNext_range_end (s := ⟨h', g, d, tk', os⟩) hA hit (Int.le_of_eq (Int.sub_self _)) fun h₁ hx₁ => ?_
    exact wpAny_execs_nil (done vals led h₁ tk' hJ (Fl.iterGone F' hx₁))

theorem appendF {D : Addr} {vs : List Value} {n : Nat} {x : Value} {led' : List (Addr × Obj)} {Q : Value → Shared → Prop} (F : Fm b L names vals led h) (hg : Got led D (listObj vs n)) (u : Put led D (listObj (vs ++ [x]) (n + 1)) led')
    (hsz : vs.length ≤ sizeLine) (q : ∀ h', Fm b L names vals led' h' → Q .none ⟨h', g, d, tk, os⟩) : wpAny (model prog w) A (call (.builtin "list.append") [.ref D, x]) Q E ⟨h, g, d, tk, os⟩ :=
  append_at (s := ⟨h, g, d, tk, os⟩) (its := vs.toArray) (F.get hg) (fun h' hs ho => q h' (F.put u hs (by rw [ho, List.push_toArray]; rfl))) (by rw [List.size_toArray]; exact hsz)

/-- texts as values -/
inductive TV : List Value → List (List Nat) → Prop
  | nil : TV [] []
  | cons {x t vs xs} : TV vs xs → TV (.str (T x) t :: vs) (x :: xs)
theorem TV.len {vs : List Value} {xs : List (List Nat)} (v : TV vs xs) : vs.length = xs.length := by
  induction v with
  | nil => rfl
  | cons _ ih => simp [ih]
theorem TV.app {vs ws : List Value} {xs ys : List (List Nat)} (v : TV vs xs) (u : TV ws ys) : TV (vs ++ ws) (xs ++ ys) := by
  induction v with
  | nil => exact u
  | cons _ ih => exact .cons ih
theorem TV.at {vs : List Value} {xs : List (List Nat)} (v : TV vs xs) : ∀ {i : Nat} {y : Value}, vs[i]? = some y → ∃ x t, xs[i]? = some x ∧ y = .str (T x) t := by
  induction v with
  | nil => intro i y e; simp at e
  | @cons x t vs xs _ ih =>
    intro i y e
    cases i with
    | zero => simp at e; exact ⟨x, t, rfl, e.symm⟩
    | succ i => exact ih (by simpa using e)
theorem TV.strs {vs : List Value} {xs : List (List Nat)} (v : TV vs xs) : StrsAre vs (xs.map T) := by
  induction v with
  | nil => exact .nil
  | cons _ ih => exact .cons _ _ ih

theorem addListF {a c : Addr} {vs ws : List Value} {n k : Nat} {Q : Value → Shared → Prop} (F : Fm b L names vals led h) (ha : Got led a (listObj vs n)) (hc : Got led c (listObj ws k)) (hsz : vs.length + ws.length ≤ sizeLine)
    (q : ∀ h' r, Keep h h' → h.get? r = none → Fm b L names vals ((r, listObj (vs ++ ws)) :: led) h' → Q (.ref r) ⟨h', g, d, tk, os⟩) : wpAny (model prog w) A (binaryOp .Add (.ref a) (.ref c)) Q E ⟨h, g, d, tk, os⟩ :=
  P.add_list (s := ⟨h, g, d, tk, os⟩) (items := vs.toArray) (items2 := ws.toArray) (F.get ha) (F.get hc) (by rw [List.append_toArray]; exact q _ _ (Keep.push _ _) (Heap.get?_size h) (F.alloc rfl)) (by simpa using hsz)
end
end

section
open PySem PySem.Calls PyProof.Rows PySem.Builtin PySem.Builtin.Str
section
variable {b h : Heap} {L : Addr} {names : List Str} {vals : List (Option Value)} {led : List (Addr × Obj)} {M : Model} {A : Around} {E : Value → Shared → Prop} {env : Env} {gl : List Str}
  {g : Array GenState} {d : Drawn} {tk : Nat} {os : OsState} {s : Shared} {prog : Program} {w : World} {l m : List Nat} {t u : Tok} {value slice : Expr}

theorem TV.of_values : ∀ {l : List (Str × Tok)} {xs : List (List Nat)}, l.map (·.1) = xs.map T → TV (strValues l) xs
  | [], [], _ => .nil
  | (y, t) :: l, x :: xs, e => by
    simp only [List.map_cons, List.cons.injEq] at e
    obtain ⟨rfl, e⟩ := e
    exact .cons (TV.of_values e)
  | [], _ :: _, e => by simp at e
  | _ :: _, [], e => by simp at e
theorem Fm.of_new (F : Fm b L names vals led h) {h' : Heap} {o : Obj} (f : Fr b L h' (look names vals)) (n : News b L h' ((h.objs.size, o) :: led)) : Fm b L names vals ((h.objs.size, o) :: led) h' :=
  ⟨F.top, f, n, List.nodup_cons.mpr ⟨F.none_of_led (Heap.get?_size h), F.nd⟩⟩
theorem splitStrF {c : Nat} {Q : Value → Shared → Prop} (F : Fm b L names vals led h) (hl : Small l)
    (q : ∀ h' r k vs, TV vs (sp c l) → Fm b L names vals ((r, listObj vs) :: led) h' → Q (.ref r) ⟨h', g, d, k, os⟩) : wpAny (model prog w) A (call (.builtin "str.split") [.str (T l) t, .str (T [c]) u]) Q E ⟨h, g, d, tk, os⟩ :=
  splitN1 (s := ⟨h, g, d, tk, os⟩) F.fr F.nw rfl (fun l' h' k e f n => by
    rw [split_T] at e
    exact q h' _ k _ (TV.of_values e) (F.of_new f n)) (by rw [T_len, sizeLine_eq]; exact Nat.le_trans (Nat.add_le_add_right hl 2) (by decide))

theorem joinL_len (sep : List Nat) : ∀ xs : List (List Nat), (joinL sep xs).length ≤ (xs.map (·.length)).sum + xs.length * sep.length
  | [] => by simp [joinL]
  | [p] => by simp [joinL]
  | p :: q :: r => by
    have := joinL_len sep (q :: r)
    simp only [joinL, List.length_append, List.map_cons, List.sum_cons, List.length_cons, Nat.succ_mul] at this ⊢
    (first | exact ar_to (by assumption) _ | lia | omega)
theorem joinF {a : Addr} {vs : List Value} {n : Nat} {xs : List (List Nat)} {sep : List Nat} {Q : Value → Shared → Prop} (F : Fm b L names vals led h) (hg : Got led a (listObj vs n)) (hv : TV vs xs)
    (hs : (xs.map (·.length)).sum + xs.length * sep.length ≤ 1000000)
    (q : ∀ t' k, Q (.str (T (joinL sep xs)) t') ⟨h, g, d, k, os⟩) : wpAny (model prog w) A (call (.builtin "str.join") [.str (T sep) t, .ref a]) Q E ⟨h, g, d, tk, os⟩ :=
  join_list (s := ⟨h, g, d, tk, os⟩) (items := vs.toArray) (isList (F.get hg)) (by simpa using hv.strs) (by
    rw [List.map_map, T_len, List.length_map]
    have : ((fun x : Str => x.length) ∘ T) = fun x : List Nat => x.length := by funext x; exact T_len x
    rw [this]; exact ar_to hs _) (fun t' k => by rw [Txt_join]; exact q t' k)
theorem truthyList {a : Addr} {vs : List Value} {n : Nat} {Q : Bool → Shared → Prop} (F : Fm b L names vals led h) (hg : Got led a (listObj vs n)) (hs : vs.length ≤ sizeLine)
    (q : ∀ k, Q (decide (vs ≠ [])) ⟨h, g, d, k, os⟩) : wpAny (model prog w) A (truthy (.ref a)) Q E ⟨h, g, d, tk, os⟩ :=
  wpAny_truthy_list (s := ⟨h, g, d, tk, os⟩) (items := vs.toArray) (isList (F.get hg)) (by rw [sizeLine_eq] at hs; simp; (first | exact ar_to (by assumption) _ | lia | omega)) (by
    have : (!vs.toArray.isEmpty) = decide (vs ≠ []) := by cases vs <;> simp
    rw [this]; exact q _)
theorem itemList {a : Addr} {vs : List Value} {n : Nat} {k : Int} {x : Value} {Q : Value → Shared → Prop} (F : Fm b L names vals led h) (hg : Got led a (listObj vs n)) (h0 : 0 ≤ k) (hk : k < 1000000) (hx : vs[k.toNat]? = some x)
    (q : Q x ⟨h, g, d, tk, os⟩)
    (hs : subscripted slice false (.ref a) (.int k u) = operate [.ref a, .int k u] (getItem (.ref a) (.int k u)) := by with_unfolding_all rfl) :
    wpAny (model prog w) A (subscriptTail value slice (.ref a) (.int k u)) Q E ⟨h, g, d, tk, os⟩ :=
  item_listR (s := ⟨h, g, d, tk, os⟩) (items := vs.toArray) (isList (F.get hg)) h0 (Int.lt_trans hk (by decide)) (by rw [List.getElem?_toArray]; exact hx) q hs
theorem itemListLast {a : Addr} {vs : List Value} {n : Nat} {x : Value} {Q : Value → Shared → Prop} (F : Fm b L names vals led h) (hg : Got led a (listObj vs n)) (hx : vs.getLast? = some x)
    (q : Q x ⟨h, g, d, tk, os⟩)
    (hs : subscripted slice false (.ref a) (.int (-1) u) = operate [.ref a, .int (-1) u] (getItem (.ref a) (.int (-1) u)) := by with_unfolding_all rfl) :
    wpAny (model prog w) A (subscriptTail value slice (.ref a) (.int (-1) u)) Q E ⟨h, g, d, tk, os⟩ := by
  have hl := isList (F.get hg)
  have hp : 0 < vs.length := by cases vs with
    | nil => simp at hx
    | cons _ _ => simp
  refine subscriptTail_builtinR (s := ⟨h, g, d, tk, os⟩) hl.typeIs slot_list_getitem.lookup (wpAny_getItem_list_neg hl (by decide) (by rw [List.size_toArray]; exact ar_m1 hp) (by decide) ?_ ⟨rfl, q⟩) hs
  rw [List.getElem?_toArray, List.size_toArray, ar_last, ← List.getLast?_eq_getElem?]
  exact hx
theorem popF {a : Addr} {vs : List Value} {n : Nat} {x : Value} {led' : List (Addr × Obj)} {Q : Value → Shared → Prop} (F : Fm b L names vals led h) (hg : Got led a (listObj vs n)) (up : Put led a (listObj vs.dropLast (n + 1)) led') (hx : vs.getLast? = some x) (hs : vs.length ≤ sizeLine)
    (q : ∀ h', Fm b L names vals led' h' → Q x ⟨h', g, d, tk, os⟩) : wpAny (model prog w) A (call (.builtin "list.pop") [.ref a]) Q E ⟨h, g, d, tk, os⟩ := by
  have hl := F.get hg
  have hy : vs.toArray[vs.toArray.size - 1]? = some x := by rw [List.getElem?_toArray, List.size_toArray, ← List.getLast?_eq_getElem?]; exact hx
  refine call_meets (s := ⟨h, g, d, tk, os⟩) PySem.F.slot_list_pop ⟨_, hl, rfl⟩ PySem.F.entry_list_pop (PySem.F.args_list_pop_1 _) (MeetsSeq.list_pop_last a vs.toArray n x hy (by simpa using hs)) ⟨hl, ?_⟩
  refine q _ (F.put up (Heap.SameBut.update _ _ _) ?_)
  rw [Heap.get?_update_self _ hl rfl]
  have e : vs.toArray.eraseIdxIfInBounds (vs.toArray.size - 1) = vs.dropLast.toArray := by
    have hp : 0 < vs.length := by cases vs with
      | nil => simp at hx
      | cons _ _ => simp
    rcases List.eq_nil_or_concat vs with rfl | ⟨ys, y, rfl⟩
    · simp at hp
    · unfold Array.eraseIdxIfInBounds
      rw [dif_pos (by simp)]
      apply Array.toList_inj.mp
      simp [List.eraseIdx_append_of_length_le]
  have hp : 0 < vs.length := by cases vs with
    | nil => simp at hx
    | cons _ _ => simp
  have e2 : (vs.dropLast.toArray.size == vs.toArray.size) = false := by simp; (first | exact ar_to (by assumption) _ | lia | omega)
  unfold listObj Obj.mapSeq
  dsimp only
  rw [e, e2]; rfl

theorem TV.last {vs : List Value} {xs : List (List Nat)} (v : TV vs xs) : (vs = [] ∧ xs = []) ∨ ∃ x t, vs.getLast? = some (.str (T x) t) ∧ xs.getLast? = some x := by
  induction v with
  | nil => exact .inl ⟨rfl, rfl⟩
  | @cons x t vs xs _ ih =>
    rcases ih with ⟨rfl, rfl⟩ | ⟨y, u, e1, e2⟩
    · exact .inr ⟨x, t, rfl, rfl⟩
    · refine .inr ⟨y, u, ?_, ?_⟩
      · rw [List.getLast?_cons, e1]; rfl
      · rw [List.getLast?_cons, e2]; rfl
theorem TV.snoc {vs : List Value} {xs : List (List Nat)} (v : TV vs xs) {x : List Nat} {t : Tok} : TV (vs ++ [.str (T x) t]) (xs ++ [x]) := v.app (.cons .nil)
theorem TV.dropLast {vs : List Value} {xs : List (List Nat)} (v : TV vs xs) : TV vs.dropLast xs.dropLast := by
  induction v with
  | nil => exact .nil
  | @cons x t vs xs v' ih =>
    cases v' with
    | nil => exact .nil
    | cons v'' => exact .cons ih
noncomputable def wsum (l : List (List Nat)) : Nat := (l.map (·.length)).sum + l.length
theorem wsum_nil : wsum [] = 0 := rfl
theorem wsum_len (l : List (List Nat)) : l.length ≤ wsum l := Nat.le_add_left _ _
theorem wsum_app (a c : List (List Nat)) : wsum (a ++ c) = wsum a + wsum c := by unfold wsum; rw [List.map_append, List.sum_append, List.length_append, Nat.add_add_add_comm]
theorem wsum_one (c : List Nat) : wsum [c] = c.length + 1 := by unfold wsum; simp
theorem wsum_cons (x : List Nat) (r : List (List Nat)) : wsum (x :: r) = x.length + 1 + wsum r := by
  have e := wsum_app [x] r
  rw [wsum_one] at e; exact e
theorem wsum_take (l : List (List Nat)) (i : Nat) : wsum (l.take i) ≤ wsum l := by
  have := wsum_app (l.take i) (l.drop i)
  rw [List.take_append_drop] at this; rw [this]; exact Nat.le_add_right _ _
theorem wsum_mem {l : List (List Nat)} {c : List Nat} (h : c ∈ l) : c.length + 1 ≤ wsum l := by
  obtain ⟨a, e, rfl⟩ := List.append_of_mem h
  have := wsum_app a (c :: e)
  have h2 := wsum_app [c] e
  rw [wsum_one] at h2
  simp only [List.singleton_append] at h2
  rw [this, h2]; exact Nat.le_trans (Nat.le_add_right _ _) (Nat.le_add_left _ _)
theorem wsum_dropLast (l : List (List Nat)) : wsum l.dropLast ≤ wsum l := by rw [List.dropLast_eq_take]; exact wsum_take l _
theorem wsum_sp (c : Nat) : ∀ l : List Nat, wsum (sp c l) = l.length + 1
  | [] => rfl
  | x :: r => by
    have ih := wsum_sp c r
    rw [sp]
    by_cases h : x = c
    · rw [if_pos h]
      have := wsum_app [[]] (sp c r)
      rw [wsum_one] at this
      simp only [List.singleton_append] at this
      rw [this, ih]; exact Nat.add_comm 1 _
    · rw [if_neg h]
      obtain ⟨p, ps, e⟩ := List.exists_cons_of_ne_nil (sp_ne c r)
      rw [e] at ih ⊢
      unfold wsum at ih ⊢
      simp at ih ⊢; (first | exact ar_to (by assumption) _ | lia | omega)

theorem getAppendF {a : Addr} {vs : List Value} {n : Nat} {pl : Sem Bool} {Q : Value × List Value → Shared → Prop} (F : Fm b L names vals led h) (hg : Got led a (listObj vs n)) (q : Q (.builtin "list.append", [.ref a]) ⟨h, g, d, tk, os⟩) :
    wpAny M A (getMethod (.ref a) "append" pl) Q E ⟨h, g, d, tk, os⟩ := getMethod_list_append (s := ⟨h, g, d, tk, os⟩) (F.get hg) rfl rfl q
theorem getPopF {a : Addr} {vs : List Value} {n : Nat} {pl : Sem Bool} {Q : Value × List Value → Shared → Prop} (F : Fm b L names vals led h) (hg : Got led a (listObj vs n)) (q : Q (.builtin "list.pop", [.ref a]) ⟨h, g, d, tk, os⟩) :
    wpAny M A (getMethod (.ref a) "pop" pl) Q E ⟨h, g, d, tk, os⟩ :=
  getMethod_builtin (s := ⟨h, g, d, tk, os⟩) ⟨_, F.get hg, rfl⟩ PySem.F.plainAttrs_list PySem.F.slot_list_pop PySem.F.type_list_pop (fun x e => by cases e; exact ⟨_, F.get hg, rfl⟩) q
end
end

section
open PySem PySem.Calls PyProof.Rows PySem.Builtin PySem.Builtin.Str
section
variable {b h : Heap} {L : Addr} {names : List Str} {vals : List (Option Value)} {led : List (Addr × Obj)} {M : Model} {A : Around} {E : Value → Shared → Prop} {env : Env} {gl : List Str}
  {g : Array GenState} {d : Drawn} {tk : Nat} {os : OsState} {s : Shared} {prog : Program} {w : World} {l m : List Nat} {t u : Tok} {value slice : Expr}

/-- the entry into join: the rest of the arguments in a tuple -/
theorem enterJoin {a r : Value} {rs : List Value} {k : Nat} {Q : Value → Shared → Prop} (H0 : TopF h) (R : Rm A (k + 1)) (hsz : rs.length + 1 ≤ sizeLine)
    (hfe : ∀ L a cd, FE (envOf (fName 21) (fScope 21) L a cd) L ["a", "p", "sep", "path", "b"] gl)
    (q : ∀ env L ta h₁ tk₁ A', Rm A' k → FE env L ["a", "p", "sep", "path", "b"] gl → (∃ a cd, env = envOf (fName 21) (fScope 21) L a cd) →
      Fm h L ["a", "p", "sep", "path", "b"] [some a, some (.ref ta), none, none, none] [(ta, tupObj (r :: rs))] h₁ →
      wpAny (model prog w) A' (execs (fBody 21) env) (fun f s' => Q (match f with | .ret v => v | _ => .none) s') (fun _ _ => False) ⟨h₁, g, d, tk₁, os⟩) :
    wpAny (model prog w) A (call (.ref 156) (a :: r :: rs)) Q E ⟨h, g, d, tk, os⟩ := by
  obtain ⟨o, pm, cd, doc, ho, hd, hcr⟩ := H0.fns (156, 21) (by decide)
  have hX := hfe (h.push (tupObj (r :: rs))).objs.size 156 (.ref cd)
  have hcell : ∀ x ∈ (fScope 21).names, x.2 ≠ .cell := by decide +kernel
  refine wpAny_call ?_
  refine codeAny_call_function (s := ⟨h, g, d, tk, os⟩) (ar_d0 R.dp) ho hd (show (fScope 21).isCoroutine = false by decide +kernel) (show (fScope 21).isGenerator = false by decide +kernel) rfl hcr ?_
  rw [show bindArgs (docDef (fName 21) (fParams 21) (fBody 21) (fScope 21) pm (.ref cd) doc) ⟨a :: r :: rs, []⟩ = (do let t ← newTuple (r :: rs); pure [("a", a), ("p", t)]) from rfl]
  refine wpAny_bind (wpAny_newObj_type ?_ (by show (r :: rs).toArray.size ≤ sizeLine; simpa using hsz))
  refine wpAny_pure ?_
  refine wpAny_newFunctionEnv hcell (fun x hx => ?_) (fun h₁ hns hsb => ⟨(NoLimit_keep (Keep.push _ _) H0.nolim).fresh _ hsb, ?_⟩) (show (fScope 21).kind = .function by decide +kernel)
  · have : x.1 ∈ (["a", "p", "sep", "path", "b"] : List Str) := by
      simp only [List.mem_cons, List.not_mem_nil, or_false] at hx
      rcases hx with rfl | rfl <;> simp
    exact (hX.isL x.1 this).1
  · show codeAny _ _ (.func (fBody 21) (envOf (fName 21) (fScope 21) (h.push (tupObj (r :: rs))).objs.size 156 (.ref cd))) _ _
    refine codeAny_func (wpAny_mono (q _ (h.push (tupObj (r :: rs))).objs.size h.objs.size h₁ _ _ ⟨R.hd, ?_, ?_⟩ hX ⟨_, _, rfl⟩ ?_) (fun _ _ x => x) (fun _ _ x => x.elim))
    · exact ar_d R.dp
    · exact ar_u R.un
    · have hne : h.objs.size ≠ (h.push (tupObj (r :: rs))).objs.size := by rw [Heap.size_push]; exact Nat.ne_of_lt (Nat.lt_succ_self _)
      have hk : Keep (h.push (tupObj (r :: rs))) h₁ := fun b o e => hsb.extBut b o (Nat.ne_of_lt (Heap.lt_size e)) (Heap.get?_push_of_some _ e)
      refine ⟨H0, ⟨?_, fun b o e => hk _ _ (Heap.get?_push_of_some _ e), by rw [Heap.size_push]; exact Nat.le_succ _⟩, ?_, by simp⟩
      · have e : (fun x => ([("a", a), ("p", Value.ref h.objs.size)] : List (Str × Value)).reverse.lookup x) = look ["a", "p", "sep", "path", "b"] [some a, some (.ref h.objs.size), none, none, none] := by
          funext x
          rw [show ([("a", a), ("p", Value.ref h.objs.size)] : List (Str × Value)).reverse = ([("p", Value.ref h.objs.size), ("a", a)] : List (Str × Value)) from rfl]
          simp only [look, List.lookup_cons, List.lookup_nil]
          by_cases h1 : x = "a"
          · subst h1; rfl
          · by_cases h2 : x = "p"
            · subst h2; rfl
            · have e1 : (x == ("a" : Str)) = false := by simpa using h1
              have e2 : (x == ("p" : Str)) = false := by simpa using h2
              simp only [e1, e2, h1, h2, if_false]
              simp
        rw [← e]; exact hns
      · intro p hp
        simp only [List.mem_cons, List.not_mem_nil, or_false] at hp
        subst hp
        exact ⟨hk _ _ (Heap.get?_push_size _ rfl), hne, Heap.get?_size h⟩
end
end

section
open PySem PySem.Calls PyProof.Rows PySem.Builtin PySem.Builtin.Str
section
variable {h : Heap} {M : Model} {A : Around} {E : Value → Shared → Prop} 
  {g : Array GenState} {d : Drawn} {tk : Nat} {os : OsState} {s : Shared} {prog : Program} {w : World} {t u : Tok}
theorem lookup_hit {f : Int → Option Value} {c : Nat} {x : Str} {Q : Str.Mapped → Shared → Prop} (hm : h.MapOf (intKind prog w) 45 f) (hf : f c = some (.str x t)) (q : ∀ k, Q (.text x) ⟨h, g, d, k, os⟩) :
    wpAny (model prog w) A (Str.tableLookup (.ref 45) c) Q E ⟨h, g, d, tk, os⟩ := by
  unfold Str.tableLookup
  refine wpAny_bind (wpAny_attempt (wpAny_bind (wpAny_mkInt' ?_)))
  refine wpAny_getItem_of (knd := intKind prog w) (k := (c : Int)) (by simp [intKind, Value.isInt]) hm hf ?_
  repeat (any_goals (first | assumption | exact q _ | wp_step))
theorem key_is_lookup : isSubtype (.type "KeyError") (.type "LookupError") = pure true := by rw [isSubtype_type]; kernel_rfl
theorem lookup_miss {f : Int → Option Value} {c : Nat} {Q : Str.Mapped → Shared → Prop} (hA : A.handled = none) (hm : h.MapOf (intKind prog w) 45 f) (hf : f c = none) (q : ∀ h' k, Keep h h' → Q .keep ⟨h', g, d, k, os⟩) :
    wpAny (model prog w) A (Str.tableLookup (.ref 45) c) Q E ⟨h, g, d, tk, os⟩ := by
  unfold Str.tableLookup
  refine wpAny_bind (wpAny_attempt (wpAny_bind (wpAny_mkInt' ?_)))
  refine wpAny_getItem_missing_of (knd := intKind prog w) (k := (c : Int)) (by simp [intKind, Value.isInt]) (by decide) hA hm hf (fun h' e x => ?_)
  obtain ⟨ob, t', ho, hc, hd⟩ := x.there
  have hT : (⟨h', g, d, tk + 1 + 1, os⟩ : Shared).TypeIs (.ref e) "KeyError" := ⟨ob, ho, hc⟩
  exact wpAny_bind (wpAny_isInstance hT key_is_lookup (wpAny_bind (wpAny_rule (wpAny_pure (q h' (tk + 1 + 1) x.keeps)))))
set_option maxHeartbeats 4000000 in
theorem transl1 {c : Nat} {Q : Value → Shared → Prop} (hA : A.handled = none) (he : EscTab h) (hc : c < 128)
    (q : ∀ h' k t', Keep h h' → Q (.str (T (if c ∈ escL then [92, c] else [c])) t') ⟨h', g, d, k, os⟩) :
    wpAny (model prog w) A (call (.builtin "str.translate") [.str (T [c]) t, .ref 45]) Q E ⟨h, g, d, tk, os⟩ := by
  obtain ⟨f, hm, hf⟩ := he
  have hfast : ((T [c]).cps.all fun x => decide (x < 128)) = true := by simp [T]; exact hc
  refine wpAny_call_entry PySem.F.slot_str_translate (typeIs_str _ _ _) PySem.F.entry_str_translate ?_ (PySem.F.args_str_translate_2 _ _)
  rcases hf c hc with ⟨hin, t', hfc⟩ | ⟨hin, hfc⟩
  · rw [if_pos hin] at q
    have hm' := hm prog w
    repeat (any_goals (first | assumption | (rw [if_pos (show ((T [c]).cps.all fun x => decide (x < 128)) = true from hfast)]) | ((with_reducible show wpAny _ _ (Str.tableLookup _ _) _ _ _); refine lookup_hit hm' hfc ?_; intro _) | wp_step))
    refine ⟨_, rfl, ?_⟩
    simpa [T] using q h _ _ (Keep.refl h)
  · rw [if_neg hin] at q
    have hm' := hm prog w
    repeat (any_goals (first | assumption | (rw [if_pos (show ((T [c]).cps.all fun x => decide (x < 128)) = true from hfast)]) | ((with_reducible show wpAny _ _ (Str.tableLookup _ _) _ _ _); refine lookup_miss hA hm' hfc ?_; intro _ _ _) | wp_step))
    refine ⟨_, rfl, ?_⟩
    simpa [T] using q _ _ _ (by assumption)

theorem modZ {a c : Int} {Q : Value → Shared → Prop} (hc : 0 < c) (q : ∀ t' k, Q (.int (a % c) t') { s with toks := k }) : wpAny (model prog w) A (binaryOp .Mod (.int a t) (.int c u)) Q E s :=
  mod_int' (Int.ne_of_gt hc) (by rw [Int.fmod_eq_emod_of_nonneg _ (Int.le_of_lt hc)]; exact q _ _)
theorem divZ {a c : Int} {Q : Value → Shared → Prop} (hc : 0 < c) (hl : c.natAbs.log2 < 64) (q : ∀ t' k, Q (.int (a / c) t') { s with toks := k }) : wpAny (model prog w) A (binaryOp .FloorDiv (.int a t) (.int c u)) Q E s :=
  floordiv_int (Int.ne_of_gt hc) (by rw [Int.fdiv_eq_ediv_of_nonneg _ (Int.le_of_lt hc)]; exact q _ _) (Or.inl (PyProof.noPylong_of_log2 (Nat.lt_trans hl (by decide))))
theorem mulZ {Q : Value → Shared → Prop} {c : Nat} {n : Int} (h0 : 0 ≤ n) (hs : n ≤ 1000000) (q : ∀ t' k, Q (.str (T (List.replicate n.toNat c)) t') { s with toks := k }) : wpAny (model prog w) A (binaryOp .Mult (.str (T [c]) t) (.int n u)) Q E s := by
  obtain ⟨k, rfl⟩ := Int.eq_ofNat_of_zero_le h0
  exact mulT (Int.ofNat_le.mp hs) q

theorem itemTV {b h : Heap} {L : Addr} {names : List Str} {vals : List (Option Value)} {led : List (Addr × Obj)} {value slice : Expr} {a : Addr} {vs : List Value} {n : Nat} {k : Int} {xs : List (List Nat)} {Q : Value → Shared → Prop}
    (F : Fm b L names vals led h) (hg : Got led a (listObj vs n)) (hv : TV vs xs) (h0 : 0 ≤ k) (hk : k < xs.length) (hl : xs.length ≤ 100000) (hb : ∀ x ∈ xs, x.length ≤ 1000)
    (q : ∀ t', (xs.getD k.toNat []).length ≤ 1000 → Q (.str (T (xs.getD k.toNat [])) t') ⟨h, g, d, tk, os⟩)
    (hs : subscripted slice false (.ref a) (.int k u) = operate [.ref a, .int k u] (getItem (.ref a) (.int k u)) := by with_unfolding_all rfl) :
    wpAny (model prog w) A (subscriptTail value slice (.ref a) (.int k u)) Q E ⟨h, g, d, tk, os⟩ := by
  have hlt : k.toNat < vs.length := by rw [hv.len]; exact ar_lt h0 hk
  obtain ⟨x, t, hx, he⟩ := hv.at (List.getElem?_eq_getElem hlt)
  have e : xs.getD k.toNat [] = x := by rw [List.getD_eq_getElem?_getD, hx]; rfl
  rw [e] at q
  exact itemList F hg h0 (Int.lt_trans hk (Int.ofNat_lt.mpr (Nat.lt_of_le_of_lt hl (by decide)))) ((List.getElem?_eq_getElem hlt).trans (congrArg some he)) (q t (hb x (List.mem_iff_getElem?.mpr ⟨_, hx⟩))) hs
end
theorem ite_t {P : Prop} [Decidable P] {a b : Prop} (h : P) (q : a) : if decide P = true then a else b := by rw [if_pos (decide_eq_true h)]; exact q
theorem ite_f {P : Prop} [Decidable P] {a b : Prop} (h : ¬P) (q : b) : if decide P = true then a else b := by rw [if_neg (fun e => h (of_decide_eq_true e))]; exact q
theorem ite_bt {x y : Int} {a b : Prop} (h : x = y) (q : a) : if (x == y) = true then a else b := by rw [if_pos (by simpa using h)]; exact q
theorem ite_bf {x y : Int} {a b : Prop} (h : x ≠ y) (q : b) : if (x == y) = true then a else b := by rw [if_neg (by simpa using h)]; exact q

noncomputable def escC (c : Nat) : List Nat := if c ∈ escL then [92, c] else [c]
end

section
open PySem PySem.Calls PyProof.Rows
section
variable {prog : Program} {w : World} {h b : Heap} {A : Around} {E : Value → Shared → Prop} {env : Env} {L : Addr} {names gl : List Str} {vals : List (Option Value)} {led : List (Addr × Obj)}
  {g : Array GenState} {d : Drawn} {tk : Nat} {os : OsState}
/-- the rest of a list comprehension, behind its source -/
noncomputable def CompK (prog : Program) (w : World) (A : Around) (E : Value → Shared → Prop) (env : Env) (elt iter : Expr) (x : Str) (px : Pos) (ifs : List Expr) (scope : Scope) (pos : Pos)
    (RR : Value → Env → Result → Shared → Prop) (xv : Value) (s₁ : Shared) : Prop :=
  wpAny (model prog w) A (pyIter xv) (fun it s₂ => wpAny (model prog w) A (newList []) (fun acc s₃ =>
      wpAny (model prog w) A (newFunctionEnv scope env.globals [] [] env.qual none .none (some env)) (fun cenv s₄ =>
        codeAny (model prog w) A (.compStart (.ListComp elt [⟨.Name x px, iter, ifs, 0⟩] scope pos) 0 it acc { cenv with scope := scope }) (RR acc { cenv with scope := scope }) s₄) E s₃) E s₂) E s₁

theorem look1 {x : Str} : look [x] [none] = fun _ => none := by
  funext y; simp only [look]; split <;> rfl

theorem compStartFm {itO : Obj} {x : Str} {h₁ : Heap} (T : TopF h) (hf : itO.isFreed = false) (hns : h₁.Ns ((h.push itO).push (listObj [] 0)).objs.size (fun _ => none))
    (hs : ∀ p, p ≠ ((h.push itO).push (listObj [] 0)).objs.size → ∀ o, ((h.push itO).push (listObj [] 0)).get? p = some o → h₁.get? p = some o) :
    Fm h ((h.push itO).push (listObj [] 0)).objs.size [x] [none] [((h.push itO).objs.size, listObj [] 0), (h.objs.size, itO)] h₁ := by
  have e1 : (h.push itO).objs.size = h.objs.size + 1 := Heap.size_push ..
  have e2 : ((h.push itO).push (listObj [] 0)).objs.size = h.objs.size + 2 := by rw [Heap.size_push, e1]
  have n1 : ∀ p : Addr, p < h.objs.size + 2 → p ≠ ((h.push itO).push (listObj [] 0)).objs.size := fun p hp => Nat.ne_of_lt (by rw [e2]; exact hp)
  have hn : ∀ a : Addr, h.objs.size ≤ a → h.get? a = none := fun a ha => by
      cases e : h.get? a with
      | none => rfl
      | some o' => exact absurd (Heap.lt_size e) (Nat.not_lt.mpr ha)
  have l1 : (h.push itO).objs.size < h.objs.size + 2 := by rw [e1]; exact Nat.lt_succ_self _
  have l0 : h.objs.size < h.objs.size + 2 := Nat.lt_succ_of_lt (Nat.lt_succ_self _)
  refine ⟨T, ⟨by rw [look1]; exact hns, fun p o e => hs p (n1 p (Nat.lt_succ_of_lt (Nat.lt_succ_of_lt (Heap.lt_size e)))) o (Heap.get?_push_of_some _ (Heap.get?_push_of_some _ e)), by rw [e2]; exact Nat.le_add_right _ _⟩, ?_, ?_⟩
  · intro p hp
    rcases List.mem_cons.mp hp with rfl | hp
    · exact ⟨hs _ (n1 _ l1) _ (Heap.get?_push_size _ rfl), n1 _ l1, hn _ (by rw [e1]; exact Nat.le_succ _)⟩
    · rw [List.mem_singleton.mp hp]
      exact ⟨hs _ (n1 _ l0) _ (Heap.get?_push_of_some _ (Heap.get?_push_size _ hf)), n1 _ l0, hn _ (Nat.le_refl _)⟩
  · refine List.nodup_cons.mpr ⟨fun m => ?_, List.nodup_cons.mpr ⟨List.not_mem_nil, List.nodup_nil⟩⟩
    have m' : (h.push itO).objs.size = h.objs.size := List.mem_singleton.mp m
    rw [e1] at m'; exact absurd m' (Nat.succ_ne_self _)
inductive CompSt (h : Heap) (C : Addr) (x : Str) (D it a : Addr) (l : Nat) (J : Nat → List Value → Prop) (g : Array GenState) (d : Drawn) (os : OsState) (n : Nat) (s : Shared) : Prop
  | mk (i : Nat) (ys : List Value) (o : Obj) (m : Nat) (v : Option Value) (h' : Heap) (tk' : Nat) (e : s = ⟨h', g, d, tk', os⟩) (e1 : n = l - i) (hi : i ≤ l) (hJ : J i ys) (F : Fm h C [x] [v] [(D, listObj ys m), (it, o)] h')
    (hc : o.cls = .type "list_iterator") (hd : o.data = .fields #[.ref a, .int (i : Int) 0])
inductive EltEnd (P : Prop) (h : Heap) (C : Addr) (x : Str) (v : Value) (D : Addr) (ys : List Value) (n : Nat) (it : Addr) (o : Obj) (g : Array GenState) (d : Drawn) (os : OsState) (s : Shared) : Prop
  | mk (led' : List (Addr × Obj)) (h₄ : Heap) (tk₄ : Nat) (e : s = ⟨h₄, g, d, tk₄, os⟩) (j : P) (F : Fm h C [x] [some v] led' h₄) (g1 : Got led' D (listObj ys n)) (g2 : Got led' it o)
theorem compLoopF {elt iter : Expr} {x : Str} {px : Pos} {ifs : List Expr} {scope : Scope} {pos : Pos} {R : Result → Shared → Prop} {a C D it : Addr} {o : Obj} {n0 : Nat} {vs : List Value} {h₁ : Heap} (J : Nat → List Value → Prop)
    (X : FE env L names gl) (hA : A.handled = none) (hl : h.IsList a vs.toArray) (hkind : scope.kind = .function) (hx : scope.names.lookup x = some .local) (hdb : (x == ("__debug__" : Str)) = false)
    (h0 : J 0 []) (hlen : ∀ i ys, J i ys → i ≤ vs.length → ys.length ≤ sizeLine)
    (F1 : Fm h C [x] [none] [(D, listObj [] n0), (it, o)] h₁) (hc : o.cls = .type "list_iterator") (hd : o.data = .fields #[.ref a, .int ((0 : Nat) : Int) 0])
    (turn : ∀ i v ys o n h' tk' E', vs[i]? = some v → J i ys → Fm h C [x] [some v] [(D, listObj ys n), (it, o)] h' →
      wpAny (model prog w) A (forIn ifs true fun c r => if r = true then do let ok ← isTrue c (compEnv scope C env) (eval c (compEnv scope C env)); pure (ForInStep.yield ok) else pure (ForInStep.yield r)) (fun ok s₃ =>
        if ok = true then wpAny (model prog w) A (eval elt (compEnv scope C env)) (fun y s₄ => EltEnd (J (i + 1) (ys ++ [y])) h C x v D ys n it o g d os s₄) E' s₃
        else EltEnd (J (i + 1) ys) h C x v D ys n it o g d os s₃) E' ⟨h', g, d, tk', os⟩)
    (done : ∀ ys n v h' tk', J vs.length ys → Fm h C [x] [v] [(D, listObj ys n)] h' → R (.ok .next) ⟨h', g, d, tk', os⟩) :
    codeAny (model prog w) A (.compLoop (.ListComp elt [⟨.Name x px, iter, ifs, 0⟩] scope pos) 0 (.ref it) (.ref D) (compEnv scope C env)) R ⟨h₁, g, d, tk, os⟩ := by
  have X' : FE (compEnv scope C env) C [x] [] := ⟨rfl, hkind, List.nodup_cons.mpr ⟨List.not_mem_nil, List.nodup_nil⟩, fun y hy => by rw [List.mem_singleton.mp hy]; exact ⟨hx, hdb⟩, (fun y hy => nomatch hy), X.glo, X.bui⟩
  refine codeAny_compLoop_tests (fun n s => CompSt h C x D it a vs.length J g d os n s)
    ?_ vs.length ⟨0, [], o, n0, none, h₁, tk, rfl, rfl, Nat.zero_le _, h0, F1, hc, hd⟩
  rintro n s ⟨i, ys, o, m, v, h', tk', rfl, rfl, hi, hJ, F', hc, hd⟩
  have hl' : h'.IsList a vs.toArray := by obtain ⟨ol, e, r⟩ := hl; exact ⟨ol, F'.keep _ _ e, r⟩
  have hit : h'.IsListIter it a i := ⟨o, F'.get (.there .here), hc, hd⟩
  by_cases hlt : i < vs.length
  · have hv : vs[i]? = some vs[i] := List.getElem?_eq_getElem hlt
    refine wpAny_pyNext_list_item (s := ⟨h', g, d, tk', os⟩) hit hl' (x := vs[i]) (by rw [List.getElem?_toArray]; exact hv) fun h₁ hit₁ hs₁ => ?_
    obtain ⟨o₁, ho₁, hc₁, hd₁⟩ := hit₁
    have F₁ := F'.put (Put.there Put.here) hs₁ ho₁
    refine wpAny_assign_Name (storeL X' F₁ Up.here fun h₂ F₂ tk₂ => ?_)
    refine wpAny_mono (turn i vs[i] ys _ _ h₂ tk₂ _ hv hJ F₂) (fun ok s₃ h₃ => ?_) fun _ _ x => x
    cases ok with
    | true =>
      refine wpAny_mono h₃ (fun y s₄ h₄ => ?_) fun _ _ x => x
      obtain ⟨led₄, h₄, tk₄, rfl, hJ₄, F₄, g1, g2⟩ := h₄
      have F₅ : Fm h C [x] [some vs[i]] [(D, listObj ys m), (it, o₁)] h₄ := F₄.sub (fun p hp => by
        rcases List.mem_cons.mp hp with rfl | hp
        · exact g1.mem
        · rw [List.mem_singleton.mp hp]; exact g2.mem) F₂.nd
      refine appendF F₅ Got.here Put.here (hlen _ _ hJ hi) fun h₆ F₆ => ?_
      exact ⟨vs.length - (i + 1), ar_back hlt, i + 1, _, o₁, _, _, h₆, tk₄, rfl, rfl, hlt, hJ₄, F₆, hc₁, hd₁⟩
    | false =>
      obtain ⟨led₄, h₄, tk₄, rfl, hJ₄, F₄, g1, g2⟩ := h₃
      have F₅ : Fm h C [x] [some vs[i]] [(D, listObj ys m), (it, o₁)] h₄ := F₄.sub (fun p hp => by
        rcases List.mem_cons.mp hp with rfl | hp
        · exact g1.mem
        · rw [List.mem_singleton.mp hp]; exact g2.mem) F₂.nd
      exact ⟨vs.length - (i + 1), ar_back hlt, i + 1, _, o₁, _, _, h₄, tk₄, rfl, rfl, hlt, hJ₄, F₅, hc₁, hd₁⟩
  · have hi' : i = vs.length := ar_end hi hlt
    subst hi'
    refine wpAny_pyNext_list_end (s := ⟨h', g, d, tk', os⟩) hA hit hl' (by simp) fun h₁ hx₁ => ?_
    have Fl : Fm h C [x] [v] [(D, listObj ys m)] h' := F'.sub (fun p hp => by rw [List.mem_singleton.mp hp]; exact List.mem_cons_self) (List.nodup_cons.mpr ⟨List.not_mem_nil, List.nodup_nil⟩)
    have Fs : Fm h C [x] [v] [(it, o), (D, listObj ys m)] h' := F'.sub (fun p hp => by
        rcases List.mem_cons.mp hp with rfl | hp
        · exact List.mem_cons_of_mem _ List.mem_cons_self
        · rw [List.mem_singleton.mp hp]; exact List.mem_cons_self) (by have := F'.nd; simp only [List.map_cons, List.map_nil, List.nodup_cons, List.mem_singleton, List.not_mem_nil, not_false_eq_true, List.nodup_nil, and_true] at this ⊢; exact fun e => this e.symm)
    exact done _ _ _ _ _ hJ (Fl.iterGone Fs hx₁)
theorem Fm.add2 (F : Fm b L names vals led h) {a c : Addr} {o p : Obj} {h' : Heap} (k : Keep h h') (ha : h.get? a = none) (hc : h.get? c = none) (ne : c ≠ a) (ea : h'.get? a = some o) (ec : h'.get? c = some p) :
    Fm b L names vals ((c, p) :: (a, o) :: led) h' := by
  have Fa := F.add k ha ea
  have Fc := F.add k hc ec
  refine ⟨F.top, Fa.fr, fun q hq => ?_, List.nodup_cons.mpr ⟨fun m => ?_, Fa.nd⟩⟩
  · rcases List.mem_cons.mp hq with rfl | hq
    · exact Fc.nw _ List.mem_cons_self
    · exact Fa.nw _ hq
  · rcases List.mem_cons.mp m with m | m
    · exact ne m
    · exact F.none_of_led hc m

theorem compK_list {elt iter : Expr} {x : Str} {px : Pos} {ifs : List Expr} {scope : Scope} {pos : Pos} {RR : Value → Env → Result → Shared → Prop} {a : Addr} {vs : List Value} (J : Nat → List Value → Prop)
    (X : FE env L names gl) (hA : A.handled = none) (F : Fm b L names vals led h) (hl : h.IsList a vs.toArray) (hcell : ∀ y ∈ scope.names, y.2 ≠ .cell) (hkind : scope.kind = .function)
    (hx : scope.names.lookup x = some .local) (hdb : (x == ("__debug__" : Str)) = false) (h0 : J 0 []) (hlen : ∀ i ys, J i ys → i ≤ vs.length → ys.length ≤ sizeLine)
    (turn : ∀ C D it i v ys o n h' tk' E', vs[i]? = some v → J i ys → Fm h C [x] [some v] [(D, listObj ys n), (it, o)] h' →
      wpAny (model prog w) A (forIn ifs true fun c r => if r = true then do let ok ← isTrue c (compEnv scope C env) (eval c (compEnv scope C env)); pure (ForInStep.yield ok) else pure (ForInStep.yield r)) (fun ok s₃ =>
        if ok = true then wpAny (model prog w) A (eval elt (compEnv scope C env)) (fun y s₄ => EltEnd (J (i + 1) (ys ++ [y])) h C x v D ys n it o g d os s₄) E' s₃
        else EltEnd (J (i + 1) ys) h C x v D ys n it o g d os s₃) E' ⟨h', g, d, tk', os⟩)
    (done : ∀ C oC D ys n h' tk', J vs.length ys → (∀ h₂ : Heap, h₂.get? C = some oC → ∃ m, h₂.Ns C m) → Fm b L names vals ((C, oC) :: (D, listObj ys n) :: led) h' → RR (.ref D) (compEnv scope C env) (.ok .next) ⟨h', g, d, tk', os⟩) :
    CompK prog w A E env elt iter x px ifs scope pos RR (.ref a) ⟨h, g, d, tk, os⟩ := by
  unfold CompK
  refine wpAny_pyIter_list hl (wpAny_newObj_type (hd := by size_fits) (wpAny_newFunctionEnv hcell (by intro y hy; simp at hy) (fun h₁ hns₁ hsb₁ => ?_) hkind))
  dsimp only at hns₁ hsb₁ ⊢
  have F1 := compStartFm (x := x) (itO := { cls := .type "list_iterator", data := .fields #[.ref a, .int 0 0] }) F.top' rfl hns₁ (fun p hp o e => hsb₁.extBut p o hp (Heap.get?_push_of_some _ e))
  have fin : ∀ C D ys n v h' tk', J vs.length ys → Fm h C [x] [v] [(D, listObj ys n)] h' → RR (.ref D) (compEnv scope C env) (.ok .next) ⟨h', g, d, tk', os⟩ := by
    intro C D ys n v h' tk' hJ F'
    obtain ⟨oC, es, ep, e, r⟩ := F'.fr.ns
    have hC : h.get? C = none := by
      cases e : h.get? C with
      | none => rfl
      | some o' => exact absurd (Heap.lt_size e) (Nat.not_lt.mpr F'.fr.above)
    have q := F'.nw _ List.mem_cons_self
    exact done C oC D ys n h' tk' hJ (fun h₂ e₂ => ⟨_, oC, es, ep, e₂, r⟩) (F.add2 F'.keep q.2.2 hC (Ne.symm q.2.1) q.1 e)
  exact codeAny_compStart_list (compLoopF (env := env) J X hA hl hkind hx hdb h0 hlen F1 rfl rfl (turn _ _ _) (fin _ _)) (wpAny_pyIter_listiter ⟨_, F1.get (.there .here), rfl, rfl⟩ (compLoopF (env := env) J X hA hl hkind hx hdb h0 hlen F1 rfl rfl (turn _ _ _) (fin _ _)))
noncomputable def RRe (prog : Program) (w : World) (A : Around) (E : Value → Shared → Prop) (Q : Value → Shared → Prop) (acc : Value) (cenv : Env) (r : Result) (s' : Shared) : Prop :=
  ∃ m, s'.heap.Ns cenv.locals m ∧ ∀ h', Heap.SameBut cenv.locals s'.heap h' →
    match r with | .ok _ => Q acc { s' with heap := h' } | .error x => wpAny (model prog w) A (passOn "comprehension.variables-let-go" x cenv) Q E { s' with heap := h' }
theorem listComp_eval {elt iter : Expr} {x : Str} {px : Pos} {ifs : List Expr} {scope : Scope} {pos : Pos} {Q : Value → Shared → Prop} {s : Shared}
    (hfree : ∀ x ∈ scope.names, x.2 ≠ .free) (hkind : scope.kind = .function) (hnames : ∀ x ∈ scope.names, x.2 = .local → scope.names.lookup x.1 = some .local)
    (h : wpAny (model prog w) A (eval iter env) (CompK prog w A E env elt iter x px ifs scope pos (RRe prog w A E Q)) E s)
    (hs : ∀ x, foldedSetIterable iter env x = pure x := by intro _; rfl) :
    wpAny (model prog w) A (eval (.ListComp elt [⟨.Name x px, iter, ifs, 0⟩] scope pos) env) Q E s :=
  wpAny_ListComp hfree hkind hnames h hs
theorem RRe.ok {Q : Value → Shared → Prop} {C D : Addr} {oC : Obj} {n : Nat} {ys : List Value} {scope : Scope} {tk' : Nat} {h' : Heap} (ns : ∀ h₂ : Heap, h₂.get? C = some oC → ∃ m, h₂.Ns C m)
    (F : Fm b L names vals ((C, oC) :: (D, listObj ys n) :: led) h') (q : ∀ h'', Fm b L names vals ((D, listObj ys n) :: led) h'' → Q (.ref D) ⟨h'', g, d, tk', os⟩) :
    RRe prog w A E Q (.ref D) (compEnv scope C env) (.ok .next) ⟨h', g, d, tk', os⟩ := by
  obtain ⟨m, hn⟩ := ns h' (F.get .here)
  exact ⟨m, hn, fun h'' hs => q h'' ((F.sub (fun p hp => List.mem_cons_of_mem _ hp) (List.nodup_cons.mp F.nd).2).iterGone F hs.extBut)⟩
end
end

section
open PySem PySem.Calls PyProof.Rows PySem.Builtin PySem.Builtin.Str
/-! two lists side by side -/
inductive All2 {α β : Type} (P : α → β → Prop) : List α → List β → Prop
  | nil : All2 P [] []
  | cons {a b as bs} : P a b → All2 P as bs → All2 P (a :: as) (b :: bs)
section
variable {α β : Type} {P R : α → β → Prop}
theorem All2.len {as : List α} {bs : List β} (h : All2 P as bs) : as.length = bs.length := by
  induction h with
  | nil => rfl
  | cons _ _ ih => simp [ih]
theorem All2.mono {as : List α} {bs : List β} (h : All2 P as bs) (f : ∀ a b, a ∈ as → P a b → R a b) : All2 R as bs := by
  induction h with
  | nil => exact .nil
  | cons p _ ih => exact .cons (f _ _ List.mem_cons_self p) (ih fun a b m => f a b (List.mem_cons_of_mem _ m))
theorem All2.app {as cs : List α} {bs ds : List β} (h : All2 P as bs) (k : All2 P cs ds) : All2 P (as ++ cs) (bs ++ ds) := by
  induction h with
  | nil => exact k
  | cons p _ ih => exact .cons p ih
theorem All2.snoc {as : List α} {bs : List β} {a : α} {b : β} (h : All2 P as bs) (p : P a b) : All2 P (as ++ [a]) (bs ++ [b]) := h.app (.cons p .nil)
theorem All2.at {as : List α} {bs : List β} (h : All2 P as bs) : ∀ {i : Nat} {a : α}, as[i]? = some a → ∃ b, bs[i]? = some b ∧ P a b := by
  induction h with
  | nil => intro i a e; simp at e
  | @cons x y as bs p _ ih =>
    intro i a e
    cases i with
    | zero => simp at e; subst e; exact ⟨y, rfl, p⟩
    | succ i => exact ih (by simpa using e)
theorem All2.atR {as : List α} {bs : List β} (h : All2 P as bs) : ∀ {i : Nat} {b : β}, bs[i]? = some b → ∃ a, as[i]? = some a ∧ P a b := by
  induction h with
  | nil => intro i a e; simp at e
  | @cons x y as bs p _ ih =>
    intro i a e
    cases i with
    | zero => simp at e; subst e; exact ⟨x, rfl, p⟩
    | succ i => exact ih (by simpa using e)
theorem All2.unsnoc {as : List α} {bs : List β} {b : β} (h : All2 P as (bs ++ [b])) : ∃ as' a, as = as' ++ [a] ∧ All2 P as' bs ∧ P a b := by
  induction bs generalizing as with
  | nil =>
    cases h with
    | cons p k => cases k; exact ⟨[], _, rfl, .nil, p⟩
  | cons y ys ih =>
    cases h with
    | cons p k =>
      obtain ⟨as', a, rfl, k', p'⟩ := ih k
      exact ⟨_ :: as', a, rfl, .cons p k', p'⟩
theorem All2.last {as : List α} {bs : List β} (h : All2 P as bs) : (as = [] ∧ bs = []) ∨ ∃ a b, as.getLast? = some a ∧ bs.getLast? = some b ∧ P a b := by
  rcases List.eq_nil_or_concat bs with rfl | ⟨bs', b, rfl⟩
  · cases h; exact .inl ⟨rfl, rfl⟩
  · rw [List.concat_eq_append] at *
    obtain ⟨as', a, rfl, _, p⟩ := h.unsnoc
    exact .inr ⟨a, b, by simp, by simp, p⟩
end
theorem Got.of_mem {l : List (Addr × Obj)} {a o} (h : (a, o) ∈ l) : Got l a o := by
  induction l with
  | nil => cases h
  | cons p r ih =>
    rcases List.mem_cons.mp h with rfl | h
    · exact .here
    · exact .there (ih h)
theorem TV.of_all2 {vs : List Value} {xs : List (List Nat)} (h : All2 (fun v x => ∃ t, v = Value.str (T x) t) vs xs) : TV vs xs := by
  induction h with
  | nil => exact .nil
  | cons p _ ih => obtain ⟨t, rfl⟩ := p; exact .cons ih
section
variable {b h : Heap} {L : Addr} {names : List Str} {vals : List (Option Value)} {led : List (Addr × Obj)} {M : Model} {A : Around} {E : Value → Shared → Prop} {env : Env} {gl : List Str}
  {g : Array GenState} {d : Drawn} {tk : Nat} {os : OsState} {s : Shared} {prog : Program} {w : World} {l m : List Nat} {t u : Tok} {value slice : Expr}

theorem eqNilF {a c : Addr} {vs : List Value} {n k : Nat} {Q : Value → Shared → Prop} (R : A.units < cLine) (ha : h.get? a = some (listObj vs n)) (hc : h.get? c = some (listObj [] k))
    (q : Q (.bool (decide (vs = []))) ⟨h, g, d, tk, os⟩) : wpAny (model prog w) A (compareOp .Eq (.ref a) (.ref c)) Q E ⟨h, g, d, tk, os⟩ := by
  cases vs with
  | nil => exact SeqAt.eq_listAt (s := ⟨h, g, d, tk, os⟩) (e := fun _ => true) (isList ha) (isList hc) rfl R (fun j h1 => absurd h1 (Nat.not_lt_zero _)) q
  | cons x xs => exact SeqAt.eq_list_lengthsAt (s := ⟨h, g, d, tk, os⟩) (isList ha) (isList hc) (by simp) R q
theorem neNilF {a c : Addr} {vs : List Value} {n k : Nat} {Q : Value → Shared → Prop} (R : A.units < cLine) (ha : h.get? a = some (listObj vs n)) (hc : h.get? c = some (listObj [] k))
    (q : Q (.bool (decide (vs ≠ []))) ⟨h, g, d, tk, os⟩) : wpAny (model prog w) A (compareOp .NotEq (.ref a) (.ref c)) Q E ⟨h, g, d, tk, os⟩ := by
  cases vs with
  | nil => exact SeqAt.RcNeAt.lists (s := ⟨h, g, d, tk, os⟩) (e := fun _ => true) (isList ha) (isList hc) rfl R (fun j h1 => absurd h1 (Nat.not_lt_zero _)) prog w E Q q
  | cons x xs => exact SeqAt.RcNeAt.lists_lengths (s := ⟨h, g, d, tk, os⟩) (isList ha) (isList hc) (by simp) R prog w E Q q

theorem TV.allEq {vs ws : List Value} {xs ys : List (List Nat)} (v : TV vs xs) (u : TV ws ys) (hl : xs.length = ys.length) :
    (List.range vs.toArray.size).all (fun j => decide (xs.getD j [] = ys.getD j [])) = decide (xs = ys) := by
  rw [List.size_toArray, v.len, Bool.eq_iff_iff, List.all_eq_true, decide_eq_true_iff]
  constructor
  · intro hj
    apply List.ext_getElem hl
    intro i h1 h2
    have := of_decide_eq_true (hj i (List.mem_range.mpr h1))
    simpa [List.getD_eq_getElem?_getD, h1, h2] using this
  · rintro rfl j _
    simp
theorem TV.eqAt {vs ws : List Value} {xs ys : List (List Nat)} (v : TV vs xs) (u : TV ws ys) (j : Nat) (h1 : j < vs.toArray.size) (h2 : j < ws.toArray.size) :
    SeqAt.EqAt A s vs.toArray[j] ws.toArray[j] (decide (xs.getD j [] = ys.getD j [])) := by
  obtain ⟨x, t, hx, e⟩ := v.at (List.getElem?_eq_getElem (by simpa using h1))
  obtain ⟨y, u', hy, e'⟩ := u.at (List.getElem?_eq_getElem (by simpa using h2))
  simp only [List.getElem_toArray]
  rw [e, e']
  have : decide (xs.getD j [] = ys.getD j []) = (T x == T y) := by
    rw [List.getD_eq_getElem?_getD, List.getD_eq_getElem?_getD, hx, hy, Bool.eq_iff_iff]
    simp only [Option.getD_some, decide_eq_true_iff, beq_iff_eq]
    exact ⟨fun e => e ▸ rfl, T_inj⟩
  rw [this]
  exact SeqAt.EqAt.str_str _ _ _ _
theorem eqTextsF {a c : Addr} {vs ws : List Value} {xs ys : List (List Nat)} {n k : Nat} {Q : Value → Shared → Prop} (R : A.units < cLine) (ha : h.get? a = some (listObj vs n)) (hc : h.get? c = some (listObj ws k)) (hv : TV vs xs) (hw : TV ws ys)
    (q : Q (.bool (decide (xs = ys))) ⟨h, g, d, tk, os⟩) : wpAny (model prog w) A (compareOp .Eq (.ref a) (.ref c)) Q E ⟨h, g, d, tk, os⟩ := by
  by_cases hl : xs.length = ys.length
  · exact SeqAt.eq_listAt (s := ⟨h, g, d, tk, os⟩) (isList ha) (isList hc) (by simp [hv.len, hw.len, hl]) R (hv.eqAt hw) (by rw [hv.allEq hw hl]; exact q)
  · rw [decide_eq_false (fun e : xs = ys => hl (congrArg List.length e))] at q
    exact SeqAt.eq_list_lengthsAt (s := ⟨h, g, d, tk, os⟩) (isList ha) (isList hc) (by simpa [hv.len, hw.len] using hl) R q
theorem neTextsF {a c : Addr} {vs ws : List Value} {xs ys : List (List Nat)} {n k : Nat} {Q : Value → Shared → Prop} (R : A.units < cLine) (ha : h.get? a = some (listObj vs n)) (hc : h.get? c = some (listObj ws k)) (hv : TV vs xs) (hw : TV ws ys)
    (q : Q (.bool (decide (xs ≠ ys))) ⟨h, g, d, tk, os⟩) : wpAny (model prog w) A (compareOp .NotEq (.ref a) (.ref c)) Q E ⟨h, g, d, tk, os⟩ := by
  by_cases hl : xs.length = ys.length
  · exact SeqAt.RcNeAt.lists (s := ⟨h, g, d, tk, os⟩) (isList ha) (isList hc) (by simp [hv.len, hw.len, hl]) R (hv.eqAt hw) prog w E Q (by rw [hv.allEq hw hl]; rw [decide_not] at q; exact q)
  · rw [decide_eq_true (show xs ≠ ys from fun e => hl (congrArg List.length e))] at q
    exact SeqAt.RcNeAt.lists_lengths (s := ⟨h, g, d, tk, os⟩) (isList ha) (isList hc) (by simpa [hv.len, hw.len] using hl) R prog w E Q q

theorem TV.any_eq {vs : List Value} {xs : List (List Nat)} (v : TV vs xs) (x : List Nat) : (xs.map T).any (· == T x) = decide (x ∈ xs) := by
  rw [Bool.eq_iff_iff]
  simp only [List.any_eq_true, List.mem_map, beq_iff_eq, decide_eq_true_iff]
  exact ⟨fun ⟨_, ⟨y, hy, rfl⟩, e⟩ => T_inj e ▸ hy, fun hx => ⟨_, ⟨x, hx, rfl⟩, rfl⟩⟩
theorem inTextsF {a : Addr} {vs : List Value} {xs : List (List Nat)} {n : Nat} {Q : Value → Shared → Prop} (ha : h.get? a = some (listObj vs n)) (hv : TV vs xs)
    (q : Q (.bool (decide (l ∈ xs))) ⟨h, g, d, tk, os⟩) : wpAny (model prog w) A (compareOp .In (.str (T l) t) (.ref a)) Q E ⟨h, g, d, tk, os⟩ :=
  in_list_strs (s := ⟨h, g, d, tk, os⟩) (isList ha) hv.strs (by rw [hv.any_eq]; exact q)
theorem inTupF {a : Addr} {vs : List Value} {xs : List (List Nat)} {Q : Value → Shared → Prop} (ha : h.get? a = some (tupObj vs)) (hv : TV vs xs)
    (q : Q (.bool (decide (l ∈ xs))) ⟨h, g, d, tk, os⟩) : wpAny (model prog w) A (compareOp .In (.str (T l) t) (.ref a)) Q E ⟨h, g, d, tk, os⟩ :=
  in_tuple_strs (s := ⟨h, g, d, tk, os⟩) (isTup ha) (by simpa using hv.strs) (by rw [hv.any_eq]; exact q)

/-! slices of lists -/
theorem sliceLF {a : Addr} {vs : List Value} {vl vu : Value} {lo hi : Option Int} {n : Nat} {Q : Value → Shared → Prop} (F : Fm b L names vals led h) (ha : h.get? a = some (listObj vs n)) (pl : IsPart vl lo) (pu : IsPart vu hi) (hsz : vs.length ≤ sizeLine)
    (q : ∀ h' r, Keep h h' → h.get? r = none → Fm b L names vals ((r, listObj (slicePick vs.toArray lo hi none).toList) :: led) h' → Q (.ref r) ⟨h', g, d, tk, os⟩)
    (hs : subscripted slice false (.ref a) (.ref h.objs.size) = operate [.ref h.objs.size, .ref a] (getItem (.ref a) (.ref h.objs.size)) := by with_unfolding_all rfl)
    (ht : ∀ r, letTemporaryGo value (.ref a) r = pure () := by intro _; with_unfolding_all rfl) :
    wpAny (model prog w) A (subscriptTail value slice (.ref a) (.ref h.objs.size)) Q E ⟨h.push { cls := .type "slice", data := .fields #[vl, vu, .none] }, g, d, tk, os⟩ := by
  refine slice_listK (s := ⟨h, g, d, tk, os⟩) (isList ha) pl pu ?_ hs ht (by simpa using hsz)
  have k : Keep h ((h.push { cls := .type "slice", data := .fields #[vl, vu, .none] }).push { cls := .type "list", data := .seq (slicePick vs.toArray lo hi none) }) := (Keep.push _ _).trans (Keep.push _ _)
  have e1 : (h.push { cls := .type "slice", data := .fields #[vl, vu, .none] }).objs.size = h.objs.size + 1 := Heap.size_push ..
  have hn : h.get? (h.objs.size + 1) = none := by
    cases e : h.get? (h.objs.size + 1) with
    | none => rfl
    | some o => exact absurd (Heap.lt_size e) (Nat.not_lt.mpr (Nat.le_succ _))
  refine q _ _ k hn (F.add k hn ?_)
  rw [← e1]
  refine (Heap.get?_push_size _ rfl).trans ?_
  simp [listObj]
end
section
variable {b h : Heap} {L : Addr} {names : List Str} {vals : List (Option Value)} {led : List (Addr × Obj)} {M : Model} {A : Around} {E : Value → Shared → Prop} {env cenv : Env} {gl : List Str}
  {g : Array GenState} {d : Drawn} {tk : Nat} {os : OsState} {s : Shared} {prog : Program} {w : World}
theorem ifs0 {Q : Bool → Shared → Prop} (q : Q true s) :
    wpAny M A (forIn ([] : List Expr) true fun c r => if r = true then do let ok ← isTrue c cenv (eval c cenv); pure (ForInStep.yield ok) else pure (ForInStep.yield r)) Q E s := by
  rw [List.forIn_nil]; exact wpAny_pure q
theorem ifs1 {c : Expr} {Q : Bool → Shared → Prop} (q : wpAny M A (isTrue c cenv (eval c cenv)) Q E s) :
    wpAny M A (forIn [c] true fun c r => if r = true then do let ok ← isTrue c cenv (eval c cenv); pure (ForInStep.yield ok) else pure (ForInStep.yield r)) Q E s := by
  rw [List.forIn_cons]
  refine wpAny_bind ?_
  rw [if_pos rfl]
  refine wpAny_bind (wpAny_mono q (fun ok s' h' => wpAny_pure ?_) fun _ _ x => x)
  show wpAny M A (forIn ([] : List Expr) ok _) Q E s'
  rw [List.forIn_nil]; exact wpAny_pure h'
theorem compFE {scope : Scope} {C : Addr} {x : Str} {gl' : List Str} (X : FE env L names gl) (hkind : scope.kind = .function) (hl : ∀ y ∈ [x], scope.names.lookup y = some .local ∧ (y == ("__debug__" : Str)) = false)
    (hg : ∀ y ∈ gl', scope.names.lookup y = some .globalImplicit ∧ (y == ("__debug__" : Str)) = false) : FE (compEnv scope C env) C [x] gl' :=
  ⟨rfl, hkind, List.nodup_cons.mpr ⟨List.not_mem_nil, List.nodup_nil⟩, hl, hg, X.glo, X.bui⟩
theorem compK_listX {elt iter : Expr} {x : Str} {px : Pos} {ifs : List Expr} {scope : Scope} {pos : Pos} {RR : Value → Env → Result → Shared → Prop} {a : Addr} {vs : List Value} (gl' : List Str) (J : Nat → List Value → Prop)
    (X : FE env L names gl) (hA : A.handled = none) (F : Fm b L names vals led h) (hl : h.IsList a vs.toArray) (h0 : J 0 [])
    (hlen : ∀ i ys, J i ys → i ≤ vs.length → ys.length ≤ sizeLine)
    (turn : ∀ C D it i v ys o n h' tk' E', FE (compEnv scope C env) C [x] gl' → vs[i]? = some v → J i ys → Fm h C [x] [some v] [(D, listObj ys n), (it, o)] h' →
      wpAny (model prog w) A (forIn ifs true fun c r => if r = true then do let ok ← isTrue c (compEnv scope C env) (eval c (compEnv scope C env)); pure (ForInStep.yield ok) else pure (ForInStep.yield r)) (fun ok s₃ =>
        if ok = true then wpAny (model prog w) A (eval elt (compEnv scope C env)) (fun y s₄ => EltEnd (J (i + 1) (ys ++ [y])) h C x v D ys n it o g d os s₄) E' s₃
        else EltEnd (J (i + 1) ys) h C x v D ys n it o g d os s₃) E' ⟨h', g, d, tk', os⟩)
    (done : ∀ C oC D ys n h' tk', J vs.length ys → (∀ h₂ : Heap, h₂.get? C = some oC → ∃ m, h₂.Ns C m) → Fm b L names vals ((C, oC) :: (D, listObj ys n) :: led) h' → RR (.ref D) (compEnv scope C env) (.ok .next) ⟨h', g, d, tk', os⟩)
    (hcell : ∀ y ∈ scope.names, y.2 ≠ .cell := by decide +kernel) (hkind : scope.kind = .function := by rfl)
    (hx : scope.names.lookup x = some .local := by rfl) (hdb : (x == ("__debug__" : Str)) = false := by decide +kernel)
    (hg : ∀ y ∈ gl', scope.names.lookup y = some .globalImplicit ∧ (y == ("__debug__" : Str)) = false := by decide +kernel) :
    CompK prog w A E env elt iter x px ifs scope pos RR (.ref a) ⟨h, g, d, tk, os⟩ :=
  compK_list J X hA F hl hcell hkind hx hdb h0 hlen (fun C D it i v ys o n h' tk' E' => turn C D it i v ys o n h' tk' E' (compFE X hkind (fun y hy => by rw [List.mem_singleton.mp hy]; exact ⟨hx, hdb⟩) hg)) done
theorem takeFilter {α : Type} (p : α → Bool) {l : List α} {i : Nat} {a : α} (h : l[i]? = some a) : (l.take (i + 1)).filter p = (l.take i).filter p ++ (if p a = true then [a] else []) := by
  rw [List.take_add_one, h, Option.toList_some, List.filter_append]
  congr 1
  by_cases e : p a = true
  · rw [if_pos e]; simp [e]
  · rw [if_neg e]; simp [e]
end
end

section
open PySem PySem.Calls PyProof.Rows PySem.Builtin PySem.Builtin.Str
/-! None and texts as keys -/
noncomputable def isO : Option Str → Value → Bool
  | none, .none => true
  | some x, v => Value.isStrOf x v
  | _, _ => false
theorem isO_none {v : Value} (h : isO none v = true) : v = .none := by cases v <;> simp_all [isO]
theorem isO_some {x : Str} {v : Value} (h : isO (some x) v = true) : ∃ t, v = .str x t := Value.isStrOf_shape h
theorem isO_inj (v : Value) (a b : Option Str) (ha : isO a v = true) (hb : isO b v = true) : a = b := by
  cases a with
  | none =>
    have := isO_none ha; subst this
    cases b with
    | none => rfl
    | some y => obtain ⟨t, e⟩ := isO_some hb; cases e
  | some x =>
    obtain ⟨t, rfl⟩ := isO_some ha
    cases b with
    | none => exact nomatch isO_none hb
    | some y => obtain ⟨t, e⟩ := isO_some hb; injection e with e; rw [e]
section
variable {prog : Program} {w : World} {A : Around} {E : Value → Shared → Prop} {s : Shared}
theorem pyHash_none {Q : Int → Shared → Prop} (h : Q (reduceHash 0xFCA86420) { s with toks := s.toks + 1 }) : wpAny (model prog w) A (pyHash .none) Q E s := by
  exact PySem.W.pyHash_slot (T := "NoneType") rfl PySem.F.slot_NoneType_hash PySem.F.entry_NoneType_hash (PySem.F.args_NoneType_hash_1 _) (beq_builtin_none _) (.inl rfl) (wpAny_bind (wpAny_pure (wpAny_bind (wpAny_mkInt (wpAny_pure ⟨_, _, rfl, h⟩)))))
noncomputable def oKind (prog : Program) (w : World) : KeyKind prog w (Option Str) where
  is := isO
  hash := fun k => match k with | none => reduceHash 0xFCA86420 | some x => hashStr w x
  inj := isO_inj
  byValue := fun k v h => by
    cases k with
    | none => rw [isO_none h]; rfl
    | some x => obtain ⟨t, rfl⟩ := isO_some h; rfl
  pyHash := fun {A E s k v Q} hv h => by
    cases k with
    | none => rw [isO_none hv]; exact pyHash_none h
    | some x => obtain ⟨t, rfl⟩ := isO_some hv; exact wpAny_pyHash_str h
  eqBool := fun {A E s a b u v Q} hu hv h => by
    cases a with
    | none =>
      rw [isO_none hu]
      cases b with
      | none => rw [isO_none hv]; exact SeqAt.EqAt.same (A := A) .none prog w E Q h
      | some y => obtain ⟨t, rfl⟩ := isO_some hv; exact SeqAt.EqAt.none_str y t prog w E Q h
    | some x =>
      obtain ⟨t, rfl⟩ := isO_some hu
      cases b with
      | none => rw [isO_none hv]; exact SeqAt.EqAt.str_none x t prog w E Q h
      | some y =>
        obtain ⟨t', rfl⟩ := isO_some hv
        refine wpAny_eqBool_str ?_
        rw [show decide (x = y) = decide (some x = some y) by simp]; exact h
  «strs» := fun k x t v h => by
    cases k with
    | none => exact nomatch isO_none h
    | some y =>
      obtain ⟨u, hu⟩ := isO_some h
      injection hu with hx
      subst hx
      cases v <;> rfl
end
section
variable {b h : Heap} {L : Addr} {names : List Str} {vals : List (Option Value)} {led : List (Addr × Obj)} {M : Model} {A : Around} {E : Value → Shared → Prop} {env : Env} {gl : List Str}
  {g : Array GenState} {d : Drawn} {tk : Nat} {os : OsState} {s : Shared} {prog : Program} {w : World} {l m : List Nat} {t u : Tok} {value slice : Expr}

theorem dict3F {a1 a2 a3 b1 b2 b3 : Str} {p1 p2 p3 q1 q2 q3 pos : Pos} {i1 i2 i3 j1 j2 j3 : Nat} {Q : Value → Shared → Prop} (F : Fm b L names vals led h)
    (q : ∀ h' tk' f, Fm b L names vals led h' → h'.MapOf (oKind prog w) h.objs.size f → (∃ t1 t2 t3, f = valueAt (merged [] [(some a1, .str b1 t1), (some a2, .str b2 t2), (some a3, .str b3 t3)])) → Q (.ref h.objs.size) ⟨h', g, d, tk', os⟩) :
    wpAny (model prog w) A (eval (.Dict [some (.Constant (.str a1) i1 p1), some (.Constant (.str a2) i2 p2), some (.Constant (.str a3) i3 p3)] [.Constant (.str b1) j1 q1, .Constant (.str b2) j2 q2, .Constant (.str b3) j3 q3] pos) env) Q E ⟨h, g, d, tk, os⟩ := by
  refine Dict_made (knd := oKind prog w) (s := ⟨h, g, d, tk, os⟩) F.fr rfl rfl (List.cons_ne_nil _ _) (Nat.le_of_ble_eq_true rfl) fun _ => ?_
  have e : evalPairs (pairTrees [some (.Constant (.str a1) i1 p1), some (.Constant (.str a2) i2 p2), some (.Constant (.str a3) i3 p3)] [.Constant (.str b1) j1 q1, .Constant (.str b2) j2 q2, .Constant (.str b3) j3 q3] env pos) =
    evalPairs (pairTrees [some (.Constant (.str a1) i1 p1), some (.Constant (.str a2) i2 p2), some (.Constant (.str a3) i3 p3)] [.Constant (.str b1) j1 q1, .Constant (.str b2) j2 q2, .Constant (.str b3) j3 q3] env pos) := rfl
  refine pairTrees_cons_walk (Constant_str (Constant_str ?_))
  refine pairTrees_cons_walk (Constant_str (Constant_str ?_))
  refine pairTrees_cons_walk (Constant_str (Constant_str ?_))
  refine evalPairs_nil ?_
  refine ⟨[(some a1, _), (some a2, _), (some a3, _)], ⟨by simp [oKind, isO, Value.isStrOf], rfl, by simp [oKind, isO, Value.isStrOf], rfl, by simp [oKind, isO, Value.isStrOf], rfl, trivial⟩, Heap.DictOf.new _, fun h' hd hs => ?_⟩
  refine q h' _ _ (F.went fun p o e => hs.extBut p o (Nat.ne_of_lt (Heap.lt_size e)) (Heap.get?_push_of_some _ e)) hd.mapOf ⟨_, _, _, rfl⟩
theorem dictGetF {D : Addr} {f : Option Str → Option Value} {k : Option Str} {key dflt : Value} {Q : Value → Shared → Prop} (hm : h.MapOf (oKind prog w) D f) (hk : isO k key = true) (hD : (D == sysModules) = false)
    (q : Q ((f k).getD dflt) ⟨h, g, d, tk + 1, os⟩) : wpAny (model prog w) A (call (.builtin "dict.get") [.ref D, key, dflt]) Q E ⟨h, g, d, tk, os⟩ :=
  call_meetsIn (s := ⟨h, g, d, tk, os⟩) PySem.F.slot_dict_get hm.typeIs PySem.F.entry_dict_get (PySem.F.args_dict_get_3 _ _ _) (meets_dict_get_default (oKind prog w) D (k := k) hk hD dflt) ⟨_, hm, q⟩
theorem dictGetS {D : Addr} {f : Option Str → Option Value} {x : Str} {dflt : Value} {Q : Value → Shared → Prop} (hm : h.MapOf (oKind prog w) D f) (hD : (D == sysModules) = false)
    (q : Q ((f (some x)).getD dflt) ⟨h, g, d, tk + 1, os⟩) : wpAny (model prog w) A (call (.builtin "dict.get") [.ref D, .str x t, dflt]) Q E ⟨h, g, d, tk, os⟩ :=
  dictGetF hm (k := some x) (by simp [isO, Value.isStrOf]) hD q
theorem getDictGetF {D : Addr} {f : Option Str → Option Value} {pl : Sem Bool} {Q : Value × List Value → Shared → Prop} (hm : h.MapOf (oKind prog w) D f) (q : Q (.builtin "dict.get", [.ref D]) ⟨h, g, d, tk, os⟩) :
    wpAny (model prog w) A (getMethod (.ref D) "get" pl) Q E ⟨h, g, d, tk, os⟩ :=
  getMethod_builtin (s := ⟨h, g, d, tk, os⟩) hm.typeIs PySem.F.plainAttrs_dict PySem.F.slot_dict_get PySem.F.type_dict_get hm.noDict q

theorem inMixF {a : Addr} {vs : List Value} {xs : List (List Nat)} {n : Nat} {o : Option (List Nat)} {v : Value} {Q : Value → Shared → Prop} (ha : h.get? a = some (listObj (.none :: vs) n)) (hv : TV vs xs)
    (ho : match o with | none => v = .none | some l => ∃ t, v = .str (T l) t)
    (q : Q (.bool (match o with | none => true | some l => decide (l ∈ xs))) ⟨h, g, d, tk, os⟩) : wpAny (model prog w) A (compareOp .In v (.ref a)) Q E ⟨h, g, d, tk, os⟩ := by
  have hl := isList ha
  cases o with
  | none =>
    subst ho
    refine SeqAt.in_listAt (s := ⟨h, g, d, tk, os⟩) (fun y => match y with | .none => true | _ => false) hl (fun y hy => ?_) (by simpa using q)
    simp only [List.mem_toArray, List.mem_cons] at hy
    rcases hy with rfl | hy
    · exact SeqAt.EqAt.same .none
    · obtain ⟨i, hi⟩ := List.mem_iff_getElem?.mp hy
      obtain ⟨x, t, _, rfl⟩ := hv.at hi
      exact SeqAt.EqAt.str_none _ _
  | some l =>
    obtain ⟨t, rfl⟩ := ho
    refine SeqAt.in_listAt (s := ⟨h, g, d, tk, os⟩) (fun y => match y with | .str x _ => x == T l | _ => false) hl (fun y hy => ?_) ?_
    · simp only [List.mem_toArray, List.mem_cons] at hy
      rcases hy with rfl | hy
      · exact SeqAt.EqAt.none_str _ _
      · obtain ⟨i, hi⟩ := List.mem_iff_getElem?.mp hy
        obtain ⟨x, t, _, rfl⟩ := hv.at hi
        exact SeqAt.EqAt.str_str _ _ _ _
    · have e : ∀ {vs : List Value} {xs : List (List Nat)}, TV vs xs → vs.any (fun y => match y with | .str x _ => x == T l | _ => false) = decide (l ∈ xs) := by
        intro vs xs hv
        induction hv with
        | nil => rfl
        | @cons x t vs xs _ ih =>
          rw [List.any_cons, ih, Bool.eq_iff_iff]
          simp only [Bool.or_eq_true, beq_iff_eq, decide_eq_true_iff, List.mem_cons]
          exact ⟨fun e => e.elim (fun e => .inl (T_inj e).symm) .inr, fun e => e.elim (fun e => .inl (e ▸ rfl)) .inr⟩
      rw [← Array.any_toList, show ((Value.none :: vs).toArray).toList = Value.none :: vs from rfl, List.any_cons, e hv]
      simpa using q
noncomputable def con (l m : List Nat) : Bool := Txt.contains (T l) (T m)
theorem inTT {Q : Value → Shared → Prop} (q : Q (.bool (con l m)) s) : wpAny (model prog w) A (compareOp .In (.str (T m) u) (.str (T l) t)) Q E s :=
  P.in_str q
theorem lenListF {a : Addr} {vs : List Value} {n : Nat} {Q : Value → Shared → Prop} (ha : h.get? a = some (listObj vs n)) (hsz : vs.length ≤ sizeLine) (q : ∀ t' k, Q (.int vs.length t') ⟨h, g, d, k, os⟩) : wpAny (model prog w) A (call (.builtin "len") [.ref a]) Q E ⟨h, g, d, tk, os⟩ :=
  PyProof.Rows.len_list (s := ⟨h, g, d, tk, os⟩) (items := vs.toArray) (isList ha) (by rw [List.size_toArray]; exact ar_63 hsz) (by simpa using q _ _)
theorem Fm.notModules (F : Fm b L names vals led h) : (h.objs.size == sysModules) = false := by
  obtain ⟨o, _, _, _, ho, _⟩ := F.top'.fns (213, 31) (by decide)
  have h1 := Heap.lt_size ho
  have h2 : sysModules < 213 := by decide
  simp only [beq_eq_false_iff_ne, ne_eq]
  exact fun e => absurd (e ▸ h1) (Nat.not_lt.mpr (Nat.le_of_lt h2))
theorem lastSnoc {vs : List Value} {x : Value} : (vs ++ [x]).getLast? = some x := by simp
theorem itemLastTV {a : Addr} {vs : List Value} {n : Nat} {xs : List (List Nat)} {Q : Value → Shared → Prop}
    (F : Fm b L names vals led h) (hg : Got led a (listObj vs n)) (hv : TV vs xs) (h0 : 0 < vs.length)
    (q : ∀ t', Q (.str (T (xs.getLastD [])) t') ⟨h, g, d, tk, os⟩)
    (hs : subscripted slice false (.ref a) (.int (-1) u) = operate [.ref a, .int (-1) u] (getItem (.ref a) (.int (-1) u)) := by with_unfolding_all rfl) :
    wpAny (model prog w) A (subscriptTail value slice (.ref a) (.int (-1) u)) Q E ⟨h, g, d, tk, os⟩ := by
  rcases hv.last with ⟨e1, _⟩ | ⟨x, t, e1, e2⟩
  · rw [e1] at h0; exact absurd h0 (Nat.lt_irrefl _)
  · have e : xs.getLastD [] = x := by rw [List.getLastD_eq_getLast?, e2]; rfl
    rw [e] at q
    exact itemListLast F hg e1 (q t) hs
noncomputable def NE (xs : List (List Nat)) : Prop := ∀ k < xs.length, xs.getD k [] ≠ []
theorem NE.at {xs : List (List Nat)} {k : Nat} (h : NE xs) (hk : k < xs.length) : xs.getD k [] ≠ [] := h k hk
theorem NE.of {xs : List (List Nat)} (h : ∀ x ∈ xs, x ≠ []) : NE xs := fun k hk => by
  rw [List.getD_eq_getElem?_getD, List.getElem?_eq_getElem hk]; exact h _ (List.getElem_mem hk)
theorem NE.last {xs : List (List Nat)} (h : NE xs) (h0 : 0 < xs.length) : xs.getLastD [] ≠ [] := by
  rw [List.getLastD_eq_getLast?, List.getLast?_eq_getElem?, ← List.getD_eq_getElem?_getD]; exact h _ (Nat.sub_lt h0 Nat.one_pos)
theorem pick1n1 (vs : List Value) : (slicePick vs.toArray (some 1) (some (-1)) none).toList = (vs.drop 1).dropLast := by
  rw [slicePick_plain]
  have e1 : clipAt vs.toArray.size 1 = min 1 vs.length := clipAt_nat _ 1
  have e2 : clipAt vs.toArray.size (-1) = vs.length - 1 := clipAt_neg _ 1 (Nat.le_refl _)
  simp only [Option.elim, e1, e2]
  show List.take _ (List.drop _ vs) = _
  rw [List.dropLast_eq_take, List.length_drop]
  rcases Nat.eq_zero_or_pos vs.length with h | h
  · rw [List.length_eq_zero_iff] at h; subst h; rfl
  · rw [Nat.min_eq_left h]
theorem TV.dropN {vs : List Value} {xs : List (List Nat)} (v : TV vs xs) : ∀ n, TV (vs.drop n) (xs.drop n) := by
  induction v with
  | nil => intro n; simp; exact .nil
  | cons v ih => intro n; cases n with
    | zero => exact .cons v
    | succ n => exact ih n
theorem slice1n1F {a : Addr} {vs : List Value} {xs : List (List Nat)} {n : Nat} {ui uj : Tok} {Q : Value → Shared → Prop} (F : Fm b L names vals led h) (hg : Got led a (listObj vs n)) (hv : TV vs xs) (hl : xs.length ≤ 100000) (hb : ∀ x ∈ xs, x.length ≤ 1000) (hn : NE xs)
    (h2 : 2 < vs.length)
    (q : ∀ h' r ws ys, ys = (xs.drop 1).dropLast → ys.length + 2 = xs.length → TV ws ys → ws.length = ys.length → ys.length ≤ 100000 → (∀ y ∈ ys, y.length ≤ 1000) → NE ys → Fm b L names vals ((r, listObj ws) :: led) h' → Q (.ref r) ⟨h', g, d, tk, os⟩)
    (hs : subscripted slice false (.ref a) (.ref h.objs.size) = operate [.ref h.objs.size, .ref a] (getItem (.ref a) (.ref h.objs.size)) := by with_unfolding_all rfl)
    (ht : ∀ r, letTemporaryGo value (.ref a) r = pure () := by intro _; with_unfolding_all rfl) :
    wpAny (model prog w) A (subscriptTail value slice (.ref a) (.ref h.objs.size)) Q E ⟨h.push { cls := .type "slice", data := .fields #[.int 1 ui, .int (-1) uj, .none] }, g, d, tk, os⟩ := by
  have hvl := hv.len
  have hsub : ∀ y ∈ (xs.drop 1).dropLast, y ∈ xs := fun y hy => List.mem_of_mem_drop (List.dropLast_subset _ hy)
  have hyl : ((xs.drop 1).dropLast).length + 2 = xs.length := by
    rw [List.length_dropLast, List.length_drop, Nat.sub_sub]; exact Nat.sub_add_cancel (by rw [← hvl]; exact Nat.le_of_lt h2)
  refine sliceLF F (F.get hg) (IsPart.int _ _) (IsPart.int _ _) (by rw [sizeLine_eq, hvl]; exact ar_to hl _) (fun h' r _ _ F' => ?_) hs ht
  rw [pick1n1] at F'
  have hv' := (hv.dropN 1).dropLast
  refine q h' r _ _ rfl hyl hv' hv'.len (Nat.le_trans (Nat.le.intro hyl) hl) (fun y hy => hb y (hsub y hy)) (NE.of fun y hy e => ?_) F'
  obtain ⟨i, hi⟩ := List.mem_iff_getElem?.mp (hsub y hy)
  have := hn i (List.getElem?_eq_some_iff.mp hi).1
  rw [List.getD_eq_getElem?_getD, hi] at this
  exact this e
end
end

section
open PySem PySem.Calls PyProof.Rows PySem.Builtin PySem.Builtin.Str
/-! a generator over a list whose element wants made objects' numbers above nought -/
section
variable {prog : Program} {w : World} {A : Around}
noncomputable def EltOk (prog : Program) (w : World) (cenv : Env) (x : Str) (elt : Expr) (P F : Nat → Value → Prop) : Prop :=
  ∀ (A' : Around) E' i v (s₂ : Shared) m₂, A'.handled = none → P i v → s₂.heap.Ns cenv.locals m₂ → m₂ x = some v → 1 ≤ s₂.toks → wpAny (model prog w) A' (eval elt cenv) (fun y s₃ => F i y ∧ Keeps s₂ s₃) E' s₂
abbrev allT : Nat → Bool := fun _ => true
theorem genLoop1 {elt iter : Expr} {x : Str} {px : Pos} {scope : Scope} {pos : Pos} {I : Addr} {fp wr : List Addr} {n₀ : Nat} {P : Nat → Value → Prop} {St₀ : Nat → Heap → Prop} {cenv : Env}
    (hh : A.handled = none) (W₀ : ∀ A' : Around, A'.handled = none → Walks prog w A' I fp wr n₀ P St₀) (F : Nat → Value → Prop)
    (hx : cenv.kindOf x = some .local) (hp : (cenv.scope.kind == .class || (cenv.scope.kind == .module && cenv.locals != cenv.globals)) = false)
    (hco : cenv.scope.isCoroutine = false) (hCf : cenv.locals ∉ fp) (hq : EltOk prog w cenv x elt P F) :
    ∀ (k i : Nat), n₀ - i = k → i ≤ n₀ → ∀ (s₀ s : Shared) (m : Str → Option Value), St₀ i s.heap → s.heap.Ns cenv.locals m → GenSince cenv.locals wr s₀ s →
      Seg (model prog w) A (fun n s₀ r s₁ => r = .ok .next ∧ (n = 0 ∧ GenSince cenv.locals wr s₀ s₁)) (genProto cenv.locals fp wr allT n₀ F) (passing allT n₀ i).length s₀
        (.compLoop (.GeneratorExp elt [⟨.Name x px, iter, [], 0⟩] scope pos) 0 (.ref I) .none cenv)
        ((model prog w).den (.compLoop (.GeneratorExp elt [⟨.Name x px, iter, [], 0⟩] scope pos) 0 (.ref I) .none cenv)) [] s := by
  have hA : (A.over (.compLoop (.GeneratorExp elt [⟨.Name x px, iter, [], 0⟩] scope pos) 0 (.ref I) .none cenv) []).handled = none := hh
  have hCw : cenv.locals ∉ wr := fun h => hCf ((W₀ A hh).sub _ h)
  intro k
  induction k with
  | zero =>
    intro i hk hi s₀ s m hst hn hs
    obtain rfl : i = n₀ := Nat.le_antisymm hi (Nat.le_of_sub_eq_zero hk)
    show Seg _ A _ _ _ s₀ _ ((compTurn (.GeneratorExp elt [⟨.Name x px, iter, [], 0⟩] scope pos) 0 (.ref I) .none cenv).onRaise (leaving cenv)) [] s
    rw [compTurn_gen, Sem.onRaise_eq_wrap]
    exact seg_bind_wrap (wpAny_standAt (seg_bind_wrap ((W₀ _ hA).done s _ _ hst fun h' tk hk' => seg_end (.ok .next) ⟨rfl, by rw [passing_end]; rfl, hs.step fun b o _ hw e => hk' b o hw e⟩)))
  | succ k ih =>
    intro i hk hi s₀ s m hst hn hs
    have hlt : i < n₀ := Nat.lt_of_sub_eq_succ hk
    show Seg _ A _ _ _ s₀ _ ((compTurn (.GeneratorExp elt [⟨.Name x px, iter, [], 0⟩] scope pos) 0 (.ref I) .none cenv).onRaise (leaving cenv)) [] s
    rw [compTurn_gen, Sem.onRaise_eq_wrap]
    refine seg_bind_wrap (wpAny_standAt (seg_bind_wrap ((W₀ _ hA).item i s _ _ hlt hst fun v h₁ tk₁ hv hst₁ k₁ => ?_)))
    refine seg_bind_wrap (wpAny_of_eq (rfl : letOwnedTupleGo (.Name x px) (.ref I) v = pure ()) (seg_bind_wrap (wpAny_assign_Name (wpAny_storeName_local hx (hn.at' fun o e => k₁ _ o hCw e) (fun h₂ hn₂ hs₂ => ?_) hp))))
    have k₂ : ∀ b o, b ≠ cenv.locals → b ∉ wr → s.heap.get? b = some o → h₂.get? b = some o := fun b o hb hw e => hs₂.extBut b o hb (k₁ b o hw e)
    have hst₂ : St₀ (i + 1) h₂ := (W₀ A hh).frame _ _ _ hst₁ fun b hb o e => hs₂.extBut b o (fun h => hCf (h ▸ hb)) e
    refine seg_bind_wrap (ifs0 ?_)
    rw [passing_true hlt rfl, List.length_cons, if_pos rfl]
    have hy : ∀ v, yieldOut cenv v = yieldValue v := fun v => by simp only [yieldOut, hco, Bool.false_eq_true, if_false]
    simp only [hy]
    rw [Sem.bind_eq_wrap', Sem.bind_eq_wrap', Sem.wrap_wrap, Sem.wrap_wrap]
    refine seg_wrap (wpAny_mono (hq _ _ i v _ _ hA hv hn₂ (by simp) (Nat.le_add_left 1 tk₁)) (fun y s₄ h₄ => ?_) fun _ _ e => e)
    obtain ⟨hFy, h₄, tk₄, rfl, k₄⟩ := h₄
    have hst₄ : St₀ (i + 1) h₄ := (W₀ A hh).frame _ _ _ hst₂ fun b _ o e => k₄ b o e
    refine seg_at (seg_yield rfl rfl rfl ⟨⟨i, passing_here hlt rfl, hFy⟩, hs.step fun b o hb hw e => k₄ b o (k₂ b o hb hw e), fun s'' hal => seg_again rfl ?_⟩)
    exact ih (i + 1) (by rw [Nat.sub_add_eq, hk]; rfl) hlt s'' s'' _ ((W₀ A hh).frame _ _ _ hst₄ fun b hb o e => hal b (List.mem_cons_of_mem _ hb) o e) ((hn₂.keeps k₄).at' fun o e => hal _ (List.mem_cons_self ..) o e) (GenSince.refl _ _ _)

theorem genStart1 {elt iter : Expr} {x : Str} {px : Pos} {scope : Scope} {pos : Pos} {I : Addr} {fp wr : List Addr} {n₀ : Nat} {P : Nat → Value → Prop} {St₀ : Nat → Heap → Prop} {cenv : Env}
    (hh : A.handled = none) (W₀ : ∀ A' : Around, A'.handled = none → Walks prog w A' I fp wr n₀ P St₀) (F : Nat → Value → Prop)
    (hx : cenv.kindOf x = some .local) (hp : (cenv.scope.kind == .class || (cenv.scope.kind == .module && cenv.locals != cenv.globals)) = false)
    (hco : cenv.scope.isCoroutine = false) (hCf : cenv.locals ∉ fp) (hq : EltOk prog w cenv x elt P F) (s₀ s : Shared) (m : Str → Option Value) (hst : St₀ 0 s.heap) (hn : s.heap.Ns cenv.locals m) (hs : GenSince cenv.locals wr s₀ s) :
    Seg (model prog w) A (fun n s₀ r s₁ => r = .ok .next ∧ (n = 0 ∧ GenSince cenv.locals wr s₀ s₁)) (genProto cenv.locals fp wr allT n₀ F) (passing allT n₀ 0).length s₀
      (.compStart (.GeneratorExp elt [⟨.Name x px, iter, [], 0⟩] scope pos) 0 (.ref I) .none cenv)
      ((model prog w).den (.compStart (.GeneratorExp elt [⟨.Name x px, iter, [], 0⟩] scope pos) 0 (.ref I) .none cenv)) [] s := by
  have hA : (A.over (.compStart (.GeneratorExp elt [⟨.Name x px, iter, [], 0⟩] scope pos) 0 (.ref I) .none cenv) []).handled = none := hh
  have loop := genLoop1 (iter := iter) (px := px) (scope := scope) (pos := pos) hh W₀ F hx hp hco hCf hq n₀ 0 (Nat.sub_zero _) (Nat.zero_le _) s₀ s m hst hn hs
  show Seg _ A _ _ _ s₀ _ ((compStart (.GeneratorExp elt [⟨.Name x px, iter, [], 0⟩] scope pos) 0 (.ref I) .none cenv).onRaise (leaving cenv)) [] s
  unfold compStart
  rw [Sem.onRaise_eq_wrap]
  show Seg _ A _ _ _ s₀ _ ((ask >>= _).wrap _ _ _ _) [] s
  refine seg_bind_wrap (wpAny_askSetting ?_)
  split
  · exact seg_again rfl loop
  · first
      | exact seg_bind_wrap (wpAny_rule (seg_bind_wrap (wpAny_standAt (seg_bind_wrap ((W₀ _ hA).self 0 s _ _ hst (seg_again rfl loop))))))
      | (refine seg_bind_wrap (wpAny_rule ?_); show Seg _ A _ _ _ s₀ _ ((standAt iter.pos >>= _).wrap _ _ _ _) [] s; exact seg_bind_wrap (wpAny_standAt (seg_bind_wrap ((W₀ _ hA).self 0 s _ _ hst (seg_again rfl loop)))))
end
end

section
open PySem PySem.Calls PyProof.Rows PySem.Builtin PySem.Builtin.Str PySem.W
/-! the table of the code of _translate, taken out of the base heap -/
theorem among_other {p q : Pos} {c : Value} (hne : ¬ (p.line = q.line ∧ p.col = q.col)) : ∀ (l : List Value), TriplesOk l → codeAmong p (l ++ [rawInt q.line, rawInt q.col, c]) = codeAmong p l := fun l h => by
  fun_induction TriplesOk l with
  | case1 =>
    have : ¬ ((((q.line : Nat) : Int) == ((p.line : Nat) : Int) && ((q.col : Nat) : Int) == ((p.col : Nat) : Int)) = true) := by
      rw [Bool.and_eq_true, beq_iff_eq, beq_iff_eq]; exact fun e => hne ⟨(Int.ofNat.inj e.1).symm, (Int.ofNat.inj e.2).symm⟩
    simp only [List.nil_append, codeAmong, rawInt]
    rw [if_neg this]
  | case2 a t b u x rest ih =>
    simp only [List.cons_append, codeAmong]
    split
    · rfl
    · exact ih h
  | case3 l h1 h2 => exact h.elim
noncomputable def CodeOk (h : Heap) (q : Str) (c' : Value) : Prop := ∃ a, c' = .ref a ∧ a ≠ 57 ∧ h.CodeRec (.ref a) q
structure Tb (lp : Pos) (lq : Str) (h : Heap) (ps : Array Value) : Prop where
  here : h.get? 57 = some (tabObj ps)
  tri : TriplesOk ps.toList
  lam : ∀ c', codeAmong lp ps.toList = some c' → CodeOk h lq c'
structure TopU (h : Heap) : Prop where
  bi : ∃ mg, h.Ns mainGlobals mg ∧ h.BuiltinsAt mg 57
  hd : CodeHd h 61 57
theorem TopU.keep {h h' : Heap} (U : TopU h) (k : Keep h h') : TopU h' :=
  ⟨U.bi.imp fun _ x => ⟨k.ns x.1, x.2.keeps k⟩, U.hd.keeps k⟩
theorem CodeRec.off {h h' : Heap} {a : Addr} {q : Str} (x : h.CodeRec (.ref a) q) (e : ∀ o, h.get? a = some o → h'.get? a = some o) : h'.CodeRec (.ref a) q :=
  by obtain ⟨c, o, vs, t, e1, g, r⟩ := x; exact ⟨c, o, vs, t, e1, by cases e1; exact e _ g, r⟩
/-- the heap without the table -/
noncomputable def cut (h : Heap) : Heap := h.update 57 fun o => { o with data := .freed }
theorem cut_other {h : Heap} {a : Addr} (ne : a ≠ 57) : (cut h).get? a = h.get? a := Heap.get?_update_other _ _ (Ne.symm ne)
theorem cut_57 {h : Heap} : (cut h).get? 57 = none := by
  unfold cut Heap.update Heap.get?
  dsimp only
  rw [Array.getElem?_modify, if_pos rfl]
  cases h.objs[57]? with
  | none => rfl
  | some o => rfl
theorem cut_size (h : Heap) : (cut h).objs.size = h.objs.size := (Heap.SameBut.update h 57 _).1
theorem Keep.cut {h h' : Heap} (k : Keep (Mine.cut h) h') : Keep (Mine.cut h) (Mine.cut h') := fun b o e => by
  by_cases hb : b = 57
  · subst hb; rw [cut_57] at e; cases e
  · rw [cut_other hb]; exact k b o e

section
variable {b h : Heap} {L : Addr} {names : List Str} {vals : List (Option Value)} {led : List (Addr × Obj)} {M : Model} {A : Around} {E : Value → Shared → Prop} {env : Env} {gl : List Str}
  {g : Array GenState} {d : Drawn} {tk : Nat} {os : OsState} {s : Shared} {prog : Program} {w : World} {ps : Array Value} {lp : Pos} {lq : Str}

/-- the table at a later heap -/
theorem Fm.tab (F : Fm b L names vals ((57, tabObj ps) :: led) h) {h' : Heap} {o' : Obj} (k : ∀ p o, p ≠ 57 → h.get? p = some o → h'.get? p = some o) (e : h'.get? 57 = some o') : Fm b L names vals ((57, o') :: led) h' := by
  have q := F.nw _ List.mem_cons_self
  have hn : ∀ p ∈ led, p.1 ≠ 57 := fun p hp e => (List.nodup_cons.mp F.nd).1 (List.mem_map.mpr ⟨p, hp, e⟩)
  refine ⟨F.top, ⟨?_, fun p o e' => ?_, F.fr.above⟩, fun p hp => ?_, by have := F.nd; simpa using this⟩
  · obtain ⟨oL, es, ep, e', r⟩ := F.fr.ns
    exact ⟨oL, es, ep, k _ _ (fun e => q.2.1 e.symm) e', r⟩
  · refine k p o (fun e => ?_) (F.fr.keep p o e')
    subst e; rw [q.2.2] at e'; cases e'
  · rcases List.mem_cons.mp hp with rfl | hp
    · exact ⟨e, q.2⟩
    · have := F.nw p (List.mem_cons_of_mem _ hp)
      exact ⟨k _ _ (hn p hp) this.1, this.2⟩

/-- the table at its place in the ledger -/
theorem Fm.tabP (F : Fm b L names vals led h) {h' : Heap} {o' : Obj} {led' : List (Addr × Obj)} (u : Put led 57 o' led') (k : ∀ p o, p ≠ 57 → h.get? p = some o → h'.get? p = some o) (e : h'.get? 57 = some o') : Fm b L names vals led' h' where
  top := F.top
  fr := by
    obtain ⟨p, hp, hpe⟩ := List.mem_map.mp u.key
    have q := F.nw p hp
    rw [hpe] at q
    obtain ⟨oL, es, ep, e', r⟩ := F.fr.ns
    refine ⟨⟨oL, es, ep, k _ _ (fun e => q.2.1 e.symm) e', r⟩, fun x o e' => k x o (fun e => ?_) (F.fr.keep x o e'), F.fr.above⟩
    subst e; rw [q.2.2] at e'; cases e'
  nw := fun p hp => by
    rcases u.mem F.nd p hp with rfl | ⟨hm, ne⟩
    · obtain ⟨p', hp', e'⟩ := List.mem_map.mp u.key
      have q := F.nw p' hp'
      rw [e'] at q
      exact ⟨e, q.2⟩
    · exact ⟨k _ _ ne (F.nw p hm).1, (F.nw p hm).2⟩
  nd := by rw [u.keys]; exact F.nd
theorem Tb.keep {h h' : Heap} (T : Tb lp lq h ps) (k : Keep h h') : Tb lp lq h' ps :=
  ⟨k _ _ T.here, T.tri, fun c' e => (T.lam c' e).imp fun _ x => ⟨x.1, x.2.1, CodeRec_keep k x.2.2⟩⟩
theorem Tb.grow {h h' : Heap} {pos : Pos} {c' : Addr} (T : Tb lp lq h ps) (hx : Heap.ExtBut 57 h h') (e : h'.get? 57 = some (tabObj (ps ++ #[rawInt pos.line, rawInt pos.col, .ref c'])))
    (hl : (pos.line = lp.line ∧ pos.col = lp.col) → codeAmong lp ps.toList = none ∧ c' ≠ 57 ∧ h'.CodeRec (.ref c') lq) : Tb lp lq h' (ps ++ #[rawInt pos.line, rawInt pos.col, .ref c']) := by
  have hl' : (ps ++ #[rawInt pos.line, rawInt pos.col, Value.ref c']).toList = ps.toList ++ [rawInt pos.line, rawInt pos.col, .ref c'] := by simp
  refine ⟨e, by rw [hl']; exact TriplesOk_snoc _ _ _ _ T.tri, fun c'' e' => ?_⟩
  rw [hl'] at e'
  by_cases hp : pos.line = lp.line ∧ pos.col = lp.col
  · obtain ⟨h1, h2, h3⟩ := hl hp
    rw [hp.1, hp.2, codeAmong_snoc _ T.tri h1] at e'
    cases e'
    exact ⟨_, rfl, h2, h3⟩
  · rw [among_other (fun e => hp ⟨e.1.symm, e.2.symm⟩) _ T.tri] at e'
    obtain ⟨a, e1, e2, e3⟩ := T.lam _ e'
    exact ⟨a, e1, e2, CodeRec.off e3 fun o eo => hx _ _ e2 eo⟩

/-- a generator at work: what it writes is above lo -/
noncomputable def GenPk (prog : Program) (w : World) (A : Around) (lo : Nat) (a : Addr) (n : Nat) (F : Nat → Value → Prop) (s : Shared) : Prop :=
  ∃ fp wr gi St, WalksS prog w A.in4 a fp wr (GenOnlyQ gi) n F St ∧ St 0 s ∧ (∀ i s', St i s' → s'.TypeIs (.ref a) "generator") ∧ a ∈ fp ∧ (∀ p ∈ fp, p < s.heap.objs.size) ∧ ∀ p ∈ wr, lo ≤ p

theorem passing_all (n : Nat) : passing allT n 0 = List.range n := by
  unfold passing; rw [List.drop_zero]; simp [allT]

theorem genExpF {elt : Expr} {x y : Str} {px py : Pos} {scope : Scope} {pos : Pos} {D : Addr} {vs : List Value} {n : Nat} {R : Nat → Value → Prop} {led1 : Obj → List (Addr × Obj)} {Q : Value → Shared → Prop}
    (X : FE env L names gl) (F : Fm b L names vals led h) (hg : Got led 57 (tabObj ps)) (hput : ∀ o, Put led 57 o (led1 o)) (U : TopU b) (Tt : Tb lp lq h ps) (G : AllBare g) (hA : A.handled = none) (hroom : A.depth < recursionLimit) (hD : h.get? D = some (listObj vs n)) (hf : Fd names vals y (.ref D))
    (hcode : env.code = .ref 61) (hclos : closureFor scope env = pure []) (hco : scope.isCoroutine = false) (hcell : ∀ y ∈ scope.names, y.2 ≠ .cell) (h0 : scope.names.lookup (".0" : Str) = some NameKind.local)
    (hx : scope.names.lookup x = some .local) (hkind : scope.kind = .function) (hlp : ¬ (pos.line = lp.line ∧ pos.col = lp.col))
    (helt : ∀ C code, EltOk prog w (genEnv scope [] C code builtinsNs env) x elt (fun i v => vs.toArray[i]? = some v) R)
    (q : ∀ a h₅ g₅ tk₅ more, Fm b L names vals (led1 (tabObj (ps ++ more))) h₅ → Tb lp lq h₅ (ps ++ more) → (∀ c', codeAmong lp (ps ++ more).toList = some c' → ∃ a, c' = .ref a ∧ a < h.objs.size) → AllBare g₅ → GenPk prog w A h.objs.size a (passing allT vs.toArray.size 0).length (fun j y => ∃ i, (passing allT vs.toArray.size 0)[j]? = some i ∧ R i y) ⟨h₅, g₅, d, tk₅, os⟩ → Q (.ref a) ⟨h₅, g₅, d, tk₅, os⟩)
    (hs : ∀ x, genFold (.Name y py) env x = pure x := by intro _; rfl) :
    wpAny (model prog w) A (eval (.GeneratorExp elt [⟨.Name x px, .Name y py, [], 0⟩] scope pos) env) Q E ⟨h, g, d, tk, os⟩ := by
  refine wpAny_GeneratorExp_make hco hclos hcell h0 hkind hroom (nameL X F hf ?_) hs
  refine wpAny_pyIter_list (isList hD) ⟨NoLimit_keep (Keep.push _ _) F.top'.nolim, ?_⟩
  have hU := U.keep F.keep
  obtain ⟨mg, hns, hb⟩ := hU.bi
  have hDlt := Heap.lt_size hD
  have hD57 : D ≠ 57 := fun e => by subst e; rw [Tt.here] at hD; cases hD
  have hmain : mainGlobals ≠ 57 := by decide
  have k1 : Keep h (h.push { cls := .type "list_iterator", data := .fields #[.ref D, .int 0 0] }) := Keep.push _ _
  have T1 := Tt.keep k1
  have e1 : (h.push { cls := .type "list_iterator", data := .fields #[.ref D, .int 0 0] }).objs.size = h.objs.size + 1 := Heap.size_push ..
  have tail : ∀ (h₃ : Heap) (tk₃ : Nat) (code : Value) (more : Array Value), Heap.ExtBut 57 (h.push { cls := .type "list_iterator", data := .fields #[.ref D, .int 0 0] }) h₃ → h.objs.size + 1 ≤ h₃.objs.size → Tb lp lq h₃ (ps ++ more) → (∀ c', codeAmong lp (ps ++ more).toList = some c' → ∃ a, c' = .ref a ∧ a < h.objs.size) →
      wpAny (model prog w) A (builtinsFor env.globals env.builtins) (fun bi s₄ =>
        ∀ h', h'.Ns s₄.heap.objs.size (fun y => if y = ".0" then some (.ref h.objs.size) else none) → Heap.SameBut s₄.heap.objs.size (s₄.heap.push { cls := .type "frame", data := .dict #[] }) h' →
          Q (.ref h'.objs.size) { s₄ with
            gens := s₄.gens.push (.fresh (.compStart (.GeneratorExp elt [⟨.Name x px, .Name y py, [], 0⟩] scope pos) 0 (.ref h.objs.size) .none (genEnv scope [] s₄.heap.objs.size code bi env))),
            toks := s₄.toks + 1 + 1 + 1,
            heap := h'.push { cls := .type "generator", data := .fields #[.int s₄.gens.size 0, .str "<genexpr>" (s₄.toks + 1), .str (env.qual ++ "<genexpr>") (s₄.toks + 1 + 1)] } }) E ⟨h₃, g, d, tk₃, os⟩ := by
    intro h₃ tk₃ code more hx₃ hsz₃ T₃ hold
    obtain ⟨bm, ob, hbm, hne0, _, hneP, hbo, hcls, hdict, hdata⟩ := hb
    refine wpAny_builtinsFor (s := ⟨h₃, g, d, tk₃, os⟩) (by rw [X.glo]; exact (k1.ns hns).extBut hx₃ hmain) hbm hne0 (hx₃ _ _ hneP (k1 _ _ hbo)) hcls hdict hdata ?_
    intro h' hn' hs'
    dsimp only at hn' hs' ⊢
    have hsz : h'.objs.size = h₃.objs.size + 1 := by rw [hs'.1, Heap.size_push]
    have keep' : ∀ b o, h₃.get? b = some o → h'.get? b = some o := fun b o e => hs'.extBut b o (Nat.ne_of_lt (Heap.lt_size e)) (Heap.get?_push_of_some _ e)
    have keep₅ : Keep h₃ (h'.push { cls := .type "generator", data := .fields #[.int g.size 0, .str "<genexpr>" (tk₃ + 1), .str (env.qual ++ "<genexpr>") (tk₃ + 1 + 1)] }) := fun b o e => Heap.get?_push_of_some _ (keep' b o e)
    have hI : h₃.IsListIter h.objs.size D 0 := ⟨_, hx₃ _ _ (fun e => absurd (Heap.lt_size Tt.here) (by rw [← e]; exact Nat.lt_irrefl _)) (Heap.get?_push_size _ rfl), rfl, rfl⟩
    have hL : h₃.IsList D vs.toArray := isList (hx₃ _ _ hD57 (k1 _ _ hD))
    have hne : D ≠ h.objs.size := Nat.ne_of_lt hDlt
    have W₁ : ∀ A' : Around, A'.handled = none → Walks prog w A' h.objs.size [h.objs.size, D] [h.objs.size] vs.toArray.size (fun i v => vs.toArray[i]? = some v) (fun i hh => hh.IsListIter h.objs.size D i ∧ hh.IsList D vs.toArray) := fun A' hA' => Walks.list hA' _ _ hne _
    have hfp : ∀ p ∈ [h.objs.size, D], p ∈ List.range h₃.objs.size := fun p hp => by
      rcases List.mem_cons.mp hp with rfl | hp
      · exact List.mem_range.mpr hsz₃
      · rw [List.mem_singleton.mp hp]; exact List.mem_range.mpr (Nat.lt_of_lt_of_le hDlt (Nat.le_of_succ_le hsz₃))
    have hwr : ∀ p ∈ [h.objs.size], p ∈ List.range h₃.objs.size := fun p hp => by rw [List.mem_singleton.mp hp]; exact List.mem_range.mpr hsz₃
    have haC : h'.objs.size ≠ h₃.objs.size := by rw [hsz]; exact Nat.succ_ne_self _
    have haf : h'.objs.size ∉ List.range h₃.objs.size := fun hm => by rw [hsz] at hm; exact Nat.not_succ_lt_self (List.mem_range.mp hm)
    have hl₃ : h₃.NoLimit := (NoLimit_keep k1 F.top'.nolim).extBut hx₃ (by decide)
    have hcl : cStatics < h₃.objs.size := let ⟨_, hn, _⟩ := hl₃; hn.lt
    have hcw : cStatics ∉ [h.objs.size] := fun hm => by
      have hc : cStatics < h.objs.size := let ⟨_, hn, _⟩ := F.top'.nolim; hn.lt
      rw [List.mem_singleton] at hm; rw [hm] at hc; exact Nat.lt_irrefl _ hc
    have hF₅ := F.tabP (hput (tabObj (ps ++ more))) (h' := h'.push { cls := .type "generator", data := .fields #[.int g.size 0, .str "<genexpr>" (tk₃ + 1), .str (env.qual ++ "<genexpr>") (tk₃ + 1 + 1)] })
      (fun p o hp e => keep₅ _ _ (hx₃ _ _ hp (k1 _ _ e))) (keep₅ _ _ T₃.here)
    refine q _ _ _ _ more hF₅ (T₃.keep keep₅) hold (G.push rfl) ?_
    have W := WalksS.genexpQ (prog := prog) (w := w) (A := A.in4) hA h'.objs.size g.size h₃.objs.size (List.range h₃.objs.size) [h.objs.size] allT vs.toArray.size R haC haf hwr hroom (List.mem_range.mpr hcl) (Nat.ne_of_lt hcl) hcw
    refine ⟨_, _, _, _, W, ?_, fun i s' st => st.1.typeIs, List.mem_cons_self, ?_, ?_⟩
    · have hn₅ := hn'.push { cls := .type "generator", data := .fields #[.int g.size 0, .str "<genexpr>" (tk₃ + 1), .str (env.qual ++ "<genexpr>") (tk₃ + 1 + 1)] }
      refine ⟨⟨_, _, _, Heap.get?_push_size _ rfl, rfl, rfl, rfl⟩, hl₃.keeps keep₅, _, Array.getElem?_push_size .., fun s'' hal => ⟨rfl, ?_⟩⟩
      refine genStart1 (A := A.in4.in1) (cenv := genEnv scope [] h₃.objs.size code builtinsNs env) hA (fun A' hA' => (W₁ A' hA').mono_fp hfp) R hx (by simp [genEnv, hkind]) hco
        (fun hm => Nat.lt_irrefl _ (List.mem_range.mp hm)) (helt _ _) s'' s'' _ ?_ (hn₅.at' fun o e => hal _ (List.mem_cons_self ..) o e) (GenSince.refl _ _ _)
      exact (W₁ A hA).frame _ _ _ ⟨hI, hL⟩ fun p hp o e => hal p (List.mem_cons_of_mem _ (hfp p hp)) o (keep₅ _ _ e)
    · intro p hp
      show p < (h'.push _).objs.size
      rw [Heap.size_push]
      rcases List.mem_cons.mp hp with rfl | hp
      · exact Nat.lt_succ_self _
      · rw [hsz]
        rcases List.mem_cons.mp hp with rfl | hp
        · exact Nat.lt_succ_of_lt (Nat.lt_succ_self _)
        · exact Nat.lt_succ_of_lt (Nat.lt_succ_of_lt (List.mem_range.mp hp))
    · intro p hp
      rcases List.mem_cons.mp hp with rfl | hp
      · exact Nat.le_of_succ_le hsz₃
      · rw [List.mem_singleton.mp hp]; exact Nat.le_refl _
  have hcd : (h.push { cls := .type "list_iterator", data := .fields #[.ref D, .int 0 0] }).IsCode 61 57 ps := (hU.hd.keeps k1).code T1.here T1.tri
  have old : ∀ c', codeAmong lp ps.toList = some c' → ∃ a, c' = .ref a ∧ a < h.objs.size := fun c' e => by
    obtain ⟨a, e1, _, c, o, vs, t, e2, g2, _⟩ := Tt.lam c' e
    cases e2
    exact ⟨_, e1, Heap.lt_size g2⟩
  cases hf' : codeAmong pos ps.toList with
  | some c' =>
    refine wpAny_genexprCode_hit (s := ⟨_, g, d, tk, os⟩) hcode hcd hf' ?_
    have := tail _ tk c' #[] (fun p o _ e => e) (by rw [e1]; exact Nat.le_refl _) (by rw [Array.append_empty]; exact T1) (by rw [Array.append_empty]; exact old)
    exact this
  | none =>
    refine wpAny_genexprCodeX (s := ⟨_, g, d, tk, os⟩) hcode hcd ((hU.hd.keeps k1).tab T1.here) hf' fun c' h₃ tk₃ hx₃ hge hlt hcode₃ _ htab₃ _ => ?_
    dsimp only at hge hx₃ ⊢
    exact tail h₃ tk₃ (.ref c') _ hx₃ (by rw [e1] at hge; exact Nat.le_trans hge (Nat.le_of_lt hlt)) (T1.grow hx₃ htab₃.2 fun e => absurd e hlp) (by
      have hl' : (ps ++ #[rawInt pos.line, rawInt pos.col, Value.ref c']).toList = ps.toList ++ [rawInt pos.line, rawInt pos.col, .ref c'] := by simp
      rw [hl', among_other (fun e => hlp ⟨e.1.symm, e.2.symm⟩) _ Tt.tri]; exact old)

theorem joinGenF {n : Nat} {a : Addr} {sep : List Nat} {t : Tok} {R : Nat → Value → Prop} {f : Nat → List Nat} {Q : Value → Shared → Prop} {lo : Nat}
    (F : Fm b L names vals led h) (G : AllBare g) (P : GenPk prog w A lo a (passing allT n 0).length (fun j y => ∃ i, (passing allT n 0)[j]? = some i ∧ R i y) ⟨h, g, d, tk, os⟩)
    (hn : n ≤ sizeLine) (hlo : L < lo ∧ ∀ p ∈ led, p.1 < lo) (hb : b.objs.size ≤ lo) (hR : ∀ i v, i < n → R i v → ∃ t, v = .str (T (f i)) t) (hsz : (((List.range n).map f).map (·.length)).sum + n * sep.length ≤ 1000000)
    (q : ∀ h' g' tk' t', Fm b L names vals led h' → (∀ p o, p < lo → h.get? p = some o → h'.get? p = some o) → AllBare g' → Q (.str (T (joinL sep ((List.range n).map f))) t') ⟨h', g', d, tk', os⟩) :
    wpAny (model prog w) A (call (.builtin "str.join") [.str (T sep) t, .ref a]) Q E ⟨h, g, d, tk, os⟩ := by
  obtain ⟨fp, wr, gi, St, W, hst, hT, ha, hfp, hwr⟩ := P
  rw [passing_all] at W
  simp only [List.length_range] at W
  have W := W.in4_2
  have hz : ((((List.range n).map fun i => T (f i)).map (·.length)).sum + ((List.range n).map fun i => T (f i)).length * (T sep).length) ≤ 16777216 := by
    rw [List.map_map] at hsz ⊢
    simp only [List.length_map, List.length_range, T_len]
    have : ((fun x : Str => x.length) ∘ fun i => T (f i)) = (fun x : List Nat => x.length) ∘ f := by funext i; exact T_len _
    rw [this]; exact ar_to hsz _
  refine SC.joinGen W hT hst hfp ha (fun j v hv => ?_) (fun s' lt hm hacc => ?_) ?_
  · obtain ⟨i, hi, hr⟩ := hv
    have hlt : i < n := by
      obtain ⟨hj, e⟩ := List.getElem?_eq_some_iff.mp hi
      have := List.getElem_mem hj; rw [e] at this; exact List.mem_range.mp this
    obtain ⟨u, e⟩ := hR i v hlt hr
    exact ⟨_, u, e⟩
  · have hl : lt.map (·.1) = (List.range n).map fun i => T (f i) := by
      have hsz : lt.length = n := by simpa [strValues] using hacc.1
      apply List.ext_getElem?
      intro j
      by_cases hj : j < n
      · have hj' : j < lt.length := hsz ▸ hj
        obtain ⟨i, hi, hr⟩ := hacc.2 j (.str lt[j].1 lt[j].2) (by simp [strValues, List.getElem?_eq_getElem hj'])
        have hij : i = j := by simpa [hj] using hi.symm
        obtain ⟨u, e⟩ := hR i _ (hij ▸ hj) hr
        injection e with e _
        subst hij
        simp [List.getElem?_eq_getElem hj', hj, e]
      · rw [List.getElem?_eq_none (by simpa [hsz] using Nat.le_of_not_lt hj), List.getElem?_eq_none (by simpa using Nat.le_of_not_lt hj)]
    rw [hl]
    refine ⟨joinOk_of hz, fun t' k => ?_⟩
    have hk : ∀ p o, p < lo → h.get? p = some o → s'.heap.get? p = some o := fun p o hp e => hm.heap p o (fun m => absurd (hwr p m) (Nat.not_le.mpr hp)) e
    have F' : Fm b L names vals led s'.heap := by
      refine ⟨F.top, ⟨?_, fun p o e => ?_, F.fr.above⟩, fun p hp => ?_, F.nd⟩
      · obtain ⟨oL, es, ep, e', r⟩ := F.fr.ns
        exact ⟨oL, es, ep, hk _ _ hlo.1 e', r⟩
      · exact hk p o (Nat.lt_of_lt_of_le (Heap.lt_size e) hb) (F.fr.keep p o e)
      · exact ⟨hk _ _ (hlo.2 p hp) (F.nw p hp).1, (F.nw p hp).2⟩
    have e : Txt.join (T sep) ((List.range n).map fun i => T (f i)) = T (joinL sep ((List.range n).map f)) := by
      rw [← Txt_join, List.map_map]; rfl
    rw [e]
    have hd := hm.drawn
    have ho := hm.os
    obtain ⟨h', g', d', tk', os'⟩ := s'
    simp only at hd ho
    subst hd ho
    exact q h' g' k t' F' hk (hm.gens.bare G)
  · simpa using hn
end

section
variable {h h₁ : Heap} {L : Addr} {names : List Str} {vals : List (Option Value)}
theorem Fm.toCut {o : Obj} (F : Fm h L names vals [] h₁) (HC : TopF (cut h)) (e : h.get? 57 = some o) : Fm (cut h) L names vals [(57, o)] h₁ := by
  have hlt := Heap.lt_size e
  have hL : (57 : Addr) ≠ L := Nat.ne_of_lt (Nat.lt_of_lt_of_le hlt F.fr.above)
  refine ⟨HC, ⟨F.fr.ns, fun p o' e' => ?_, by rw [cut_size]; exact F.fr.above⟩, fun p hp => ?_, by simp⟩
  · by_cases hp : p = 57
    · subst hp; rw [cut_57] at e'; cases e'
    · rw [cut_other hp] at e'; exact F.keep _ _ e'
  · rw [List.mem_singleton.mp hp]
    exact ⟨F.keep _ _ e, hL, cut_57⟩
end

section
variable {b h h' : Heap} {L : Addr} {names : List Str} {vals : List (Option Value)} {led led' : List (Addr × Obj)} {lp : Pos} {lq : Str} {ps : Array Value}
theorem Fm.below (F : Fm b L names vals led h) (e : led'.map (·.1) = led.map (·.1)) : (L < h.objs.size ∧ ∀ p ∈ led', p.1 < h.objs.size) ∧ b.objs.size ≤ h.objs.size := by
  refine ⟨⟨F.ltL, fun p hp => ?_⟩, Nat.le_trans F.fr.above (Nat.le_of_lt F.ltL)⟩
  have hm : p.1 ∈ led'.map (·.1) := List.mem_map.mpr ⟨p, hp, rfl⟩
  rw [e] at hm
  obtain ⟨p', hp', e'⟩ := List.mem_map.mp hm
  have := Heap.lt_size (F.nw p' hp').1
  rw [e'] at this; exact this
theorem Tb.low {lo : Nat} (T : Tb lp lq h ps) (hold : ∀ c', codeAmong lp ps.toList = some c' → ∃ a, c' = .ref a ∧ a < lo) (h57 : 57 < lo) (k : ∀ p o, p < lo → h.get? p = some o → h'.get? p = some o) : Tb lp lq h' ps :=
  ⟨k _ _ h57 T.here, T.tri, fun c' e => by
    obtain ⟨a, e1, e2, e3⟩ := T.lam c' e
    obtain ⟨a', e1', hlt⟩ := hold c' e
    rw [e1] at e1'; cases e1'
    exact ⟨a, e1, e2, CodeRec.off e3 fun o eo => k _ _ hlt eo⟩⟩
end
end

section
open PySem PySem.Calls PyProof.Rows PySem.Builtin PySem.Builtin.Re PySem.W
/-! the pattern's engine -/
noncomputable def patN : Array Nat := #[14, 14, 4, 1, 1, 9, 0, 64, 0, 1342177280, 0, 0, 0, 0, 0, 17, 0, 13, 11, 9, 0, 64, 0, 1342177280, 0, 0, 0, 0, 0, 17, 1, 1]
noncomputable def isS (c : Nat) : Bool := c == 38 || c == 124 || c == 126
theorem charset_bit (c : Nat) : (decide (c < 256) && ((#[0, 64, 0, 1342177280, 0, 0, 0, 0] : Array Nat).getD (c / 32) 0).testBit (c % 32)) = isS c := by
  by_cases h : c < 256
  · have : ∀ c : Fin 256, (decide (c.val < 256) && ((#[0, 64, 0, 1342177280, 0, 0, 0, 0] : Array Nat).getD (c.val / 32) 0).testBit (c.val % 32)) = isS c.val := by decide +kernel
    exact this ⟨c, h⟩
  · have : isS c = false := by unfold isS; simp; exact ⟨⟨fun e => h (e ▸ by decide), fun e => h (e ▸ by decide)⟩, fun e => h (e ▸ by decide)⟩
    rw [this]; simp [h]
theorem word_at (i c : Nat) (h : c < 256) (hi : i = 5 ∨ i = 19) : patN.getD (i + (1 + c / 32)) 0 = (#[0, 64, 0, 1342177280, 0, 0, 0, 0] : Array Nat).getD (c / 32) 0 := by
  have h8 : c / 32 < 8 := (Nat.div_lt_iff_lt_mul (by decide)).mpr h
  have : ∀ k : Fin 8, patN.getD (5 + (1 + k.val)) 0 = (#[0, 64, 0, 1342177280, 0, 0, 0, 0] : Array Nat).getD k.val 0 ∧ patN.getD (19 + (1 + k.val)) 0 = (#[0, 64, 0, 1342177280, 0, 0, 0, 0] : Array Nat).getD k.val 0 := by decide +kernel
  rcases hi with rfl | rfl
  · exact (this ⟨_, h8⟩).1
  · exact (this ⟨_, h8⟩).2
theorem inSet_pat (c : Nat) (sn : Sre.Seen) {i : Nat} (hi : i = 5 ∨ i = 19) : ∃ sn', Sre.inSet patN c 32 i true sn = .ok (isS c, sn') := by
  have e : (decide (c < 256) && (patN.getD (i + (1 + c / 32)) 0).testBit (c % 32)) = isS c := by
    rw [← charset_bit c]
    by_cases h : c < 256
    · rw [word_at i c h hi]
    · simp [h]
  have r : Sre.inSet patN c 32 i true sn = if (decide (c < 256) && (patN.getD (i + (1 + c / 32)) 0).testBit (c % 32)) = true then .ok (true, sn.add 9) else .ok (false, (sn.add 9).add 0) := by rcases hi with rfl | rfl <;> rfl
  rw [r, e]
  cases isS c with
  | true => exact ⟨_, rfl⟩
  | false => exact ⟨_, rfl⟩
/-- the first place of a sign of the set, from s on -/
noncomputable def nextS (l : List Nat) (s : Nat) : Option Nat := ((l.drop s).findIdx? isS).map (· + s)
theorem nextS_end {l : List Nat} {s : Nat} (h : l.length ≤ s) : nextS l s = none := by rw [nextS, List.drop_of_length_le h]; rfl
theorem nextS_hit {l : List Nat} {s : Nat} (h : s < l.length) (hb : isS l[s] = true) : nextS l s = some s := by
  rw [nextS, List.drop_eq_getElem_cons h, List.findIdx?_cons, hb, if_pos rfl, Option.map_some, Nat.zero_add]
theorem nextS_miss {l : List Nat} {s : Nat} (h : s < l.length) (hb : isS l[s] = false) : nextS l s = nextS l (s + 1) := by
  rw [nextS, nextS, List.drop_eq_getElem_cons h, List.findIdx?_cons, hb, if_neg (by simp), Option.map_map]
  congr 1
  funext x
  exact (Nat.add_assoc x 1 s).trans (congrArg _ (Nat.add_comm 1 s))
theorem admitted_pat {m : Sre.M} {l : List Nat} (hc : m.code = patN) (ht : m.text = l.toArray) (hl : m.lim = l.length) : ∀ (fuel s : Nat) (sn : Sre.Seen), l.length < fuel + s → ∃ sn', Sre.M.admitted m fuel s sn = .ok (nextS l s, sn') := by
  intro fuel
  induction fuel with
  | zero => intro s sn h; exact ⟨sn, by rw [Sre.M.admitted, nextS, List.drop_of_length_le (Nat.le_of_lt (by rw [Nat.zero_add] at h; exact h))]; rfl⟩
  | succ fuel ih =>
    intro s sn h
    rw [Sre.M.admitted, hl]
    by_cases hs : s ≥ l.length
    · rw [if_pos hs]
      exact ⟨sn, by rw [nextS, List.drop_of_length_le hs]; rfl⟩
    · rw [if_neg hs]
      have hlt : s < l.length := Nat.not_le.mp hs
      have hx : m.text.getD s 0 = l[s] := by rw [ht]; simp [hlt]
      obtain ⟨sn', e⟩ := inSet_pat l[s] sn (i := 5) (.inl rfl)
      rw [hc, show patN.size = 32 from rfl, hx, e]
      have hd : l.drop s = l[s] :: l.drop (s + 1) := List.drop_eq_getElem_cons hlt
      cases hb : isS l[s] with
      | true => exact ⟨sn', by rw [nextS_hit hlt hb]⟩
      | false =>
        obtain ⟨sn'', e'⟩ := ih (s + 1) sn' (by rw [← Nat.add_assoc, Nat.add_right_comm]; exact h)
        exact ⟨sn'', by dsimp only; rw [e', nextS_miss hlt hb]⟩
/-- what a search hands back -/
theorem run4 {l : List Nat} {s : Nat} {sn : Sre.Seen} {f : Nat} (hlt : s < l.length) (hb : isS l[s] = true) {m : Sre.M} (hc : m.code = patN) (ht : m.text = l.toArray) (hl : m.lim = l.length)
    (h1 : m.wholeText = false) (h2 : m.mustAdvance = false) (h3 : m.pc = 15) (h4 : m.outermost = true) (h5 : m.pos = s) (h6 : m.marks = #[none, none]) (h7 : m.lastmark = -1) (h8 : m.lastindex = -1) (h9 : m.answer = none) (h10 : m.outcome = none)
    (h11 : m.start = s) (h12 : m.frames = [{ wait := .nextStart, pc := 15, pos := s, outermost := true }]) (h13 : m.weight = 1) :
    ∃ sn', (m.runFor 4).outcome = none ∧ ((m.runFor 4).runFor 4) = { m with pc := 15, pos := s, handed := s + 1, marks := #[some s, some (s + 1)], lastmark := 1, lastindex := 1, frames := [], weight := 0, answer := some true, outcome := some .matched, seen := sn' } := by
  obtain ⟨code, text, lim, start, lastStart, wholeText, mustAdvance, pc, pos, handed, outermost, marks, lastmark, lastindex, loops, inner, frames, weight, answer, seen, outcome⟩ := m
  simp only at hc ht hl h1 h2 h3 h4 h5 h6 h7 h8 h9 h10 h11 h12 h13
  subst hc ht hl h1 h2 h3 h4 h5 h6 h7 h8 h9 h10 h11 h12 h13
  obtain ⟨sn1, s1⟩ : ∃ sn1, Sre.M.step ⟨patN, l.toArray, l.length, start, lastStart, false, false, 15, start, handed, true, #[none, none], -1, -1, loops, inner, [{ wait := .nextStart, pc := 15, pos := start, outermost := true }], 1, none, seen, none⟩ = ⟨patN, l.toArray, l.length, start, lastStart, false, false, 17, start, handed, true, #[some start, none], 0, -1, loops, inner, [{ wait := .nextStart, pc := 15, pos := start, outermost := true }], 1, none, sn1, none⟩ := ⟨_, rfl⟩
  have hx : l.toArray.getD start 0 = l[start] := by simp [hlt]
  obtain ⟨sn2, e2⟩ := inSet_pat l[start] (sn1.add 13) (i := 19) (.inr rfl)
  rw [hb] at e2
  have s2 : Sre.M.step ⟨patN, l.toArray, l.length, start, lastStart, false, false, 17, start, handed, true, #[some start, none], 0, -1, loops, inner, [{ wait := .nextStart, pc := 15, pos := start, outermost := true }], 1, none, sn1, none⟩ = ⟨patN, l.toArray, l.length, start, lastStart, false, false, 29, (start + 1), handed, true, #[some start, none], 0, -1, loops, inner, [{ wait := .nextStart, pc := 15, pos := start, outermost := true }], 1, none, sn2, none⟩ := by
    have hge : ¬ start ≥ l.length := Nat.not_le.mpr hlt
    show (if start ≥ l.length then _ else _) = _
    rw [if_neg hge]
    show (match Sre.inSet patN (l.toArray.getD start 0) 32 19 true (sn1.add 13) with | .error why => _ | .ok (false, seen) => _ | .ok (true, seen) => _) = _
    rw [hx, e2]
    rfl
  have s3 : Sre.M.step ⟨patN, l.toArray, l.length, start, lastStart, false, false, 29, (start + 1), handed, true, #[some start, none], 0, -1, loops, inner, [{ wait := .nextStart, pc := 15, pos := start, outermost := true }], 1, none, sn2, none⟩ = ⟨patN, l.toArray, l.length, start, lastStart, false, false, 31, (start + 1), handed, true, #[some start, some (start + 1)], 1, 1, loops, inner, [{ wait := .nextStart, pc := 15, pos := start, outermost := true }], 1, none, (sn2.add 17), none⟩ := by kernel_rfl
  obtain ⟨sn4, s4⟩ : ∃ sn4, Sre.M.step ⟨patN, l.toArray, l.length, start, lastStart, false, false, 31, (start + 1), handed, true, #[some start, some (start + 1)], 1, 1, loops, inner, [{ wait := .nextStart, pc := 15, pos := start, outermost := true }], 1, none, (sn2.add 17), none⟩ = ⟨patN, l.toArray, l.length, start, lastStart, false, false, 31, (start + 1), (start + 1), true, #[some start, some (start + 1)], 1, 1, loops, inner, [{ wait := .nextStart, pc := 15, pos := start, outermost := true }], 1, (some true), sn4, none⟩ := ⟨_, rfl⟩
  have s5 : Sre.M.step ⟨patN, l.toArray, l.length, start, lastStart, false, false, 31, (start + 1), (start + 1), true, #[some start, some (start + 1)], 1, 1, loops, inner, [{ wait := .nextStart, pc := 15, pos := start, outermost := true }], 1, (some true), sn4, none⟩ = ⟨patN, l.toArray, l.length, start, lastStart, false, false, 15, start, (start + 1), true, #[some start, some (start + 1)], 1, 1, loops, inner, [], 0, (some true), sn4, none⟩ := rfl
  have s6 : Sre.M.step ⟨patN, l.toArray, l.length, start, lastStart, false, false, 15, start, (start + 1), true, #[some start, some (start + 1)], 1, 1, loops, inner, [], 0, (some true), sn4, none⟩ = ⟨patN, l.toArray, l.length, start, lastStart, false, false, 15, start, (start + 1), true, #[some start, some (start + 1)], 1, 1, loops, inner, [], 0, (some true), sn4, (some .matched)⟩ := rfl
  have r1 : Sre.M.runFor 4 ⟨patN, l.toArray, l.length, start, lastStart, false, false, 15, start, handed, true, #[none, none], -1, -1, loops, inner, [{ wait := .nextStart, pc := 15, pos := start, outermost := true }], 1, none, seen, none⟩ = ⟨patN, l.toArray, l.length, start, lastStart, false, false, 31, (start + 1), (start + 1), true, #[some start, some (start + 1)], 1, 1, loops, inner, [{ wait := .nextStart, pc := 15, pos := start, outermost := true }], 1, (some true), sn4, none⟩ := by
    simp only [Sre.M.runFor, Option.isSome_none, Bool.false_eq_true, if_false, s1, s2, s3, s4]
  have r2 : Sre.M.runFor 4 ⟨patN, l.toArray, l.length, start, lastStart, false, false, 31, (start + 1), (start + 1), true, #[some start, some (start + 1)], 1, 1, loops, inner, [{ wait := .nextStart, pc := 15, pos := start, outermost := true }], 1, (some true), sn4, none⟩ = ⟨patN, l.toArray, l.length, start, lastStart, false, false, 15, start, (start + 1), true, #[some start, some (start + 1)], 1, 1, loops, inner, [], 0, (some true), sn4, (some .matched)⟩ := by
    simp only [Sre.M.runFor, Option.isSome_none, Bool.false_eq_true, if_false, s5, s6, Option.isSome_some, if_true]
  refine ⟨sn4, ?_, ?_⟩
  · rw [r1]
  · rw [r1, r2]
section
variable {M : Model} {A : Around} {E : Value → Shared → Prop} {s : Shared}
theorem drive2 {m : Sre.M} {k : Nat} {Q : Sre.M → Shared → Prop} (h1 : (m.runFor 4).outcome = none) (h2 : ((m.runFor 4).runFor 4).outcome.isSome = true) (q : Q ((m.runFor 4).runFor 4) s) : wpAny M A (reDrive (k + 2) m) Q E s := by
  unfold reDrive
  show wpAny _ _ (if (m.runFor 4).outcome.isSome = true then _ else _) _ _ _
  rw [h1, if_neg (by simp)]
  refine wpAny_bind (wpAny_rule ?_)
  unfold reDrive
  show wpAny _ _ (if ((m.runFor 4).runFor 4).outcome.isSome = true then _ else _) _ _ _
  rw [if_pos h2]
  exact wpAny_pure q
theorem drive1 {m : Sre.M} {k : Nat} {Q : Sre.M → Shared → Prop} (h1 : (m.runFor 4).outcome.isSome = true) (q : Q (m.runFor 4) s) : wpAny M A (reDrive (k + 1) m) Q E s := by
  unfold reDrive
  show wpAny _ _ (if (m.runFor 4).outcome.isSome = true then _ else _) _ _ _
  rw [if_pos h1]
  exact wpAny_pure q
theorem runEnd {m m' : Sre.M} {o : Option Sre.M} {Q : Option Sre.M → Shared → Prop} (hd : wpAny M A (reDrive (2 ^ 64) m) (fun a s' => a = m' ∧ s' = s) E s)
    (ho : (m'.outcome = some .matched ∧ o = some m') ∨ (m'.outcome = some .failed ∧ o = none)) (q : Q o s) : wpAny M A (reRunToEnd m) Q E s := by
  unfold reRunToEnd
  refine wpAny_bind (wpAny_mono hd (fun a s' h' => ?_) fun _ _ x => x)
  obtain ⟨rfl, rfl⟩ := h'
  refine wpAny_bind (wpAny_forIn_list _ (fun _ _ s'' => s'' = s') _ ?_ ?_ _ _ rfl)
  · rintro x rest b s'' rfl
    split
    · exact wpAny_bind (wpAny_rule (wpAny_pure rfl))
    · exact wpAny_pure rfl
  · rintro b s'' rfl
    rcases ho with ⟨e, rfl⟩ | ⟨e, rfl⟩
    · rw [e]; exact wpAny_pure q
    · rw [e]; exact wpAny_pure q
end
section
variable {M : Model} {A : Around} {E : Value → Shared → Prop} {s : Shared}
noncomputable def m0 (l : List Nat) (start ls : Nat) : Sre.M :=
  { code := patN, text := l.toArray, lim := l.length, start := start, lastStart := ls, pc := 15, pos := start, handed := start, marks := #[none, none], mustAdvance := false, seen := ({} : Sre.Seen).add 14 }
theorem forSearch_pat (l : List Nat) (start : Nat) : Sre.forSearch patN l.toArray 1 start l.length false =
    if (decide (start > l.length) || decide (l.length - start < 1)) = true then (m0 l start 0).say false else (m0 l start l.length).attemptFrom start true := rfl
theorem attempt_ok (m : Sre.M) (f : Sre.Frame) (t fr : Nat) (o : Bool) (h : m.weight + 1 + f.kept.marks.size ≤ 16777216) :
    m.attempt f t fr o = { m with frames := f :: m.frames, weight := m.weight + 1 + f.kept.marks.size, pc := t, pos := fr, handed := fr, outermost := o } := if_neg (Nat.not_lt.mpr h)
theorem found_pat {l : List Nat} {start : Nat} {Q : Option Sre.M → Shared → Prop}
    (hit : ∀ p m, nextS l start = some p → m.start = p → m.handed = p + 1 → m.marks = #[some p, some (p + 1)] → m.lastmark = 1 → m.lastindex = 1 → Q (some m) s)
    (miss : nextS l start = none → Q none s) : wpAny M A (reRunToEnd (Sre.forSearch patN l.toArray 1 start l.length false)) Q E s := by
  have fail : ∀ m : Sre.M, m.outcome = none → m.frames = [] → nextS l start = none → wpAny M A (reRunToEnd (m.say false)) Q E s := by
    intro m h1 h2 hn
    have e : (m.say false).runFor 4 = { m with answer := some false, outcome := some .failed } := by
      obtain ⟨code, text, lim, start, lastStart, wholeText, mustAdvance, pc, pos, handed, outermost, marks, lastmark, lastindex, loops, inner, frames, weight, answer, seen, outcome⟩ := m
      simp only at h1 h2
      subst h1 h2
      have s1 : Sre.M.step ⟨code, text, lim, start, lastStart, wholeText, mustAdvance, pc, pos, handed, outermost, marks, lastmark, lastindex, loops, inner, [], weight, some false, seen, none⟩ = ⟨code, text, lim, start, lastStart, wholeText, mustAdvance, pc, pos, handed, outermost, marks, lastmark, lastindex, loops, inner, [], weight, some false, seen, some .failed⟩ := rfl
      simp only [Sre.M.say, Sre.M.runFor, Option.isSome_none, Bool.false_eq_true, if_false, s1, Option.isSome_some, if_true]
    refine runEnd (m' := { m with answer := some false, outcome := some .failed }) (o := none) ?_ (.inr ⟨rfl, rfl⟩) (miss hn)
    exact drive1 (k := 2 ^ 64 - 1) (Q := fun a s' => a = { m with answer := some false, outcome := some .failed } ∧ s' = s) (by rw [e]; rfl) ⟨e, rfl⟩
  rw [forSearch_pat]
  by_cases h : (decide (start > l.length) || decide (l.length - start < 1)) = true
  · rw [if_pos h]
    refine fail _ rfl rfl (nextS_end ?_)
    rcases Bool.or_eq_true _ _ ▸ h with h | h
    · exact Nat.le_of_lt (of_decide_eq_true h)
    · exact Nat.le_of_sub_eq_zero (Nat.lt_one_iff.mp (of_decide_eq_true h))
  · rw [if_neg h]
    have hlt : start < l.length := Nat.lt_of_not_le fun hle => h (by rw [decide_eq_true (show l.length - start < 1 by rw [Nat.sub_eq_zero_of_le hle]; exact Nat.one_pos), Bool.or_true])
    obtain ⟨sn', e⟩ := admitted_pat (m := m0 l start l.length) (l := l) rfl rfl rfl (l.length + 1 - start) start (m0 l start l.length).seen (by rw [Nat.sub_add_cancel (Nat.le_succ_of_le (Nat.le_of_lt hlt))]; exact Nat.lt_succ_self _)
    have ea : (m0 l start l.length).attemptFrom start true = match Sre.M.admitted (m0 l start l.length) (l.length + 1 - start) start (m0 l start l.length).seen with
      | .ok (some s, seen) => { m0 l start l.length with mustAdvance := false, seen }.attemptAt s true
      | .ok (none, seen) => { m0 l start l.length with seen }.say false
      | .error why => (m0 l start l.length).stick why := rfl
    rw [ea, e]
    cases hn : nextS l start with
    | none => exact fail _ rfl rfl hn
    | some p =>
      dsimp only
      have hp : ∃ hlt : p < l.length, isS l[p] = true := by
        have hh := hn
        unfold nextS at hh
        obtain ⟨i, hi, rfl⟩ := Option.map_eq_some_iff.mp hh
        obtain ⟨h1, h2, _⟩ := List.findIdx?_eq_some_iff_getElem.mp hi
        rw [List.length_drop] at h1
        refine ⟨Nat.add_lt_of_lt_sub h1, ?_⟩
        rw [List.getElem_drop] at h2
        simpa [Nat.add_comm] using h2
      obtain ⟨hpl, hps⟩ := hp
      have key : ∀ mm : Sre.M, mm.start = p → (∃ sn', (mm.runFor 4).outcome = none ∧ ((mm.runFor 4).runFor 4) = { mm with pc := 15, pos := p, handed := p + 1, marks := #[some p, some (p + 1)], lastmark := 1, lastindex := 1, frames := [], weight := 0, answer := some true, outcome := some .matched, seen := sn' }) →
          wpAny M A (reRunToEnd mm) Q E s := by
        intro mm hs ⟨sn2, r1, r2⟩
        refine runEnd (m' := (mm.runFor 4).runFor 4) (o := some ((mm.runFor 4).runFor 4)) (drive2 (k := 2 ^ 64 - 2) (Q := fun a s' => a = (mm.runFor 4).runFor 4 ∧ s' = s) r1 (by rw [r2]; rfl) ⟨rfl, rfl⟩) (.inl ⟨by rw [r2], rfl⟩) ?_
        exact hit p _ hn (by rw [r2]; exact hs) (by rw [r2]) (by rw [r2]) (by rw [r2]) (by rw [r2])
      have eA : ({ m0 l start l.length with mustAdvance := false, seen := sn' } : Sre.M).attemptAt p true =
          { code := patN, text := l.toArray, lim := l.length, start := p, lastStart := l.length, pc := 15, pos := p, handed := p, outermost := true, marks := #[none, none], frames := [{ wait := .nextStart, pc := 15, pos := p, outermost := true }], weight := 1, mustAdvance := false, seen := sn' } := by
        unfold Sre.M.attemptAt
        exact (attempt_ok _ _ _ _ _ (show 0 + 1 + 0 ≤ 16777216 by decide)).trans rfl
      rw [eA]
      exact key _ rfl (run4 (s := p) (sn := sn') (f := 0) hpl hps rfl rfl rfl rfl rfl rfl rfl rfl rfl rfl rfl rfl rfl rfl rfl rfl)
end
end

section
open PySem PySem.Calls PyProof.Rows PySem.Builtin PySem.Builtin.Re PySem.W
/-! what the interpreter knows of a pattern and a match -/
theorem plainAttrs_pat : PlainAttrs "re.Pattern" :=
  ⟨⟨"object.__getattribute__", by rw [typeLookup_type, builtinLookup_eq_fast]; kernel_rfl, by decide +kernel⟩, by rw [typeLookup_type, builtinLookup_eq_fast]; kernel_rfl⟩
theorem slot_pat_sub : Slot "re.Pattern" "sub" "re.Pattern.sub" :=
  .of (owner := "re.Pattern") (n := "sub") (by rw [typeLookup_type, builtinLookup_eq_fast]; kernel_rfl) (by decide +kernel) (by decide +kernel) (by decide +kernel)
    (by first | exact .inl (by decide +kernel) | exact .inr (by decide +kernel)) (by rw [isSubtype_type]; kernel_rfl)
theorem type_pat_sub : typeOf (.builtin "re.Pattern.sub") = pure (.type "method_descriptor") := by show builtinType _ = _; rw [builtinType_eq_fast]; kernel_rfl
theorem entry_pat_sub : entryFor table "re.Pattern.sub" = some Builtin.«re.Pattern.sub» := entryFor_of_tree (by kernel_rfl)
theorem entry_pat_loop : entryFor table "re.Pattern.sub.loop" = some Builtin.«re.Pattern.sub.loop» := entryFor_of_tree (by kernel_rfl)
theorem args_pat_sub (a b c : Value) : argsOk "re.Pattern.sub" ⟨[a, b, c], []⟩ := by unfold argsOk; kernel_rfl
theorem plainAttrs_mat : PlainAttrs "re.Match" :=
  ⟨⟨"object.__getattribute__", by rw [typeLookup_type, builtinLookup_eq_fast]; kernel_rfl, by decide +kernel⟩, by rw [typeLookup_type, builtinLookup_eq_fast]; kernel_rfl⟩
theorem slot_mat_group : Slot "re.Match" "group" "re.Match.group" :=
  .of (owner := "re.Match") (n := "group") (by rw [typeLookup_type, builtinLookup_eq_fast]; kernel_rfl) (by decide +kernel) (by decide +kernel) (by decide +kernel)
    (by first | exact .inl (by decide +kernel) | exact .inr (by decide +kernel)) (by rw [isSubtype_type]; kernel_rfl)
theorem type_mat_group : typeOf (.builtin "re.Match.group") = pure (.type "method_descriptor") := by show builtinType _ = _; rw [builtinType_eq_fast]; kernel_rfl
theorem entry_mat_group : entryFor table "re.Match.group" = some Builtin.«re.Match.group» := entryFor_of_tree (by kernel_rfl)
theorem args_mat_group (a b : Value) : argsOk "re.Match.group" ⟨[a, b], []⟩ := by unfold argsOk; kernel_rfl
section
variable {b h : Heap} {L : Addr} {names : List Str} {vals : List (Option Value)} {led : List (Addr × Obj)} {M : Model} {A : Around} {E : Value → Shared → Prop} {env : Env} {gl : List Str}
  {g : Array GenState} {d : Drawn} {tk : Nat} {os : OsState} {s : Shared} {prog : Program} {w : World} {l : List Nat} {t u : Tok}
noncomputable def tgt (l : List Nat) (t : Tok) : ReTarget := { pattern := .ref 43, string := .str (T l) t, code := patN, text := l.toArray, kind := 0, groups := 1, pos := 0, lim := l.length }
theorem wholeTarget {Q : ReTarget → Shared → Prop} (h43 : s.heap.get? 43 = some patO) (h42 : s.heap.get? 42 = some patC) (q : Q (tgt l t) s) : wpAny M A (reWholeTarget (.ref 43) (.str (T l) t)) Q E s := by
  unfold reWholeTarget
  refine wpAny_bind (wpAny_fieldsOf h43 rfl ?_)
  have e1 : reTextOf (.str (T l) t) = pure (l.toArray, 0) := rfl
  rw [e1]
  refine wpAny_bind (wpAny_pure ?_)
  dsimp only
  rw [if_neg (by decide), if_neg (by decide)]
  refine wpAny_bind (show wpAny M A (pure ()) _ E s from wpAny_pure ?_)
  refine wpAny_bind (m := reRawItems (.ref 42)) ?_
  unfold reRawItems
  refine wpAny_bind (wpAny_seqItems h42 rfl (wpAny_pure ?_))
  have e2 : ((some (patCode.map fun i => Value.int i 0).toArray).getD #[]).map reRawOf = patCode.toArray := by
    show (patCode.map fun i => Value.int i 0).toArray.map reRawOf = _
    rw [List.map_toArray, List.map_map]
    rfl
  rw [e2]
  refine wpAny_pure ?_
  have e3 : patCode.toArray.map (·.toNat) = patN := by decide +kernel
  rw [e3]
  have e4 : (T l).cps.size = l.length := by simp [T]
  show Q _ s
  have e5 : l.toArray.size = l.length := by simp
  rw [e5]
  exact q

noncomputable def spansO (p : Nat) : Obj := tupObj [rawInt p, rawInt ((p + 1 : Nat) : Int), rawInt p, rawInt ((p + 1 : Nat) : Int)]
noncomputable def matO (l : List Nat) (t : Tok) (tp : Addr) : Obj := { cls := .type "re.Match", data := .fields #[.str (T l) t, .ref 43, rawInt ((0 : Nat) : Int), rawInt ((l.length : Nat) : Int), rawInt 1, .ref tp] }
theorem newMatchF {m : Sre.M} {p : Nat} {Q : Value → Shared → Prop} (F : Fm b L names vals led h) (h1 : m.start = p) (h2 : m.handed = p + 1) (h3 : m.marks = #[some p, some (p + 1)]) (h4 : m.lastmark = 1) (h5 : m.lastindex = 1)
    (q : ∀ h' a tp, Fm b L names vals ((a, matO l t tp) :: (tp, spansO p) :: led) h' → Q (.ref a) ⟨h', g, d, tk, os⟩) :
    wpAny M A (reNewMatch (.ref 43) (.str (T l) t) 1 0 l.length m) Q E ⟨h, g, d, tk, os⟩ := by
  obtain ⟨code, text, lim, start, lastStart, wholeText, mustAdvance, pc, pos, handed, outermost, marks, lastmark, lastindex, loops, inner, frames, weight, answer, seen, outcome⟩ := m
  simp only at h1 h2 h3 h4 h5
  subst h1 h2 h3 h4 h5
  unfold reNewMatch
  dsimp only
  split
  · rename_i hc
    exfalso
    revert hc
    show ¬ ((decide (((2 * 0 + 1 : Nat) : Int) ≤ 1) && decide (start + 1 < start)) || false) = true
    simp
  refine wpAny_bind (show wpAny M A (newTuple [rawInt start, rawInt ((start + 1 : Nat) : Int), rawInt start, rawInt ((start + 1 : Nat) : Int)]) _ E _ from newTupleF F (Nat.le_of_ble_eq_true rfl) fun h' tp k hn F' => ?_)
  refine wpAny_newObj_type ?_ (by show _ ≤ _; exact Nat.le_of_ble_eq_true rfl)
  exact q _ _ _ (F'.alloc rfl)
theorem pushF {P : Addr} {vs : List Value} {n : Nat} {x : Value} {Q : Unit → Shared → Prop} (F : Fm b L names vals ((P, listObj vs n) :: led) h) (hsz : vs.length ≤ 1000000)
    (q : ∀ h', Fm b L names vals ((P, listObj (vs ++ [x]) (n + 1)) :: led) h' → Q () ⟨h', g, d, tk, os⟩) : wpAny M A (updateSeq P (·.push x)) Q E ⟨h, g, d, tk, os⟩ := by
  have ho := F.get Got.here
  refine wpAny_updateSeq (s := ⟨h, g, d, tk, os⟩) ho rfl (q _ (F.put Put.here (Heap.SameBut.update _ _ _) ?_)) (by rw [sizeLine_eq]; simp; exact ar_to hsz _) (by rw [sizeLine_eq]; simp; exact ar_to hsz _)
  rw [Heap.get?_update_self _ ho rfl]
  unfold listObj Obj.mapSeq
  dsimp only
  have e2 : ((vs.toArray.push x).size == vs.toArray.size) = false := by simp
  rw [e2]
  simp
theorem sliceF {bb e : Nat} {Q : Value → Shared → Prop} (hl : l.length ≤ 100000) (q : ∀ t', Q (.str (T ((l.take e).drop bb)) t') ⟨h, g, d, tk + 1, os⟩) : wpAny M A (reSlice l.toArray 0 bb e) Q E ⟨h, g, d, tk, os⟩ := by
  have e1 : (⟨l.toArray.extract bb e⟩ : Str) = T ((l.take e).drop bb) := by
    unfold T
    congr 1
    apply Array.toList_inj.mp
    simp [List.extract_toArray, List.drop_take]
  show wpAny M A (mkStr ⟨l.toArray.extract bb e⟩) Q E _
  rw [e1]
  exact wpAny_mkStr' (q _) (by rw [T_len, sizeLine_eq, List.length_drop, List.length_take]; exact Nat.le_trans (Nat.sub_le _ _) (Nat.le_trans (Nat.min_le_right _ _) (ar_to hl _)))
noncomputable def subF (l : List Nat) : List Nat := l.flatMap fun c => if isS c = true then [92, c] else [c]
theorem subF_len : ∀ l, (subF l).length ≤ 2 * l.length
  | [] => by simp [subF]
  | x :: r => by
    have ih := subF_len r
    unfold subF at ih ⊢
    rw [List.flatMap_cons, List.length_append, List.length_cons]
    have : (if isS x = true then [92, x] else [x]).length ≤ 2 := by split <;> simp
    exact Nat.le_trans (Nat.le_of_eq (Nat.add_comm _ _)) (Nat.add_le_add ih this)
theorem subF_app (a c : List Nat) : subF (a ++ c) = subF a ++ subF c := by unfold subF; exact List.flatMap_append ..
theorem sub_free : ∀ {l : List Nat}, (∀ x ∈ l, isS x = false) → subF l = l
  | [], _ => rfl
  | x :: r, h => by
    have ih := sub_free (l := r) fun y hy => h y (List.mem_cons_of_mem _ hy)
    unfold subF at ih ⊢
    rw [List.flatMap_cons, ih, if_neg (by rw [h x List.mem_cons_self]; simp)]; rfl
theorem nextS_some {l : List Nat} {s p : Nat} (h : nextS l s = some p) : s ≤ p ∧ p < l.length ∧ subF (l.drop s) = (l.take p).drop s ++ [92, l.getD p 0] ++ subF (l.drop (p + 1)) := by
  unfold nextS at h
  obtain ⟨i, hi, rfl⟩ := Option.map_eq_some_iff.mp h
  obtain ⟨h1, h2, h3⟩ := List.findIdx?_eq_some_iff_getElem.mp hi
  rw [List.length_drop] at h1
  rw [List.getElem_drop] at h2
  have hlt : i + s < l.length := Nat.add_lt_of_lt_sub h1
  have e1 : l.drop s = (l.take (i + s)).drop s ++ l.drop (i + s) := by
    rw [List.drop_take, Nat.add_sub_cancel]
    have := (List.take_append_drop i (l.drop s)).symm
    rw [List.drop_drop] at this
    rw [Nat.add_comm i s]; exact this
  have e2 : l.drop (i + s) = l[i + s] :: l.drop (i + s + 1) := List.drop_eq_getElem_cons hlt
  have e3 : subF ((l.take (i + s)).drop s) = (l.take (i + s)).drop s := by
    refine sub_free fun x hx => ?_
    rw [List.drop_take, Nat.add_sub_cancel] at hx
    obtain ⟨j, hj, rfl⟩ := List.getElem_of_mem hx
    rw [List.length_take] at hj
    have := h3 j (Nat.lt_of_lt_of_le hj (Nat.min_le_left _ _))
    rw [List.getElem_take]
    simpa using this
  refine ⟨Nat.le_add_left _ _, hlt, ?_⟩
  rw [e1, subF_app, e3, e2]
  have hg : l.getD (i + s) 0 = l[i + s] := by rw [List.getD_eq_getElem?_getD, List.getElem?_eq_getElem hlt]; rfl
  rw [hg]
  have e4 : isS l[i + s] = true := by
    simpa only [Nat.add_comm s i] using h2
  show _ ++ ((if isS l[i + s] = true then [92, l[i + s]] else [l[i + s]]) ++ subF _) = _
  rw [if_pos e4, List.append_assoc]
theorem nextS_none {l : List Nat} {s : Nat} (h : nextS l s = none) : subF (l.drop s) = l.drop s := by
  unfold nextS at h
  rw [Option.map_eq_none_iff, List.findIdx?_eq_none_iff] at h
  exact sub_free h
theorem joinL_nil : ∀ xs : List (List Nat), joinL [] xs = xs.flatten
  | [] => rfl
  | [p] => by simp [joinL]
  | p :: q :: r => by rw [joinL, joinL_nil (q :: r)]; simp

noncomputable def wR (Q : Value → Shared → Prop) : Result → Shared → Prop := fun r s' => match r with | .ok (.ret v) => Q v s' | _ => False
theorem subLoop {P f : Addr} {fo : Obj} {E' : Value → Shared → Prop} {Qf : Value → Shared → Prop} (hb : b.get? 43 = some patO ∧ b.get? 42 = some patC) (hl : l.length ≤ 10000)
    (hlam : ∀ (led' : List (Addr × Obj)) h' tk' m tp p (Q' : Value → Shared → Prop), Fm b L names vals led' h' → (∀ p ∈ led, p ∈ led') → Got led' f fo → Got led' m (matO l t tp) → Got led' tp (spansO p) → p < l.length →
      (∀ h'' tk'' t', Fm b L names vals led' h'' → Q' (.str (T [92, l.getD p 0]) t') ⟨h'', g, d, tk'', os⟩) → wpAny (model prog w) A.in1 (call (.ref f) [.ref m]) Q' (fun _ _ => False) ⟨h', g, d, tk', os⟩)
    (hf : Got led f fo) (q : ∀ h' tk' t', Fm b L names vals led h' → Qf (.str (T (subF l)) t') ⟨h', g, d, tk', os⟩) :
    ∀ (n start : Nat), l.length - start = n → start ≤ l.length → ∀ vs k h tk xs (cnt : Int), TV vs xs → xs.flatten ++ subF (l.drop start) = subF l → xs.length ≤ 2 * start → Fm b L names vals ((P, listObj vs k) :: led) h →
      codeAny (model prog w) A (.builtin "re.Pattern.sub.loop" ⟨[.ref 43, .str (T l) t, .ref f, rawInt 1, rawInt 0, rawInt cnt, rawInt start, rawInt start, .bool false, .ref P, .bool false], []⟩) (wR Qf) ⟨h, g, d, tk, os⟩ := by
  intro n
  induction n using Nat.strongRecOn with
  | ind n ih =>
    intro start hn hs vs k h tk xs cnt hv hx hxl F
    have hvl := hv.len
    have hx6 : vs.length ≤ 20000 := by rw [hvl]; exact ar_2 hxl hs hl
    refine codeAny_builtin entry_pat_loop ?_
    rw [Around.under_plainId (by decide +kernel)]
    show wpAny _ _ (reWholeTarget (.ref 43) (.str (T l) t) >>= _) _ _ _
    refine wpAny_bind (wholeTarget (F.keep _ _ hb.1) (F.keep _ _ hb.2) ?_)
    dsimp only
    rw [if_neg (by decide), if_neg (by simp)]
    have e : reNextFound (tgt l t) (Int.toNat ↑start) false = reRunToEnd (Sre.forSearch patN l.toArray 1 start l.length false) := rfl
    rw [e]
    refine wpAny_bind (found_pat (fun p m hp h1 h2 h3 h4 h5 => ?_) (fun hm => ?_))
    · obtain ⟨hsp, hpl, hsub⟩ := nextS_some hp
      dsimp only
      have hb1 : (m.handed == m.start) = false := by rw [h1, h2]; simp
      have e0 : (Int.toNat ↑start) = start := rfl
      rw [hb1, e0]
      by_cases hlt : start < m.start
      · rw [if_pos hlt]
        refine wpAny_bind (sliceF (ar_to hl _) fun t₁ => ?_)
        refine wpAny_bind (pushF F (ar_to hx6 _) fun h₁ F₁ => ?_)
        rw [if_neg (by decide)]
        refine wpAny_bind (newMatchF F₁ h1 h2 h3 h4 h5 fun h₂ ma tp F₂ => ?_)
        refine wpAny_bind (wpAny_holding ?_)
        rw [if_pos (by decide)]
        refine hlam _ _ _ ma tp p _ F₂ (fun _ m => List.mem_cons_of_mem _ (List.mem_cons_of_mem _ (List.mem_cons_of_mem _ m))) (.there (.there (.there hf))) .here (.there .here) hpl fun h₃ tk₃ t₃ F₃ => ?_
        rw [if_pos (by rfl)]
        have F₄ := F₃.sub (fun p m => List.mem_cons_of_mem _ (List.mem_cons_of_mem _ m)) (List.nodup_cons.mp (List.nodup_cons.mp F₃.nd).2).2
        refine wpAny_bind (pushF F₄ (ar_snoc hx6 _) fun h₅ F₅ => ?_)
        refine wpAny_pure ⟨plainId_quiet (by decide +kernel) _, ?_⟩
        rw [h2]
        refine ih (l.length - (p + 1)) (ar_dec hn hsp hpl) (p + 1) rfl hpl _ _ h₅ _ (xs ++ [(l.take m.start).drop start] ++ [[92, l.getD p 0]]) _ (hv.snoc.snoc) ?_ (by rw [List.length_append, List.length_append]; exact ar_x1 hxl hsp) F₅
        rw [← hx, hsub, h1]; simp
      · rw [if_neg hlt]
        have hps : p = start := Nat.le_antisymm (h1 ▸ Nat.not_lt.mp hlt) hsp
        rw [if_neg (by decide)]
        refine wpAny_bind (newMatchF F h1 h2 h3 h4 h5 fun h₂ ma tp F₂ => ?_)
        refine wpAny_bind (wpAny_holding ?_)
        rw [if_pos (by decide)]
        refine hlam _ _ _ ma tp p _ F₂ (fun _ m => List.mem_cons_of_mem _ (List.mem_cons_of_mem _ (List.mem_cons_of_mem _ m))) (.there (.there (.there hf))) .here (.there .here) hpl fun h₃ tk₃ t₃ F₃ => ?_
        rw [if_pos (by rfl)]
        have F₄ := F₃.sub (fun p m => List.mem_cons_of_mem _ (List.mem_cons_of_mem _ m)) (List.nodup_cons.mp (List.nodup_cons.mp F₃.nd).2).2
        refine wpAny_bind (pushF F₄ (ar_to hx6 _) fun h₅ F₅ => ?_)
        refine wpAny_pure ⟨plainId_quiet (by decide +kernel) _, ?_⟩
        rw [h2]
        refine ih (l.length - (p + 1)) (ar_dec hn hsp hpl) (p + 1) rfl hpl _ _ h₅ _ (xs ++ [[92, l.getD p 0]]) _ (hv.snoc) ?_ (by rw [List.length_append]; exact Nat.le_of_succ_le (ar_x1 hxl hsp)) F₅
        have he : (l.take p).drop start = [] := by rw [hps]; exact List.drop_of_length_le (by rw [List.length_take]; exact Nat.min_le_left _ _)
        rw [← hx, hsub, he]; simp
    · dsimp only
      have hsub := nextS_none hm
      have e0 : (Int.toNat ↑start) = start := rfl
      rw [e0]
      have fin : ∀ vs' k' h' tk' xs', TV vs' xs' → xs'.flatten = subF l → xs'.length ≤ 2 * start + 1 → Fm b L names vals ((P, listObj vs' k') :: led) h' → wpAny (model prog w) A.in1
          (do let joiner ← reSlice (tgt l t).text (tgt l t).kind 0 0
              let text ← if ((← seqItems? (.ref P)).getD #[]).isEmpty then pure joiner
                else call (.builtin (if (tgt l t).kind == 0 then "str.join" else "bytes.join")) [joiner, .ref P]
              if false then ret (← holding [text] do newTuple [text, ← mkInt cnt]) else ret text)
          (fun fin s' => match fin with | .done f => wR Qf (.ok f) s' | .again c' => c'.quiet = true ∧ codeAny (model prog w) A c' (wR Qf) s') (fun e s' => wR Qf (.error e) s') ⟨h', g, d, tk', os⟩ := by
        intro vs' k' h' tk' xs' hv' hx' hxl' F'
        have hvl' := hv'.len
        refine wpAny_bind (sliceF (ar_to hl _) fun t₁ => ?_)
        refine wpAny_bind (wpAny_seqItems (s := ⟨h', g, d, _, os⟩) (F'.get .here) rfl ?_)
        have Fl := F'.sub (fun p m => List.mem_cons_of_mem _ m) (List.nodup_cons.mp F'.nd).2
        have hsl := subF_len l
        have hlen : (xs'.map (·.length)).sum = (subF l).length := by rw [← hx', List.length_flatten]
        cases hv' with
        | nil =>
          rw [if_pos (by rfl)]
          refine wpAny_bind (wpAny_pure ?_)
          dsimp only
          rw [if_neg (by simp)]
          refine wpAny_pure ?_
          have : subF l = [] := by rw [← hx']; rfl
          show Qf _ _
          have := q h' (tk' + 1) t₁ Fl
          simpa [‹subF l = []›] using this
        | @cons x₀ t₀ vs₀ xs₀ hv₀ =>
          rw [if_neg (by simp)]
          refine wpAny_bind (joinF F' .here (.cons hv₀) (sep := []) (by simp only [List.length_nil, Nat.mul_zero, Nat.add_zero]; rw [hlen]; exact ar_to (ar_2 hsl (Nat.le_refl _) hl) _) fun t₂ k₂ => ?_)
          try dsimp only
          rw [if_neg (by simp)]
          refine wpAny_pure ?_
          rw [joinL_nil, hx']
          exact q h' _ _ Fl
      by_cases hlt : start < (tgt l t).lim
      · rw [if_pos hlt]
        refine wpAny_bind (sliceF (ar_to hl _) fun t₁ => ?_)
        refine wpAny_bind (pushF F (ar_to hx6 _) fun h₁ F₁ => ?_)
        refine fin _ _ _ _ _ hv.snoc ?_ (by rw [List.length_append]; exact Nat.add_le_add_right hxl 1) F₁
        rw [← hx, hsub]
        have : (tgt l t).lim = l.length := rfl
        rw [this, List.take_length]; simp
      · rw [if_neg hlt]
        refine fin _ _ _ _ _ hv ?_ (Nat.le_succ_of_le hxl) F
        have : (tgt l t).lim = l.length := rfl
        rw [← hx, List.drop_of_length_le (Nat.not_lt.mp hlt)]; simp [subF]
end
end

section
open PySem PySem.Calls PyProof.Rows PySem.Builtin PySem.Builtin.Re PySem.W
theorem fun_call_lookup : typeLookup (.type "function") "__call__" = pure (some (.builtin "function.__call__")) := by rw [typeLookup_type, builtinLookup_eq_fast]; kernel_rfl
theorem str_bytearray : isSubtype (.type "str") (.type "bytearray") = pure false := by rw [isSubtype_type]; kernel_rfl
theorem named_sub (a c : Value) : reNamed "re.Pattern.sub" "sub" ["repl", "string", "count"] 2 [a, c] [] = pure [some a, some c, none] := by kernel_rfl
section
variable {b h : Heap} {L : Addr} {names : List Str} {vals : List (Option Value)} {led : List (Addr × Obj)} {M : Model} {A : Around} {E : Value → Shared → Prop} {env : Env} {gl : List Str}
  {g : Array GenState} {d : Drawn} {tk : Nat} {os : OsState} {s : Shared} {prog : Program} {w : World} {l : List Nat} {t u : Tok}
theorem subCall {f : Addr} {fo : Obj} {Qf : Value → Shared → Prop} (F : Fm b L names vals led h) (hb : b.get? 43 = some patO ∧ b.get? 42 = some patC) (hl : l.length ≤ 10000)
    (hlam : ∀ (led' : List (Addr × Obj)) h' tk' m tp p (Q' : Value → Shared → Prop), Fm b L names vals led' h' → (∀ p ∈ led, p ∈ led') → Got led' f fo → Got led' m (matO l t tp) → Got led' tp (spansO p) → p < l.length →
      (∀ h'' tk'' t', Fm b L names vals led' h'' → Q' (.str (T [92, l.getD p 0]) t') ⟨h'', g, d, tk'', os⟩) → wpAny (model prog w) A.in1 (call (.ref f) [.ref m]) Q' (fun _ _ => False) ⟨h', g, d, tk', os⟩)
    (hf : Got led f fo) (hfo : fo.cls = .type "function") (q : ∀ h' tk' t', Fm b L names vals led h' → Qf (.str (T (subF l)) t') ⟨h', g, d, tk', os⟩) :
    wpAny (model prog w) A (call (.builtin "re.Pattern.sub") [.ref 43, .ref f, .str (T l) t]) Qf E ⟨h, g, d, tk, os⟩ := by
  have h43 := F.keep _ _ hb.1
  have hT : (⟨h, g, d, tk, os⟩ : Shared).TypeIs (.ref 43) "re.Pattern" := ⟨_, h43, rfl⟩
  have hTf : (⟨h, g, d, tk, os⟩ : Shared).TypeIs (.ref f) "function" := ⟨_, F.get hf, hfo⟩
  refine wpAny_call (codeAny_call_builtin slot_pat_sub.plain entry_pat_sub (slot_pat_sub.check _ _ _ _ _ _ _ _ hT (args_pat_sub _ _ _) ?_))
  show wpAny _ _ (reNamed "re.Pattern.sub" "sub" ["repl", "string", "count"] 2 [.ref f, .str (T l) t] [] >>= _) _ _ _
  rw [named_sub]
  refine wpAny_bind (wpAny_pure ?_)
  dsimp only
  refine wpAny_bind (wpAny_pure ?_)
  refine wpAny_bind (wpAny_specialOf hTf fun_call_lookup ?_)
  rw [if_pos (by rfl)]
  refine wpAny_bind (wpAny_pure ?_)
  rw [if_pos (by rfl)]
  refine wpAny_bind (wpAny_pure ?_)
  dsimp only
  refine wpAny_bind (wpAny_holding (wholeTarget (s := ⟨h, g, d, tk, os⟩) h43 (F.keep _ _ hb.2) ?_))
  rw [if_pos (by decide)]
  have hnh : ∀ {Q : Unit → Shared → Prop} {E : Value → Shared → Prop}, Q () ⟨h, g, d, tk, os⟩ → wpAny (model prog w) A.in1 (reNotHeld "re.Pattern.sub" (.str (T l) t)) Q E ⟨h, g, d, tk, os⟩ := by
    intro Q E q
    unfold reNotHeld
    refine wpAny_bind (wpAny_isInstance (typeIs_str _ _ _) str_bytearray ?_)
    rw [if_neg (by simp)]
    exact wpAny_pure q
  refine wpAny_bind (hnh ?_)
  refine wpAny_bind (newListF F (Nat.le_of_ble_eq_true rfl) fun h' P _ _ F' => ?_)
  refine wpAny_pure ⟨plainId_quiet (by decide +kernel) _, ?_⟩
  have key := subLoop (P := P) (Qf := Qf) (E' := E) (A := A) hb hl hlam hf q l.length 0 rfl (Nat.zero_le _) [] 0 h' tk [] 0 .nil rfl (by simp) F'
  refine codeAny_mono key fun r s' hr => ?_
  cases r with
  | ok f => cases f with
    | ret v => exact hr
    | _ => exact hr.elim
  | error e => exact hr.elim
end
section
variable {b h : Heap} {L : Addr} {names : List Str} {vals : List (Option Value)} {led : List (Addr × Obj)} {M : Model} {A : Around} {E : Value → Shared → Prop} {env : Env} {gl : List Str}
  {g : Array GenState} {d : Drawn} {tk : Nat} {os : OsState} {s : Shared} {prog : Program} {w : World} {l : List Nat} {t u : Tok}
theorem groupF {m tp : Addr} {p : Nat} {Q : Value → Shared → Prop} (hm : h.get? m = some (matO l t tp)) (hp : h.get? tp = some (spansO p)) (hl : l.length ≤ 10000) (hpl : p < l.length)
    (q : ∀ t' k, Q (.str (T [l.getD p 0]) t') ⟨h, g, d, k, os⟩) : wpAny (model prog w) A (call (.builtin "re.Match.group") [.ref m, .int 1 u]) Q E ⟨h, g, d, tk, os⟩ := by
  have hT : (⟨h, g, d, tk, os⟩ : Shared).TypeIs (.ref m) "re.Match" := ⟨_, hm, rfl⟩
  refine wpAny_call_entry slot_mat_group hT entry_mat_group ?_ (args_mat_group _ _)
  show wpAny _ _ (noKeywords "Match.group" ⟨[.ref m, .int 1 u], []⟩ >>= _) _ _ _
  rw [show noKeywords "Match.group" ⟨[.ref m, .int 1 u], []⟩ = pure () from rfl]
  refine wpAny_bind (wpAny_pure ?_)
  dsimp only
  have hfo : ∀ {Q : ReFound → Shared → Prop} {E : Value → Shared → Prop}, Q { fields := #[.str (T l) t, .ref 43, rawInt ((0 : Nat) : Int), rawInt ((l.length : Nat) : Int), rawInt 1, .ref tp], spans := #[(p : Int), ((p + 1 : Nat) : Int), (p : Int), ((p + 1 : Nat) : Int)] } ⟨h, g, d, tk, os⟩ → wpAny (model prog w) A.in1 (reFound (.ref m)) Q E ⟨h, g, d, tk, os⟩ := by
    intro Q E q
    unfold reFound
    refine wpAny_bind (wpAny_fieldsOf (s := ⟨h, g, d, tk, os⟩) hm rfl ?_)
    refine wpAny_bind (m := reRawItems (.ref tp)) ?_
    unfold reRawItems
    refine wpAny_bind (wpAny_seqItems (s := ⟨h, g, d, tk, os⟩) hp rfl (wpAny_pure (wpAny_pure ?_)))
    have e : ((some #[rawInt (p : Int), rawInt ((p + 1 : Nat) : Int), rawInt (p : Int), rawInt ((p + 1 : Nat) : Int)]).getD #[]).map reRawOf = #[(p : Int), ((p + 1 : Nat) : Int), (p : Int), ((p + 1 : Nat) : Int)] := by simp [reRawOf, rawInt]
    show Q { fields := _, spans := ((some #[rawInt (p : Int), rawInt ((p + 1 : Nat) : Int), rawInt (p : Int), rawInt ((p + 1 : Nat) : Int)]).getD #[]).map reRawOf } _
    rw [e]; exact q
  refine wpAny_bind (hfo ?_)
  have hgn : ∀ (x : ReFound) {Q : Nat → Shared → Prop} {E : Value → Shared → Prop}, x.spans.size = 4 → Q 1 ⟨h, g, d, tk, os⟩ → wpAny (model prog w) A.in1 (reGroupNumber x (.int 1 u)) Q E ⟨h, g, d, tk, os⟩ := by
    intro x Q E hx q
    unfold reGroupNumber
    refine wpAny_bind ?_
    rw [show asInt? (.int 1 u) = pure (some 1) from rfl]
    refine wpAny_bind (wpAny_pure ?_)
    refine wpAny_pure ?_
    dsimp only
    rw [if_pos (by rfl)]
    rw [show asIndex (.int 1 u) = pure 1 from rfl]
    refine wpAny_bind (wpAny_pure ?_)
    rw [if_neg (by rw [hx]; decide)]
    exact wpAny_pure q
  refine wpAny_bind (hgn _ rfl ?_)
  have hgt : ∀ {Q : Value → Shared → Prop} {E : Value → Shared → Prop}, (∀ t' k, Q (.str (T [l.getD p 0]) t') ⟨h, g, d, k, os⟩) → wpAny (model prog w) A.in1 (reGroupText { fields := #[.str (T l) t, .ref 43, rawInt ((0 : Nat) : Int), rawInt ((l.length : Nat) : Int), rawInt 1, .ref tp], spans := #[(p : Int), ((p + 1 : Nat) : Int), (p : Int), ((p + 1 : Nat) : Int)] } 1 .none) Q E ⟨h, g, d, tk, os⟩ := by
    intro Q E q
    unfold reGroupText
    show wpAny _ _ (if (decide ((p : Int) < 0) || decide (((p + 1 : Nat) : Int) < 0)) = true then _ else (pure (l.toArray, 0) >>= fun x => reSlice x.1 x.2 (Int.toNat (p : Int)) (Int.toNat ((p + 1 : Nat) : Int)))) _ _ _
    rw [if_neg (by simp; (first | exact ar_to (by assumption) _ | lia | omega))]
    refine wpAny_bind (wpAny_pure ?_)
    refine sliceF (ar_to hl _) fun t' => ?_
    have e : (l.take (Int.toNat ((p + 1 : Nat) : Int))).drop (Int.toNat (p : Int)) = [l.getD p 0] := by
      show (l.take (p + 1)).drop p = _
      rw [List.drop_take, Nat.add_sub_cancel_left, List.drop_eq_getElem_cons hpl, List.getD_eq_getElem?_getD, List.getElem?_eq_getElem hpl]; rfl
    rw [e]
    exact q _ _
  exact wpAny_bind (hgt fun t' k => wpAny_pure ⟨_, rfl, q _ _⟩)
theorem getGroupF {m tp : Addr} {pl : Sem Bool} {Q : Value × List Value → Shared → Prop} (hm : h.get? m = some (matO l t tp)) (q : Q (.builtin "re.Match.group", [.ref m]) ⟨h, g, d, tk, os⟩) : wpAny M A (getMethod (.ref m) "group" pl) Q E ⟨h, g, d, tk, os⟩ :=
  getMethod_builtin (s := ⟨h, g, d, tk, os⟩) ⟨_, hm, rfl⟩ plainAttrs_mat slot_mat_group type_mat_group (fun x e => by cases e; exact ⟨_, hm, rfl⟩) q
theorem getSubF {pl : Sem Bool} {Q : Value × List Value → Shared → Prop} (hm : h.get? 43 = some patO) (q : Q (.builtin "re.Pattern.sub", [.ref 43]) ⟨h, g, d, tk, os⟩) : wpAny M A (getMethod (.ref 43) "sub" pl) Q E ⟨h, g, d, tk, os⟩ :=
  getMethod_builtin (s := ⟨h, g, d, tk, os⟩) ⟨_, hm, rfl⟩ plainAttrs_pat slot_pat_sub type_pat_sub (fun x e => by cases e; exact ⟨_, hm, rfl⟩) q
end
/-! places in the text -/
noncomputable def sBody : Stmt → List Stmt
  | .If _ x _ _ => x
  | .While _ x _ _ => x
  | .For _ _ x _ _ => x
  | _ => []
noncomputable def sElse : Stmt → List Stmt
  | .If _ _ x _ => x
  | _ => []
noncomputable def sVal : Stmt → Expr
  | .Assign _ v _ => v
  | .Return (some v) _ => v
  | _ => .Constant .none 0 default
noncomputable def sAt (l : List Stmt) (i : Nat) : Stmt := l.getD i (.Pass default)
noncomputable def eArg : Expr → Nat → Expr
  | .Call _ as _ _, i => as.getD i (.Constant .none 0 default)
  | _, _ => .Constant .none 0 default
/-- the bracket's branch of _translate -/
noncomputable def brk : List Stmt := sElse (sAt (sBody (sAt (sElse (sAt (sElse (sAt (sBody (sAt (fBody 7) 3)) 2)) 0)) 0)) 4)
noncomputable def lamE : Expr := eArg (sVal (sAt brk 2)) 0
noncomputable def genE : Expr := eArg (sVal (sAt (sElse (sAt brk 1)) 6)) 0
noncomputable def lamP : Arguments := match lamE with | .Lambda p _ _ _ => p | _ => ⟨[], [], none, [], [], none, []⟩
noncomputable def lamB : Expr := match lamE with | .Lambda _ x _ _ => x | e => e
noncomputable def lamS : Scope := match lamE with | .Lambda _ _ x _ => x | _ => default
noncomputable def eltE : Expr := match genE with | .GeneratorExp x _ _ _ => x | e => e
section
variable {b h : Heap} {L : Addr} {names : List Str} {vals : List (Option Value)} {led : List (Addr × Obj)} {M : Model} {A : Around} {E : Value → Shared → Prop} {env : Env} {gl : List Str}
  {g : Array GenState} {d : Drawn} {tk : Nat} {os : OsState} {s : Shared} {prog : Program} {w : World} {l : List Nat} {t u : Tok}
theorem enterLam {f : Addr} {m : Value} {fo : Obj} {pm cdv ctv : Value} {nm qual : Str} {k : Nat} {Q : Value → Shared → Prop} (H0 : TopF h) (R : Rm A (k + 1)) (ho : h.get? f = some fo) (hd : fo.data = .func (kla_fn nm qual lamP lamB lamS [] pm cdv ctv)) (hcr : h.CodeRec cdv qual)
    (q : ∀ env L h₁ tk₁ A', Rm A' k → FE env L ["_m"] [] → Fm h L ["_m"] [some m] [] h₁ → wpAny (model prog w) A' (eval lamB env) Q (fun _ _ => False) ⟨h₁, g, d, tk₁, os⟩) :
    wpAny (model prog w) A (call (.ref f) [m]) Q E ⟨h, g, d, tk, os⟩ := by
  refine wpAny_call ?_
  refine kla_callFunE (s := ⟨h, g, d, tk, os⟩) (ar_d0 R.dp) ho hd (show lamS.isCoroutine = false by decide +kernel) (show lamS.isGenerator = false by decide +kernel) rfl hcr ?_
  rw [show bindArgs (kla_fn nm qual lamP lamB lamS [] pm cdv ctv) ⟨[m], []⟩ = pure [(("_m" : Str), m)] from by kernel_rfl]
  refine wpAny_pure ?_
  have hcell : ∀ x ∈ lamS.names, x.2 ≠ .cell := by decide +kernel
  have hloc : lamS.names.lookup ("_m" : Str) = some NameKind.local := by decide +kernel
  refine wpAny_newFunctionEnv hcell (fun x hx => ?_) (fun h₁ hns hsb => ⟨H0.nolim.fresh _ hsb, ?_⟩) (show lamS.kind = .function by decide +kernel)
  · rw [List.mem_singleton.mp hx]; exact hloc
  · refine kla_codeExpr (wpAny_mono (q _ h.objs.size h₁ _ _ ⟨R.hd, ?_, ?_⟩ ⟨rfl, show lamS.kind = .function by decide +kernel, by decide, fun x hx => ?_, (fun x hx => nomatch hx), rfl, rfl⟩ ?_) (fun v s' hv => hv) fun _ _ x => x.elim)
    · exact ar_d R.dp
    · exact ar_u R.un
    · rw [List.mem_singleton.mp hx]; exact ⟨hloc, by decide +kernel⟩
    · have hk : Keep h h₁ := fun p o e => hsb.extBut p o (Nat.ne_of_lt (Heap.lt_size e)) (Heap.get?_push_of_some _ e)
      have e : (fun x => ([("_m", m)] : List (Str × Value)).reverse.lookup x) = look ["_m"] [some m] := by
        funext x
        simp only [look, List.reverse_singleton, List.lookup_cons, List.lookup_nil]
        by_cases h1 : x = "_m"
        · subst h1; simp
        · have e1 : (x == ("_m" : Str)) = false := by simpa using h1
          simp [e1, h1]
      exact ⟨H0, ⟨by rw [← e]; exact hns, hk, Nat.le_refl _⟩, (fun p hp => nomatch hp), List.nodup_nil⟩

noncomputable def lamPos : Pos := match lamE with | .Lambda _ _ _ p => p | _ => default
theorem lamE_eq : lamE = .Lambda lamP lamB lamS lamPos := by with_unfolding_all rfl
theorem evalLamF {ps : Array Value} {lq : Str} {led1 : Obj → List (Addr × Obj)} {Q : Value → Shared → Prop} (X : FE env L names gl) (F : Fm b L names vals led h) (U : TopU b) (Tt : Tb lamPos lq h ps) (hg : Got led 57 (tabObj ps)) (hput : ∀ o, Put led 57 o (led1 o))
    (hcode : env.code = .ref 61) (hclos : closureFor lamS env = pure []) (hlq : env.qual ++ "<lambda>" = lq)
    (q : ∀ f fo h' tk' more pm cdv ctv, Fm b L names vals ((f, fo) :: led1 (tabObj (ps ++ more))) h' → Tb lamPos lq h' (ps ++ more) → fo.cls = .type "function" → fo.data = .func (kla_fn "<lambda>" lq lamP lamB lamS [] pm cdv ctv) → h'.CodeRec cdv lq → Q (.ref f) ⟨h', g, d, tk', os⟩) :
    wpAny M A (eval lamE env) Q E ⟨h, g, d, tk, os⟩ := by
  rw [lamE_eq]
  refine kla_eval rfl ?_
  rw [hlq]
  obtain ⟨mg, hns, hb⟩ := (U.keep F.keep).bi
  have hd := (U.keep F.keep).hd
  cases hf : codeAmong lamPos ps.toList with
  | some c' =>
    obtain ⟨a, rfl, ha, hrec⟩ := Tt.lam c' hf
    refine kla_makeFunctionHit (s := ⟨h, g, d, tk, os⟩) hclos X.glo hns hcode hd Tt.here Tt.tri hf hb fun ctv h' tk' hk hsz => ?_
    have hk2 : Keep h (h'.push { cls := .type "function", data := .func (kla_fn "<lambda>" lq lamP lamB lamS [] ((mg "__name__").getD .none) (.ref a) ctv) }) := fun p o e => Heap.get?_push_of_some _ (hk p o e)
    have F1 := F.add hk2 (a := h'.objs.size) (by
      cases e : h.get? h'.objs.size with
      | none => rfl
      | some o => exact absurd (Heap.lt_size e) (Nat.not_lt.mpr hsz)) (Heap.get?_push_size _ rfl)
    have F2 := F1.tabP (Put.there (hput (tabObj (ps ++ #[])))) (fun _ _ _ e => e) (by rw [Array.append_empty]; exact hk2 _ _ Tt.here)
    exact q _ _ _ _ #[] _ _ _ F2 (by rw [Array.append_empty]; exact Tt.keep hk2) rfl rfl (CodeRec_keep hk2 hrec)
  | none =>
    refine kla_makeFunction (s := ⟨h, g, d, tk, os⟩) hclos X.glo hns hcode hd Tt.here Tt.tri hf (by decide) hb fun c' ctv h' tk' hx hge hlt hrec htb => ?_
    have hk2 : Keep h' (h'.push (kla_obj "<lambda>" lq lamP lamB lamS [] ((mg "__name__").getD .none) c' ctv)) := Keep.push _ _
    have h57 := Heap.lt_size Tt.here
    have hc57 : c' ≠ 57 := Nat.ne_of_gt (Nat.lt_of_lt_of_le h57 hge)
    have F1 := F.tabP (hput (tabObj (ps ++ #[rawInt lamPos.line, rawInt lamPos.col, .ref c']))) (fun p o hp e => hx p o hp e) htb
    have F2 := F1.alloc (o := kla_obj "<lambda>" lq lamP lamB lamS [] ((mg "__name__").getD .none) c' ctv) rfl
    exact q _ _ _ _ _ _ _ _ F2 ((Tt.grow hx htb fun _ => ⟨hf, hc57, hrec⟩).keep hk2) rfl rfl (CodeRec_keep hk2 hrec)
/-- the entry into _translate -/
theorem enterT {args : List Value} (ps rest : List Str) {k : Nat} {Q : Value → Shared → Prop}
    (H0 : TopF h) (R : Rm A (k + 1)) (hnm : ps ++ rest = names) (hv : (args.map some ++ rest.map fun _ => none) = vals)
    (hbind : ∀ pm cd doc, bindArgs (docDef (fName 7) (fParams 7) (fBody 7) (fScope 7) pm cd doc) ⟨args, []⟩ = pure (ps.zip args))
    (hlen : ps.length = args.length) (hfe : ∀ L a cd, FE (envOf (fName 7) (fScope 7) L a cd) L names gl)
    (hco : (fScope 7).isCoroutine = false) (hgen : (fScope 7).isGenerator = false) (hcell : ∀ x ∈ (fScope 7).names, x.2 ≠ .cell)
    (q : ∀ L h₁ tk₁ A', Rm A' k → FE (envOf (fName 7) (fScope 7) L 62 (.ref 61)) L names gl → L = h.objs.size → Fm h L names vals [] h₁ →
      wpAny (model prog w) A' (execs (fBody 7) (envOf (fName 7) (fScope 7) L 62 (.ref 61))) (fun f s' => Q (match f with | .ret v => v | _ => .none) s') (fun _ _ => False) ⟨h₁, g, d, tk₁, os⟩) :
    wpAny (model prog w) A (call (.ref 62) args) Q E ⟨h, g, d, tk, os⟩ := by
  subst hnm hv
  obtain ⟨o, pm, doc, ho, hd, hcr⟩ := H0.tra
  have hX := hfe h.objs.size 62 (.ref 61)
  refine wpAny_call ?_
  refine call_plain_ret (s := ⟨h, g, d, tk, os⟩) (binds := ps.zip args) (ar_d0 R.dp) ho hd H0.nolim hcr (hbind pm (.ref 61) doc) ?_ (fun h₁ F => ?_) hco hgen hX.kind hcell
  · intro x hx
    exact (hX.isL x.1 (List.mem_append_left _ (List.of_mem_zip hx).1)).1
  · refine q h.objs.size h₁ _ _ ⟨R.hd, ar_d R.dp, ar_u R.un⟩ hX rfl ?_
    refine ⟨H0, ?_, (fun p hp => nomatch hp), List.nodup_nil⟩
    have : (fun x => ((ps.zip args).reverse).lookup x) = look (ps ++ rest) (args.map some ++ rest.map fun _ => none) := by
      funext x
      rw [look_params ps args rest x hlen, lookup_reverse_of_nodup]
      rw [List.map_fst_zip (Nat.le_of_eq hlen)]
      exact (List.nodup_append.mp hX.nd).1
    rw [← this]; exact F
end
end

section
open PySem PySem.Calls PyProof.Rows PySem.Builtin PySem.W
/-! a list's append kept as a value -/
theorem slot_md_get : Slot "method_descriptor" "__get__" "method_descriptor.__get__" :=
  .of (owner := "method_descriptor") (n := "__get__") (by rw [typeLookup_type, builtinLookup_eq_fast]; kernel_rfl) (by decide +kernel) (by decide +kernel) (by decide +kernel)
    (by first | exact .inl (by decide +kernel) | exact .inr (by decide +kernel)) (by rw [isSubtype_type]; kernel_rfl)
theorem entry_md_get : entryFor table "method_descriptor.__get__" = some Builtin.«method_descriptor.__get__» := entryFor_of_tree (by kernel_rfl)
theorem args_md_get (a b c : Value) : argsOk "method_descriptor.__get__" ⟨[a, b, c], []⟩ := by unfold argsOk; kernel_rfl
theorem no_md_set : typeLookup (.type "method_descriptor") "__set__" = pure none := by rw [typeLookup_type, builtinLookup_eq_fast]; kernel_rfl
theorem no_md_del : typeLookup (.type "method_descriptor") "__delete__" = pure none := by rw [typeLookup_type, builtinLookup_eq_fast]; kernel_rfl
theorem ty_append : typeOf (.builtin "list.append") = pure (.type "method_descriptor") := by show builtinType _ = _; rw [builtinType_eq_fast]; kernel_rfl
theorem lk_append : typeLookup (.type "list") "append" = pure (some (.builtin "list.append")) := by rw [typeLookup_type, builtinLookup_eq_fast]; kernel_rfl
theorem owner_append : ".".intercalate ("list.append".cutAt '.').dropLast = "list" := by decide +kernel
theorem sub_append : isSubtype (.type "list") (.type (".".intercalate ("list.append".cutAt '.').dropLast)) = pure true := by rw [owner_append, isSubtype_type]; kernel_rfl
noncomputable def bmObj (a : Addr) : Obj := { cls := .type "builtin_function_or_method", data := .fields #[.builtin "list.append", .ref a] }
section
variable {b h : Heap} {L : Addr} {names : List Str} {vals : List (Option Value)} {led : List (Addr × Obj)} {M : Model} {A : Around} {E : Value → Shared → Prop} {env : Env} {gl : List Str}
  {g : Array GenState} {d : Drawn} {tk t : Nat} {os : OsState} {s : Shared} {prog : Program} {w : World} {a : Addr} {o : Obj}
theorem app_get {R : Result → Shared → Prop} (hx : h.get? a = some o) (hc : o.cls = .type "list") (hq : R (.ok (.ret (.ref h.objs.size))) ⟨h.push (bmObj a), g, d, t, os⟩) :
    codeAny (model prog w) A (.call (.builtin "method_descriptor.__get__") ⟨[.builtin "list.append", .ref a, .type "list"], []⟩) R ⟨h, g, d, t, os⟩ := by
  have hT : (⟨h, g, d, t, os⟩ : Shared).TypeIs (.ref a) "list" := ⟨_, hx, hc⟩
  have hT5 : (⟨h, g, d, t, os⟩ : Shared).TypeIs (.builtin "list.append") "method_descriptor" := ty_append
  refine codeAny_call_builtin slot_md_get.plain entry_md_get (slot_md_get.check _ _ _ _ _ _ _ _ hT5 (args_md_get _ _ _) ?_)
  have f8 := sub_append
  repeat (any_goals (first | assumption | (rw [f8]) | wp_step))
theorem app_entry {nt : Tok} {vs : List Value} {n : Nat} {Q : Fin → Shared → Prop} (hx : h.get? a = some (listObj vs n)) (hq : Q (.done (.ret (.ref h.objs.size))) ⟨h.push (bmObj a), g, d, t, os⟩) :
    wpAny (model prog w) A (Builtin.«object.__getattribute__» ⟨[.ref a, .str "append" nt], []⟩) Q E ⟨h, g, d, t, os⟩ := by
  have hT : (⟨h, g, d, t, os⟩ : Shared).TypeIs (.ref a) "list" := ⟨_, hx, rfl⟩
  have hT5 : (⟨h, g, d, t, os⟩ : Shared).TypeIs (.builtin "list.append") "method_descriptor" := ty_append
  have f4 := lk_append
  have f5 := ty_append
  have f6 := slot_md_get.lookup
  have f7 := no_md_set
  have f9 := no_md_del
  repeat (any_goals (first | assumption | wp_step))
  refine app_get hx rfl ?_
  repeat (any_goals (first | assumption | wp_step))
theorem getAppendV {vs : List Value} {n : Nat} {Q : Value → Shared → Prop} (hx : h.get? a = some (listObj vs n)) (hq : Q (.ref h.objs.size) ⟨h.push (bmObj a), g, d, t + 1, os⟩) :
    wpAny (model prog w) A (getAttr (.ref a) "append" true) Q E ⟨h, g, d, t, os⟩ := by
  have hT : ∀ t, (⟨h, g, d, t, os⟩ : Shared).TypeIs (.ref a) "list" := fun _ => ⟨_, hx, rfl⟩
  have call : ∀ {nt : Tok} {t : Nat} {R : Result → Shared → Prop}, R (.ok (.ret (.ref h.objs.size))) ⟨h.push (bmObj a), g, d, t, os⟩ → codeAny (model prog w) A (.call (.builtin "list.__getattribute__") ⟨[.ref a, .str "append" nt], []⟩) R ⟨h, g, d, t, os⟩ := fun {nt t R} hR =>
    codeAny_call_builtin PySem.F.slot_list_getattribute.plain PySem.F.entry_list_ga (PySem.F.slot_list_getattribute.check _ _ _ _ _ _ _ _ (hT t) (PySem.F.args_list_getattribute_2 _ _) (app_entry hx hR))
  have f2 := PySem.F.slot_list_getattribute.lookup
  have f3 := PySem.F.slot_list_getattribute.bind (.ref a)
  have hT := hT (t + 1)
  unfold getAttr
  repeat (any_goals (first | assumption | wp_step))
  refine call ?_
  repeat (any_goals (first | assumption | wp_step))
end
section
variable {b h : Heap} {L : Addr} {names : List Str} {vals : List (Option Value)} {led : List (Addr × Obj)} {M : Model} {A : Around} {E : Value → Shared → Prop} {env : Env} {gl : List Str}
  {g : Array GenState} {d : Drawn} {tk t : Nat} {os : OsState} {s : Shared} {prog : Program} {w : World} {a : Addr} {o : Obj}
theorem sub_list_module : isSubtype (.type "list") (.type "module") = pure false := by rw [isSubtype_type]; kernel_rfl
theorem callBM0 {pos : Pos} {m D : Addr} {args : List (Bool × Sem Value)} {Q : Value → Shared → Prop} (hplain : args.any (·.1) = false)
    (h : wpAny M A (evalArgs (.ref m) true args []) (fun a s₁ => (∃ vals led, Fm b L names vals led s₁.heap ∧ Got led m (bmObj D)) ∧ wpAny M A (call (.ref m) a.pos a.kw) Q E s₁) E s) :
    wpAny M A (callWith pos (.ref m) [] args []) Q E s := by
  unfold callWith
  refine wpAny_bind (wpAny_holding (wpAny_mono h (fun a s₁ h₁ => wpAny_bind (wpAny_standAt ?_)) fun _ _ x => x))
  obtain ⟨⟨vals', led', F', hg⟩, h₁⟩ := h₁
  have ho := F'.get hg
  simp only [hplain, List.any_nil, Bool.or_false]
  have hk : wpAny M A (keeperOf (.ref m)) (fun k s' => k = .machine ∧ s' = s₁) E s₁ := by
    unfold keeperOf
    refine wpAny_bind (wpAny_load ho ?_)
    exact wpAny_pure ⟨rfl, rfl⟩
  refine wpAny_bind (wpAny_mono hk (fun k s' hk' => ?_) fun _ _ x => x)
  obtain ⟨rfl, rfl⟩ := hk'
  exact wpAny_bind (wpAny_mono h₁ (fun r s₂ hr => wpAny_bind (wpAny_holding (wpAny_point (wpAny_pure hr)))) fun _ _ x => x)
theorem callBM {pos : Pos} {m D : Addr} {e : Expr} {rest : List Expr} {Q : Value → Shared → Prop}
    (hq : wpAny M A (spliced (backTo pos (starEach (e :: rest) env))) (fun vs s₁ => (∃ vals led, Fm b L names vals led s₁.heap ∧ Got led m (bmObj D)) ∧ wpAny M A (call (.ref m) vs) Q E s₁) E s)
    (he : starEach (e :: rest) env = (false, eval e env) :: starEach rest env := by rfl)
    (hplain : (backTo pos (starEach rest env)).any (·.1) = false := by rfl) :
    wpAny M A (callWith pos (.ref m) [] (backTo pos (starEach (e :: rest) env)) []) Q E s := by
  rw [he] at hq ⊢
  exact callBM0 (by show (false || (backTo pos (starEach rest env)).any (·.1)) = false; rw [hplain]; rfl) (evalArgs_plain hq)
theorem appendBM {m D : Addr} {vs : List Value} {n : Nat} {x : Value} {led' : List (Addr × Obj)} {Q : Value → Shared → Prop} (F : Fm b L names vals led h) (hm : Got led m (bmObj D)) (hg : Got led D (listObj vs n)) (u : Put led D (listObj (vs ++ [x]) (n + 1)) led')
    (hsz : vs.length ≤ sizeLine) (q : ∀ h', Fm b L names vals led' h' → Q .none ⟨h', g, d, tk, os⟩) : wpAny (model prog w) A (call (.ref m) [x]) Q E ⟨h, g, d, tk, os⟩ := by
  refine wpAny_call (codeAny_of_tree ?_)
  show wpAny _ _ (callAny (.ref m) ⟨[x], []⟩) _ _ _
  simp only [callAny]
  refine wpAny_bind (wpAny_load (s := ⟨h, g, d, tk, os⟩) (F.get hm) ?_)
  dsimp only [bmObj]
  rw [if_pos (by rfl)]
  show wpAny _ _ (if (Value.type "builtin_function_or_method" != Value.type "method") = true then _ else _) _ _ _
  rw [if_pos (by rfl)]
  have hT : (⟨h, g, d, tk, os⟩ : Shared).TypeIs (.ref D) "list" := ⟨_, F.get hg, rfl⟩
  have hck : ∀ {A : Around} {Q : Unit → Shared → Prop} {E : Value → Shared → Prop}, Q () ⟨h, g, d, tk, os⟩ → wpAny (model prog w) A (checkBoundCall "list.append" ⟨[.ref D, x], []⟩) Q E ⟨h, g, d, tk, os⟩ := by
    intro A Q E q
    have f1 := sub_list_module
    have hD := F.get hg
    unfold checkBoundCall
    repeat (any_goals (first | assumption | (rw [f1]) | wp_step))
  refine wpAny_bind (hck ?_)
  refine wpAny_pure ⟨plainId_quiet (by decide +kernel) _, codeAny_builtin entry_list_append ?_⟩
  rw [Around.under_plainId (by decide +kernel)]
  show wpAny _ _ (updateSeq D (·.push x) >>= fun _ => ret .none) _ _ _
  have ho := F.get hg
  refine wpAny_bind (wpAny_updateSeq (s := ⟨h, g, d, tk, os⟩) ho rfl (wpAny_pure (q _ (F.put u (Heap.SameBut.update _ _ _) ?_))) (by simpa using hsz) (by simp; (first | exact ar_to (by assumption) _ | lia | omega)))
  rw [Heap.get?_update_self _ ho rfl]
  unfold listObj Obj.mapSeq
  dsimp only
  have e2 : ((vs.toArray.push x).size == vs.toArray.size) = false := by simp
  rw [e2]
  simp
theorem getAppendVF {vs : List Value} {n : Nat} {Q : Value → Shared → Prop} (F : Fm b L names vals led h) (hg : Got led a (listObj vs n)) (q : ∀ h' m tk', Fm b L names vals ((m, bmObj a) :: led) h' → Q (.ref m) ⟨h', g, d, tk', os⟩) :
    wpAny (model prog w) A (getAttr (.ref a) "append" true) Q E ⟨h, g, d, tk, os⟩ :=
  getAppendV (F.get hg) (q _ _ _ (F.alloc rfl))
end
end

section
open PySem PySem.Calls PyProof.Rows PySem.Builtin PySem.Builtin.Str
/-! find with both bounds -/
noncomputable def findD (l : List Nat) (k j : Nat) : Option Nat := (((l.take j).drop k).findIdx? (· == 45)).map (· + k)
theorem occ_hi (l : List Nat) (lo hi : Nat) (hh : hi ≤ l.length) : (match occurrences (T l) (T [45]) lo hi 1 with | i :: _ => (i : Int) | [] => -1) = (match findD l lo hi with | some p => (p : Int) | none => -1) := by
  have one : ∀ i, StrLaws.At (T l) (T [45]) hi i ↔ (i < hi ∧ l[i]? = some 45) := fun i => by
    have h1 := StrLaws.subAt_one (T l) 45 i
    rw [T_list, T_len] at h1
    have e : (T [45]).length = 1 := by rw [T_len]; rfl
    constructor
    · intro h
      have h2 : i + 1 ≤ hi := by have := h.1; rw [e] at this; exact this
      exact ⟨h2, h1.mp ⟨Nat.le_trans h2 hh, h.2⟩⟩
    · intro h
      exact ⟨by rw [e]; exact h.1, (h1.mpr h.2).2⟩
  have at2 : ∀ i : Nat, lo ≤ i → i < hi → ((l.take hi).drop lo)[i - lo]? = l[i]? := fun i h1 h2 => by
    rw [List.getElem?_drop, Nat.add_sub_cancel' h1, List.getElem?_take, if_pos h2]
  rcases StrLaws.occ_first (T l) (T [45]) hi 1 (Nat.le_refl 1) (List.range' lo (hi + 1 - lo)) lo (fun i hi => (List.mem_range'_1.mp hi).1) with ⟨h0, hn⟩ | ⟨pre, a, post, e, h0, ha, hn⟩
  · have hf : findD l lo hi = none := by
      unfold findD
      rw [Option.map_eq_none_iff, List.findIdx?_eq_none_iff]
      intro x hx
      obtain ⟨j, hj, rfl⟩ := List.getElem_of_mem hx
      rw [List.length_drop, List.length_take] at hj
      have hj2 : lo + j < hi := Nat.lt_of_lt_of_le (ar_sub hj) (Nat.min_le_left _ _)
      rw [Bool.eq_false_iff]
      intro he
      have h3 : l[lo + j]? = some 45 := by
        rw [← at2 (lo + j) (Nat.le_add_right _ _) hj2, Nat.add_sub_cancel_left, List.getElem?_eq_getElem (by rw [List.length_drop, List.length_take]; exact hj)]
        rw [beq_iff_eq] at he
        rw [he]
      exact hn (lo + j) (List.mem_range'_1.mpr ⟨Nat.le_add_right _ _, Nat.lt_of_lt_of_le (Nat.lt_succ_of_lt hj2) (Nat.sub_le_iff_le_add'.mp (Nat.le_refl _))⟩) ((one _).mpr ⟨hj2, h3⟩)
    rw [hf, StrLaws.occ_eq, h0]
  · have hs := StrLaws.range'_split_from e
    have ha' := (one a).mp ha
    have hf : findD l lo hi = some a := by
      unfold findD
      have : ((l.take hi).drop lo).findIdx? (· == 45) = some (a - lo) := by
        rw [List.findIdx?_eq_some_iff_getElem]
        have hlen : a - lo < ((l.take hi).drop lo).length := by rw [List.length_drop, List.length_take]; exact Nat.sub_lt_sub_right hs.1 (Nat.lt_min.mpr ⟨ha'.1, Nat.lt_of_lt_of_le ha'.1 hh⟩)
        refine ⟨hlen, ?_, fun j hj => ?_⟩
        · have := at2 a hs.1 ha'.1
          rw [List.getElem?_eq_getElem hlen, ha'.2] at this
          simpa using this
        · intro he
          have hja : lo + j < a := ar_sub hj
          have h3 : l[lo + j]? = some 45 := by
            rw [← at2 (lo + j) (Nat.le_add_right _ _) (Nat.lt_trans hja ha'.1), Nat.add_sub_cancel_left, List.getElem?_eq_getElem (Nat.lt_trans hj hlen)]
            rw [beq_iff_eq] at he
            rw [he]
          exact hn (lo + j) (hs.2 _ (Nat.le_add_right _ _) hja) ((one _).mpr ⟨Nat.lt_trans hja ha'.1, h3⟩)
      rw [this]
      show some (a - lo + lo) = some a
      rw [Nat.sub_add_cancel hs.1]
    rw [hf, StrLaws.occ_eq]
    generalize (forIn (List.range' lo (hi + 1 - lo)) ((#[] : Array Nat), lo) (StrLaws.occBody (T l) (T [45]) hi 1)).run.fst = arr at h0
    have h1 : arr.toList[0]? = some a := by simpa using h0
    cases hL : arr.toList with
    | nil => rw [hL] at h1; cases h1
    | cons b t => rw [hL] at h1; simp at h1; rw [h1]
theorem lk_int_index : typeLookup (.type "int") "__index__" = pure (some (.builtin "int.__index__")) := by rw [typeLookup_type, builtinLookup_eq_fast]; kernel_rfl
section
variable {b h : Heap} {L : Addr} {names : List Str} {vals : List (Option Value)} {led : List (Addr × Obj)} {M : Model} {A : Around} {E : Value → Shared → Prop} {env : Env} {gl : List Str}
  {g : Array GenState} {d : Drawn} {tk : Nat} {os : OsState} {s : Shared} {prog : Program} {w : World} {l m : List Nat} {t u : Tok} {value slice : Expr}
theorem findT4 {k j : Nat} {u1 u2 : Tok} {Q : Value → Shared → Prop} (hj : j ≤ l.length) (q : ∀ t' tk', Q (.int (match findD l k j with | some p => (p : Int) | none => -1) t') ⟨h, g, d, tk', os⟩) :
    wpAny (model prog w) A (call (.builtin "str.find") [.str (T l) t, .str (T [45]) u, .int k u1, .int j u2]) Q E ⟨h, g, d, tk, os⟩ := by
  refine wpAny_call_entry PySem.F.slot_str_find (typeIs_str _ _ _) PySem.F.entry_str_find ?_ (PySem.F.args_str_find_4 _ _ _ _)
  have f1 := lk_int_index
  have e1 : (max (0 : Int) (if (k : Int) < 0 then (k : Int) + ((T l).length : Int) else (k : Int))).toNat = k := by
    rw [if_neg (Int.not_lt.mpr (Int.natCast_nonneg k))]; exact ar_max _
  have e2 : min (max (0 : Int) (if (j : Int) < 0 then (j : Int) + ((T l).length : Int) else (j : Int))).toNat (T l).length = j := by
    rw [if_neg (Int.not_lt.mpr (Int.natCast_nonneg j)), T_len, ar_max]; exact Nat.min_eq_left hj
  have ho := occ_hi l k j hj
  have hsr : wpAny (model prog w) A.in1 (searchRange (T l).length [.int k u1, .int j u2]) (fun r s' => r = (k, j) ∧ s' = ⟨h, g, d, tk, os⟩) E ⟨h, g, d, tk, os⟩ := by
    unfold searchRange
    repeat (any_goals (first | assumption | (rw [f1]) | wp_step))
    exact ⟨by rw [e1, e2], rfl⟩
  have hsa : searchArgs "find" ⟨[.str (T l) t, .str (T [45]) u, .int k u1, .int j u2], []⟩ = (searchRange (T l).length [.int k u1, .int j u2] >>= fun r => pure (T l, T [45], r.1, r.2)) := by
    first | rfl | (with_unfolding_all rfl)
  show wpAny _ _ (searchArgs "find" _ >>= _) _ _ _
  rw [hsa]
  refine wpAny_bind (wpAny_bind (wpAny_mono hsr (fun r s' hr => ?_) fun _ _ x => x))
  obtain ⟨rfl, rfl⟩ := hr
  refine wpAny_pure ?_
  dsimp only
  rw [← ho] at q
  cases hc : occurrences (T l) (T [45]) k j 1 with
  | nil =>
    rw [hc] at q
    exact wpAny_bind (wpAny_rule (wpAny_bind (wpAny_mkInt (wpAny_pure ⟨_, rfl, q _ _⟩))))
  | cons i r =>
    rw [hc] at q
    exact wpAny_bind (wpAny_mkInt (wpAny_pure ⟨_, rfl, q _ _⟩))
theorem setItemF {D : Addr} {vs : List Value} {n : Nat} {k : Int} {x : Value} {led' : List (Addr × Obj)} {Q : Unit → Shared → Prop} (F : Fm b L names vals led h) (hg : Got led D (listObj vs n)) (up : Put led D (listObj (vs.set k.toNat x) n) led')
    (h0 : 0 ≤ k) (hk : k < vs.length) (hsz : vs.length ≤ 1000000)
    (q : ∀ h', Fm b L names vals led' h' → Q () ⟨h', g, d, tk, os⟩) : wpAny (model prog w) A (setItem (.ref D) (.int k t) x) Q E ⟨h, g, d, tk, os⟩ := by
  have ho := F.get hg
  refine PySem.W.ki_setAt (s := ⟨h, g, d, tk, os⟩) ho h0 (Int.lt_trans hk (ar_63 (ar_to hsz _))) (by simpa using hk) (q _ (F.put up (Heap.SameBut.update _ _ _) ?_))
  rw [Heap.get?_update_self _ ho rfl]
  unfold listObj Obj.mapSeq
  dsimp only
  have e2 : ((vs.toArray.setIfInBounds k.toNat x).size == vs.toArray.size) = true := by simp
  rw [e2]
  simp
theorem setItemNegF {D : Addr} {vs : List Value} {n : Nat} {x : Value} {led' : List (Addr × Obj)} {Q : Unit → Shared → Prop} (F : Fm b L names vals led h) (hg : Got led D (listObj vs n)) (up : Put led D (listObj (vs.set (vs.length - 1) x) n) led')
    (hk : 0 < vs.length) (hsz : vs.length ≤ 1000000)
    (q : ∀ h', Fm b L names vals led' h' → Q () ⟨h', g, d, tk, os⟩) : wpAny (model prog w) A (setItem (.ref D) (.int (-1) t) x) Q E ⟨h, g, d, tk, os⟩ := by
  have ho := F.get hg
  refine PySem.W.ki_setBack (s := ⟨h, g, d, tk, os⟩) ho (by decide) (by rw [List.size_toArray]; exact ar_m1 hk) (by decide) (q _ (F.put up (Heap.SameBut.update _ _ _) ?_))
  rw [Heap.get?_update_self _ ho rfl]
  have e1 : ((-1 : Int) + vs.toArray.size).toNat = vs.length - 1 := by rw [List.size_toArray]; exact ar_last
  rw [e1]
  unfold listObj Obj.mapSeq
  dsimp only
  have e2 : ((vs.toArray.setIfInBounds (vs.length - 1) x).size == vs.toArray.size) = true := by simp
  rw [e2]
  simp
theorem delItemF {D : Addr} {vs : List Value} {n : Nat} {k : Int} {led' : List (Addr × Obj)} {Q : Unit → Shared → Prop} (F : Fm b L names vals led h) (hg : Got led D (listObj vs n)) (up : Put led D (listObj (vs.eraseIdx k.toNat) (n + 1)) led')
    (h0 : 0 ≤ k) (hk : k < vs.length) (hsz : vs.length ≤ 1000000)
    (q : ∀ h', Fm b L names vals led' h' → Q () ⟨h', g, d, tk, os⟩) : wpAny (model prog w) A (delItem (.ref D) (.int k t)) Q E ⟨h, g, d, tk, os⟩ := by
  have hq : seqIndex? k vs.toArray.size = some k.toNat := by rw [List.size_toArray]; exact seq_nn h0 hk
  refine delItem_at (s := ⟨h, g, d, tk, os⟩) (F.get hg) (by unfold Builtin.List.listFitsIndex; simp; exact ⟨Int.le_trans (by decide) h0, Int.lt_trans hk (ar_63 (ar_to hsz _))⟩) hq (fun h' hs ho => q h' (F.put up hs (by simpa [listObj] using ho))) (by rw [sizeLine_eq]; rw [List.size_toArray]; exact ar_to hsz _)
end

/-! the mirror of _translate -/
noncomputable def closeW (l : List Nat) : Nat → Nat → Nat
  | 0, j => j
  | n + 1, j => if j < l.length ∧ [l.getD j 0] ≠ [93] then closeW l n (j + 1) else j
noncomputable def stepIf (l : List Nat) (c j : Nat) : Nat := if j < l.length ∧ [l.getD j 0] = [c] then j + 1 else j
noncomputable def closeJ (l : List Nat) (i : Nat) : Nat := closeW l l.length (stepIf l 93 (stepIf l 33 i))
noncomputable def chunkG (l : List Nat) (j : Nat) : Nat → Nat → Nat → List (List Nat) → Nat × List (List Nat)
  | 0, i, _, cs => (i, cs)
  | n + 1, i, k, cs => match findD l k j with
    | none => (i, cs)
    | some p => chunkG l j n (p + 1) (p + 3) (cs ++ [(l.take p).drop i])
noncomputable def chunkE (l : List Nat) (j : Nat) (r : Nat × List (List Nat)) : Option (List (List Nat)) :=
  let c := (l.take j).drop r.1
  if c ≠ [] then some (r.2 ++ [c]) else if r.2 = [] then none else some (r.2.dropLast ++ [r.2.getLastD [] ++ [45]])
noncomputable def mergeL : Nat → List (List Nat) → Option (List (List Nat))
  | 0, cs => some cs
  | k + 1, cs =>
    if cs.getD k [] = [] ∨ cs.getD (k + 1) [] = [] then none
    else if [(cs.getD (k + 1) []).getD 0 0] < [(cs.getD k []).getLastD 0] then mergeL k ((cs.set k ((cs.getD k []).dropLast ++ (cs.getD (k + 1) []).drop 1)).eraseIdx (k + 1))
    else mergeL k cs
noncomputable def eltF (c : List Nat) : List Nat := (c.flatMap fun k => if k = 92 then [92, 92] else [k]).flatMap fun k => if k = 45 then [92, 45] else [k]
noncomputable def stuffO (l : List Nat) (i j : Nat) : Option (List Nat) :=
  let s := (l.take j).drop i
  if ¬ 45 ∈ s then some (s.flatMap fun k => if k = 92 then [92, 92] else [k])
  else match chunkE l j (chunkG l j l.length i (if [l.getD i 0] = [33] then i + 2 else i + 1) []) with
    | none => none
    | some cs => match mergeL (cs.length - 1) cs with
      | none => none
      | some cs' => some (joinL [45] (cs'.map eltF))
noncomputable def endF (s : List Nat) : List Nat :=
  if s = [] then [40, 63, 33, 41] else if s = [33] then [46]
  else [91] ++ (if [s.getD 0 0] = [33] then [94] ++ s.drop 1 else if [s.getD 0 0] ∈ ([[94], [91]] : List (List Nat)) then [92] ++ s else s) ++ [93]
noncomputable def trG (l : List Nat) : Nat → Nat → List (Option (List Nat)) → Option (List (Option (List Nat)))
  | 0, i, res => if l.length ≤ i then some res else none
  | n + 1, i, res => if l.length ≤ i then some res else
    let c := l.getD i 0
    if c = 42 then trG l n (i + 1) (if res = [] ∨ res.getLast? ≠ some none then res ++ [none] else res)
    else if c = 63 then trG l n (i + 1) (res ++ [some [63]])
    else if c = 91 then
      if l.length ≤ closeJ l (i + 1) then trG l n (i + 1) (res ++ [some [92, 91]])
      else match stuffO l (i + 1) (closeJ l (i + 1)) with
        | none => none
        | some s => trG l n (closeJ l (i + 1) + 1) (res ++ [some (endF (subF s))])
    else if c < 128 then trG l n (i + 1) (res ++ [some (escC c)]) else none

section
variable {b h : Heap} {L : Addr} {names : List Str} {vals : List (Option Value)} {led : List (Addr × Obj)} {M : Model} {A : Around} {E : Value → Shared → Prop} {env : Env} {gl : List Str}
  {g : Array GenState} {d : Drawn} {tk : Nat} {os : OsState} {s : Shared} {prog : Program} {w : World} {l m : List Nat} {t u v : Tok} {value slice : Expr}
noncomputable def rngO (x y z : Int) (t u v : Tok) : Obj := { cls := .type "range", data := .fields #[.int x t, .int y u, .int z v] }
theorem rangeF3 {x y z : Int} {Q : Value → Shared → Prop} (F : Fm b L names vals led h) (hz : z = -1) (q : ∀ h' r, Fm b L names vals ((r, rngO x y z t u v) :: led) h' → Q (.ref r) ⟨h', g, d, tk, os⟩) :
    wpAny (model prog w) A (call (.type "range") [.int x t, .int y u, .int z v]) Q E ⟨h, g, d, tk, os⟩ := by
  subst hz
  exact call_range_3 (s := ⟨h, g, d, tk, os⟩) (by decide) (q _ _ (F.alloc rfl)) (Or.inl (PyProof.noPylong_of_log2 (by decide +kernel)))
theorem rangeF1 {x : Int} {Q : Value → Shared → Prop} (F : Fm b L names vals led h) (q : ∀ h' r t v tk', Fm b L names vals ((r, rngO 0 x 1 t u v) :: led) h' → Q (.ref r) ⟨h', g, d, tk', os⟩) :
    wpAny (model prog w) A (call (.type "range") [.int x u]) Q E ⟨h, g, d, tk, os⟩ :=
  call_range_1 (s := ⟨h, g, d, tk, os⟩) (q _ _ _ _ _ (F.alloc rfl))
theorem rsz_down (n : Nat) : Builtin.Range.rangeSize (n : Int) 0 (-1) = n := by
  unfold Builtin.Range.rangeSize
  rw [if_neg (by decide)]
  split
  · show ((n : Int) - 0 - 1) / 1 + 1 = n
    rw [Int.ediv_one, Int.sub_zero]; exact Int.sub_add_cancel _ _
  · exact (Int.le_antisymm (Int.not_lt.mp ‹_›) (Int.natCast_nonneg n)).symm
theorem rsz_up (n : Nat) : Builtin.Range.rangeSize 0 (n : Int) 1 = n := by
  unfold Builtin.Range.rangeSize
  rw [if_pos (by decide)]
  split
  · show ((n : Int) - 0 - 1) / 1 + 1 = n
    rw [Int.ediv_one, Int.sub_zero]; exact Int.sub_add_cancel _ _
  · exact (Int.le_antisymm (Int.not_lt.mp ‹_›) (Int.natCast_nonneg n)).symm
theorem small_down (n : Nat) (h : n ≤ 1000) : Builtin.Range.small (n : Int) 0 (-1) = true := by
  unfold Builtin.Range.small
  rw [rsz_down]
  unfold Builtin.Range.rangeFitsLong
  rw [if_neg (by decide)]
  simp; exact ar_63 (ar_to h _)
theorem small_up (n : Nat) (h : n ≤ 1000) : Builtin.Range.small 0 (n : Int) 1 = true := by
  unfold Builtin.Range.small
  rw [rsz_up]
  unfold Builtin.Range.rangeFitsLong
  rw [if_pos (by decide)]
  simp; exact ⟨ar_63 (ar_to h _), .inr (ar_63 (ar_to h _))⟩
end
end

section
open PySem PySem.Calls PyProof.Rows PySem.Builtin PySem.Builtin.Str
/-! expressions without effect, evaluated at one go -/
structure Cx where
  prog : Program
  w : World
  A : Around
  E : Value → Shared → Prop
  env : Env
  g : Array GenState
  d : Drawn
  os : OsState
  b : Heap
  L : Addr
  names : List Str
  vals : List (Option Value)
  led : List (Addr × Obj)
  gl : List Str
noncomputable def Cx.at (C : Cx) (h : Heap) (tk : Nat) : Shared := ⟨h, C.g, C.d, tk, C.os⟩
noncomputable def Cx.Ok (C : Cx) (h : Heap) : Prop := FE C.env C.L C.names C.gl ∧ Fm C.b C.L C.names C.vals C.led h
/-- what is known of a value -/
inductive Ds where
  | t (l : List Nat) | i (n : Int) | v (v : Value)
noncomputable def Ds.has : Ds → Value → Prop
  | .t l, u => ∃ t, u = .str (T l) t
  | .i n, u => ∃ t, u = .int n t
  | .v w, u => u = w
noncomputable def Ar (p : Prop) : Prop := p
inductive ValD : Value → Ds → Prop
  | t {l t} : ValD (.str (T l) t) (.t l)
  | i {n t} : ValD (.int n t) (.i n)
  | v {v} : ValD v (.v v)
theorem ValD.has {v d} (h : ValD v d) : d.has v := by cases h; exact ⟨_, rfl⟩; exact ⟨_, rfl⟩; exact rfl
/-- the last one of a list, the one at a place: a known value or a text -/
inductive LastR (C : Cx) : Addr → Ds → Prop
  | v {a vs n v d} : Got C.led a (listObj vs n) → vs.getLast? = some v → ValD v d → LastR C a d
  | t {a vs n xs} : Got C.led a (listObj vs n) → TV vs xs → Ar (0 < xs.length) → LastR C a (.t (xs.getLastD []))
inductive ItemR (C : Cx) : Addr → Int → Ds → Prop
  | v {a vs n i v d} : Got C.led a (listObj vs n) → 0 ≤ i → i < 1000000 → vs[i.toNat]? = some v → ValD v d → ItemR C a i d
  | t {a vs n xs} {i : Int} : Got C.led a (listObj vs n) → TV vs xs → Ar (0 ≤ i) → Ar (i < xs.length) → Ar (xs.length ≤ 100000) → Ar (∀ x ∈ xs, x.length ≤ 1000) → ItemR C a i (.t (xs.getD i.toNat []))
inductive SubR (C : Cx) : Ds → Ds → Ds → Prop
  | last {l} : Ar (l ≠ []) → SubR C (.t l) (.i (-1)) (.t [l.getLastD 0])
  | item {l} {i : Int} : Ar (0 ≤ i) → Ar (i < l.length) → Small l → SubR C (.t l) (.i i) (.t [l.getD i.toNat 0])
  | lastL {a d} : LastR C a d → SubR C (.v (.ref a)) (.i (-1)) d
  | itemL {a i d} : ItemR C a i d → SubR C (.v (.ref a)) (.i i) d
inductive BinR : Operator → Ds → Ds → Ds → Prop
  | add {i j} : BinR .Add (.i i) (.i j) (.i (i + j))
  | sub {i j} : BinR .Sub (.i i) (.i j) (.i (i - j))
  | mod {i j} : Ar (0 < j) → BinR .Mod (.i i) (.i j) (.i (i % j))
  | div {i j} : Ar (0 < j) → Ar (j.natAbs.log2 < 64) → BinR .FloorDiv (.i i) (.i j) (.i (i / j))
  | cat {l m} : Small (l ++ m) → BinR .Add (.t l) (.t m) (.t (l ++ m))
  | mul {c} {i : Int} : Ar (0 ≤ i) → Ar (i ≤ 1000000) → BinR .Mult (.t [c]) (.i i) (.t (List.replicate i.toNat c))
inductive LenR (C : Cx) : Ds → Nat → Prop
  | t {l} : Small l → LenR C (.t l) l.length
  | l {a vs n} : Got C.led a (listObj vs n) → Ar (vs.length ≤ sizeLine) → LenR C (.v (.ref a)) vs.length
inductive PlainIx : Expr → Prop
  | name {x p} : PlainIx (.Name x p)
  | const {c k p} : PlainIx (.Constant c k p)
  | bin {a o b p} : PlainIx (.BinOp a o b p)
  | un {o a p} : PlainIx (.UnaryOp o a p)
theorem PlainIx.eq {e} (h : PlainIx e) (o i : Value) : subscripted e false o i = operate [o, i] (getItem o i) := by cases h <;> rfl
inductive NoStar : Expr → Prop
  | name {x p} : NoStar (.Name x p)
  | const {c k p} : NoStar (.Constant c k p)
  | bin {a o b p} : NoStar (.BinOp a o b p)
  | sub {a b p} : NoStar (.Subscript a b p)
theorem NoStar.eq {e r} (h : NoStar e) (env : Env) : starEach (e :: r) env = (false, eval e env) :: starEach r env := by cases h <;> rfl
inductive Ev (C : Cx) : Expr → Ds → Prop
  | name {x pos v d} : Fd C.names C.vals x v → ValD v d → Ev C (.Name x pos) d
  | str {x l k pos} : Lit x l → Ev C (.Constant (.str (Str.ofString x)) k pos) (.t l)
  | int {i k pos} : Ev C (.Constant (.int i) k pos) (.i i)
  | sub {e f pos d1 d2 d} : Ev C e d1 → Ev C f d2 → PlainIx f → SubR C d1 d2 d → Ev C (.Subscript e f pos) d
  | bin {e o f pos d1 d2 d} : Ev C e d1 → Ev C f d2 → BinR o d1 d2 d → Ev C (.BinOp e o f pos) d
  | neg {e i pos} : Ev C e (.i i) → Ev C (.UnaryOp .USub e pos) (.i (-i))
  | len {e p pos d n} : Ev C e d → NoStar e → LenR C d n → In1 C.gl "len" → Ev C (.Call (.Name "len" p) [e] [] pos) (.i n)
inductive CmpR (C : Cx) : CmpOp → Ds → Ds → Prop → Prop
  | eqT {l m} : CmpR C .Eq (.t l) (.t m) (l = m)
  | eqI {i j} : CmpR C .Eq (.i i) (.i j) (i = j)
  | neT {l m} : CmpR C .NotEq (.t l) (.t m) (l ≠ m)
  | neI {i j} : CmpR C .NotEq (.i i) (.i j) (i ≠ j)
  | gtT {l m} : CmpR C .Gt (.t l) (.t m) (m < l)
  | gtI {i j} : CmpR C .Gt (.i i) (.i j) (j < i)
  | ltI {i j} : CmpR C .Lt (.i i) (.i j) (i < j)
  | geI {i j} : CmpR C .GtE (.i i) (.i j) (j ≤ i)
  | in1 {c l} : CmpR C .In (.t [c]) (.t l) (c ∈ l)
  | inT {l m} : CmpR C .In (.t m) (.t l) (con l m = true)
  | inL {l a vs n xs} : Got C.led a (listObj vs n) → TV vs xs → CmpR C .In (.t l) (.v (.ref a)) (l ∈ xs)
  | notIn1 {c l} : CmpR C .NotIn (.t [c]) (.t l) (c ∉ l)
inductive TruR (C : Cx) : Ds → Prop → Prop
  | t {l} : Small l → TruR C (.t l) (l ≠ [])
  | l {a vs n} : Got C.led a (listObj vs n) → Ar (vs.length ≤ sizeLine) → TruR C (.v (.ref a)) (vs ≠ [])
  | b {b} : TruR C (.v (.bool b)) (b = true)
inductive EvL (C : Cx) : List Expr → List (List Nat) → Prop
  | nil : EvL C [] []
  | cons {e r l ls} : Ev C e (.t l) → NoStar e → EvL C r ls → EvL C (e :: r) (l :: ls)
inductive EvC (C : Cx) : Expr → Prop → Prop
  | name {x pos v d c} : Fd C.names C.vals x v → ValD v d → TruR C d c → EvC C (.Name x pos) c
  | cmp {e o f pos d1 d2 c} : Ev C e d1 → Ev C f d2 → CmpR C o d1 d2 c → EvC C (.Compare e [o] [f] pos) c
  | not {e pos c} : EvC C e c → EvC C (.UnaryOp .Not e pos) (¬ c)
  | and1 {e pos c} : EvC C e c → EvC C (.BoolOp .And [e] pos) c
  | and {e f r pos c1 c2} : EvC C e c1 → (c1 → EvC C (.BoolOp .And (f :: r) pos) c2) → EvC C (.BoolOp .And (e :: f :: r) pos) (c1 ∧ c2)
  | or1 {e pos c} : EvC C e c → EvC C (.BoolOp .Or [e] pos) c
  | or {e f r pos c1 c2} : EvC C e c1 → (¬ c1 → EvC C (.BoolOp .Or (f :: r) pos) c2) → EvC C (.BoolOp .Or (e :: f :: r) pos) (c1 ∨ c2)
inductive EvH (C : Cx) : Expr → Prop → Prop
  | eqNil {e pos p1 a vs n} : Ev C e (.v (.ref a)) → Got C.led a (listObj vs n) → EvH C (.Compare e [.Eq] [.List [] p1] pos) (vs = [])
  | neNil {e pos p1 a vs n} : Ev C e (.v (.ref a)) → Got C.led a (listObj vs n) → EvH C (.Compare e [.NotEq] [.List [] p1] pos) (vs ≠ [])
  | eqD {e es pos p1 a vs n xs ys} : Ev C e (.v (.ref a)) → Got C.led a (listObj vs n) → TV vs xs → EvL C es ys → Ar (es.length ≤ 100) → EvH C (.Compare e [.Eq] [.List es p1] pos) (xs = ys)
  | inD {e es pos p1 l ys} : Ev C e (.t l) → EvL C es ys → Ar (es.length ≤ 100) → EvH C (.Compare e [.In] [.List es p1] pos) (l ∈ ys)
  | not {e pos c} : EvH C e c → EvH C (.UnaryOp .Not e pos) (¬ c)
  | and1 {e pos c} : EvH C e c → EvH C (.BoolOp .And [e] pos) c
  | and {e f r pos c1 c2} : EvH C e c1 → (c1 → EvH C (.BoolOp .And (f :: r) pos) c2) → EvH C (.BoolOp .And (e :: f :: r) pos) (c1 ∧ c2)
  | or1 {e pos c} : EvH C e c → EvH C (.BoolOp .Or [e] pos) c
  | or {e f r pos c1 c2} : EvH C e c1 → (¬ c1 → EvH C (.BoolOp .Or (f :: r) pos) c2) → EvH C (.BoolOp .Or (e :: f :: r) pos) (c1 ∨ c2)
  | of {e c} : EvC C e c → EvH C e c
section
variable {C : Cx} {e : Expr} {pos : Pos} {xs : List (List Nat)} {c : Prop} {dd d1 d2 : Ds} {h : Heap} {tk : Nat}
theorem SubR.run (r : SubR C d1 d2 dd) {f : Expr} (hp : PlainIx f) (ok : C.Ok h) {u v : Value} (h1 : d1.has u) (h2 : d2.has v) {Q : Value → Shared → Prop} (q : ∀ v tk', dd.has v → Q v (C.at h tk')) :
    wpAny (model C.prog C.w) C.A (subscriptTail e f u v) Q C.E (C.at h tk) := by
  cases r with
  | last h0 =>
    obtain ⟨t, rfl⟩ := h1; obtain ⟨t2, rfl⟩ := h2
    exact itemLast h0 (fun t' k' => q _ _ ⟨_, rfl⟩) (hp.eq _ _) (fun _ => by cases e <;> rfl)
  | item h0 hk hl =>
    obtain ⟨t, rfl⟩ := h1; obtain ⟨t2, rfl⟩ := h2
    exact itemT h0 hk hl (fun t' k' => q _ _ ⟨_, rfl⟩) (hp.eq _ _) (fun _ => by cases e <;> rfl)
  | lastL r =>
    cases h1; obtain ⟨t2, rfl⟩ := h2
    cases r with
    | v hg hl hd => exact itemListLast ok.2 hg hl (q _ _ hd.has) (hp.eq _ _)
    | t hg hv h0 => exact itemLastTV ok.2 hg hv (by rw [hv.len]; exact h0) (fun t' => q _ _ ⟨_, rfl⟩) (hp.eq _ _)
  | itemL r =>
    cases h1; obtain ⟨t2, rfl⟩ := h2
    cases r with
    | v hg h0 hk hx hd => exact itemList ok.2 hg h0 hk hx (q _ _ hd.has) (hp.eq _ _)
    | t hg hv h0 hk hl hb => exact itemTV ok.2 hg hv h0 hk hl hb (fun t' _ => q _ _ ⟨_, rfl⟩) (hp.eq _ _)
theorem BinR.run {o : Operator} (r : BinR o d1 d2 dd) {u v : Value} (h1 : d1.has u) (h2 : d2.has v) {Q : Value → Shared → Prop} (q : ∀ v tk', dd.has v → Q v (C.at h tk')) :
    wpAny (model C.prog C.w) C.A (binaryOp o u v) Q C.E (C.at h tk) := by
  cases r <;> (obtain ⟨t, rfl⟩ := h1; obtain ⟨t2, rfl⟩ := h2)
  · exact PyProof.Rows.add_int (q _ _ ⟨_, rfl⟩)
  · exact PyProof.Rows.sub_int (q _ _ ⟨_, rfl⟩)
  · exact modZ (by assumption) (fun t' k' => q _ _ ⟨_, rfl⟩)
  · exact divZ (by assumption) (by assumption) (fun t' k' => q _ _ ⟨_, rfl⟩)
  · exact addT (by assumption) (fun t' k' => q _ _ ⟨_, rfl⟩)
  · exact mulZ (by assumption) (by assumption) (fun t' k' => q _ _ ⟨_, rfl⟩)
theorem Ev.run (H : Ev C e dd) : ∀ {tk : Nat} {Q : Value → Shared → Prop}, C.Ok h → (∀ v tk', dd.has v → Q v (C.at h tk')) → wpAny (model C.prog C.w) C.A (eval e C.env) Q C.E (C.at h tk) := by
  induction H with
  | name f hv => exact fun ok q => nameL ok.1 ok.2 f (q _ _ hv.has)
  | str hx => exact fun ok q => constT hx (q _ _ ⟨_, rfl⟩)
  | int => exact fun ok q => wpAny_Constant_int (q _ _ ⟨_, rfl⟩)
  | sub _ _ hp r ih1 ih2 => exact fun ok q => Subscript_ (ih1 ok fun v tk1 e1 => ih2 ok fun u tk2 e2 => r.run hp ok e1 e2 q)
  | bin _ _ r ih1 ih2 => exact fun ok q => wpAny_BinOp (ih1 ok fun v tk1 e1 => ih2 ok fun u tk2 e2 => r.run e1 e2 q)
  | neg _ ih => exact fun ok q => UnaryOp_ (ih ok fun v tk1 ⟨t, e1⟩ => by subst e1; exact neg_int (q _ _ ⟨_, rfl⟩))
  | len _ hs hl hg ih =>
    refine fun ok q => Call_ (nameB ok.1 ok.2 hg (v := .builtin "len") .here (callWith_builtin1 (args_cons (ih ok fun v tk1 e1 => args_nil ?_) (hs.eq _)) (hs.eq _)))
    cases hl with
    | t hl => obtain ⟨t, rfl⟩ := e1; exact Mine.lenT hl (fun t' k' => q _ _ ⟨_, rfl⟩)
    | l g hl => cases e1; exact lenListF (ok.2.get g) hl (fun t' k' => q _ _ ⟨_, rfl⟩)
theorem CmpR.run {o : CmpOp} (r : CmpR C o d1 d2 c) (ok : C.Ok h) {u v : Value} (h1 : d1.has u) (h2 : d2.has v) {Q : Value → Shared → Prop} (q : ∀ b, (b = true ↔ c) → Q (.bool b) (C.at h tk)) :
    wpAny (model C.prog C.w) C.A (compareOp o u v) Q C.E (C.at h tk) := by
  cases r <;> (obtain ⟨t, rfl⟩ := h1; first | (obtain ⟨t2, rfl⟩ := h2) | (cases h2))
  · exact Mine.eqT (q _ decide_eq_true_iff)
  · exact PyProof.Rows.eq_int (q _ beq_iff_eq)
  · exact Mine.neT (q _ decide_eq_true_iff)
  · exact PyProof.Rows.ne_int (q _ bne_iff_ne)
  · exact Mine.gtT (q _ decide_eq_true_iff)
  · exact PyProof.Rows.gt_int (q _ decide_eq_true_iff)
  · exact PyProof.Rows.lt_int (q _ decide_eq_true_iff)
  · exact PySem.P.ge_int (q _ decide_eq_true_iff)
  · exact Mine.inT (q _ decide_eq_true_iff)
  · exact Mine.inTT (q _ Iff.rfl)
  · exact inTextsF (ok.2.get (by assumption)) (by assumption) (q _ decide_eq_true_iff)
  · exact Mine.notInT (q _ decide_eq_true_iff)
theorem behind_of {C : Cx} {o : CmpOp} {d : Ds} (h : Ev C e d) : behindInMarks o e = false := by cases h <;> rfl
theorem EvC.run (H : EvC C e c) : ∀ {tk : Nat} {Q : Bool → Shared → Prop}, C.Ok h → (∀ b tk', (b = true ↔ c) → Q b (C.at h tk')) → wpAny (model C.prog C.w) C.A (isTrue e C.env (eval e C.env)) Q C.E (C.at h tk) := by
  induction H with
  | name f hv r =>
    refine fun ok q => isTrue_plain (nameL ok.1 ok.2 f ?_) rfl
    cases r with
    | t hl => obtain ⟨t, rfl⟩ := hv.has; exact truthyT hl fun _ => q _ _ decide_eq_true_iff
    | l g hl => cases hv.has; exact truthyList ok.2 g hl fun _ => q _ _ decide_eq_true_iff
    | b => cases hv.has; exact wpAny_truthy_bool (q _ _ Iff.rfl)
  | cmp h1 h2 r => exact fun ok q => wpAny_isTrue_Compare1 (h1.run ok fun v tk1 p1 => h2.run ok fun u tk2 p2 => r.run ok p1 p2 fun b hb => wpAny_truthy_bool (q _ _ hb)) (behind_of h2)
  | not _ ih => exact fun ok q => isTrue_not (ih ok fun b tk' hb => q _ _ (by cases b <;> simp [← hb]))
  | and1 _ ih =>
    exact fun ok q => isTrue_and (ih ok fun b tk' hb => by
      cases b
      · exact q _ _ hb
      · exact isTrue_and_nil (q _ _ hb))
  | and _ _ ih1 ih2 =>
    exact fun ok q => isTrue_and (ih1 ok fun b tk' hb => by
      cases b
      · exact q _ _ ⟨fun x => (nomatch x), fun x => (hb.mpr x.1)⟩
      · exact ih2 (hb.mp rfl) ok fun b' tk2 hb' => q _ _ ⟨fun x => ⟨hb.mp rfl, hb'.mp x⟩, fun x => hb'.mpr x.2⟩)
  | or1 _ ih =>
    exact fun ok q => isTrue_or (ih ok fun b tk' hb => by
      cases b
      · exact isTrue_or_nil (q _ _ hb)
      · exact q _ _ hb)
  | or _ _ ih1 ih2 =>
    exact fun ok q => isTrue_or (ih1 ok fun b tk' hb => by
      cases b
      · exact ih2 (fun x => nomatch hb.mpr x) ok fun b' tk2 hb' => q _ _ ⟨fun x => .inr (hb'.mp x), fun x => x.elim (fun y => nomatch hb.mpr y) hb'.mpr⟩
      · exact q _ _ ⟨fun _ => .inl (hb.mp rfl), fun _ => rfl⟩)
theorem EvL.run {es : List Expr} (h1 : EvL C es xs) : ∀ {Q : List Value → Shared → Prop} {tk : Nat}, C.Ok h → (∀ ws tk', TV ws xs → Q ws (C.at h tk')) → wpAny (model C.prog C.w) C.A (spliced (backTo pos (starEach es C.env))) Q C.E (C.at h tk) := by
  induction h1 with
  | nil => exact fun ok q => args_nil (q _ _ .nil)
  | cons h1 hs _ ih => exact fun ok q => args_cons (h1.run ok fun v tk' ⟨t, e⟩ => ih ok fun ws tk2 hw => by subst e; exact q _ _ (.cons hw)) (hs.eq _)
theorem EvL.list {es : List Expr} (h1 : EvL C es xs) (hl : es.length ≤ 100) (ok : C.Ok h) {Q : Value → Shared → Prop}
    (q : ∀ ws h' r tk', TV ws xs → C.Ok h' ∧ Keep h h' ∧ h.get? r = none → Fm C.b C.L C.names C.vals ((r, listObj ws) :: C.led) h' → Q (.ref r) (C.at h' tk')) : wpAny (model C.prog C.w) C.A (eval (.List es pos) C.env) Q C.E (C.at h tk) := by
  have hx : es.length = xs.length := by
    clear ok q hl
    induction h1 with
    | nil => rfl
    | cons _ _ _ ih => simp [ih]
  exact List_ (h1.run ok fun ws tk' hw => newListF ok.2 (by rw [hw.len, sizeLine_eq, ← hx]; exact ar_to hl _) fun h' r k n F' => q _ _ _ _ hw ⟨⟨ok.1, ok.2.went k⟩, k, n⟩ F')
theorem EvH.run (H : EvH C e c) (hr : C.A.units < cLine) : ∀ {h : Heap} {tk : Nat} {Q : Bool → Shared → Prop}, C.Ok h → (∀ b h' tk', C.Ok h' → (b = true ↔ c) → Q b (C.at h' tk')) → wpAny (model C.prog C.w) C.A (isTrue e C.env (eval e C.env)) Q C.E (C.at h tk) := by
  induction H with
  | eqNil h1 hg =>
    exact fun ok q => wpAny_isTrue_Compare1 (h1.run ok fun v tk1 e1 => (EvL.nil (C := C)).list (by decide) ok fun ws h' r tk' hw ok' F' => by
      cases e1; cases hw
      exact eqNilF hr (ok'.1.2.get hg) (F'.get .here) (wpAny_truthy_bool (q _ _ _ ok'.1 decide_eq_true_iff))) rfl
  | neNil h1 hg =>
    exact fun ok q => wpAny_isTrue_Compare1 (h1.run ok fun v tk1 e1 => (EvL.nil (C := C)).list (by decide) ok fun ws h' r tk' hw ok' F' => by
      cases e1; cases hw
      exact neNilF hr (ok'.1.2.get hg) (F'.get .here) (wpAny_truthy_bool (q _ _ _ ok'.1 decide_eq_true_iff))) rfl
  | eqD h1 hg hv h2 hl =>
    exact fun ok q => wpAny_isTrue_Compare1 (h1.run ok fun v tk1 e1 => h2.list hl ok fun ws h' r tk' hw ok' F' => by
      cases e1
      exact eqTextsF hr (ok'.1.2.get hg) (F'.get .here) hv hw (wpAny_truthy_bool (q _ _ _ ok'.1 decide_eq_true_iff))) rfl
  | inD h1 h2 hl =>
    exact fun ok q => wpAny_isTrue_Compare1 (h1.run ok fun v tk1 ⟨t, e1⟩ => h2.list hl ok fun ws h' r tk' hw ok' F' => by
      cases e1
      exact inTextsF (F'.get .here) hw (wpAny_truthy_bool (q _ _ _ ok'.1 decide_eq_true_iff))) rfl
  | not _ ih => exact fun ok q => isTrue_not (ih ok fun b h' tk' ok' hb => q _ _ _ ok' (by cases b <;> simp [← hb]))
  | and1 _ ih =>
    exact fun ok q => isTrue_and (ih ok fun b h' tk' ok' hb => by
      cases b
      · exact q _ _ _ ok' hb
      · exact isTrue_and_nil (q _ _ _ ok' hb))
  | and _ _ ih1 ih2 =>
    exact fun ok q => isTrue_and (ih1 ok fun b h' tk' ok' hb => by
      cases b
      · exact q _ _ _ ok' ⟨fun x => (nomatch x), fun x => (hb.mpr x.1)⟩
      · exact ih2 (hb.mp rfl) ok' fun b' h3 tk2 ok3 hb' => q _ _ _ ok3 ⟨fun x => ⟨hb.mp rfl, hb'.mp x⟩, fun x => hb'.mpr x.2⟩)
  | or1 _ ih =>
    exact fun ok q => isTrue_or (ih ok fun b h' tk' ok' hb => by
      cases b
      · exact isTrue_or_nil (q _ _ _ ok' hb)
      · exact q _ _ _ ok' hb)
  | or _ _ ih1 ih2 =>
    exact fun ok q => isTrue_or (ih1 ok fun b h' tk' ok' hb => by
      cases b
      · exact ih2 (fun x => nomatch hb.mpr x) ok' fun b' h3 tk2 ok3 hb' => q _ _ _ ok3 ⟨fun x => .inr (hb'.mp x), fun x => x.elim (fun y => nomatch hb.mpr y) hb'.mpr⟩
      · exact q _ _ _ ok' ⟨fun _ => .inl (hb.mp rfl), fun _ => rfl⟩)
  | of h1 => exact fun ok q => h1.run ok fun b tk' hb => q _ _ _ ok hb
end
theorem bd_one {ys : List (List Nat)} {k : Nat} (h : ∀ y ∈ ys, y.length ≤ 1000) : ∀ x ∈ [ys.getD k []], x.length ≤ 1000 := fun x m => by
  rw [List.mem_singleton.mp m, List.getD_eq_getElem?_getD]
  cases e : ys[k]? with
  | none => exact Nat.zero_le _
  | some y => exact h y (List.mem_of_getElem? e)
theorem TV.pos {vs : List Value} {xs : List (List Nat)} (v : TV vs xs) (h : vs ≠ []) : 0 < xs.length := by
  rw [← v.len]; exact List.length_pos_iff.mpr h
theorem TV.nil_iff {vs : List Value} {xs : List (List Nat)} (v : TV vs xs) : vs = [] ↔ xs = [] := by rw [← List.length_eq_zero_iff, v.len, List.length_eq_zero_iff]
theorem Small.getD {ys : List (List Nat)} {k : Nat} (h : ∀ y ∈ ys, y.length ≤ 1000) : Small (ys.getD k []) := Nat.le_trans (bd_one (k := k) h _ List.mem_cons_self) (by decide)
theorem pos_nn {l : List Nat} (h : ¬¬ l ≠ []) : (0 : Int) < l.length := by
  exact Int.ofNat_lt.mpr (List.length_pos_iff.mpr (Decidable.not_not.mp h))
theorem ne_one {ys : List (List Nat)} {k : Nat} (h : NE ys) (hk : k < ys.length) : [ys.getD k []].getD (Int.toNat 0) [] ≠ [] := h.at hk
section
variable {prog : Program} {w : World} {A : Around} {E : Value → Shared → Prop} {env : Env} {b h : Heap} {g : Array GenState} {d : Drawn} {tk : Nat} {os : OsState} {L : Addr} {names gl : List Str} {vals : List (Option Value)} {led : List (Addr × Obj)}
  {e : Expr} {l : List Nat} {i : Int} {v : Value} {c : Prop}
/-- what a value's continuation must serve -/
@[reducible] noncomputable def Ds.serve : Ds → (Value → Nat → Prop) → Prop
  | .t l, K => ∀ t tk', K (.str (T l) t) tk'
  | .i n, K => ∀ t tk', K (.int n t) tk'
  | .v v, K => ∀ tk', K v tk'
theorem useE {Q : Value → Shared → Prop} {dd : Ds} (X : FE env L names gl) (F : Fm b L names vals led h) (H : Ev ⟨prog, w, A, E, env, g, d, os, b, L, names, vals, led, gl⟩ e dd) (q : dd.serve fun v tk' => Q v ⟨h, g, d, tk', os⟩) :
    wpAny (model prog w) A (eval e env) Q E ⟨h, g, d, tk, os⟩ :=
  H.run ⟨X, F⟩ fun v tk' hv => by
    cases dd with
    | t l => obtain ⟨t, rfl⟩ := hv; exact q _ _
    | i n => obtain ⟨t, rfl⟩ := hv; exact q _ _
    | v u => cases hv; exact q _
theorem useC {Y Z : Shared → Prop} (X : FE env L names gl) (F : Fm b L names vals led h) (H : EvC ⟨prog, w, A, E, env, g, d, os, b, L, names, vals, led, gl⟩ e c) (q1 : c → ∀ tk', Y ⟨h, g, d, tk', os⟩) (q2 : ¬ c → ∀ tk', Z ⟨h, g, d, tk', os⟩) :
    wpAny (model prog w) A (isTrue e env (eval e env)) (fun b s => if b = true then Y s else Z s) E ⟨h, g, d, tk, os⟩ :=
  H.run ⟨X, F⟩ fun b tk' hb => by
    cases b
    · exact q2 (fun x => nomatch hb.mpr x) tk'
    · exact q1 (hb.mp rfl) tk'
theorem useCt {Y Z : Shared → Prop} (X : FE env L names gl) (F : Fm b L names vals led h) (H : EvC ⟨prog, w, A, E, env, g, d, os, b, L, names, vals, led, gl⟩ e c) (hc : c) (q1 : ∀ tk', Y ⟨h, g, d, tk', os⟩) :
    wpAny (model prog w) A (isTrue e env (eval e env)) (fun b s => if b = true then Y s else Z s) E ⟨h, g, d, tk, os⟩ := useC X F H (fun _ => q1) fun x => absurd hc x
theorem useCf {Y Z : Shared → Prop} (X : FE env L names gl) (F : Fm b L names vals led h) (H : EvC ⟨prog, w, A, E, env, g, d, os, b, L, names, vals, led, gl⟩ e c) (hc : ¬ c) (q2 : ∀ tk', Z ⟨h, g, d, tk', os⟩) :
    wpAny (model prog w) A (isTrue e env (eval e env)) (fun b s => if b = true then Y s else Z s) E ⟨h, g, d, tk, os⟩ := useC X F H (fun x => absurd x hc) fun _ => q2
theorem useL {es : List Expr} {xs : List (List Nat)} {pos : Pos} {Q : Value → Shared → Prop} (X : FE env L names gl) (F : Fm b L names vals led h) (H : EvL ⟨prog, w, A, E, env, g, d, os, b, L, names, vals, led, gl⟩ es xs) (hl : es.length ≤ 100)
    (q : ∀ ws h' r tk', TV ws xs → Keep h h' → h.get? r = none → Fm b L names vals ((r, listObj ws) :: led) h' → Q (.ref r) ⟨h', g, d, tk', os⟩) : wpAny (model prog w) A (eval (.List es pos) env) Q E ⟨h, g, d, tk, os⟩ :=
  H.list hl ⟨X, F⟩ fun ws h' r tk' hw hk F' => q _ _ _ _ hw hk.2.1 hk.2.2 F'
theorem TV.two {ws : List Value} {x y : List Nat} (h : TV ws [x, y]) : ∃ t1 t2, ws = [.str (T x) t1, .str (T y) t2] := by
  cases h with | cons h => cases h with | cons h => cases h; exact ⟨_, _, rfl⟩
theorem useH {Y Z : Shared → Prop} (X : FE env L names gl) (F : Fm b L names vals led h) (hr : A.units < cLine) (H : EvH ⟨prog, w, A, E, env, g, d, os, b, L, names, vals, led, gl⟩ e c)
    (q1 : c → ∀ h' tk', Fm b L names vals led h' → Y ⟨h', g, d, tk', os⟩) (q2 : ¬ c → ∀ h' tk', Fm b L names vals led h' → Z ⟨h', g, d, tk', os⟩) :
    wpAny (model prog w) A (isTrue e env (eval e env)) (fun b s => if b = true then Y s else Z s) E ⟨h, g, d, tk, os⟩ :=
  H.run hr ⟨X, F⟩ fun b h' tk' ok hb => by
    cases b
    · exact q2 (fun x => nomatch hb.mpr x) h' tk' ok.2
    · exact q1 (hb.mp rfl) h' tk' ok.2
theorem useHf {Y Z : Shared → Prop} (X : FE env L names gl) (F : Fm b L names vals led h) (hr : A.units < cLine) (H : EvH ⟨prog, w, A, E, env, g, d, os, b, L, names, vals, led, gl⟩ e c) (hc : ¬ c)
    (q2 : ∀ h' tk', Fm b L names vals led h' → Z ⟨h', g, d, tk', os⟩) : wpAny (model prog w) A (isTrue e env (eval e env)) (fun b s => if b = true then Y s else Z s) E ⟨h, g, d, tk, os⟩ := useH X F hr H (fun x => absurd x hc) fun _ => q2
end
end

-- lines
local macro_rules | `(tactic| walk_at "m fd") => `(tactic| first | exact Fd.here | (apply Fd.there; walk_at "m fd"))
local macro_rules | `(tactic| walk_at "m up") => `(tactic| first | exact Up.here | (apply Up.there; walk_at "m up"))
local macro_rules | `(tactic| walk_at "m in") => `(tactic| first | exact In1.here | (apply In1.there; walk_at "m in"))
local macro_rules | `(tactic| walk_at "m got") => `(tactic| first | exact Got.here | assumption | (apply Got.there; walk_at "m got"))
local macro_rules | `(tactic| walk_at "m put") => `(tactic| first | exact Put.here | (apply Put.there; walk_at "m put"))
local macro_rules | `(tactic| walk_at "m go") => `(tactic| repeat' (first | walk1 | (dsimp only; walk1)))
local macro_rules | `(tactic| walk_at "m rm") => `(tactic| (exact Rm.mono (by assumption) (by decide)))
local macro_rules | `(tactic| walk_at "eval Constant str") => `(tactic| (refine constT (by with_reducible constructor) ?_))
local macro_rules | `(tactic| walk_at "eval Name") => `(tactic| first
  | (refine nameL (by assumption) (by assumption) (by walk_at "m fd") ?_)
  | (refine nameG (by assumption) (by assumption) (by walk_at "m in") (by walk_at "m in") ?_)
  | (refine nameB (by assumption) (by assumption) (by walk_at "m in") (by walk_at "m in") ?_))
local macro_rules | `(tactic| walk_at "loadName") => `(tactic| (refine loadL (by assumption) (by assumption) (by walk_at "m fd") ?_))
local macro_rules | `(tactic| walk_at "callWith ref") => `(tactic| (refine callG (by assumption) (by walk_at "m in") ?_))
local macro_rules | `(tactic| walk_at "And") => `(tactic| first | (refine ⟨⟨_, _, by assumption⟩, ?_⟩) | (refine ⟨⟨_, _, by assumption, by walk_at "m got"⟩, ?_⟩))
local macro_rules | `(tactic| walk_at "m int") => `(tactic| first | assumption | decide | exact Int.natCast_nonneg _ | exact ar_to (by assumption) _ | (first | exact ar_to (by assumption) _ | lia | omega) | (simp only [List.length_cons, List.length_nil, List.length_append]; (first | exact ar_to (by assumption) _ | lia | omega)))
local macro_rules | `(tactic| walk_at "m small") => `(tactic| first | assumption | exact Small.getD (by assumption) | exact Small.nil | exact Small.one | exact Small.take (by assumption) | exact Small.drop (by assumption) | exact Small.cut (by assumption) | exact Small.last (by assumption) | exact ar_to (by assumption) 1000000 | (unfold Small at *; (try simp only [List.length_append, List.length_cons, List.length_nil, List.length_take, List.length_drop, List.length_dropLast, List.length_replicate] at *); (first | exact ar_to (by assumption) _ | lia | omega)))
local macro_rules | `(tactic| walk_at "compareOp Eq str str") => `(tactic| (refine eqT ?_))
local macro_rules | `(tactic| walk_at "compareOp NotEq str str") => `(tactic| (refine neT ?_))
local macro_rules | `(tactic| walk_at "compareOp NotIn str str") => `(tactic| (refine notInT ?_))
local macro_rules | `(tactic| walk_at "call builtin:str.startswith") => `(tactic| (refine startsT ?_))
local macro_rules | `(tactic| walk_at "call builtin:str.endswith") => `(tactic| (refine endsT ?_))
local macro_rules | `(tactic| walk_at "call builtin:str.replace") => `(tactic| (refine replT (by walk_at "m small") (by decide) (by walk_at "m int") (by walk_at "m int") (by walk_at "m int") (by decide) ?_; intro _ _))
local macro_rules | `(tactic| walk_at "exec Assign cons") => `(tactic| ((with_reducible show wpAny _ _ (exec (Stmt.Assign [Expr.Tuple _ _ _] _ _) _) _ _ _); first
  | (refine Assign_Tuple ?_ rfl (swap_at (by assumption) (fun _ _ => by with_unfolding_all rfl)))
  | (refine Assign_swapped2 ?_ rfl (swap_at (by assumption) (fun _ _ => by with_unfolding_all rfl)))))
local macro_rules | `(tactic| walk_at "m len") => `(tactic| first | exact Nat.le_of_ble_eq_true rfl | assumption | exact ar_to (by assumption) 16777216 | (rw [sizeLine_eq]; (try simp only [List.length_append, List.length_cons, List.length_nil] at *); (first | exact ar_to (by assumption) _ | lia | omega)))
local macro_rules | `(tactic| walk_at "exec Expr") => `(tactic| (refine exprF (by assumption) ?_))
local macro_rules | `(tactic| walk_at "getMethod ref") => `(tactic| first
  | (refine getAppendF (by assumption) (by walk_at "m got") ?_; try dsimp only)
  | (refine getPopF (by assumption) (by walk_at "m got") ?_; try dsimp only)
  | (refine getDictGetF (by assumption) ?_))
local macro_rules | `(tactic| walk_at "m tv") => `(tactic| first | assumption | exact TV.nil | (apply TV.cons; walk_at "m tv"))
local macro_rules | `(tactic| walk_at "m substr") => `(tactic| first
  | ((with_reducible show wpAny _ _ (subscriptTail _ (Expr.Slice (some _) (some _) none _) (Value.str _ _) _) _ _ _); refine sliceSS (by assumption) (by walk_at "m int") (by walk_at "m int") (by walk_at "m small") ?_; intro _ _ _ _)
  | ((with_reducible show wpAny _ _ (subscriptTail _ (Expr.Slice none (some (Expr.UnaryOp _ _ _)) none _) (Value.str _ _) _) _ _ _); refine sliceN1 (by assumption) (by walk_at "m small") ?_; intro _ _ _ _)
  | ((with_reducible show wpAny _ _ (subscriptTail _ (Expr.Slice none (some _) none _) (Value.str _ _) _) _ _ _); refine sliceNS (by assumption) (by walk_at "m int") (by walk_at "m small") ?_; intro _ _ _ _)
  | ((with_reducible show wpAny _ _ (subscriptTail _ (Expr.Slice (some _) none none _) (Value.str _ _) _) _ _ _); refine sliceSN (by assumption) (by walk_at "m int") (by walk_at "m small") ?_; intro _ _ _ _)
  | ((with_reducible show wpAny _ _ (subscriptTail _ (Expr.UnaryOp _ _ _) (Value.str _ _) _) _ _ _); refine itemLast (by first | assumption | exact NE.at (by assumption) (by walk_at "m int") | exact NE.last (by assumption) (by walk_at "m int")) ?_; intro _ _)
  | ((with_reducible show wpAny _ _ (subscriptTail _ _ (Value.str _ _) (Value.int _ _)) _ _ _); refine itemT (by walk_at "m int") (by walk_at "m int") (by walk_at "m small") ?_; intro _ _))
local macro_rules | `(tactic| walk_at "m subref") => `(tactic| first
  | ((with_reducible show wpAny _ _ (subscriptTail _ (Expr.UnaryOp _ _ _) (Value.ref _) _) _ _ _); refine itemListLast (by assumption) (by walk_at "m got") (by first | assumption | exact lastSnoc | rfl) ?_)
  | ((with_reducible show wpAny _ _ (subscriptTail _ (Expr.UnaryOp _ _ _) (Value.ref _) _) _ _ _); refine itemLastTV (by assumption) (by walk_at "m got") (by walk_at "m tv") (by walk_at "m int") ?_; intro _)
  | ((with_reducible show wpAny _ _ (subscriptTail _ _ (Value.ref _) (Value.int _ _)) _ _ _); refine itemList (by assumption) (by walk_at "m got") (by walk_at "m int") (by walk_at "m int") (by first | assumption | rfl) ?_)
  | ((with_reducible show wpAny _ _ (subscriptTail _ _ (Value.ref _) (Value.int _ _)) _ _ _); refine itemTV (by assumption) (by walk_at "m got") (by walk_at "m tv") (by walk_at "m int") (by walk_at "m int") (by first | decide | assumption) (by first | decide | assumption) ?_; intro _ _))
local macro_rules | `(tactic| walk_at "subscriptTail") => `(tactic| first | (walk_at "m substr") | (walk_at "m subref"))
local macro_rules | `(tactic| walk_at "subscriptTail Name Slice str ref") => `(tactic| (walk_at "m substr"))
local macro_rules | `(tactic| walk_at "subscriptTail Name Name ref int") => `(tactic| (walk_at "m subref"))
local macro_rules | `(tactic| walk_at "subscriptTail Name Constant ref int") => `(tactic| (walk_at "m subref"))
local macro_rules | `(tactic| walk_at "subscriptTail Name UnaryOp ref int") => `(tactic| (walk_at "m subref"))
local macro_rules | `(tactic| walk_at "subscriptTail Name BinOp ref int") => `(tactic| (walk_at "m subref"))
local macro_rules | `(tactic| walk_at "subscriptTail List") => `(tactic| (walk_at "m subref"))

local macro_rules | `(tactic| walk_at "m at") => `(tactic| first | exact Fm.get (by assumption) (by walk_at "m got") | exact Fm.keep (by assumption) _ _ (by assumption))
local macro_rules | `(tactic| walk_at "m room") => `(tactic| (exact Rm.room (by assumption)))
local macro_rules | `(tactic| walk_at "compareOp Eq ref ref") => `(tactic| first
  | (refine eqNilF (by walk_at "m room") (by walk_at "m at") (by walk_at "m at") ?_)
  | (refine eqTextsF (by walk_at "m room") (by walk_at "m at") (by walk_at "m at") (by walk_at "m tv") (by walk_at "m tv") ?_))
local macro_rules | `(tactic| walk_at "compareOp NotEq ref ref") => `(tactic| first
  | (refine neNilF (by walk_at "m room") (by walk_at "m at") (by walk_at "m at") ?_)
  | (refine neTextsF (by walk_at "m room") (by walk_at "m at") (by walk_at "m at") (by walk_at "m tv") (by walk_at "m tv") ?_))
local macro_rules | `(tactic| walk_at "compareOp In none ref") => `(tactic| (refine inMixF (o := none) (by walk_at "m at") (by walk_at "m tv") rfl ?_))
local macro_rules | `(tactic| walk_at "call builtin:dict.get") => `(tactic| first
  | (refine dictGetF (k := none) (by assumption) rfl (Fm.notModules (by assumption)) ?_)
  | (refine dictGetS (by assumption) (Fm.notModules (by assumption)) ?_))
local macro_rules | `(tactic| walk_at "compareOp In str ref") => `(tactic| first
  | (refine inMixF (o := some _) (by walk_at "m at") (by walk_at "m tv") ⟨_, rfl⟩ ?_)
  | (refine inTextsF (by walk_at "m at") (by walk_at "m tv") ?_)
  | (refine inTupF (by walk_at "m at") (by walk_at "m tv") ?_))
local macro_rules | `(tactic| walk_at "m part") => `(tactic| first | exact IsPart.none | exact IsPart.int _ _)
local macro_rules | `(tactic| walk_at "m slicel") => `(tactic| (refine sliceLF (by assumption) (by walk_at "m at") (by walk_at "m part") (by walk_at "m part") (by walk_at "m len") ?_; intro _ _ _ _ _))
local macro_rules | `(tactic| walk_at "subscriptTail Name Slice ref ref") => `(tactic| first
  | (refine slice1n1F (by assumption) (by walk_at "m got") (by walk_at "m tv") (by assumption) (by assumption) (by assumption) (by walk_at "m int") ?_; intro _ _ _ _ _ _ _ _ _ _ _ _)
  | (walk_at "m slicel"))
local macro_rules | `(tactic| walk_at "eval ListComp") => `(tactic| (refine listComp_eval (by decide +kernel) rfl (by decide +kernel) ?_ (by intro _; with_unfolding_all rfl)))
local macro_rules | `(tactic| walk_at "callWith") => `(tactic| ((with_reducible show wpAny _ _ (callWith _ (Value.builtin _) (_ :: _) (backTo _ (starEach (_ :: _) _)) _) _ _ _); refine callWith_method1 ?_))
local macro_rules | `(tactic| walk_at "m at1") => `(tactic| (unfold Ar; first | assumption | exact ar_i1 (by assumption) (by assumption) (by decide) | exact ar_i2 (by assumption) (by assumption) (by decide) | exact ar_i3 (by assumption) (by assumption) (by decide) | exact ar_i4 (by assumption) (by assumption) (by decide) | (walk_at "m int") | exact pos_nn (by assumption) | exact bd_one (by assumption) | exact ne_one (by assumption) (by walk_at "m int") | exact TV.pos (by assumption) (by assumption) | exact NE.at (by assumption) (by walk_at "m int") | exact NE.last (by assumption) (by walk_at "m int") | (walk_at "m len")))
local macro_rules | `(tactic| walk_at "ev") => `(tactic| (
  (repeat' first | assumption | (show LastR _ _ _; first | exact LastR.v (by walk_at "m got") (by first | exact lastSnoc | assumption) (by constructor) | exact LastR.t (by walk_at "m got") (by walk_at "m tv") (by walk_at "m at1")) | (show ItemR _ _ _ _; first | exact ItemR.v (by walk_at "m got") (by walk_at "m int") (by walk_at "m int") (by first | (with_unfolding_all exact rfl) | assumption) (by constructor) | exact ItemR.t (by walk_at "m got") (by walk_at "m tv") (by walk_at "m at1") (by walk_at "m at1") (by walk_at "m at1") (by walk_at "m at1")) | (with_reducible constructor) | (show Small _; walk_at "m small") | (show Ar _; walk_at "m at1") | intro _)
  done))
local macro_rules | `(tactic| walk_at "isTrue") => `(tactic| first
  | (refine useC (by assumption) (by assumption) (by walk_at "ev") ?_ ?_ <;> intro _ _)
  | (refine useH (by assumption) (by assumption) (by walk_at "m room") (by walk_at "ev") ?_ ?_ <;> intro _ _ _ _))
local macro_rules | `(tactic| walk_at "m ev") => `(tactic| (refine useE (by assumption) (by assumption) (by walk_at "ev") ?_; (first | (intro _ _) | (intro _))))
local macro_rules | `(tactic| walk_at "eval Subscript") => `(tactic| (walk_at "m ev"))
local macro_rules | `(tactic| walk_at "eval BinOp") => `(tactic| (walk_at "m ev"))
local macro_rules | `(tactic| walk_at "isTrue Compare") => `(tactic| (walk_at "isTrue"))
local macro_rules | `(tactic| walk_at "isTrue BoolOp") => `(tactic| (walk_at "isTrue"))
local macro_rules | `(tactic| walk_at "isTrue UnaryOp") => `(tactic| (walk_at "isTrue"))
local macro_rules | `(tactic| walk_at "m ct") => `(tactic| first
  | (refine useCt (by assumption) (by assumption) (by walk_at "ev") (by (first | exact ar_to (by assumption) _ | lia | omega)) ?_; intro _)
  | (refine useCf (by assumption) (by assumption) (by walk_at "ev") (by (first | exact ar_to (by assumption) _ | lia | omega)) ?_; intro _))
local macro_rules | `(tactic| walk_at "m s") => `(tactic| first
  | assumption
  | exact Nat.le_of_ble_eq_true rfl
  | exact Rm.hd (by assumption)
  | ((with_reducible show Small _); walk_at "m small")
  | ((with_reducible show Heap.get? _ _ = _); walk_at "m at")
  | (walk_at "m got") | (walk_at "m put") | (walk_at "m up") | (walk_at "m tv") | (walk_at "m iv")
  | ((with_reducible show _ = _); first | rfl | (with_unfolding_all rfl))
  | ((with_reducible show _ ≤ sizeLine); walk_at "m len")
  | ((with_reducible first | show _ ≤ _ | show _ < _ | show _ ≠ _); first | (walk_at "m int") | (walk_at "m small")))
local macro_rules | `(tactic| walk_at $s:str) => do
  for e in "call builtin:len=lenListF=2=2|setItem ref int=setItemNegF=5=2|call type:range=rangeF1=1=6|assign Tuple=assignList=5=2|binaryOp Mult str int=mulT=1=2|call ref=appendBM=5=2".splitOn "|" do
    if let [k, n, m, c] := e.splitOn "=" then
      if k == s.getString then return ← `(tactic| (refine $(Lean.mkIdent (.mkSimple n)) $(Array.replicate m.toNat! (← `(by walk_at "m s")))* ?_; iterate $(Lean.Syntax.mkNumLit c) intro _))
  Lean.Macro.throwUnsupported
local macro_rules | `(tactic| walk_at $s:str) => do
  for e in "storeName=storeL=3=3|newTuple=newTupleF=2=5|newList=newListF=2=5|call builtin:issubclass=issub_strs=1=1|binaryOp Add str str=addT=1=2|inplaceOp Add str str=iaddT=1=2|truthy str=truthyT=1=1|call builtin:str.rfind=rfindT=0=2|call builtin:str.rstrip=rstripT=1=2|call builtin:str.strip=stripT=1=2|binaryOp Mult str int=mulZ=2=2|unpackItems ref=unpackTup=4=2|assign Tuple=assignTup=5=2|binaryOp Add ref ref=addListF=4=5|call builtin:list.append=appendF=4=2|truthy ref=truthyList=3=1|call builtin:str.split=splitStrF=2=6|call builtin:str.join=joinF=4=2|call builtin:list.pop=popF=5=2|binaryOp Mod int int=modZ=1=2|eval Dict=dict3F=1=6|call builtin:len=lenT=1=2|setItem ref int=setItemF=6=2|call type:range=rangeF3=2=3|call builtin:re.Match.group=groupF=4=2|getAttr ref=getAppendVF=2=4|call builtin:sum=sumF=4=4|call type:list=listOfF=3=4|binaryOp Mult ref int=mulList2=3=3".splitOn "|" do
    if let [k, n, m, c] := e.splitOn "=" then
      if k == s.getString then return ← `(tactic| (refine $(Lean.mkIdent (.mkSimple n)) $(Array.replicate m.toNat! (← `(by walk_at "m s")))* ?_; iterate $(Lean.Syntax.mkNumLit c) intro _))
  Lean.Macro.throwUnsupported

section
local macro_rules | `(tactic| walk_at "z") => `(tactic| skip)
section
variable {prog : Program} {w : World} {h : Heap} {A : Around} {E : Value → Shared → Prop}
  {g : Array GenState} {d : Drawn} {tk : Nat} {os : OsState}
theorem get_sep_spec {x : Str} {t : Tok} {Q : Value → Shared → Prop} (H0 : TopF h) (R : Rm A 2) (q : ∀ h' tk' t, Keep h h' → Q (.str (T [47]) t) ⟨h', g, d, tk', os⟩) :
    wpAny (model prog w) A (call (.ref 149) [.str x t]) Q E ⟨h, g, d, tk, os⟩ := by
  refine enter ["path"] [] (n := 20) (gl := ["isinstance", "bytes"]) (names := ["path"]) (vals := [some (.str x t)]) H0 R (by walk_at "m in") rfl rfl (fun _ _ _ => rfl) rfl (mkFE (by decide +kernel) (by decide +kernel) (by decide +kernel) (by decide +kernel)) (by decide +kernel) (by decide +kernel) (by decide +kernel) ?_
  intro env L h₁ tk₁ A' R' X hfr F
  with_unfolding_all walk1
  walk_at "m go"
  exact q _ _ _ F.keep

theorem fspath_spec {x : Str} {t : Tok} {Q : Value → Shared → Prop} (H0 : TopF h) (R : Rm A 2) (q : ∀ h' tk', Keep h h' → Q (.str x t) ⟨h', g, d, tk', os⟩) :
    wpAny (model prog w) A (call (.ref 135) [.str x t]) Q E ⟨h, g, d, tk, os⟩ := by
  refine enter ["path"] ["kind", "hook", "given"] (n := 16) (gl := ["type", "issubclass", "str", "bytes"]) (names := ["path", "kind", "hook", "given"]) (vals := [some (.str x t), none, none, none]) H0 R (by walk_at "m in") rfl rfl (fun _ _ _ => rfl) rfl (mkFE (by decide +kernel) (by decide +kernel) (by decide +kernel) (by decide +kernel)) (by decide +kernel) (by decide +kernel) (by decide +kernel) ?_
  intro env L h₁ tk₁ A' R' X hfr F
  with_unfolding_all walk1
  walk_at "m go"
  exact q _ _ (Fm.keep (by assumption))
end
end

section
section
variable {prog : Program} {w : World} {h : Heap} {A : Around} {E : Value → Shared → Prop}
  {g : Array GenState} {d : Drawn} {tk : Nat} {os : OsState}
local macro_rules | `(tactic| walk_at "call builtin:str.translate") => `(tactic| (refine transl1 (Rm.hd (by assumption)) (TopF.esc (Fm.top' (by assumption))) (by assumption) ?_; intro _ _ _ K; have F := Fm.went (by assumption) K))
local macro_rules | `(tactic| walk_at "getMethod str") => `(tactic| (refine GM.of (.str _ _) (typeIs_str _ _ _) PySem.F.slot_str_translate PySem.F.type_str_translate GM.noRef ?_))
theorem escape_spec {c : Nat} {t : Tok} {Q : Value → Shared → Prop} (H0 : TopF h) (R : Rm A 2) (hc : c < 128) (q : ∀ h' tk' t, Keep h h' → Q (.str (T (escC c)) t) ⟨h', g, d, tk', os⟩) :
    wpAny (model prog w) A (call (.ref 55) [.str (T [c]) t]) Q E ⟨h, g, d, tk, os⟩ := by
  refine enter ["pattern"] [] (n := 5) (gl := ["isinstance", "str", "_special_chars_map"]) (names := ["pattern"]) (vals := [some (.str (T [c]) t)]) H0 R (by walk_at "m in") rfl rfl (fun _ _ _ => rfl) rfl (mkFE (by decide +kernel) (by decide +kernel) (by decide +kernel) (by decide +kernel)) (by decide +kernel) (by decide +kernel) (by decide +kernel) ?_
  intro env L h₁ tk₁ A' R' X hfr F
  with_unfolding_all walk1
  walk_at "m go"
  exact q _ _ _ (Fm.keep (by assumption))
end
end

section
theorem flat_len (c : Nat) (z : List Nat) (hz : z.length ≤ 2) : ∀ l : List Nat, (l.flatMap fun k => if k = c then z else [k]).length ≤ 2 * l.length
  | [] => by simp
  | x :: r => by
    have ih := flat_len c z hz r
    rw [List.flatMap_cons, List.length_append, List.length_cons]
    have : (if x = c then z else [x]).length ≤ 2 := by split <;> simp_all
    exact Nat.le_trans (Nat.le_of_eq (Nat.add_comm _ _)) (Nat.add_le_add ih this)
theorem eltF_len (c : List Nat) : (eltF c).length ≤ 4 * c.length := by
  unfold eltF
  have h1 := flat_len 92 [92, 92] (by simp) c
  have h2 := flat_len 45 [92, 45] (by simp) (c.flatMap fun k => if k = 92 then [92, 92] else [k])
  exact Nat.le_trans h2 (Nat.le_trans (Nat.mul_le_mul_left 2 h1) (Nat.le_of_eq (Nat.mul_assoc 2 2 c.length).symm))
section
variable {prog : Program} {w : World} {A : Around} {E : Value → Shared → Prop} {s : Shared} {env : Env}
theorem nameN {x : Str} {pos : Pos} {v : Value} {m : Str → Option Value} {Q : Value → Shared → Prop} {M : Model} (hl : env.kindOf x = some .local) (hk : env.scope.kind = .function) (hn : s.heap.Ns env.locals m) (hm : m x = some v) (q : Q v s)
    (hd : (x == ("__debug__" : Str)) = false := by decide +kernel) : wpAny M A (eval (.Name x pos) env) Q E s :=
  wpAny_Name (wpAny_loadName_local hk hl hn hm q) hd
local macro_rules | `(tactic| walk_at "eval Name") => `(tactic| (refine nameN (by assumption) (by assumption) (by assumption) (by assumption) ?_))
theorem elt_ok {scope : Scope} {C : Addr} {code : Value} {vs : List Value} {cs : List (List Nat)} (hkind : scope.kind = .function) (hx : scope.names.lookup ("s" : Str) = some .local) (hv : TV vs cs) (hb : ∀ c ∈ cs, c.length ≤ 200) :
    EltOk prog w (genEnv scope [] C code builtinsNs env) "s" eltE
      (fun i v => vs.toArray[i]? = some v) (fun i y => ∃ t, y = .str (T (eltF (cs.getD i []))) t) := by
  intro A' E' i v s₂ m₂ hA hvi hn hm ht
  obtain ⟨c, t, hc, rfl⟩ := hv.at (by simpa using hvi : vs[i]? = some v)
  have hcb := hb c (List.mem_iff_getElem?.mpr ⟨i, hc⟩)
  have he : cs.getD i [] = c := by rw [List.getD_eq_getElem?_getD, hc]; rfl
  show wpAny _ _ _ (fun y s₃ => (∃ t, y = Value.str (T (eltF (cs.getD i []))) t) ∧ Keeps s₂ s₃) _ _
  rw [he]
  have hl : (genEnv scope [] C code builtinsNs env).kindOf "s" = some .local := hx
  have hk : (genEnv scope [] C code builtinsNs env).scope.kind = .function := hkind
  obtain ⟨h, g, d, tk, os⟩ := s₂
  dsimp only at ht hn
  have hn : (⟨h, g, d, tk, os⟩ : Shared).heap.Ns (genEnv scope [] C code builtinsNs env).locals m₂ := hn
  have hsm : ∀ l : List Nat, l.length ≤ 400 → l.length ≤ 1000 := fun l h => ar_to h _
  have h1 := flat_len 92 [92, 92] (by simp) c
  conv in eval eltE _ => arg 1; whnf
  walk_at "m go"
  refine wpAny_with_toks (n := 1) (by show 1 ≤ tk + 1 + 1; (first | exact ar_to (by assumption) _ | lia | omega)) ?_
  refine replT (ar_to hcb _) (by decide) (show (tk : Nat) ≠ 0 from Nat.ne_of_gt ht) (show (tk + 1 : Nat) ≠ 0 from Nat.succ_ne_zero _) (show (tk : Nat) ≠ tk + 1 from Nat.ne_of_lt (Nat.lt_succ_self _)) (by decide) ?_
  intro t₁ k₁ hk₁
  dsimp only at hk₁
  walk_at "m go"
  refine replT (ar_to (Nat.le_trans h1 (Nat.mul_le_mul_left 2 hcb)) _) (by decide) (show (k₁ : Nat) ≠ 0 from Nat.ne_of_gt hk₁) (show (k₁ + 1 : Nat) ≠ 0 from Nat.succ_ne_zero _) (show (k₁ : Nat) ≠ k₁ + 1 from Nat.ne_of_lt (Nat.lt_succ_self _)) (by decide) ?_
  intro t₂ k₂
  exact ⟨⟨_, rfl⟩, _, _, rfl, fun _ _ e => e⟩
end
end

section
local macro_rules | `(tactic| walk_at "z") => `(tactic| skip)
local macro_rules | `(tactic| walk_at "getMethod ref") => `(tactic| (refine getGroupF (by walk_at "m at") ?_))
section
variable {b h : Heap} {L : Addr} {names : List Str} {vals : List (Option Value)} {led : List (Addr × Obj)} {A : Around}
  {g : Array GenState} {d : Drawn} {tk : Nat} {os : OsState} {prog : Program} {w : World} {l : List Nat} {t : Tok}
theorem lam_spec {f m tp : Addr} {fo : Obj} {pm cdv ctv : Value} {nm qual : Str} {p : Nat} {Q : Value → Shared → Prop} (F : Fm b L names vals led h) (R : Rm A 2) (ho : h.get? f = some fo) (hd : fo.data = .func (PySem.W.kla_fn nm qual lamP lamB lamS [] pm cdv ctv)) (hcr : h.CodeRec cdv qual)
    (hm : h.get? m = some (matO l t tp)) (hp : h.get? tp = some (spansO p)) (hl : l.length ≤ 10000) (hpl : p < l.length)
    (q : ∀ h'' tk'' t', Fm b L names vals led h'' → Q (.str (T [92, l.getD p 0]) t') ⟨h'', g, d, tk'', os⟩) :
    wpAny (model prog w) A (call (.ref f) [.ref m]) Q (fun _ _ => False) ⟨h, g, d, tk, os⟩ := by
  refine enterLam F.top' (R.mono (by decide) : Rm A (1 + 1)) ho hd hcr fun env L' h₁ tk₁ A' R' X F' => ?_
  have hk := F'.keep
  conv in eval lamB _ => arg 1; whnf
  walk_at "m go"
  · exact q _ _ _ (F.went hk)
  · exact absurd (List.cons_ne_nil _ _) (by assumption)
end
end

section
noncomputable def OV (v : Value) (o : Option (List Nat)) : Prop := match o with | none => v = .none | some l => ∃ t, v = .str (T l) t
end

section
noncomputable def S13 : List Nat := [46, 42, 63, 91, 93, 33, 45, 97, 94, 92, 126, 38, 124]
noncomputable def itemG (c : Nat) (dr : Int) (first : Bool) : List Nat :=
  let d2 := if dr = 0 ∧ (c ∈ [42,63,91] ∨ (first = true ∧ c = 46)) then 1 else dr
  if c = 33 ∨ d2 = 0 then [c] else if d2 = 1 ∨ (d2 = 2 ∧ c = 93) then [91] ++ [c] ++ [93] else if d2 = 2 then [91] ++ [c] ++ [45] ++ [c] ++ [98,45,97,93]
  else (if c = 93 then [91] else [91,98,45,97]) ++ [c] ++ [98,45,97,93]
noncomputable def itemF (x : Int) (first : Bool) : List Nat × List Nat :=
  if x % 22 = 15 then ([91,33] ++ [S13.getD ((x / 22) % 13).toNat 0] ++ ([[], [98,45,97]] : List (List Nat)).getD ((x / 286) % 2).toNat [] ++ [93], [78] ++ [S13.getD ((x / 22) % 13).toNat 0])
  else if x % 22 = 18 then
    ([([91,97,45,93],[80]), ([91,97,45,98,93],[82]), ([91,98,45,97,97,45,98,93],[82]), ([91,97,45,98,98,45,97,93],[82])] : List (List Nat × List Nat)).getD (x / 22 % 4).toNat ([], [])
  else if x % 22 > 12 then
    ([(List.replicate (1 + x / 22 % 4 % 3).toNat 42, [83]), ([63],[81]), ([], []), ([91,98,45,97,93],[48]), ([91,33,98,45,97,93],[65])] : List (List Nat × List Nat)).getD (x % 22 - 13).toNat ([], [])
  else (itemG (S13.getD (x % 22).toNat 0) (x / 22 % 4) first, [S13.getD (x % 22).toNat 0])
noncomputable def itemH (c : Nat) (d : Int) : List Nat :=
  if [c] = [33] ∨ d = 0 then [c] else if d = 1 ∨ (d = 2 ∧ [c] = [93]) then [91] ++ [c] ++ [93] else if d = 2 then [91] ++ [c] ++ [45] ++ [c] ++ [98,45,97,93]
  else (if [c] = [93] then [91] else [91,98,45,97]) ++ [c] ++ [98,45,97,93]
section
variable {c : Nat} {d dr : Int} {first : Bool}
theorem itemG_H : itemG c dr first = itemH c (if dr = 0 ∧ (c ∈ [42,63,91] ∨ first = true ∧ [c] = [46]) then 1 else dr) := by
  unfold itemG itemH
  simp only [List.cons.injEq, and_true]
theorem itemG_1 (h : dr = 0 ∧ (c ∈ [42,63,91] ∨ first = true ∧ [c] = [46])) : itemH c 1 = itemG c dr first := by rw [itemG_H, if_pos h]
theorem itemG_2 (h : ¬(dr = 0 ∧ (c ∈ [42,63,91] ∨ first = true ∧ [c] = [46]))) : itemH c dr = itemG c dr first := by rw [itemG_H, if_neg h]
theorem itemH_1 (h : [c] = [33] ∨ d = 0) : [c] = itemH c d := (if_pos h).symm
theorem itemH_2 (h1 : ¬([c] = [33] ∨ d = 0)) (h : d = 1 ∨ (d = 2 ∧ [c] = [93])) : [91] ++ [c] ++ [93] = itemH c d := ((if_neg h1).trans (if_pos h)).symm
theorem itemH_3 (h1 : ¬([c] = [33] ∨ d = 0)) (h2 : ¬(d = 1 ∨ (d = 2 ∧ [c] = [93]))) (h : d = 2) : [91] ++ [c] ++ [45] ++ [c] ++ [98,45,97,93] = itemH c d := ((if_neg h1).trans ((if_neg h2).trans (if_pos h))).symm
theorem itemH_4 (h1 : ¬([c] = [33] ∨ d = 0)) (h2 : ¬(d = 1 ∨ (d = 2 ∧ [c] = [93]))) (h3 : ¬ d = 2) (h : [c] = [93]) : [91] ++ [c] ++ [98,45,97,93] = itemH c d := by unfold itemH; rw [if_neg h1, if_neg h2, if_neg h3, if_pos h]
theorem itemH_5 (h1 : ¬([c] = [33] ∨ d = 0)) (h2 : ¬(d = 1 ∨ (d = 2 ∧ [c] = [93]))) (h3 : ¬ d = 2) (h : ¬[c] = [93]) : [91,98,45,97] ++ [c] ++ [98,45,97,93] = itemH c d := by unfold itemH; rw [if_neg h1, if_neg h2, if_neg h3, if_neg h]
end
theorem outTwo {h : Heap} {a : Addr} {ws : List Value} {X Y Z : List Nat} (hv : TV ws [X, Z]) (e : X = Y) (g : h.get? a = some (listObj ws)) : ∃ t1 t2, h.get? a = some (listObj [.str (T Y) t1, .str (T Z) t2]) := by
  obtain ⟨t1, t2, rfl⟩ := hv.two
  subst e; exact ⟨t1, t2, g⟩
theorem outPair {X Y Z : List Nat} {t1 t2 : Tok} (e : X = Y) : some (listObj [.str (T X) t1, .str (T Z) t2]) = some (listObj [.str (T Y) t1, .str (T Z) t2]) := by rw [e]
local macro_rules | `(tactic| walk_at "eval List") => `(tactic| (refine useL (by assumption) (by assumption) (by walk_at "ev") (by decide) ?_; intro _ _ _ _ _ _ _ _))
local macro_rules | `(tactic| walk_at "isTrue") => `(tactic| (walk_at "m ct"))
section
variable {prog : Program} {w : World} {h : Heap} {A : Around} {E : Value → Shared → Prop}
  {g : Array GenState} {d : Drawn} {tk : Nat} {os : OsState}
theorem law_item_15 {x : Int} {t : Tok} {first : Bool} {Q : Value → Shared → Prop} (H0 : TopF h) (R : Rm A 2) (hk : x % 22 = 15)
    (q : ∀ h' a tk', Keep h h' → h.get? a = none → (∃ t1 t2, h'.get? a = some (listObj [.str (T (itemF x first).1) t1, .str (T (itemF x first).2) t2])) → Q (.ref a) ⟨h', g, d, tk', os⟩) :
    wpAny (model prog w) A (call (.ref 184) [.int x t, .bool first]) Q E ⟨h, g, d, tk, os⟩ := by
  rw [show itemF x first = _ from if_pos hk] at q
  refine enter ["x", "first"] ["kind", "dress", "sign"] (n := 26) (gl := []) (names := ["x", "first", "kind", "dress", "sign"]) (vals := [some (.int x t), some (.bool first), none, none, none]) H0 R (by walk_at "m in") rfl rfl (fun _ _ _ => rfl) rfl (mkFE (by decide +kernel) (by decide +kernel) (by decide +kernel) (by decide +kernel)) (by decide +kernel) (by decide +kernel) (by decide +kernel) ?_
  intro env L h₁ tk₁ A' R' X hfr F
  with_unfolding_all walk1
  walk_at "m go"
  refine q _ _ _ ?_ ?_ ?_
  · exact Fm.keep (by assumption)
  · exact (Fm.nw (by assumption) _ (Got.mem (by walk_at "m got"))).2.2
  · first | exact ⟨_, _, Fm.get (by assumption) (by walk_at "m got")⟩ | exact outTwo (by assumption) rfl (Fm.get (by assumption) (by walk_at "m got"))
theorem law_item_18 {x : Int} {t : Tok} {first : Bool} {dr : Int} {Q : Value → Shared → Prop} (H0 : TopF h) (R : Rm A 2) (hk : x % 22 = 18) (hd : x / 22 % 4 = dr)
    (q : ∀ X Y, (([([91,97,45,93],[80]), ([91,97,45,98,93],[82]), ([91,98,45,97,97,45,98,93],[82]), ([91,97,45,98,98,45,97,93],[82])] : List (List Nat × List Nat)).getD dr.toNat ([], []) = (X, Y)) →
      ∀ h' a tk', Keep h h' → h.get? a = none → (∃ t1 t2, h'.get? a = some (listObj [.str (T X) t1, .str (T Y) t2])) → Q (.ref a) ⟨h', g, d, tk', os⟩) :
    wpAny (model prog w) A (call (.ref 184) [.int x t, .bool first]) Q E ⟨h, g, d, tk, os⟩ := by
  refine enter ["x", "first"] ["kind", "dress", "sign"] (n := 26) (gl := []) (names := ["x", "first", "kind", "dress", "sign"]) (vals := [some (.int x t), some (.bool first), none, none, none]) H0 R (by walk_at "m in") rfl rfl (fun _ _ _ => rfl) rfl (mkFE (by decide +kernel) (by decide +kernel) (by decide +kernel) (by decide +kernel)) (by decide +kernel) (by decide +kernel) (by decide +kernel) ?_
  intro env L h₁ tk₁ A' R' X hfr F
  with_unfolding_all walk1
  walk_at "m go"
  rw [hd]
  have hd4 : dr = 0 ∨ dr = 1 ∨ dr = 2 ∨ dr = 3 := by (first | exact ar_to (by assumption) _ | lia | omega)
  rcases hd4 with rfl | rfl | rfl | rfl
  all_goals (
    refine itemList (by assumption) (by walk_at "m got") (by decide) (by decide) rfl ?_
    walk_at "m go"
    refine q _ _ rfl _ _ _ ?_ ?_ ?_
    · exact Fm.keep (by assumption)
    · exact (Fm.nw (by assumption) _ (Got.mem (by walk_at "m got"))).2.2
    · first | exact ⟨_, _, Fm.get (by assumption) (by walk_at "m got")⟩ | exact outTwo (by assumption) rfl (Fm.get (by assumption) (by walk_at "m got")))
theorem law_item_hi {x : Int} {t : Tok} {first : Bool} {k dr : Int} {Q : Value → Shared → Prop} (H0 : TopF h) (R : Rm A 2) (hk : x % 22 = k) (hd : x / 22 % 4 = dr) (h13 : k = 13 ∨ k = 14 ∨ k = 16 ∨ k = 17)
    (q : ∀ X Y, (([(List.replicate (1 + dr % 3).toNat 42, [83]), ([63],[81]), ([], []), ([91,98,45,97,93],[48]), ([91,33,98,45,97,93],[65])] : List (List Nat × List Nat)).getD (k - 13).toNat ([], []) = (X, Y)) →
      ∀ h' a tk', Keep h h' → h.get? a = none → (∃ t1 t2, h'.get? a = some (listObj [.str (T X) t1, .str (T Y) t2])) → Q (.ref a) ⟨h', g, d, tk', os⟩) :
    wpAny (model prog w) A (call (.ref 184) [.int x t, .bool first]) Q E ⟨h, g, d, tk, os⟩ := by
  have l : 0 ≤ dr := by (first | exact ar_to (by assumption) _ | lia | omega)
  have u : dr < 4 := by (first | exact ar_to (by assumption) _ | lia | omega)
  have k1 : 12 < k := by (first | exact ar_to (by assumption) _ | lia | omega)
  have k2 : k < 18 := by (first | exact ar_to (by assumption) _ | lia | omega)
  have k3 : k ≠ 15 := by (first | exact ar_to (by assumption) _ | lia | omega)
  subst hd
  refine enter ["x", "first"] ["kind", "dress", "sign"] (n := 26) (gl := []) (names := ["x", "first", "kind", "dress", "sign"]) (vals := [some (.int x t), some (.bool first), none, none, none]) H0 R (by walk_at "m in") rfl rfl (fun _ _ _ => rfl) rfl (mkFE (by decide +kernel) (by decide +kernel) (by decide +kernel) (by decide +kernel)) (by decide +kernel) (by decide +kernel) (by decide +kernel) ?_
  intro env L h₁ tk₁ A' R' X hfr F
  with_unfolding_all walk1
  walk_at "m go"
  rw [hk]
  rcases h13 with rfl | rfl | rfl | rfl
  all_goals (
    refine itemList (by assumption) (by walk_at "m got") (by decide) (by decide) rfl ?_
    walk_at "m go"
    refine q _ _ rfl _ _ _ ?_ ?_ ?_
    · exact Fm.keep (by assumption)
    · exact (Fm.nw (by assumption) _ (Got.mem (by walk_at "m got"))).2.2
    · first | exact ⟨_, _, Fm.get (by assumption) (by walk_at "m got")⟩ | exact outTwo (by assumption) rfl (Fm.get (by assumption) (by walk_at "m got")))
theorem law_item_lo {x : Int} {t : Tok} {first : Bool} {Q : Value → Shared → Prop} (H0 : TopF h) (R : Rm A 2) (hk : x % 22 ≤ 12)
    (q : ∀ h' a tk', Keep h h' → h.get? a = none → (∃ t1 t2, h'.get? a = some (listObj [.str (T (itemG (S13.getD (x % 22).toNat 0) (x / 22 % 4) first)) t1, .str (T [S13.getD (x % 22).toNat 0]) t2])) → Q (.ref a) ⟨h', g, d, tk', os⟩) :
    wpAny (model prog w) A (call (.ref 184) [.int x t, .bool first]) Q E ⟨h, g, d, tk, os⟩ := by
  refine enter ["x", "first"] ["kind", "dress", "sign"] (n := 26) (gl := []) (names := ["x", "first", "kind", "dress", "sign"]) (vals := [some (.int x t), some (.bool first), none, none, none]) H0 R (by walk_at "m in") rfl rfl (fun _ _ _ => rfl) rfl (mkFE (by decide +kernel) (by decide +kernel) (by decide +kernel) (by decide +kernel)) (by decide +kernel) (by decide +kernel) (by decide +kernel) ?_
  intro env L h₁ tk₁ A' R' X hfr F
  with_unfolding_all walk1
  walk_at "m go"
  all_goals (
    refine q _ _ _ ?_ ?_ ?_
    · exact Fm.keep (by assumption)
    · exact (Fm.nw (by assumption) _ (Got.mem (by walk_at "m got"))).2.2
    · first | refine outTwo (by assumption) ?_ (Fm.get (by assumption) (by walk_at "m got")) | refine ⟨_, _, (Fm.get (by assumption) (by walk_at "m got")).trans (outPair ?_)⟩
      first | refine Eq.trans ?_ (itemG_1 (by assumption)) | refine Eq.trans ?_ (itemG_2 (by assumption))
      first
      | exact itemH_1 (by assumption)
      | exact itemH_2 (by assumption) (by first | assumption | exact .inl rfl)
      | exact itemH_3 (by assumption) (by assumption) (by assumption)
      | exact itemH_4 (by assumption) (by assumption) (by assumption) (by assumption)
      | exact itemH_5 (by assumption) (by assumption) (by assumption) (by assumption))
theorem law_item_spec {x : Int} {t : Tok} {first : Bool} {Q : Value → Shared → Prop} (H0 : TopF h) (R : Rm A 2) (hk : x % 22 < 19)
    (q : ∀ h' a tk' t1 t2, Keep h h' → h.get? a = none → h'.get? a = some (listObj [.str (T (itemF x first).1) t1, .str (T (itemF x first).2) t2]) → Q (.ref a) ⟨h', g, d, tk', os⟩) :
    wpAny (model prog w) A (call (.ref 184) [.int x t, .bool first]) Q E ⟨h, g, d, tk, os⟩ := by
  have q' : ∀ h' a tk', Keep h h' → h.get? a = none → (∃ t1 t2, h'.get? a = some (listObj [.str (T (itemF x first).1) t1, .str (T (itemF x first).2) t2])) → Q (.ref a) ⟨h', g, d, tk', os⟩ :=
    fun h' a tk' k f e => e.elim fun t1 e => e.elim fun t2 e => q h' a tk' t1 t2 k f e
  by_cases h1 : x % 22 = 15
  · exact law_item_15 H0 R h1 q'
  have e1 : itemF x first = _ := if_neg h1
  by_cases h2 : x % 22 = 18
  · have e2 := e1.trans (if_pos h2)
    rw [e2] at q'
    exact law_item_18 H0 R h2 rfl fun X Y e => by rw [e] at q'; exact q'
  have e2 := e1.trans (if_neg h2)
  by_cases h3 : x % 22 > 12
  · have e3 := e2.trans (if_pos h3)
    rw [e3] at q'
    exact law_item_hi H0 R rfl rfl (by (first | exact ar_to (by assumption) _ | lia | omega)) fun X Y e => by rw [e] at q'; exact q'
  · rw [e2.trans (if_neg h3)] at q'
    exact law_item_lo H0 R (by (first | exact ar_to (by assumption) _ | lia | omega)) q'
end
end

section
local macro_rules | `(tactic| walk_at "z") => `(tactic| skip)
local macro_rules | `(tactic| walk_at "isTrue") => `(tactic| (refine useHf (by assumption) (by assumption) (by walk_at "m room") (by walk_at "ev") (by with_reducible assumption) ?_; intro _ _ _))
local macro_rules | `(tactic| walk_at "call ref") => `(tactic| 
 (refine law_item_spec (Fm.top' (by assumption)) (Rm.mono (by assumption) (by decide)) (by assumption) ?_; intro _ _ _ _ _ K hn hg; have F := Fm.add (by assumption) K hn hg))
theorem and21 {a b c : Prop} (h : a ∧ b ∧ c) : b := h.2.1
theorem and13 {a b c : Prop} (h : a ∧ b ∧ c) : a ∧ c := ⟨h.1, h.2.2⟩
theorem and13n {a b c : Prop} (hb : b) (h : ¬ (a ∧ b ∧ c)) : ¬ (a ∧ c) := fun x => h ⟨x.1, hb, x.2⟩
abbrev Pair := List Nat × List Nat
noncomputable def ItemAt (led : List (Addr × Obj)) (v : Value) (p : Pair) : Prop := ∃ i t1 t2, v = .ref i ∧ (i, listObj [.str (T p.1) t1, .str (T p.2) t2]) ∈ led
noncomputable def RowAt (led : List (Addr × Obj)) (v : Value) (row : List Pair) : Prop := ∃ r n vs, v = .ref r ∧ (r, listObj vs n) ∈ led ∧ All2 (ItemAt led) vs row
noncomputable def rowsStep (st : List (List Pair) × List Pair) (x : Int) : List (List Pair) × List Pair :=
  if x % 22 < 19 then
    let it := itemF x (decide (st.2 = []))
    (st.1, st.2 ++ [if it.2 = [83] ∧ st.2 ≠ [] ∧ (st.2.getLastD ([], [])).2 ∈ ([[83], []] : List (List Nat)) then (it.1, []) else it])
  else if st.2 ≠ [] then (st.1 ++ [st.2], []) else st
noncomputable def rowsF (xs : List Int) : List (List Pair) :=
  let st := xs.foldl rowsStep ([], [])
  let rs := (st.1 ++ [st.2]).filter (fun r => decide (r ≠ []))
  if rs ≠ [] then rs else [[([91, 46, 93], [46]), ([46], [46])]]
noncomputable def IV (vs : List Value) (ns : List Int) : Prop := All2 (fun v n => ∃ t, v = Value.int n t) vs ns
noncomputable def RowsOut (h h' : Heap) (D : Addr) (rows : List (List Pair)) : Prop :=
  ∃ led ys n, Keep h h' ∧ (∀ p ∈ (D, listObj ys n) :: led, h'.get? p.1 = some p.2 ∧ h.get? p.1 = none) ∧ (((D, listObj ys n) :: led).map (·.1)).Nodup ∧ All2 (RowAt led) ys rows ∧ ys.Nodup
theorem slicePick_nat (vs : List Value) (a b : Nat) : (slicePick vs.toArray (some (a : Int)) (some (b : Int)) none).toList = (vs.take b).drop a := by
  rw [slicePick_plain]
  simp only [Option.elim, clipAt_nat, List.size_toArray]
  rw [List.drop_take]
  show List.take (min b vs.length - min a vs.length) (List.drop (min a vs.length) vs) = _
  rcases Nat.le_total a vs.length with h | h
  · rw [Nat.min_eq_left h]
    rcases Nat.le_total b vs.length with h' | h'
    · rw [Nat.min_eq_left h']
    · rw [Nat.min_eq_right h', List.take_of_length_le (by simp), List.take_of_length_le (by simp; (first | exact ar_to (by assumption) _ | lia | omega))]
  · rw [Nat.min_eq_right h, List.drop_of_length_le (by simp), List.drop_of_length_le h]; simp
theorem IV.pick {vs : List Value} {ns : List Int} (h : IV vs ns) (b : Nat) : IV (vs.take b) (ns.take b) := by
  unfold IV at *
  induction h generalizing b with
  | nil => simp; exact .nil
  | cons p _ ih => cases b with
    | zero => exact .nil
    | succ b => exact .cons p (ih b)
theorem IV.drop {vs : List Value} {ns : List Int} (h : IV vs ns) (b : Nat) : IV (vs.drop b) (ns.drop b) := by
  unfold IV at *
  induction h generalizing b with
  | nil => simp; exact .nil
  | cons p q ih => cases b with
    | zero => exact .cons p q
    | succ b => exact ih b
theorem ItemAt.more {led led' : List (Addr × Obj)} {v : Value} {p : Pair} (h : ItemAt led v p) (k : ∀ x ∈ led, x ∈ led') : ItemAt led' v p := h.imp fun _ x => x.imp fun _ y => y.imp fun _ z => ⟨z.1, k _ z.2⟩
theorem RowAt.more {led led' : List (Addr × Obj)} {v : Value} {p : List Pair} (h : RowAt led v p) (k : ∀ x ∈ led, x ∈ led') : RowAt led' v p := h.imp fun _ x => x.imp fun _ y => y.imp fun _ z => ⟨z.1, k _ z.2.1, z.2.2.mono fun _ _ _ y => y.more k⟩
theorem Fm.sink {b : Heap} {L : Addr} {names : List Str} {vals : List (Option Value)} {h : Heap} (junk : List (Addr × Obj)) {p1 p2 p3 p4 : Addr × Obj} {rest : List (Addr × Obj)}
    (F : Fm b L names vals (junk ++ p1 :: p2 :: p3 :: p4 :: rest) h) : Fm b L names vals (p1 :: p2 :: p3 :: p4 :: (junk ++ rest)) h := by
  have hp : (junk ++ p1 :: p2 :: p3 :: p4 :: rest).Perm (p1 :: p2 :: p3 :: p4 :: (junk ++ rest)) := by
    have : (junk ++ ([p1, p2, p3, p4] ++ rest)).Perm ([p1, p2, p3, p4] ++ (junk ++ rest)) := by
      rw [← List.append_assoc, ← List.append_assoc]; exact List.perm_append_comm.append_right rest
    simpa using this
  exact F.sub (fun p m => hp.mem_iff.mpr m) ((hp.map _).nodup_iff.mp F.nd)
theorem Fm.rowsOut {h : Heap} {L : Addr} {names : List Str} {vals : List (Option Value)} {h' : Heap} {D : Addr} {ys : List Value} {n : Nat} {led : List (Addr × Obj)} {rows : List (List Pair)}
    (F : Fm h L names vals ((D, listObj ys n) :: led) h') (hys : All2 (RowAt led) ys rows) (hn : ys.Nodup) : RowsOut h h' D rows :=
  ⟨led, ys, n, F.keep, fun p hp => ⟨(F.nw p hp).1, (F.nw p hp).2.2⟩, F.nd, hys, hn⟩
theorem Fm.newRow {b : Heap} {L : Addr} {names : List Str} {vals : List (Option Value)} {h : Heap} {q1 p1 p2 p3 p4 : Addr × Obj} {rest : List (Addr × Obj)}
    (F : Fm b L names vals (q1 :: p1 :: p2 :: p3 :: p4 :: rest) h) : Fm b L names vals (p1 :: q1 :: p3 :: p4 :: p2 :: rest) h :=
  F.perm ((List.Perm.swap p1 q1 _).trans (.cons _ (.cons _ ((List.Perm.swap p3 p2 _).trans (.cons _ (List.Perm.swap p4 p2 _))))))
inductive RowsJ (sc ra sl : Addr) (sv : List Value) (sn : List Int) (i : Nat) (vals : List (Option Value)) (led : List (Addr × Obj)) : Prop
  | mk (vx vi : Option Value) (rl : Addr) (rowvs : List Value) (n1 : Nat) (cvs : List Value) (n2 : Nat) (led0 : List (Addr × Obj)) (st : List (List Pair) × List Pair)
    (e1 : vals = [some (.ref sc), some (.ref ra), vx, vi]) (e2 : led = (rl, listObj rowvs n1) :: (ra, listObj (cvs ++ [.ref rl]) n2) :: (sl, listObj sv) :: led0) (e3 : st = (sn.take i).foldl rowsStep ([], []))
    (a1 : All2 (RowAt led0) cvs st.1) (a2 : All2 (ItemAt led0) rowvs st.2) (a3 : cvs.Nodup) (l1 : cvs.length ≤ i) (l2 : rowvs.length ≤ i)
section
variable {prog : Program} {w : World} {h : Heap} {A : Around} {E : Value → Shared → Prop}
  {g : Array GenState} {d : Drawn} {tk : Nat} {os : OsState}
theorem law_rows_spec {sc : Addr} {vs : List Value} {ns : List Int} {k : Nat} {Q : Value → Shared → Prop} (H0 : TopF h) (R : Rm A 4) (hs : h.get? sc = some (listObj vs k)) (hv : IV vs ns) (hl : vs.length ≤ 1000)
    (q : ∀ h' D tk', RowsOut h h' D (rowsF ((ns.take 13).drop 1)) → Q (.ref D) ⟨h', g, d, tk', os⟩) :
    wpAny (model prog w) A (call (.ref 189) [.ref sc]) Q E ⟨h, g, d, tk, os⟩ := by
  refine enter ["script"] ["rows", "x", "item"] (n := 27) (gl := ["_law_item"]) (names := ["script", "rows", "x", "item"]) (vals := [some (.ref sc), none, none, none]) H0 R (by walk_at "m in") rfl rfl (fun _ _ _ => rfl) rfl (mkFE (by decide +kernel) (by decide +kernel) (by decide +kernel) (by decide +kernel)) (by decide +kernel) (by decide +kernel) (by decide +kernel) ?_
  intro env L h₁ tk₁ A' R' X hfr F
  with_unfolding_all walk1
  walk_at "m go"
  rename_i _ rl _ _ _ _ ra _ _ _ _ F tkA
  refine wpAny_For ?_ (fun _ => by with_unfolding_all rfl)
  walk_at "m go"
  rename_i sl _ _ FS
  have hsl : (slicePick vs.toArray (some 1) (some 13) none).toList = (vs.take 13).drop 1 := slicePick_nat vs 1 13
  rw [hsl] at FS
  have hvs := (hv.pick 13).drop 1
  have hvsl := hvs.len
  have hvl : ((vs.take 13).drop 1).length ≤ 12 := by simp; (first | exact ar_to (by assumption) _ | lia | omega)
  have FS := FS.sub (led' := [(rl, listObj []), (ra, listObj [.ref rl]), (sl, listObj ((vs.take 13).drop 1))]) (by simp) (by have := FS.nd; simp at this ⊢; grind)
  generalize hSV : (vs.take 13).drop 1 = sv at *
  generalize hSN : (ns.take 13).drop 1 = sn at *
  try dsimp only
  refine iterList (vs := sv) (RowsJ sc ra sl sv sn)
      X R'.hd (x := "x") (by walk_at "m in") FS ⟨none, none, rl, [], 0, [], 0, [], ([], []), rfl, rfl, by simp, .nil, .nil, List.nodup_nil, by simp, by simp⟩ ?_ 2 ?_ ?_ ?_
  · rintro i _ _ h' ⟨vx, vi, rl, rowvs, n1, cvs, n2, led0, st, rfl, rfl, hst, hc, hr, hnd, hl1, hl2⟩ F
    exact isList (F.get (.there (.there .here)))
  · rintro i _ _ v ⟨vx, vi, rl, rowvs, n1, cvs, n2, led0, st, rfl, rfl, hst, hc, hr, hnd, hl1, hl2⟩
    walk_at "m up"
  · rintro i v _ _ it o h' tk' E' hvi ⟨vx, vi, rl, rowvs, n1, cvs, n2, led0, st, rfl, rfl, hst, hc, hr, hnd, hl1, hl2⟩ F
    obtain ⟨x, hx, t, rfl⟩ := hvs.at hvi
    simp only [List.set_cons_succ, List.set_cons_zero] at F
    clear FS
    have hlast : (cvs ++ [Value.ref rl]).getLast? = some (.ref rl) := by simp
    have hnx : (sn.take (i + 1)).foldl rowsStep ([], []) = rowsStep st x := by
      rw [List.take_add_one, hx, Option.toList_some, List.foldl_append, ← hst]; rfl
    have hi : i < 12 := by have := (List.getElem?_eq_some_iff.mp hvi).1; (first | exact ar_to (by assumption) _ | lia | omega)
    rcases hr.last with ⟨e1, e2⟩ | ⟨v1, p1, e1, e2, ia, t1, t2, rfl, hm⟩
    · subst e1
      have hnn : ¬ ([] : List Value) ≠ [] := fun x => x rfl
      have hS1 : x % 22 < 19 → rowsStep st x = (st.1, [] ++ [((itemF x (decide True)).1, (itemF x (decide True)).2)]) := fun h => by
        unfold rowsStep; rw [if_pos h]; simp [e2]
      have hS2 : ¬ x % 22 < 19 → rowsStep st x = (st.1, []) := fun h => by
        unfold rowsStep; rw [if_neg h]; simp [e2]; rw [← e2]
      walk_at "m go"
      · exact absurd rfl (and21 (b := ([] : List Value) ≠ []) (by assumption))
      · rename_i Fz
        have Fz := Fm.sink [_, _] Fz
        refine ⟨_, _, _, _, rfl, ⟨_, _, _, _, _, _, _, _, _, rfl, rfl, hnx.symm, ?_, ?_, hnd, by (first | exact ar_to (by assumption) _ | lia | omega), by simp⟩, Fz⟩
        all_goals rw [hS1 (by assumption)]
        · exact hc.mono fun _ _ _ y => y.more (fun _ m => by repeat (first | exact m | refine List.mem_cons_of_mem _ ?_))
        · exact (All2.nil).snoc ⟨_, _, _, rfl, Got.mem (by walk_at "m got")⟩
      · rename_i Fz
        refine ⟨_, _, _, _, rfl, ⟨_, _, _, _, _, _, _, _, _, rfl, rfl, hnx.symm, ?_, ?_, hnd, by (first | exact ar_to (by assumption) _ | lia | omega), by simp⟩, Fz⟩
        all_goals rw [hS2 (by assumption)]
        · exact hc
        · exact .nil
    · have hne : rowvs ≠ [] := fun e => by rw [e] at e1; cases e1
      have hne2 : st.2 ≠ [] := fun e => by rw [e] at e2; cases e2
      have hgi : Got led0 ia (listObj [.str (T p1.1) t1, .str (T p1.2) t2]) := Got.of_mem hm
      have hS0 : x % 22 < 19 → rowsStep st x = (st.1, st.2 ++ [if (itemF x (decide (rowvs = []))).2 = [83] ∧ p1.2 ∈ ([[83], []] : List (List Nat)) then ((itemF x (decide (rowvs = []))).1, []) else ((itemF x (decide (rowvs = []))).1, (itemF x (decide (rowvs = []))).2)]) := fun h => by
        unfold rowsStep; rw [if_pos h]; simp only [hne, hne2, List.getLastD_eq_getLast?, e2, Option.getD_some, ne_eq, not_false_eq_true, true_and]
      have hS2 : ¬ x % 22 < 19 → rowsStep st x = (st.1 ++ [st.2], []) := fun h => by
        unfold rowsStep; rw [if_neg h, if_pos hne2]
      walk_at "m go"
      · rename_i Fz
        have Fz := Fm.sink (p1 := (it, o)) [_, _, _] Fz
        refine ⟨_, _, _, _, rfl, ⟨_, _, _, _, _, _, _, _, _, rfl, rfl, hnx.symm, ?_, ?_, hnd, by (first | exact ar_to (by assumption) _ | lia | omega), by simp; (first | exact ar_to (by assumption) _ | lia | omega)⟩, Fz⟩
        all_goals rw [hS0 (by assumption), if_pos (and13 (b := rowvs ≠ []) (by assumption))]
        · exact hc.mono fun _ _ _ y => y.more (fun _ m => by repeat (first | exact m | refine List.mem_cons_of_mem _ ?_))
        · exact (hr.mono fun _ _ _ y => y.more (fun _ m => by repeat (first | exact m | refine List.mem_cons_of_mem _ ?_))).snoc ⟨_, _, _, rfl, Got.mem (by walk_at "m got")⟩
      · rename_i Fz
        have Fz := Fm.sink (p1 := (it, o)) [_, _] Fz
        refine ⟨_, _, _, _, rfl, ⟨_, _, _, _, _, _, _, _, _, rfl, rfl, hnx.symm, ?_, ?_, hnd, by (first | exact ar_to (by assumption) _ | lia | omega), by simp; (first | exact ar_to (by assumption) _ | lia | omega)⟩, Fz⟩
        all_goals rw [hS0 (by assumption), if_neg (and13n (b := rowvs ≠ []) hne (by assumption))]
        · exact hc.mono fun _ _ _ y => y.more (fun _ m => by repeat (first | exact m | refine List.mem_cons_of_mem _ ?_))
        · exact (hr.mono fun _ _ _ y => y.more (fun _ m => by repeat (first | exact m | refine List.mem_cons_of_mem _ ?_))).snoc ⟨_, _, _, rfl, Got.mem (by walk_at "m got")⟩
      · rename_i Fz
        have Fz := Fm.newRow (p1 := (it, o)) Fz
        have hrl : Value.ref rl ∉ cvs := fun m => by
          obtain ⟨i, hi⟩ := List.mem_iff_getElem?.mp m
          obtain ⟨row, _, r, n, vs', e, m', _⟩ := hc.at hi
          cases e
          exact (List.nodup_cons.mp (List.nodup_cons.mp F.nd).2).1 (List.mem_cons_of_mem _ (List.mem_cons_of_mem _ (List.mem_map.mpr ⟨_, m', rfl⟩)))
        refine ⟨_, _, _, _, rfl, ⟨_, _, _, _, _, _, _, _, _, rfl, rfl, hnx.symm, ?_, ?_, ?_, by simp; (first | exact ar_to (by assumption) _ | lia | omega), by simp⟩, Fz⟩
        · rw [hS2 (by assumption)]
          exact (hc.mono fun _ _ _ y => y.more (fun _ m => by repeat (first | exact m | refine List.mem_cons_of_mem _ ?_))).snoc ⟨_, _, _, rfl, List.mem_cons_self, hr.mono fun _ _ _ y => y.more (fun _ m => by repeat (first | exact m | refine List.mem_cons_of_mem _ ?_))⟩
        · rw [hS2 (by assumption)]; exact .nil
        · rw [List.nodup_append]
          exact ⟨hnd, by simp, fun a m b m' e => hrl (by simp at m'; subst m' e; exact m)⟩
      · exact absurd hne (by assumption)
  · rintro _ _ h' tk' ⟨vx, vi, rl, rowvs, n1, cvs, n2, led0, st, rfl, rfl, hst, hc, hr, hnd, hl1, hl2⟩ F
    clear FS
    try dsimp only
    walk_at "m go"
    have hrows : All2 (RowAt ((rl, listObj rowvs n1) :: led0)) (cvs ++ [Value.ref rl]) (st.1 ++ [st.2]) :=
      (hc.mono fun _ _ _ y => y.more (fun _ m => by repeat (first | exact m | refine List.mem_cons_of_mem _ ?_))).snoc ⟨_, _, _, rfl, List.mem_cons_self, hr.mono fun _ _ _ y => y.more (fun _ m => by repeat (first | exact m | refine List.mem_cons_of_mem _ ?_))⟩
    have hvn : (cvs ++ [Value.ref rl]).Nodup := by
      rw [List.nodup_append]
      refine ⟨hnd, by simp, fun a m b m' e => ?_⟩
      simp at m'; subst m' e
      obtain ⟨i, hi⟩ := List.mem_iff_getElem?.mp m
      obtain ⟨row, _, r, n, vs', e, m', _⟩ := hc.at hi
      cases e
      exact (List.nodup_cons.mp F.nd).1 (List.mem_cons_of_mem _ (List.mem_cons_of_mem _ (List.mem_map.mpr ⟨_, m', rfl⟩)))
    have hln : (cvs ++ [Value.ref rl]).length ≤ 13 := by simp; (first | exact ar_to (by assumption) _ | lia | omega)
    refine compK_listX (vs := cvs ++ [Value.ref rl]) [] (fun i ys => All2 (RowAt ((rl, listObj rowvs n1) :: led0)) ys (((st.1 ++ [st.2]).take i).filter (fun r => decide (r ≠ []))) ∧ List.Sublist ys ((cvs ++ [Value.ref rl]).take i))
      X R'.hd F (isList (F.get (.there .here))) ⟨.nil, by simp⟩ ?_ ?_ ?_
    · rintro i ys ⟨_, hsub⟩ _
      have := hsub.length_le
      rw [List.length_take] at this
      rw [sizeLine_eq]; (first | exact ar_to (by assumption) _ | lia | omega)
    · rintro C D it i v ys o n h₂ tk₂ E' X' hvi ⟨hys, hsub⟩ Fc
      obtain ⟨row, hrow, r, nr, vr, rfl, hm, hits⟩ := hrows.at hvi
      have hrg : h'.get? r = some (listObj vr nr) := F.get (Got.of_mem (by rcases List.mem_cons.mp hm with h | h; exact h ▸ List.mem_cons_self; exact List.mem_cons_of_mem _ (List.mem_cons_of_mem _ (List.mem_cons_of_mem _ h))))
      have hvr := hits.len
      have hnil : vr = [] ↔ row = [] := by rw [← List.length_eq_zero_iff, hvr, List.length_eq_zero_iff]
      have hff := takeFilter (fun r : List Pair => decide (r ≠ [])) hrow
      have hss : List.Sublist ys ((cvs ++ [Value.ref rl]).take (i + 1)) := hsub.trans (by rw [List.take_add_one]; exact List.sublist_append_left _ _)
      have hss2 : List.Sublist (ys ++ [Value.ref r]) ((cvs ++ [Value.ref rl]).take (i + 1)) := by rw [List.take_add_one, hvi]; exact hsub.append (List.Sublist.refl _)
      refine ifs1 ?_
      walk_at "m go"
      · rw [if_pos (by simpa [← hnil] using ‹vr ≠ []›)] at hff
        exact ⟨_, _, _, rfl, ⟨by rw [hff]; exact hys.snoc ⟨_, _, _, rfl, hm, hits⟩, hss2⟩, by assumption, by walk_at "m got", by walk_at "m got"⟩
      · rw [if_neg (by simpa [← hnil] using ‹¬ vr ≠ []›), List.append_nil] at hff
        exact ⟨_, _, _, rfl, ⟨by rw [hff]; exact hys, hss⟩, by assumption, by walk_at "m got", by walk_at "m got"⟩
    · rintro C oC D ys n h₂ tk₂ ⟨hys, hsub⟩ hns F₂
      refine RRe.ok hns F₂ fun h₃ F₃ => ?_
      rw [List.take_of_length_le (by rw [hrows.len]; exact Nat.le_refl _)] at hys
      rw [List.take_of_length_le (Nat.le_refl _)] at hsub
      have hyl := hys.len
      have hyn := hvn.sublist hsub
      have hyl2 := hsub.length_le
      clear F F₂
      have hst' : st = sn.foldl rowsStep ([], []) := by rw [hst, hvsl, List.take_length]
      have hE : ys = [] ↔ (st.1 ++ [st.2]).filter (fun r => decide (r ≠ [])) = [] := by rw [← List.length_eq_zero_iff, hyl, List.length_eq_zero_iff]
      walk_at "m go"
      · try dsimp only
        have e : rowsF sn = (st.1 ++ [st.2]).filter (fun r => decide (r ≠ [])) := by
          unfold rowsF; rw [← hst']; exact if_pos (fun e => ‹ys ≠ []› (hE.mpr e))
        rw [e] at q
        refine q _ _ _ (Fm.rowsOut (by assumption) (hys.mono fun _ _ _ y => y.more (fun _ m => by rcases List.mem_cons.mp m with rfl | m <;> repeat (first | exact List.mem_cons_self | exact m | refine List.mem_cons_of_mem _ ?_))) hyn)
      · try dsimp only
        have e : rowsF sn = [[([91, 46, 93], [46]), ([46], [46])]] := by
          unfold rowsF; rw [← hst']; exact if_neg (fun e => e (hE.mp (Decidable.not_not.mp ‹¬ ys ≠ []›)))
        rw [e] at q
        refine q _ _ _ (Fm.rowsOut (by assumption) (.cons ⟨_, _, _, rfl, Got.mem (by walk_at "m got"), .cons ⟨_, _, _, rfl, Got.mem (by walk_at "m got")⟩ (.cons ⟨_, _, _, rfl, Got.mem (by walk_at "m got")⟩ .nil)⟩ .nil) (by simp))
end
end

section
noncomputable def marksF : Nat → List Nat → List (List Nat)
  | 0, _ => []
  | _ + 1, [] => []
  | n + 1, c :: r => if c = 92 then (c :: r).take 2 :: marksF n ((c :: r).drop 2) else [c] :: marksF n r
noncomputable def lastC (m : List Nat) : List Nat := [m.getLastD 0]
noncomputable def signZ (ms : List (List Nat)) (k : List Nat) : List Nat := if ms.length ≠ 1 ∨ con k (ms.getD 0 []) = true then [32] else lastC (ms.getD 0 [])
noncomputable def signY (m : List (List Nat)) : List Nat :=
  if m = [[97], [92, 45]] then [80]
  else if m = [[97], [45], [98]] then [82]
  else if m.length = 2 ∧ m.getD 0 [] = [94] then
    if con [45, 126, 38, 124] (m.getD 1 []) = true then [32] else [78] ++ lastC (m.getD 1 [])
  else if m.length = 3 ∧ m.getD 1 [] = [45] ∧ m.getD 2 [] ∈ [m.getD 0 [], [94], [91]] ∧ lastC (m.getD 0 []) = lastC (m.getD 2 []) then
    signZ [m.getD 0 []] [94, 91, 45, 126, 38, 124]
  else signZ m [94, 91, 45, 126, 38, 124]
noncomputable def signM (ms : List (List Nat)) : List Nat :=
  if ms = [] ∨ [92] ∈ ms then [32]
  else if 2 < ms.length ∧ ms.getD 0 [] = [91] ∧ ms.getLastD [] = [93] then signY ((ms.drop 1).dropLast)
  else signZ ms [42, 91, 94, 36, 43, 124, 40, 41, 123, 125, 126, 38, 45, 93]
section
variable {ms ys : List (List Nat)} {k : List Nat} {vs ws : List Value} {n : Nat} {o : List Nat}
theorem signM_a (hv : vs = [] ↔ ms = []) (h : vs = [] ∨ [92] ∈ ms) : signM ms = [32] := if_pos (h.imp_left hv.mp)
theorem signM_b (hv : vs = [] ↔ ms = []) (hn : n = ms.length) (h1 : ¬(vs = [] ∨ [92] ∈ ms)) (h : (2 : Int) < n ∧ ms.getD 0 [] = [91] ∧ ms.getLastD [] = [93]) (e : ys = (ms.drop 1).dropLast) (ho : signY ys = o) : signM ms = o :=
  (if_neg (fun x => h1 (x.imp_left hv.mpr))).trans ((if_pos ⟨(ar_gt hn 2).mp h.1, h.2⟩).trans (e ▸ ho))
theorem signM_c (hv : vs = [] ↔ ms = []) (hn : n = ms.length) (h1 : ¬(vs = [] ∨ [92] ∈ ms)) (h : ¬((2 : Int) < n ∧ ms.getD 0 [] = [91] ∧ ms.getLastD [] = [93])) (ho : signZ ms [42, 91, 94, 36, 43, 124, 40, 41, 123, 125, 126, 38, 45, 93] = o) : signM ms = o :=
  (if_neg (fun x => h1 (x.imp_left hv.mpr))).trans ((if_neg (fun x => h ⟨(ar_gt hn 2).mpr x.1, x.2⟩)).trans ho)
theorem signZ_a (hn : n = ms.length) (h : (n : Int) ≠ 1 ∨ con k (ms.getD 0 []) = true) : signZ ms k = [32] := if_pos (h.imp_left fun x e => x ((ar_eq hn 1).mpr e))
theorem signZ_b (hn : n = ms.length) (h : ¬((n : Int) ≠ 1 ∨ con k (ms.getD 0 []) = true)) : signZ ms k = [(ms.getD 0 []).getLastD 0] := if_neg fun x => h (x.imp_left fun y e => y ((ar_eq hn 1).mp e))
theorem signY_1 (h : ys = [[97], [92, 45]]) : signY ys = [80] := if_pos h
theorem signY_2 (h1 : ¬ ys = [[97], [92, 45]]) (h : ys = [[97], [45], [98]]) : signY ys = [82] := (if_neg h1).trans (if_pos h)
theorem signY_3 (hn : n = ys.length) (h1 : ¬ ys = [[97], [92, 45]]) (h2 : ¬ ys = [[97], [45], [98]]) (h3 : (n : Int) = 2 ∧ ys.getD 0 [] = [94]) (h : con [45, 126, 38, 124] (ys.getD 1 []) = true) : signY ys = [32] :=
  (if_neg h1).trans ((if_neg h2).trans ((if_pos ⟨(ar_eq hn 2).mp h3.1, h3.2⟩).trans (if_pos h)))
theorem signY_4 (hn : n = ys.length) (h1 : ¬ ys = [[97], [92, 45]]) (h2 : ¬ ys = [[97], [45], [98]]) (h3 : (n : Int) = 2 ∧ ys.getD 0 [] = [94]) (h : ¬ con [45, 126, 38, 124] (ys.getD 1 []) = true) : signY ys = [78] ++ [(ys.getD 1 []).getLastD 0] :=
  (if_neg h1).trans ((if_neg h2).trans ((if_pos ⟨(ar_eq hn 2).mp h3.1, h3.2⟩).trans (if_neg h)))
theorem signY_5 (hn : n = ys.length) (h1 : ¬ ys = [[97], [92, 45]]) (h2 : ¬ ys = [[97], [45], [98]]) (h3 : ¬((n : Int) = 2 ∧ ys.getD 0 [] = [94]))
    (h : (n : Int) = 3 ∧ ys.getD 1 [] = [45] ∧ ys.getD 2 [] ∈ [ys.getD 0 [], [94], [91]] ∧ [(ys.getD 0 []).getLastD 0] = [(ys.getD 2 []).getLastD 0]) (ho : signZ [ys.getD 0 []] [94, 91, 45, 126, 38, 124] = o) : signY ys = o :=
  (if_neg h1).trans ((if_neg h2).trans ((if_neg (fun x => h3 ⟨(ar_eq hn 2).mpr x.1, x.2⟩)).trans ((if_pos ⟨(ar_eq hn 3).mp h.1, h.2⟩).trans ho)))
theorem signY_6 (hn : n = ys.length) (h1 : ¬ ys = [[97], [92, 45]]) (h2 : ¬ ys = [[97], [45], [98]]) (h3 : ¬((n : Int) = 2 ∧ ys.getD 0 [] = [94]))
    (h : ¬((n : Int) = 3 ∧ ys.getD 1 [] = [45] ∧ ys.getD 2 [] ∈ [ys.getD 0 [], [94], [91]] ∧ [(ys.getD 0 []).getLastD 0] = [(ys.getD 2 []).getLastD 0])) (ho : signZ ys [94, 91, 45, 126, 38, 124] = o) : signY ys = o :=
  (if_neg h1).trans ((if_neg h2).trans ((if_neg (fun x => h3 ⟨(ar_eq hn 2).mpr x.1, x.2⟩)).trans ((if_neg (fun x => h ⟨(ar_eq hn 3).mpr x.1, x.2⟩)).trans ho)))
end
noncomputable def signF : Option (List Nat) → List Nat
  | none => [83]
  | some l => if l = [63] then [81] else if l = [46] then [65] else if l = [40, 63, 33, 41] then [48] else signM (marksF l.length l)
theorem marksF_fuel : ∀ (n : Nat) (l : List Nat), l.length ≤ n → marksF n l = marksF l.length l := by
  intro n
  induction n using Nat.strongRecOn with
  | ind n ih =>
    intro l hl
    cases l with
    | nil => cases n <;> rfl
    | cons c r =>
      obtain ⟨m, rfl⟩ : ∃ m, n = m + 1 := ⟨n - 1, ar_p1 (Nat.lt_of_lt_of_le (Nat.succ_pos _) hl)⟩
      simp only [List.length_cons] at hl
      rw [List.length_cons, marksF, marksF]
      by_cases hc : c = 92
      · rw [if_pos hc, if_pos hc]
        congr 1
        have hd : ((c :: r).drop 2).length ≤ r.length := by simp
        rw [ih m (Nat.lt_succ_self m) _ (Nat.le_trans hd (Nat.le_of_succ_le_succ hl))]
        exact (ih r.length hl _ hd).symm
      · rw [if_neg hc, if_neg hc]
        congr 1
        exact ih m (Nat.lt_succ_self m) r (Nat.le_of_succ_le_succ hl)
noncomputable def markAt (l : List Nat) (k : Nat) : List Nat := if [l.getD k 0] = [92] then (l.take (k + 2)).drop k else [l.getD k 0]
theorem markAt_len {l : List Nat} {k : Nat} (h : k < l.length) : 1 ≤ (markAt l k).length ∧ (markAt l k).length ≤ 2 ∧ k + (markAt l k).length ≤ l.length := by
  unfold markAt
  split
  · have hkm : k < min (k + 2) l.length := Nat.lt_min.mpr ⟨Nat.lt_add_of_pos_right (by decide), h⟩
    rw [List.length_drop, List.length_take]
    exact ⟨Nat.sub_pos_of_lt hkm, Nat.sub_le_iff_le_add'.mpr (Nat.min_le_left _ _), by rw [Nat.add_sub_cancel' (Nat.le_of_lt hkm)]; exact Nat.min_le_right _ _⟩
  · exact ⟨Nat.le_refl _, Nat.le_succ _, h⟩
theorem marks_step {l : List Nat} {k : Nat} (h : k < l.length) : marksF (l.length - k) (l.drop k) = markAt l k :: marksF (l.length - (k + (markAt l k).length)) (l.drop (k + (markAt l k).length)) := by
  have hd : l.drop k = l[k] :: l.drop (k + 1) := List.drop_eq_getElem_cons h
  have hg : l.getD k 0 = l[k] := by rw [List.getD_eq_getElem?_getD, List.getElem?_eq_getElem h]; rfl
  obtain ⟨n, hn⟩ : ∃ n, l.length - k = n + 1 := ⟨l.length - k - 1, (Nat.sub_add_cancel (Nat.sub_pos_of_lt h)).symm⟩
  rw [hn, hd, marksF, ← hd]
  by_cases hc : l[k] = 92
  · rw [if_pos hc]
    have e : markAt l k = (l.drop k).take 2 := by
      unfold markAt; rw [if_pos (by rw [hg, hc]), List.drop_take, Nat.add_sub_cancel_left]
    have e2 : (l.drop k).drop 2 = l.drop (k + (markAt l k).length) := by
      rw [e, List.drop_drop, List.length_take, List.length_drop]
      rcases Nat.le_total (k + 2) l.length with h2 | h2
      · rw [Nat.min_eq_left (Nat.le_sub_of_add_le' h2)]
      · rw [Nat.min_eq_right (Nat.sub_le_iff_le_add'.mpr h2), List.drop_of_length_le h2, List.drop_of_length_le (Nat.sub_le_iff_le_add'.mp (Nat.le_refl _))]
    rw [e2, e, ← e]
    congr 1
    rw [marksF_fuel n _ (by rw [List.length_drop, Nat.sub_add_eq, hn]; exact Nat.sub_le_of_le_add (Nat.add_le_add_left (markAt_len h).1 n)), List.length_drop]
  · rw [if_neg hc]
    have e : markAt l k = [l[k]] := by unfold markAt; rw [if_neg (by rw [hg]; simpa using hc), hg]
    rw [e]
    congr 1
    show marksF n (l.drop (k + 1)) = marksF (l.length - (k + 1)) (l.drop (k + 1))
    rw [Nat.sub_add_eq, hn]; rfl
theorem useM {h : Heap} {g : Array GenState} {d : Drawn} {os : OsState} {ms : List (List Nat)} {o : List Nat} {Q : Value → Shared → Prop} (q : ∀ h' tk' t, Keep h h' → Q (.str (T (signM ms)) t) ⟨h', g, d, tk', os⟩) (e : signM ms = o) :
    ∀ h' tk' t, Keep h h' → Q (.str (T o) t) ⟨h', g, d, tk', os⟩ := e ▸ q
theorem dictVals {f : Option Str → Option Value} (h : ∃ t1 t2 t3, f = valueAt (merged [] [(some (Str.ofString "?"), Value.str (Str.ofString "Q") t1), (some (Str.ofString "."), Value.str (Str.ofString "A") t2), (some (Str.ofString "(?!)"), Value.str (Str.ofString "0") t3)])) :
    f none = none ∧ (∃ t, f (some (T [63])) = some (.str (T [81]) t)) ∧ (∃ t, f (some (T [46])) = some (.str (T [65]) t)) ∧ (∃ t, f (some (T [40, 63, 33, 41])) = some (.str (T [48]) t)) := by
  obtain ⟨t1, t2, t3, rfl⟩ := h
  have e1 : Str.ofString "?" = T [63] := by decide +kernel
  have e2 : Str.ofString "." = T [46] := by decide +kernel
  have e3 : Str.ofString "(?!)" = T [40, 63, 33, 41] := by decide +kernel
  have e4 : Str.ofString "Q" = T [81] := by decide +kernel
  have e5 : Str.ofString "A" = T [65] := by decide +kernel
  have e6 : Str.ofString "0" = T [48] := by decide +kernel
  rw [e1, e2, e3, e4, e5, e6]
  have n1 : (T [63] = T [46]) = False := by simp; exact fun e => by have := T_inj e; simp at this
  have n2 : (T [63] = T [40, 63, 33, 41]) = False := by simp; exact fun e => by have := T_inj e; simp at this
  have n3 : (T [46] = T [40, 63, 33, 41]) = False := by simp; exact fun e => by have := T_inj e; simp at this
  have n1' : (T [46] = T [63]) = False := by rw [← n1]; exact propext eq_comm
  have n2' : (T [40, 63, 33, 41] = T [63]) = False := by rw [← n2]; exact propext eq_comm
  have n3' : (T [40, 63, 33, 41] = T [46]) = False := by rw [← n3]; exact propext eq_comm
  refine ⟨?_, ⟨t1, ?_⟩, ⟨t2, ?_⟩, ⟨t3, ?_⟩⟩
  all_goals simp [valueAt, merged, stored, n1, n2, n3, n1', n2', n3']
inductive SignJ (h : Heap) (L : Addr) (l : List Nat) (t : Tok) (ma : Addr) (g : Array GenState) (d : Drawn) (os : OsState) (n : Nat) (s : Shared) : Prop
  | mk (k : Nat) (vs : List Value) (ms : List (List Nat)) (tkk : Tok) (led0 : List (Addr × Obj)) (nm : Nat) (h' : Heap) (tk' : Nat) (e : s = ⟨h', g, d, tk', os⟩) (e1 : n = l.length - k) (hk : k ≤ l.length) (hv : TV vs ms)
    (hM : ms ++ marksF (l.length - k) (l.drop k) = marksF l.length l) (hml : ms.length ≤ k) (hne : ∀ m ∈ ms, m ≠ [] ∧ m.length ≤ 2)
    (F : Fm h L ["item", "marks", "k"] [some (.str (T l) t), some (.ref ma), some (.int (k : Int) tkk)] ((ma, listObj vs nm) :: led0) h')
section
variable {prog : Program} {w : World} {h : Heap} {A : Around} {E : Value → Shared → Prop}
  {g : Array GenState} {d : Drawn} {tk : Nat} {os : OsState}
theorem law_sign_none {Q : Value → Shared → Prop} (H0 : TopF h) (R : Rm A 4)
    (q : ∀ h' tk' t, Keep h h' → Q (.str (T [83]) t) ⟨h', g, d, tk', os⟩) :
    wpAny (model prog w) A (call (.ref 196) [.none]) Q E ⟨h, g, d, tk, os⟩ := by
  refine enter ["item"] ["marks", "k"] (n := 28) (gl := ["len"]) (names := ["item", "marks", "k"]) (vals := [some (.none), none, none]) H0 R (by walk_at "m in") rfl rfl (fun _ _ _ => rfl) rfl (mkFE (by decide +kernel) (by decide +kernel) (by decide +kernel) (by decide +kernel)) (by decide +kernel) (by decide +kernel) (by decide +kernel) ?_
  intro env L h₁ tk₁ A' R' X hfr F
  with_unfolding_all walk1
  walk_at "m go"
  have hf := dictVals (by assumption)
  rw [hf.1]
  exact q _ _ _ (Fm.keep (by assumption))
theorem law_sign_spec3 {l m : List Nat} {t : Tok} {Q : Value → Shared → Prop} (H0 : TopF h) (R : Rm A 4) (hm : (l = [63] ∧ m = [81]) ∨ (l = [46] ∧ m = [65]) ∨ (l = [40, 63, 33, 41] ∧ m = [48]))
    (q : ∀ h' tk' t, Keep h h' → Q (.str (T m) t) ⟨h', g, d, tk', os⟩) :
    wpAny (model prog w) A (call (.ref 196) [.str (T l) t]) Q E ⟨h, g, d, tk, os⟩ := by
  have hin : l ∈ ([[63], [46], [40, 63, 33, 41]] : List (List Nat)) := by rcases hm with ⟨rfl, _⟩ | ⟨rfl, _⟩ | ⟨rfl, _⟩ <;> decide
  refine enter ["item"] ["marks", "k"] (n := 28) (gl := ["len"]) (names := ["item", "marks", "k"]) (vals := [some (.str (T l) t), none, none]) H0 R (by walk_at "m in") rfl rfl (fun _ _ _ => rfl) rfl (mkFE (by decide +kernel) (by decide +kernel) (by decide +kernel) (by decide +kernel)) (by decide +kernel) (by decide +kernel) (by decide +kernel) ?_
  intro env L h₁ tk₁ A' R' X hfr F
  with_unfolding_all walk1
  walk_at "m go"
  · obtain ⟨_, ⟨_, hf⟩, ⟨_, hg⟩, ⟨_, hk⟩⟩ := dictVals (by assumption)
    rcases hm with ⟨rfl, rfl⟩ | ⟨rfl, rfl⟩ | ⟨rfl, rfl⟩
    · rw [hf]; exact q _ _ _ (Fm.keep (by assumption))
    · rw [hg]; exact q _ _ _ (Fm.keep (by assumption))
    · rw [hk]; exact q _ _ _ (Fm.keep (by assumption))
  · exact absurd hin (by assumption)
theorem law_sign_spec4 {l : List Nat} {t : Tok} {Q : Value → Shared → Prop} (H0 : TopF h) (R : Rm A 4) (hm : ¬ l ∈ ([[63], [46], [40, 63, 33, 41]] : List (List Nat))) (hl : l.length ≤ 1000)
    (q : ∀ h' tk' t, Keep h h' → Q (.str (T (signM (marksF l.length l))) t) ⟨h', g, d, tk', os⟩) :
    wpAny (model prog w) A (call (.ref 196) [.str (T l) t]) Q E ⟨h, g, d, tk, os⟩ := by
  refine enter ["item"] ["marks", "k"] (n := 28) (gl := ["len"]) (names := ["item", "marks", "k"]) (vals := [some (.str (T l) t), none, none]) H0 R (by walk_at "m in") rfl rfl (fun _ _ _ => rfl) rfl (mkFE (by decide +kernel) (by decide +kernel) (by decide +kernel) (by decide +kernel)) (by decide +kernel) (by decide +kernel) (by decide +kernel) ?_
  intro env L h₁ tk₁ A' R' X hfr F
  with_unfolding_all walk1
  walk_at "m go"
  · exact absurd ‹l ∈ _› hm
  · rename_i ma _ _ _ _ _ _ _ F0 tkA
    refine while_ (SignJ h L l t ma g d os) l.length
      ⟨0, [], [], _, _, _, _, _, rfl, rfl, Nat.zero_le _, .nil, rfl, Nat.le_refl _, (fun _ h => nomatch h), F0⟩ ?_
    rintro n s E' ⟨k, vs, ms, tkk, led0, nm, h', tk', rfl, rfl, hk, hv, hM, hml, hne, F⟩
    clear F0
    have hs : Small l := ar_to hl _
    have hvl := hv.len
    have hmx : ms.length ≤ 100000 := Nat.le_trans hml (Nat.le_trans hk (ar_to hl _))
    have hmb : ∀ m ∈ ms, m.length ≤ 1000 := fun m hm => ar_to (hne m hm).2 _
    have hmn : NE ms := NE.of fun m hm => (hne m hm).1
    have hmv : vs = [] ↔ ms = [] := by rw [← List.length_eq_zero_iff, hvl, List.length_eq_zero_iff]
    walk_at "m go"
    · rename_i Fz _
      try dsimp only
      have hx : List.drop (Int.toNat ↑k) (List.take (Int.toNat (↑k + 2)) l) = markAt l k := by
        unfold markAt; rw [if_pos (by assumption)]; rfl
      rw [hx] at Fz
      have hkl : k < l.length := Int.ofNat_lt.mp (by assumption)
      have hml' := markAt_len hkl
      exact ⟨l.length - (k + (markAt l k).length), Nat.sub_lt_sub_left hkl (Nat.lt_add_of_pos_right hml'.1), k + (markAt l k).length, _, ms ++ [markAt l k], _, _, _, _, _, rfl, rfl, hml'.2.2, hv.snoc, by rw [← hM, marks_step hkl, List.append_assoc]; rfl, by rw [List.length_append]; exact Nat.add_le_add hml hml'.1,
        fun m hm => (List.mem_append.mp hm).elim (hne m) fun hm => by rw [List.mem_singleton.mp hm]; exact ⟨List.length_pos_iff.mp hml'.1, hml'.2.1⟩, Fz⟩
    · rename_i Fz _
      try dsimp only
      have hx : [l.getD (Int.toNat ↑k) 0] = markAt l k := by
        unfold markAt; rw [if_neg (by assumption)]; rfl
      rw [hx] at Fz
      have hkl : k < l.length := Int.ofNat_lt.mp (by assumption)
      have hml' := markAt_len hkl
      exact ⟨l.length - (k + (markAt l k).length), Nat.sub_lt_sub_left hkl (Nat.lt_add_of_pos_right hml'.1), k + (markAt l k).length, _, ms ++ [markAt l k], _, _, _, _, _, rfl, rfl, hml'.2.2, hv.snoc, by rw [← hM, marks_step hkl, List.append_assoc]; rfl, by rw [List.length_append]; exact Nat.add_le_add hml hml'.1,
        fun m hm => (List.mem_append.mp hm).elim (hne m) fun hm => by rw [List.mem_singleton.mp hm]; exact ⟨List.length_pos_iff.mp hml'.1, hml'.2.1⟩, Fz⟩
    all_goals (
      try dsimp only
      have hM' : marksF l.length l = ms := by
        rw [← hM, show l.length - k = 0 from Nat.sub_eq_zero_of_le (Int.ofNat_le.mp (Int.not_lt.mp (by assumption)))]; exact List.append_nil ms
      rw [hM'] at q
      refine useM q ?_ _ _ _ (Fm.keep (by assumption))
      first
      | exact signM_a hmv (by assumption)
      | (refine signM_b hmv hvl (by assumption) (by assumption) (by assumption) ?_
         first
         | exact signY_1 (by assumption)
         | exact signY_2 (by assumption) (by assumption)
         | exact signY_3 (by assumption) (by assumption) (by assumption) (by assumption) (by assumption)
         | exact signY_4 (by assumption) (by assumption) (by assumption) (by assumption) (by assumption)
         | refine signY_5 (by assumption) (by assumption) (by assumption) (by assumption) (by assumption) ?_
         | refine signY_6 (by assumption) (by assumption) (by assumption) (by assumption) (by assumption) ?_)
      | refine signM_c hmv hvl (by assumption) (by assumption) ?_
      all_goals first | exact signZ_a (by assumption) (by assumption) | exact signZ_b (by assumption) (by assumption) | exact signZ_a rfl (by assumption) | exact signZ_b rfl (by assumption))
end
end

section
local macro_rules | `(tactic| walk_at "z") => `(tactic| skip)
section
variable {prog : Program} {w : World} {h : Heap} {A : Around} {E : Value → Shared → Prop}
  {g : Array GenState} {d : Drawn} {tk : Nat} {os : OsState}
theorem law_sign_spec {v : Value} {o : Option (List Nat)} {Q : Value → Shared → Prop} (H0 : TopF h) (R : Rm A 4) (ho : OV v o) (hl : ∀ l, o = some l → l.length ≤ 1000)
    (q : ∀ h' tk' t, Keep h h' → Q (.str (T (signF o)) t) ⟨h', g, d, tk', os⟩) :
    wpAny (model prog w) A (call (.ref 196) [v]) Q E ⟨h, g, d, tk, os⟩ := by
  cases o with
  | none => cases ho; exact law_sign_none H0 R q
  | some l =>
    obtain ⟨t, rfl⟩ := ho
    by_cases h1 : l = [63]
    · rw [show signF (some l) = [81] from if_pos h1] at q; exact law_sign_spec3 H0 R (.inl ⟨h1, rfl⟩) q
    · have e1 : signF (some l) = _ := if_neg h1
      by_cases h2 : l = [46]
      · rw [e1.trans (if_pos h2)] at q; exact law_sign_spec3 H0 R (.inr (.inl ⟨h2, rfl⟩)) q
      · have e2 := e1.trans (if_neg h2)
        by_cases h3 : l = [40, 63, 33, 41]
        · rw [e2.trans (if_pos h3)] at q; exact law_sign_spec3 H0 R (.inr (.inr ⟨h3, rfl⟩)) q
        · rw [e2.trans (if_neg h3)] at q
          exact law_sign_spec4 H0 R (by simp [h1, h2, h3]) (hl l rfl) q
end
end

section
/-- the branch of an opening bracket -/
noncomputable def brkF : List Stmt := sBody (sAt (sElse (sAt (sElse (sAt (sBody (sAt (fBody 7) 3)) 2)) 0)) 0)
inductive CloseJ (b : Heap) (L : Addr) (l : List Nat) (t : Tok) (v1 v2 v3 v4 vi : Option Value) (tn : Tok) (vc vst vch vk vck : Option Value) (j : Nat) (led : List (Addr × Obj)) (g : Array GenState) (d : Drawn) (os : OsState) (n : Nat) (s : Shared) : Prop
  | mk (j' : Nat) (h' : Heap) (tk' : Nat) (tj' : Tok) (e : s = ⟨h', g, d, tk', os⟩) (e1 : n = l.length - j') (hc : closeW l l.length j' = closeW l l.length j)
    (F : Fm b L ["pat", "STAR", "QUESTION_MARK", "res", "add", "i", "n", "c", "j", "stuff", "chunks", "k", "chunk"] [some (.str (T l) t), v1, v2, v3, v4, vi, some (.int (l.length : Int) tn), vc, some (.int (j' : Int) tj'), vst, vch, vk, vck] led h')
section
variable {b h : Heap} {L : Addr} {led : List (Addr × Obj)} {A : Around} {E : Value → Shared → Prop} {env : Env} {gl : List Str} {v1 v2 v3 v4 vc vst vch vk vck vi : Option Value}
  {g : Array GenState} {d : Drawn} {tk : Nat} {os : OsState} {prog : Program} {w : World} {l : List Nat} {t tn tj : Tok} {j : Nat} {Q : Flow → Shared → Prop}
theorem stepIf_pos {c : Nat} (h : (j : Int) < l.length ∧ [l.getD j 0] = [c]) : stepIf l c j = j + 1 := if_pos ⟨Int.ofNat_lt.mp h.1, h.2⟩
theorem stepIf_neg {c : Nat} (h : ¬ ((j : Int) < l.length ∧ [l.getD j 0] = [c])) : stepIf l c j = j := if_neg fun x => h ⟨Int.ofNat_lt.mpr x.1, x.2⟩
theorem ifJ1 (X : FE env L ["pat", "STAR", "QUESTION_MARK", "res", "add", "i", "n", "c", "j", "stuff", "chunks", "k", "chunk"] gl) (R : Rm A 2) (hl : Small l) (F : Fm b L ["pat", "STAR", "QUESTION_MARK", "res", "add", "i", "n", "c", "j", "stuff", "chunks", "k", "chunk"] [some (.str (T l) t), v1, v2, v3, v4, vi, some (.int (l.length : Int) tn), vc, some (.int (j : Int) tj), vst, vch, vk, vck] led h)
    (q : ∀ h' tk' tj', Fm b L ["pat", "STAR", "QUESTION_MARK", "res", "add", "i", "n", "c", "j", "stuff", "chunks", "k", "chunk"] [some (.str (T l) t), v1, v2, v3, v4, vi, some (.int (l.length : Int) tn), vc, some (.int ((stepIf l 33 j : Nat) : Int) tj'), vst, vch, vk, vck] led h' → Q .next ⟨h', g, d, tk', os⟩) :
    wpAny (model prog w) A (exec (sAt brkF 1) env) Q E ⟨h, g, d, tk, os⟩ := by
  conv in exec (sAt brkF 1) _ => arg 1; whnf
  walk_at "m go"
  · rw [stepIf_pos (by assumption)] at q; exact q _ _ _ (by assumption)
  · rw [stepIf_neg (by assumption)] at q; exact q _ _ _ (by assumption)
theorem ifJ2 (X : FE env L ["pat", "STAR", "QUESTION_MARK", "res", "add", "i", "n", "c", "j", "stuff", "chunks", "k", "chunk"] gl) (R : Rm A 2) (hl : Small l) (F : Fm b L ["pat", "STAR", "QUESTION_MARK", "res", "add", "i", "n", "c", "j", "stuff", "chunks", "k", "chunk"] [some (.str (T l) t), v1, v2, v3, v4, vi, some (.int (l.length : Int) tn), vc, some (.int (j : Int) tj), vst, vch, vk, vck] led h)
    (q : ∀ h' tk' tj', Fm b L ["pat", "STAR", "QUESTION_MARK", "res", "add", "i", "n", "c", "j", "stuff", "chunks", "k", "chunk"] [some (.str (T l) t), v1, v2, v3, v4, vi, some (.int (l.length : Int) tn), vc, some (.int ((stepIf l 93 j : Nat) : Int) tj'), vst, vch, vk, vck] led h' → Q .next ⟨h', g, d, tk', os⟩) :
    wpAny (model prog w) A (exec (sAt brkF 2) env) Q E ⟨h, g, d, tk, os⟩ := by
  conv in exec (sAt brkF 2) _ => arg 1; whnf
  walk_at "m go"
  · rw [stepIf_pos (by assumption)] at q; exact q _ _ _ (by assumption)
  · rw [stepIf_neg (by assumption)] at q; exact q _ _ _ (by assumption)
theorem closeW_fuel : ∀ (n m j : Nat), l.length ≤ n + j → l.length ≤ m + j → closeW l n j = closeW l m j := by
  intro n
  induction n with
  | zero =>
    intro m j h1 h2
    cases m with
    | zero => rfl
    | succ m => rw [closeW, closeW, if_neg (fun e => absurd e.1 (Nat.not_lt.mpr (Nat.zero_add j ▸ h1)))]
  | succ n ih =>
    intro m j h1 h2
    rw [closeW]
    cases m with
    | zero => rw [closeW, if_neg (fun e => absurd e.1 (Nat.not_lt.mpr (Nat.zero_add j ▸ h2)))]
    | succ m =>
      rw [closeW]
      split
      · exact ih m (j + 1) (by rw [Nat.add_comm j 1, ← Nat.add_assoc]; exact h1) (by rw [Nat.add_comm j 1, ← Nat.add_assoc]; exact h2)
      · rfl
theorem whileJ (X : FE env L ["pat", "STAR", "QUESTION_MARK", "res", "add", "i", "n", "c", "j", "stuff", "chunks", "k", "chunk"] gl) (R : Rm A 2) (hl : Small l) (F : Fm b L ["pat", "STAR", "QUESTION_MARK", "res", "add", "i", "n", "c", "j", "stuff", "chunks", "k", "chunk"] [some (.str (T l) t), v1, v2, v3, v4, vi, some (.int (l.length : Int) tn), vc, some (.int (j : Int) tj), vst, vch, vk, vck] led h)
    (q : ∀ h' tk' tj', Fm b L ["pat", "STAR", "QUESTION_MARK", "res", "add", "i", "n", "c", "j", "stuff", "chunks", "k", "chunk"] [some (.str (T l) t), v1, v2, v3, v4, vi, some (.int (l.length : Int) tn), vc, some (.int ((closeW l l.length j : Nat) : Int) tj'), vst, vch, vk, vck] led h' → Q .next ⟨h', g, d, tk', os⟩) :
    wpAny (model prog w) A (exec (sAt brkF 3) env) Q E ⟨h, g, d, tk, os⟩ := by
  conv in exec (sAt brkF 3) _ => arg 1; whnf
  refine while_ (CloseJ b L l t v1 v2 v3 v4 vi tn vc vst vch vk vck j led g d os) (l.length - j) ⟨j, h, tk, tj, rfl, rfl, rfl, F⟩ ?_
  rintro n s E' ⟨j', h', tk', tj', rfl, rfl, hc, F'⟩
  clear F
  walk_at "m go"
  · rename_i F2 _
    have hx : (j' : Int) < l.length ∧ [l.getD j' 0] ≠ [93] := by assumption
    have h1 : j' < l.length := Int.ofNat_lt.mp hx.1
    have e : closeW l l.length j' = closeW l l.length (j' + 1) := by
      obtain ⟨n, hn⟩ : ∃ n, l.length = n + 1 := ⟨l.length - 1, ar_p1 (Nat.lt_of_le_of_lt (Nat.zero_le _) h1)⟩
      rw [show closeW l l.length j' = closeW l (n + 1) j' from by rw [hn], closeW, if_pos ⟨h1, hx.2⟩]
      exact closeW_fuel _ _ _ (by rw [hn]; exact Nat.add_le_add_left (Nat.succ_le_succ (Nat.zero_le _)) _) (Nat.le_add_right _ _)
    exact ⟨l.length - (j' + 1), ar_back h1, j' + 1, _, _, _, rfl, rfl, e ▸ hc, F2⟩
  · have hx : ¬((j' : Int) < l.length ∧ [l.getD j' 0] ≠ [93]) := by assumption
    have e : closeW l l.length j' = j' := by
      cases hn : l.length with
      | zero => rfl
      | succ n => rw [closeW, if_neg (fun e => hx ⟨Int.ofNat_lt.mpr e.1, e.2⟩)]
    rw [← hc, e] at q
    exact q _ _ _ (by assumption)
end
end

section
/-- the branch of a bracket with a hyphen -/
noncomputable def brkD : List Stmt := sElse (sAt brk 1)
section
variable {b h : Heap} {L : Addr} {names : List Str} {vals : List (Option Value)} {led : List (Addr × Obj)} {A : Around} {E : Value → Shared → Prop}
  {g : Array GenState} {d : Drawn} {tk : Nat} {os : OsState} {prog : Program} {w : World} {l : List Nat} {t u u1 u2 : Tok} {k j : Nat}
theorem find_some {p : Nat} {Q : Value → Shared → Prop} (hj : j ≤ l.length) (hf : findD l k j = some p) (q : ∀ t' tk', Q (.int (p : Int) t') ⟨h, g, d, tk', os⟩) :
    wpAny (model prog w) A (call (.builtin "str.find") [.str (T l) t, .str (T [45]) u, .int (k : Int) u1, .int (j : Int) u2]) Q E ⟨h, g, d, tk, os⟩ :=
  findT4 hj (by rw [hf]; exact q)
theorem find_none {Q : Value → Shared → Prop} (hj : j ≤ l.length) (hf : findD l k j = none) (q : ∀ t' tk', Q (.int (-1) t') ⟨h, g, d, tk', os⟩) :
    wpAny (model prog w) A (call (.builtin "str.find") [.str (T l) t, .str (T [45]) u, .int (k : Int) u1, .int (j : Int) u2]) Q E ⟨h, g, d, tk, os⟩ :=
  findT4 hj (by rw [hf]; exact q)
theorem findD_ok {p : Nat} (h : findD l k j = some p) : k ≤ p ∧ p < j := by
  unfold findD at h
  obtain ⟨i, hi, rfl⟩ := Option.map_eq_some_iff.mp h
  obtain ⟨h1, _, _⟩ := List.findIdx?_eq_some_iff_getElem.mp hi
  rw [List.length_drop, List.length_take] at h1
  exact ⟨Nat.le_add_left _ _, Nat.lt_of_lt_of_le (Nat.add_lt_of_lt_sub h1) (Nat.min_le_left _ _)⟩
theorem findD_end (h : j ≤ k) : findD l k j = none := by
  unfold findD
  rw [List.drop_of_length_le (by rw [List.length_take]; exact Nat.le_trans (Nat.min_le_left _ _) h)]; rfl
theorem chunkG_fuel : ∀ (n m i k : Nat) (cs : List (List Nat)), j ≤ n + k → j ≤ m + k → chunkG l j n i k cs = chunkG l j m i k cs := by
  intro n
  induction n with
  | zero =>
    intro m i k cs h1 h2
    cases m with
    | zero => rfl
    | succ m => rw [chunkG, chunkG, findD_end (Nat.zero_add k ▸ h1)]
  | succ n ih =>
    intro m i k cs h1 h2
    rw [chunkG]
    cases m with
    | zero => rw [chunkG, findD_end (Nat.zero_add k ▸ h2)]
    | succ m =>
      rw [chunkG]
      cases hf : findD l k j with
      | none => rfl
      | some p => have := findD_ok hf; exact ih m _ _ _ (ar_f h1 this.1) (ar_f h2 this.1)
theorem chunkG_len (l : List Nat) (j : Nat) : ∀ (n i k : Nat) (cs : List (List Nat)), (chunkG l j n i k cs).2.length ≤ n + cs.length := by
  intro n
  induction n with
  | zero => intro i k cs; simp [chunkG]
  | succ n ih =>
    intro i k cs
    rw [chunkG]
    split
    · exact Nat.le_add_left _ _
    · refine Nat.le_trans (ih _ _ _) ?_
      rw [List.length_append, List.length_singleton, Nat.add_comm cs.length 1, Nat.add_assoc]; exact Nat.le_refl _
end
local macro_rules | `(tactic| walk_at "call builtin:str.find") => `(tactic| first | (refine find_some (by assumption) (by assumption) ?_; intro _ _) | (refine find_none (by assumption) (by assumption) ?_; intro _ _))
local macro_rules | `(tactic| walk_at "isTrue") => `(tactic| (walk_at "m ct"))
inductive ChunkJ (b : Heap) (L : Addr) (l : List Nat) (t : Tok) (v1 v2 v3 v4 vn vc : Option Value) (tj : Tok) (vst : Option Value) (D : Addr) (vck : Option Value) (i j k : Nat) (cs : List (List Nat)) (led : List (Addr × Obj)) (g : Array GenState) (d : Drawn) (os : OsState) (m : Nat) (s : Shared) : Prop
  | mk (i' k' : Nat) (cs' : List (List Nat)) (vs' : List Value) (n' : Nat) (h' : Heap) (tk' : Nat) (ti' tkk' : Tok) (led' : List (Addr × Obj)) (e : s = ⟨h', g, d, tk', os⟩) (e1 : m = l.length - k')
    (hc : chunkG l j l.length i' k' cs' = chunkG l j l.length i k cs) (hv : TV vs' cs') (hk : cs'.length ≤ k') (hled : ∀ p ∈ led, p ∈ led')
    (F : Fm b L ["pat", "STAR", "QUESTION_MARK", "res", "add", "i", "n", "c", "j", "stuff", "chunks", "k", "chunk"] [some (.str (T l) t), v1, v2, v3, v4, some (.int (i' : Int) ti'), vn, vc, some (.int (j : Int) tj), vst, some (.ref D), some (.int (k' : Int) tkk'), vck] ((D, listObj vs' n') :: led') h')
section
variable {b h : Heap} {L : Addr} {led : List (Addr × Obj)} {A : Around} {E : Value → Shared → Prop} {env : Env} {gl : List Str} {v1 v2 v3 v4 vn vc vst vch vk vck vi : Option Value}
  {g : Array GenState} {d : Drawn} {tk : Nat} {os : OsState} {prog : Program} {w : World} {l : List Nat} {t tn tj ti tkk : Tok} {i k j : Nat} {Q : Flow → Shared → Prop}
theorem whileC {D : Addr} {vs : List Value} {n : Nat} {cs : List (List Nat)} (X : FE env L ["pat", "STAR", "QUESTION_MARK", "res", "add", "i", "n", "c", "j", "stuff", "chunks", "k", "chunk"] gl) (R : Rm A 2) (hl : Small l) (hj : j ≤ l.length) (hk : cs.length ≤ k) (hv : TV vs cs)
    (F : Fm b L ["pat", "STAR", "QUESTION_MARK", "res", "add", "i", "n", "c", "j", "stuff", "chunks", "k", "chunk"] [some (.str (T l) t), v1, v2, v3, v4, some (.int (i : Int) ti), vn, vc, some (.int (j : Int) tj), vst, some (.ref D), some (.int (k : Int) tkk), vck] ((D, listObj vs n) :: led) h)
    (q : ∀ h' tk' ti' vs' n' led' vk, TV vs' (chunkG l j l.length i k cs).2 → (chunkG l j l.length i k cs).2.length ≤ l.length + k → (∀ p ∈ led, p ∈ led') →
      Fm b L ["pat", "STAR", "QUESTION_MARK", "res", "add", "i", "n", "c", "j", "stuff", "chunks", "k", "chunk"] [some (.str (T l) t), v1, v2, v3, v4, some (.int (((chunkG l j l.length i k cs).1 : Nat) : Int) ti'), vn, vc, some (.int (j : Int) tj), vst, some (.ref D), vk, vck] ((D, listObj vs' n') :: led') h' → Q .next ⟨h', g, d, tk', os⟩) :
    wpAny (model prog w) A (exec (sAt brkD 2) env) Q E ⟨h, g, d, tk, os⟩ := by
  conv in exec (sAt brkD 2) _ => arg 1; whnf
  refine while_ (ChunkJ b L l t v1 v2 v3 v4 vn vc tj vst D vck i j k cs led g d os) (l.length - k) ⟨i, k, cs, vs, n, h, tk, ti, tkk, led, rfl, rfl, rfl, hv, hk, fun _ m => m, F⟩ ?_
  rintro m s E' ⟨i', k', cs', vs', n', h', tk', ti', tkk', led', rfl, rfl, hc, hv', hk', hled, F'⟩
  clear F
  have hvl := hv'.len
  have hl' : l.length ≤ 1000000 := hl
  have hfu : ∀ n, chunkG l j (n + 1) i' k' cs' = (match findD l k' j with | none => (i', cs') | some p => chunkG l j n (p + 1) (p + 3) (cs' ++ [(l.take p).drop i'])) := fun n => rfl
  have h1 : chunkG l j l.length i' k' cs' = chunkG l j (l.length + 1) i' k' cs' := chunkG_fuel _ _ _ _ _ (Nat.le_trans hj (Nat.le_add_right _ _)) (Nat.le_trans hj (Nat.le_trans (Nat.le_succ _) (Nat.le_add_right _ _)))
  rw [h1, hfu] at hc
  cases hf : findD l k' j with
  | some p =>
    have hp := findD_ok hf
    rw [hf] at hc
    dsimp only at hc
    walk_at "m go"
    rename_i Fz _
    exact ⟨l.length - (p + 3), Nat.sub_lt_sub_left (Nat.lt_of_le_of_lt hp.1 (Nat.lt_of_lt_of_le hp.2 hj)) (Nat.lt_of_le_of_lt hp.1 (Nat.lt_add_of_pos_right (by decide))), p + 1, p + 3, _, _, _, _, _, _, _, _, rfl, rfl, hc, hv'.snoc, by rw [List.length_append]; exact Nat.add_le_add (Nat.le_trans hk' hp.1) (Nat.le_of_ble_eq_true rfl), hled, Fz⟩
  | none =>
    rw [hf] at hc
    dsimp only at hc
    walk_at "m go"
    try dsimp only
    rw [← hc] at q
    have hb : cs'.length ≤ l.length + k := by
      have := chunkG_len l j l.length i k cs
      rw [← hc] at this
      exact Nat.le_trans this (Nat.add_le_add_left hk _)
    exact q _ _ _ _ _ _ _ hv' hb hled (by assumption)
end
end

section
section
variable {b h : Heap} {L : Addr} {names : List Str} {vals : List (Option Value)} {led : List (Addr × Obj)} {A : Around} {E : Value → Shared → Prop}
  {g : Array GenState} {d : Drawn} {tk : Nat} {os : OsState} {prog : Program} {w : World} {u : Tok}
theorem getItemLastF {a : Addr} {vs : List Value} {n : Nat} {x : Value} {Q : Value → Shared → Prop} (F : Fm b L names vals led h) (hg : Got led a (listObj vs n)) (hx : vs.getLast? = some x) (q : Q x ⟨h, g, d, tk, os⟩) :
    wpAny (model prog w) A (getItem (.ref a) (.int (-1) u)) Q E ⟨h, g, d, tk, os⟩ := by
  have hl := isList (F.get hg)
  have hp : 0 < vs.length := by cases vs with
    | nil => simp at hx
    | cons _ _ => simp
  refine wpAny_getItem_list_neg hl (by decide) (by rw [List.size_toArray]; exact ar_m1 hp) (by decide) ?_ q
  rw [List.getElem?_toArray, List.size_toArray, ar_last, ← List.getLast?_eq_getElem?]
  exact hx
end
theorem setLast {α : Type} {vs : List α} {y : α} (h : 0 < vs.length) : vs.set (vs.length - 1) y = vs.dropLast ++ [y] := by
  rcases List.eq_nil_or_concat vs with rfl | ⟨a, x, rfl⟩
  · simp at h
  · rw [List.concat_eq_append]; simp
theorem two_at {α : Type} {vs : List α} {k : Nat} {d : α} (h : k + 1 < vs.length) : vs = vs.take k ++ vs.getD k d :: vs.getD (k + 1) d :: vs.drop (k + 2) := by
  have h1 : k < vs.length := Nat.lt_of_succ_lt h
  rw [List.getD_eq_getElem?_getD, List.getD_eq_getElem?_getD, List.getElem?_eq_getElem h1, List.getElem?_eq_getElem h]
  simp only [Option.getD_some]
  rw [← List.drop_eq_getElem_cons h, ← List.drop_eq_getElem_cons h1, List.take_append_drop]
theorem setErase {α : Type} {pre post : List α} {a c y : α} : ((pre ++ a :: c :: post).set pre.length y).eraseIdx (pre.length + 1) = pre ++ y :: post := by
  rw [List.set_append_right _ _ (Nat.le_refl _)]
  simp only [Nat.sub_self, List.set_cons_zero]
  rw [List.eraseIdx_append_of_length_le (Nat.le_succ _)]
  simp
theorem TV.merge {vs : List Value} {cs : List (List Nat)} (v : TV vs cs) {k : Nat} {y : List Nat} {t : Tok} (h : k + 1 < cs.length) : TV ((vs.set k (.str (T y) t)).eraseIdx (k + 1)) ((cs.set k y).eraseIdx (k + 1)) := by
  have hvl := v.len
  induction k generalizing vs cs with
  | zero =>
    cases v with
    | nil => simp at h
    | cons v =>
      cases v with
      | nil => simp at h
      | cons v => exact .cons v
  | succ k ih =>
    cases v with
    | nil => simp at h
    | cons v =>
      have hv := v.len
      simp only [List.length_cons] at h
      exact .cons (ih v (Nat.lt_of_succ_lt_succ h) hv)
theorem merge_wsum {cs : List (List Nat)} {k : Nat} {y : List Nat} (h : k + 1 < cs.length) (hy : y.length ≤ (cs.getD k []).length + (cs.getD (k + 1) []).length) : wsum ((cs.set k y).eraseIdx (k + 1)) ≤ wsum cs := by
  have e := two_at (d := ([] : List Nat)) h
  have hl : (cs.take k).length = k := by rw [List.length_take]; exact Nat.min_eq_left (Nat.le_of_lt (Nat.lt_of_succ_lt h))
  generalize hp : cs.take k = pre at *
  generalize hq : cs.drop (k + 2) = post at *
  generalize ha : cs.getD k [] = a at *
  generalize hc : cs.getD (k + 1) [] = c at *
  subst e
  subst hl
  rw [setErase]
  rw [wsum_app, wsum_app]
  unfold wsum
  simp only [List.map_cons, List.sum_cons, List.length_cons]
  exact Nat.add_le_add_left (Nat.add_le_add (by rw [← Nat.add_assoc]; exact Nat.add_le_add_right hy _) (Nat.le_succ _)) _
local macro_rules | `(tactic| walk_at "getItem ref int") => `(tactic| (refine getItemLastF (by assumption) (by walk_at "m got") (by assumption) ?_))
section
variable {b h : Heap} {L : Addr} {led : List (Addr × Obj)} {A : Around} {E : Value → Shared → Prop} {env : Env} {gl : List Str} {v1 v2 v3 v4 vn vc vst vch vk vck vi : Option Value}
  {g : Array GenState} {d : Drawn} {tk : Nat} {os : OsState} {prog : Program} {w : World} {l : List Nat} {t tn tj ti tkk : Tok} {i k j : Nat} {Q : Flow → Shared → Prop}
theorem chunkIf {D : Addr} {vs : List Value} {n : Nat} {cs cs' : List (List Nat)} {c : List Nat} {tc : Tok} (X : FE env L ["pat", "STAR", "QUESTION_MARK", "res", "add", "i", "n", "c", "j", "stuff", "chunks", "k", "chunk"] gl) (R : Rm A 2) (hc : Small c) (hcs : cs.length ≤ 100000) (hv : TV vs cs) (hb : ∀ x ∈ cs, x.length ≤ 100000)
    (hr : (if c ≠ [] then some (cs ++ [c]) else if cs = [] then none else some (cs.dropLast ++ [cs.getLastD [] ++ [45]])) = some cs')
    (F : Fm b L ["pat", "STAR", "QUESTION_MARK", "res", "add", "i", "n", "c", "j", "stuff", "chunks", "k", "chunk"] [some (.str (T l) t), v1, v2, v3, v4, vi, vn, vc, some (.int (j : Int) tj), vst, some (.ref D), vk, some (.str (T c) tc)] ((D, listObj vs n) :: led) h)
    (q : ∀ h' tk' vs' n' led', TV vs' cs' → (∀ p ∈ led, p ∈ led') →
      Fm b L ["pat", "STAR", "QUESTION_MARK", "res", "add", "i", "n", "c", "j", "stuff", "chunks", "k", "chunk"] [some (.str (T l) t), v1, v2, v3, v4, vi, vn, vc, some (.int (j : Int) tj), vst, some (.ref D), vk, some (.str (T c) tc)] ((D, listObj vs' n') :: led') h' → Q .next ⟨h', g, d, tk', os⟩) :
    wpAny (model prog w) A (exec (sAt brkD 4) env) Q E ⟨h, g, d, tk, os⟩ := by
  conv in exec (sAt brkD 4) _ => arg 1; whnf
  have hvl := hv.len
  rcases hv.last with ⟨e1, e2⟩ | ⟨x, tx, e1, e2⟩
  · subst e1 e2
    by_cases hce : c ≠ []
    · rw [if_pos hce] at hr
      cases hr
      walk_at "m go"
      all_goals first
        | exact q _ _ _ _ _ hv.snoc (fun _ m => m) (by assumption)
        | exact absurd hce (by assumption)
    · rw [if_neg hce, if_pos rfl] at hr; cases hr
  · have hx1 : x.length ≤ 100000 := hb x (List.mem_of_getLast? e2)
    have hx2 : Small x := ar_to hx1 _
    have hx3 : Small (x ++ [45]) := ar_snoc hx1 _
    have hpos : 0 < vs.length := by cases vs with
      | nil => cases e1
      | cons _ _ => simp
    have hcn : cs ≠ [] := fun e => by rw [e] at e2; cases e2
    have hgl : cs.getLastD [] = x := by rw [List.getLastD_eq_getLast?, e2]; rfl
    rw [hgl] at hr
    walk_at "m go"
    · rw [if_pos (by assumption)] at hr
      cases hr
      exact q _ _ _ _ _ hv.snoc (fun _ m => m) (by assumption)
    · rw [if_neg (by assumption), if_neg hcn] at hr
      cases hr
      rename_i Fz
      rw [setLast (by simpa using hpos)] at Fz
      exact q _ _ _ _ _ (hv.dropLast.snoc) (fun _ m => m) Fz
end
end

section
local macro_rules | `(tactic| walk_at "z") => `(tactic| skip)
local macro_rules | `(tactic| walk_at "delItem ref int") => `(tactic| (refine' delItemF ?mdn0 ?mdn1 ?mdn2 ?mdn3 ?mdn4 ?mdn5 ?_; (case mdn0 => assumption); (case mdn1 => walk_at "m got"); (case mdn2 => walk_at "m put"); (case mdn3 => walk_at "m int"); (case mdn4 => (rw [List.length_set]; walk_at "m int")); (case mdn5 => (rw [List.length_set]; walk_at "m int")); intro _ _))
theorem Fm.swap {b h : Heap} {L : Addr} {names : List Str} {vals : List (Option Value)} {p1 p2 : Addr × Obj} {led : List (Addr × Obj)} (F : Fm b L names vals (p1 :: p2 :: led) h) : Fm b L names vals (p2 :: p1 :: led) h :=
  F.perm (List.Perm.swap p2 p1 led)
inductive ForMJ (D : Addr) (l : List Nat) (t : Tok) (v1 v2 v3 v4 vi vn vc vj vst vck : Option Value) (led : List (Addr × Obj)) (cs cs' : List (List Nat)) (N : Nat) (i : Nat) (vals : List (Option Value)) (led1 : List (Addr × Obj)) : Prop
  | mk (vk : Option Value) (vs1 : List Value) (n1 : Nat) (cs1 : List (List Nat)) (led2 : List (Addr × Obj)) (e1 : vals = [some (.str (T l) t), v1, v2, v3, v4, vi, vn, vc, vj, vst, some (.ref D), vk, vck])
    (e2 : led1 = (D, listObj vs1 n1) :: led2) (hv : TV vs1 cs1) (hm : mergeL (N - i) cs1 = some cs') (hl : N - i < cs1.length) (hw : wsum cs1 ≤ wsum cs) (hs : ∀ p ∈ led, p ∈ led2)
section
variable {b h : Heap} {L : Addr} {led : List (Addr × Obj)} {A : Around} {E : Value → Shared → Prop} {env : Env} {gl : List Str} {v1 v2 v3 v4 vn vc vst vch vk vck vi vj : Option Value}
  {g : Array GenState} {d : Drawn} {tk : Nat} {os : OsState} {prog : Program} {w : World} {l : List Nat} {t tn tj ti tkk : Tok} {i k j : Nat} {Q : Flow → Shared → Prop}
theorem forM {D : Addr} {vs : List Value} {n : Nat} {cs cs' : List (List Nat)} (X : FE env L ["pat", "STAR", "QUESTION_MARK", "res", "add", "i", "n", "c", "j", "stuff", "chunks", "k", "chunk"] ["len", "range", "_twin_re_1", "escape"]) (R : Rm A 2) (hcs : wsum cs ≤ 1000) (hc0 : cs ≠ []) (hv : TV vs cs) (hm : mergeL (cs.length - 1) cs = some cs')
    (F : Fm b L ["pat", "STAR", "QUESTION_MARK", "res", "add", "i", "n", "c", "j", "stuff", "chunks", "k", "chunk"] [some (.str (T l) t), v1, v2, v3, v4, vi, vn, vc, vj, vst, some (.ref D), vk, vck] ((D, listObj vs n) :: led) h)
    (q : ∀ h' tk' vs' n' led' vk, TV vs' cs' → wsum cs' ≤ wsum cs → (∀ p ∈ led, p ∈ led') →
      Fm b L ["pat", "STAR", "QUESTION_MARK", "res", "add", "i", "n", "c", "j", "stuff", "chunks", "k", "chunk"] [some (.str (T l) t), v1, v2, v3, v4, vi, vn, vc, vj, vst, some (.ref D), vk, vck] ((D, listObj vs' n') :: led') h' → Q .next ⟨h', g, d, tk', os⟩) :
    wpAny (model prog w) A (exec (sAt brkD 5) env) Q E ⟨h, g, d, tk, os⟩ := by
  conv in exec (sAt brkD 5) _ => arg 1; whnf
  have hvl := hv.len
  have hcl : cs.length ≤ wsum cs := wsum_len cs
  have hpos : 0 < cs.length := List.length_pos_iff.mpr hc0
  refine wpAny_For ?_ (fun _ => by with_unfolding_all rfl)
  walk_at "m go"
  rename_i r FS
  have e0 : ((vs.length : Int) - 1) = ((cs.length - 1 : Nat) : Int) := by rw [hvl]; exact (Int.ofNat_sub hpos).symm
  rw [e0] at FS
  generalize hN : cs.length - 1 = N at *
  have FS := FS.swap
  refine iterRange (lo := (N : Int)) (hi := 0) (st := -1) (n := N) (ForMJ D l t v1 v2 v3 v4 vi vn vc vj vst vck led cs cs' N)
      X R.hd (x := "k") (by walk_at "m in") FS (FS.get (.there .here)) (small_down N (hN ▸ Nat.le_trans (Nat.sub_le _ _) (Nat.le_trans hcl hcs))) (rsz_down N) ⟨_, _, _, cs, _, rfl, rfl, hv, hm, by rw [← hN]; exact Nat.sub_lt hpos Nat.one_pos, Nat.le_refl _, fun p m => List.mem_cons_of_mem _ m⟩ 11 ?_ ?_ ?_
  · rintro i _ _ v ⟨vk, vs1, n1, cs1, led2, rfl, rfl, hv1, hm1, hl1, hw1, hs1⟩
    walk_at "m up"
  · rintro i tv _ _ it o h' tk' E' hi ⟨vk, vs1, n1, cs1, led2, rfl, rfl, hv1, hm1, hl1, hw1, hs1⟩ F'
    simp only [List.set_cons_succ, List.set_cons_zero] at F'
    clear FS
    have hk0 : N - i = (N - (i + 1)) + 1 := ar_p1 (Nat.sub_pos_of_lt hi)
    generalize hkk : N - (i + 1) = k' at *
    have hval : ((N : Int) + (i : Int) * -1) = ((k' + 1 : Nat) : Int) := by rw [← hk0, Int.ofNat_sub (Nat.le_of_lt hi), Int.mul_neg, Int.mul_one]; rfl
    rw [hval] at F'
    rw [hk0] at hm1 hl1
    have hw2 : wsum cs1 ≤ 1000 := Nat.le_trans hw1 hcs
    have hvl1 := hv1.len
    have hcl1 : cs1.length ≤ wsum cs1 := wsum_len cs1
    have hmx : cs1.length ≤ 100000 := Nat.le_trans hcl1 (ar_to hw2 _)
    have hmb : ∀ x ∈ cs1, x.length ≤ 1000 := fun x hx => Nat.le_trans (Nat.le_of_succ_le (wsum_mem hx)) hw2
    have t0 : (((k' + 1 : Nat) : Int) - 1).toNat = k' := by show ((k' : Int) + 1 - 1).toNat = k'; rw [Int.add_sub_cancel]; rfl
    have t1 : (((k' + 1 : Nat) : Int)).toNat = k' + 1 := rfl
    rw [mergeL] at hm1
    by_cases hne : cs1.getD k' [] = [] ∨ cs1.getD (k' + 1) [] = []
    · rw [if_pos hne] at hm1; cases hm1
    rw [if_neg hne] at hm1
    have hn1 : cs1.getD (((k' + 1 : Nat) : Int) - 1).toNat [] ≠ [] := by rw [t0]; exact fun e => hne (.inl e)
    have hn2 : cs1.getD (((k' + 1 : Nat) : Int)).toNat [] ≠ [] := by rw [t1]; exact fun e => hne (.inr e)
    have hb1 := bd_one (k := (((k' + 1 : Nat) : Int) - 1).toNat) hmb _ List.mem_cons_self
    have hb2 := bd_one (k := (((k' + 1 : Nat) : Int)).toNat) hmb _ List.mem_cons_self
    have hn3 : 0 < (cs1.getD (((k' + 1 : Nat) : Int)).toNat []).length := List.length_pos_iff.mpr hn2
    have p16 : (0 : Int) ≤ ((k' + 1 : Nat) : Int) - 1 := by show (0 : Int) ≤ (k' : Int) + 1 - 1; rw [Int.add_sub_cancel]; exact Int.natCast_nonneg _
    have p18 : ((k' + 1 : Nat) : Int) < cs1.length := Int.ofNat_lt.mpr hl1
    have p17 : ((k' + 1 : Nat) : Int) - 1 < cs1.length := Int.lt_of_le_of_lt (Int.sub_le_self _ (by decide)) p18
    have p23 : ((k' + 1 : Nat) : Int) < vs1.length := by rw [hvl1]; exact p18
    have p21 : ((k' + 1 : Nat) : Int) - 1 < vs1.length := by rw [hvl1]; exact p17
    have p22 : vs1.length ≤ 1000000 := by rw [hvl1]; exact Nat.le_trans hcl1 (ar_to hw2 _)
    have p19 : (0 : Int) < (cs1.getD (((k' + 1 : Nat) : Int)).toNat []).length := Int.ofNat_lt.mpr hn3
    have p20 : Small ((cs1.getD (((k' + 1 : Nat) : Int) - 1).toNat []).dropLast ++ (cs1.getD (((k' + 1 : Nat) : Int)).toNat []).drop (Int.toNat 1)) := by
      unfold Small
      rw [List.length_append, List.length_dropLast, List.length_drop]
      exact Nat.le_trans (Nat.add_le_add (Nat.le_trans (Nat.sub_le _ _) hb1) (Nat.le_trans (Nat.sub_le _ _) hb2)) (by decide)
    walk_at "m go"
    · rename_i Fz
      have hlt := (by assumption : [(cs1.getD (((k' + 1 : Nat) : Int)).toNat []).getD (Int.toNat 0) 0] < [(cs1.getD (((k' + 1 : Nat) : Int) - 1).toNat []).getLastD 0])
      rw [t0, t1] at hlt
      have hlt2 : [(cs1.getD (k' + 1) []).getD 0 0] < [(cs1.getD k' []).getLastD 0] := hlt
      rw [if_pos hlt2] at hm1
      rw [t0, t1] at Fz
      try dsimp only
      have hly : ((cs1.getD k' []).dropLast ++ (cs1.getD (k' + 1) []).drop 1).length ≤ (cs1.getD k' []).length + (cs1.getD (k' + 1) []).length := by rw [List.length_append, List.length_dropLast, List.length_drop]; exact Nat.add_le_add (Nat.sub_le _ _) (Nat.sub_le _ _)
      refine ⟨_, _, _, _, rfl, ⟨_, _, _, (cs1.set k' ((cs1.getD k' []).dropLast ++ (cs1.getD (k' + 1) []).drop 1)).eraseIdx (k' + 1), _, rfl, rfl, hv1.merge hl1, (by rw [hkk]; exact hm1), ?_, Nat.le_trans (merge_wsum hl1 hly) hw1, hs1⟩, Fz⟩
      rw [hkk, List.length_eraseIdx_of_lt (by rw [List.length_set]; exact hl1), List.length_set]; exact Nat.lt_sub_of_add_lt hl1
    · have hlt := (by assumption : ¬ [(cs1.getD (((k' + 1 : Nat) : Int)).toNat []).getD (Int.toNat 0) 0] < [(cs1.getD (((k' + 1 : Nat) : Int) - 1).toNat []).getLastD 0])
      rw [t0, t1] at hlt
      have hlt2 : ¬ [(cs1.getD (k' + 1) []).getD 0 0] < [(cs1.getD k' []).getLastD 0] := hlt
      rw [if_neg hlt2] at hm1
      try dsimp only
      exact ⟨_, _, _, _, rfl, ⟨_, _, _, cs1, _, rfl, rfl, hv1, (by rw [hkk]; exact hm1), (by rw [hkk]; exact Nat.lt_of_succ_lt hl1), hw1, hs1⟩, F'⟩
  · rintro _ _ h' tk' ⟨vk, vs1, n1, cs1, led2, rfl, rfl, hv1, hm1, hl1, hw1, hs1⟩ F'
    rw [Nat.sub_self] at hm1
    have e : cs1 = cs' := by simpa [mergeL] using hm1
    subst e
    exact q _ _ _ _ _ _ hv1 hw1 hs1 F'
end
end

section
theorem chunkG_wsum (l : List Nat) (j : Nat) (hj : j ≤ l.length) : ∀ (n i k : Nat) (cs : List (List Nat)), i ≤ k → i ≤ j →
    i ≤ (chunkG l j n i k cs).1 ∧ (chunkG l j n i k cs).1 ≤ j ∧ wsum (chunkG l j n i k cs).2 + i ≤ wsum cs + (chunkG l j n i k cs).1 := by
  intro n
  induction n with
  | zero => intro i k cs h1 h2; exact ⟨Nat.le_refl _, h2, Nat.le_refl _⟩
  | succ n ih =>
    intro i k cs h1 h2
    rw [chunkG]
    cases hf : findD l k j with
    | none => exact ⟨Nat.le_refl _, h2, Nat.le_refl _⟩
    | some p =>
      have hp := findD_ok hf
      obtain ⟨a, c, e⟩ := ih (p + 1) (p + 3) (cs ++ [(l.take p).drop i]) (Nat.add_le_add_left (by decide) p) hp.2
      rw [wsum_app, wsum_one] at e
      have hlen : ((l.take p).drop i).length = p - i := by rw [List.length_drop, List.length_take, Nat.min_eq_left (Nat.le_trans (Nat.le_of_lt hp.2) hj)]
      rw [hlen] at e
      try dsimp only
      exact ⟨Nat.le_trans (Nat.le_trans h1 hp.1) (Nat.le_of_succ_le a), c, ar_ch (Nat.le_trans h1 hp.1) e⟩
theorem chunkE_wsum {l : List Nat} {j : Nat} {r : Nat × List (List Nat)} {cs : List (List Nat)} (hj : j ≤ l.length) (hr : r.1 ≤ j) (h : chunkE l j r = some cs) : wsum cs ≤ wsum r.2 + (j - r.1) + 1 ∧ cs ≠ [] := by
  have hlen : ((l.take j).drop r.1).length = j - r.1 := by rw [List.length_drop, List.length_take, Nat.min_eq_left hj]
  unfold chunkE at h
  dsimp only at h
  split at h
  · cases h
    refine ⟨?_, by simp⟩
    rw [wsum_app, wsum_one, hlen]; exact Nat.le_refl _
  · split at h
    · cases h
    · cases h
      rename_i hne
      refine ⟨?_, by simp⟩
      obtain ⟨a, x, e⟩ : ∃ a x, r.2 = a ++ [x] := by
        rcases List.eq_nil_or_concat r.2 with h1 | ⟨a, x, h1⟩
        · exact absurd h1 hne
        · exact ⟨a, x, by rw [h1, List.concat_eq_append]⟩
      rw [e, List.dropLast_concat, wsum_app, wsum_app, wsum_one, wsum_one]
      have : (a ++ [x]).getLastD [] = x := by rw [List.getLastD_eq_getLast?]; simp
      rw [this, List.length_append, List.length_singleton]
      exact Nat.add_le_add_right (Nat.le_add_right _ _) 1
theorem eltSum_le : ∀ cs : List (List Nat), ((cs.map eltF).map (·.length)).sum ≤ 4 * wsum cs
  | [] => Nat.zero_le _
  | x :: r => by
    rw [List.map_cons, List.map_cons, List.sum_cons, wsum_cons, Nat.mul_add]
    exact Nat.add_le_add (Nat.le_trans (eltF_len x) (Nat.mul_le_mul_left 4 (Nat.le_succ _))) (eltSum_le r)
/-- the parts of the generator of the join -/
noncomputable def genS : Scope := match genE with | .GeneratorExp _ _ s _ => s | _ => default
noncomputable def genP : Pos := match genE with | .GeneratorExp _ _ _ p => p | _ => default
noncomputable def genX : Pos := match genE with | .GeneratorExp _ [⟨.Name _ p, _, _, _⟩] _ _ => p | _ => default
noncomputable def genY : Pos := match genE with | .GeneratorExp _ [⟨_, .Name _ p, _, _⟩] _ _ => p | _ => default
theorem genE_eq : genE = .GeneratorExp eltE [⟨.Name "s" genX, .Name "chunks" genY, [], 0⟩] genS genP := by with_unfolding_all rfl
theorem range_map_getD {cs : List (List Nat)} {f : List Nat → List Nat} : (List.range cs.length).map (fun i => f (cs.getD i [])) = cs.map f := by
  apply List.ext_getElem?
  intro i
  by_cases h : i < cs.length
  · simp [h]
  · simp [h]
section
variable {b h : Heap} {L : Addr} {led : List (Addr × Obj)} {A : Around} {E : Value → Shared → Prop} {env : Env} {gl : List Str} {v1 v2 v3 v4 vn vc vst vch vk vck vi vj : Option Value}
  {g : Array GenState} {d : Drawn} {tk : Nat} {os : OsState} {prog : Program} {w : World} {l : List Nat} {t tn tj ti tkk : Tok} {i k j : Nat} {ps : Array Value} {lq : Str}
theorem joinE {D : Addr} {vs : List Value} {n : Nat} {cs : List (List Nat)} {Q : Value → Shared → Prop} (X : FE env L ["pat", "STAR", "QUESTION_MARK", "res", "add", "i", "n", "c", "j", "stuff", "chunks", "k", "chunk"] ["len", "range", "_twin_re_1", "escape"]) (R : Rm A 2) (U : TopU b) (Tt : Tb lamPos lq h ps) (G : AllBare g)
    (hcode : env.code = .ref 61) (hclos : closureFor genS env = pure []) (hcs : wsum cs ≤ 201) (hv : TV vs cs)
    (F : Fm b L ["pat", "STAR", "QUESTION_MARK", "res", "add", "i", "n", "c", "j", "stuff", "chunks", "k", "chunk"] [some (.str (T l) t), v1, v2, v3, v4, vi, vn, vc, vj, vst, some (.ref D), vk, vck] ((D, listObj vs n) :: (57, PySem.W.tabObj ps) :: led) h)
    (q : ∀ h' g' tk' more a, Fm b L ["pat", "STAR", "QUESTION_MARK", "res", "add", "i", "n", "c", "j", "stuff", "chunks", "k", "chunk"] [some (.str (T l) t), v1, v2, v3, v4, vi, vn, vc, vj, vst, some (.ref D), vk, vck] ((D, listObj vs n) :: (57, PySem.W.tabObj (ps ++ more)) :: led) h' → AllBare g' →
      (∀ (ts : Tok) (Q' : Value → Shared → Prop), (∀ h'' g'' tk'' t', Fm b L ["pat", "STAR", "QUESTION_MARK", "res", "add", "i", "n", "c", "j", "stuff", "chunks", "k", "chunk"] [some (.str (T l) t), v1, v2, v3, v4, vi, vn, vc, vj, vst, some (.ref D), vk, vck] ((D, listObj vs n) :: (57, PySem.W.tabObj (ps ++ more)) :: led) h'' → Tb lamPos lq h'' (ps ++ more) → AllBare g'' → Q' (.str (T (joinL [45] (cs.map eltF))) t') ⟨h'', g'', d, tk'', os⟩) →
        wpAny (model prog w) A (call (.builtin "str.join") [.str (T [45]) ts, .ref a]) Q' E ⟨h', g', d, tk', os⟩) → Q (.ref a) ⟨h', g', d, tk', os⟩) :
    wpAny (model prog w) A (eval genE env) Q E ⟨h, g, d, tk, os⟩ := by
  rw [genE_eq]
  have hvl := hv.len
  have hcl : cs.length ≤ wsum cs := wsum_len cs
  have hb : ∀ c ∈ cs, c.length ≤ 200 := fun c hc => Nat.le_of_succ_le_succ (Nat.le_trans (wsum_mem hc) hcs)
  refine genExpF (lp := lamPos) (lq := lq) X F (.there .here) (fun o => .there .here) U Tt G R.hd (ar_d0 R.dp) (F.get .here) (by walk_at "m fd") hcode hclos (by decide +kernel) (by decide +kernel) (by decide +kernel) (by decide +kernel) (by decide +kernel) (by decide +kernel)
    (fun C code => elt_ok (scope := genS) (C := C) (code := code) (by decide +kernel) (by decide +kernel) hv hb) ?_
  intro a h₅ g₅ tk₅ more F₅ T₅ hold G₅ P
  refine q _ _ _ more a F₅ G₅ fun ts Q' q' => ?_
  have hbel := F.below (led' := (D, listObj vs n) :: (57, PySem.W.tabObj (ps ++ more)) :: led) rfl
  refine joinGenF (f := fun i => eltF (cs.getD i [])) F₅ G₅ P (by rw [List.size_toArray, sizeLine_eq, hvl]; exact Nat.le_trans hcl (ar_to hcs _)) hbel.1 hbel.2 (fun i v _ hr => hr) ?_ fun h' g' tk' t' F' k' G' => ?_
  · rw [List.size_toArray, hvl, range_map_getD]
    rw [List.length_singleton, Nat.mul_one]
    exact Nat.le_trans (Nat.add_le_add (Nat.le_trans (eltSum_le cs) (Nat.mul_le_mul_left 4 hcs)) (Nat.le_trans hcl hcs)) (by decide)
  · rw [List.size_toArray, hvl, range_map_getD]
    exact q' _ _ _ _ F' (T₅.low hold (Heap.lt_size Tt.here) k') G'
end
end

section
local macro_rules | `(tactic| walk_at "z") => `(tactic| skip)
noncomputable def sTest : Stmt → Expr
  | .If x _ _ _ => x
  | .While x _ _ _ => x
  | _ => .Constant .none 0 default
noncomputable def sPos : Stmt → Pos
  | .If _ _ _ p => p
  | .While _ _ _ p => p
  | _ => default
theorem brkD_eq : brkD = [sAt brkD 0, sAt brkD 1, sAt brkD 2, sAt brkD 3, sAt brkD 4, sAt brkD 5, sAt brkD 6] := by with_unfolding_all rfl
theorem dash_eq : sAt brk 1 = .If (sTest (sAt brk 1)) (sBody (sAt brk 1)) brkD (sPos (sAt brk 1)) := by with_unfolding_all rfl
theorem dashB_eq : sBody (sAt brk 1) = [sAt (sBody (sAt brk 1)) 0] := by with_unfolding_all rfl
/-- the table, said of the ledger -/
structure TbL (lp : Pos) (lq : Str) (b : Heap) (led : List (Addr × Obj)) (ps : Array Value) : Prop where
  tri : TriplesOk ps.toList
  lam : ∀ c', codeAmong lp ps.toList = some c' → ∃ a o, c' = .ref a ∧ a ≠ 57 ∧ ((a, o) ∈ led ∨ b.get? a = some o) ∧ ∃ vs t, o.data = .fields vs ∧ vs[1]? = some (.str lq t)
theorem TbL.more {lp : Pos} {lq : Str} {b : Heap} {led led' : List (Addr × Obj)} {ps : Array Value} (T : TbL lp lq b led ps) (hs : ∀ p ∈ led, p ∈ led') : TbL lp lq b led' ps :=
  ⟨T.tri, fun c' e => (T.lam c' e).imp fun _ x => x.imp fun _ y => ⟨y.1, y.2.1, y.2.2.1.imp (hs _) id, y.2.2.2⟩⟩
section
variable {b h : Heap} {L : Addr} {names : List Str} {vals : List (Option Value)} {led led0 : List (Addr × Obj)} {lp : Pos} {lq : Str} {ps : Array Value}
theorem TbL.toTb (T : TbL lp lq b led ps) (F : Fm b L names vals led0 h) (h57 : Got led0 57 (PySem.W.tabObj ps)) (hs : ∀ p ∈ led, p ∈ led0) : Tb lp lq h ps :=
  ⟨F.get h57, T.tri, fun c' e => by
    obtain ⟨a, o, e1, e2, e3, vs, t, e4, e5⟩ := T.lam c' e
    refine ⟨a, e1, e2, a, o, vs, t, rfl, ?_, e4, e5⟩
    rcases e3 with m | m
    · exact (F.nw _ (hs _ m)).1
    · exact F.keep _ _ m⟩
theorem Tb.toL {o : Obj} (T : Tb lp lq h ps) (F : Fm b L names vals ((57, o) :: led) h) : ∃ led', (∀ p ∈ led, p ∈ led') ∧ Fm b L names vals ((57, o) :: led') h ∧ TbL lp lq b led' ps := by
  cases hc : codeAmong lp ps.toList with
  | none => exact ⟨led, fun _ m => m, F, T.tri, fun c' e => by rw [hc] at e; cases e⟩
  | some c' =>
    obtain ⟨a, rfl, ne, c, oc, vs, t, e1, e2, e3, e4⟩ := T.lam c' hc
    cases e1
    have fin : ∀ led' : List (Addr × Obj), ((a, oc) ∈ led' ∨ b.get? a = some oc) → TbL lp lq b led' ps := fun led' m =>
      ⟨T.tri, fun c' e => by rw [hc] at e; cases e; exact ⟨a, oc, rfl, ne, m, vs, t, e3, e4⟩⟩
    by_cases hm : ∃ p ∈ led, p.1 = a
    · obtain ⟨p, hp, rfl⟩ := hm
      have := (F.nw p (List.mem_cons_of_mem _ hp)).1
      rw [e2] at this
      cases this
      exact ⟨led, fun _ m => m, F, fin _ (.inl hp)⟩
    · cases hb : b.get? a with
      | some o' =>
        have := F.keep _ _ hb
        rw [e2] at this
        cases this
        exact ⟨led, fun _ m => m, F, fin _ (.inr hb)⟩
      | none =>
        have hL : a ≠ L := fun e => by
          obtain ⟨oL, es, ep, x1, x2, _⟩ := F.fr.ns
          subst e
          rw [e2] at x1; cases x1
          rw [e3] at x2; cases x2
        refine ⟨(a, oc) :: led, fun _ m => List.mem_cons_of_mem _ m, ⟨F.top, F.fr, fun p hp => ?_, ?_⟩, fin _ (.inl List.mem_cons_self)⟩
        · rcases List.mem_cons.mp hp with rfl | hp
          · exact F.nw _ List.mem_cons_self
          · rcases List.mem_cons.mp hp with rfl | hp
            · exact ⟨e2, hL, hb⟩
            · exact F.nw _ (List.mem_cons_of_mem _ hp)
        · have hn := List.nodup_cons.mp F.nd
          refine List.nodup_cons.mpr ⟨fun m => ?_, List.nodup_cons.mpr ⟨fun m => ?_, hn.2⟩⟩
          · rcases List.mem_cons.mp m with e | m
            · exact ne e.symm
            · exact hn.1 m
          · obtain ⟨p, hp, e⟩ := List.mem_map.mp m
            exact hm ⟨p, hp, e⟩
theorem Fm.shape {D : Addr} {o o0 : Obj} (F : Fm b L names vals ((D, o) :: led0) h) (hs : ∀ p ∈ led, p ∈ led0) (nd : (((D, o0) :: led).map (·.1)).Nodup) : Fm b L names vals ((D, o) :: led) h :=
  F.sub (fun p m => by
    rcases List.mem_cons.mp m with rfl | m
    · exact List.mem_cons_self
    · exact List.mem_cons_of_mem _ (hs p m)) (by simpa using nd)
end
section
variable {b h : Heap} {L : Addr} {led : List (Addr × Obj)} {A : Around} {E : Value → Shared → Prop} {env : Env} {gl : List Str} {v1 v2 v3 v4 vn vc vst vch vk vck vi vj : Option Value}
  {g : Array GenState} {d : Drawn} {tk : Nat} {os : OsState} {prog : Program} {w : World} {l : List Nat} {t tn tj ti tkk ts : Tok} {i k j : Nat} {ps : Array Value} {lq : Str} {Q : Flow → Shared → Prop}
theorem kStart (X : FE env L ["pat", "STAR", "QUESTION_MARK", "res", "add", "i", "n", "c", "j", "stuff", "chunks", "k", "chunk"] gl) (R : Rm A 2) (hs : Small l) (hil : i < l.length) {Q : Flow → Shared → Prop}
    (F : Fm b L ["pat", "STAR", "QUESTION_MARK", "res", "add", "i", "n", "c", "j", "stuff", "chunks", "k", "chunk"] [some (.str (T l) t), v1, v2, v3, v4, some (.int (i : Int) ti), vn, vc, vj, vst, vch, vk, vck] led h)
    (q : ∀ h' tk' tkk, Fm b L ["pat", "STAR", "QUESTION_MARK", "res", "add", "i", "n", "c", "j", "stuff", "chunks", "k", "chunk"] [some (.str (T l) t), v1, v2, v3, v4, some (.int (i : Int) ti), vn, vc, vj, vst, vch, some (.int (((if [l.getD i 0] = [33] then i + 2 else i + 1 : Nat)) : Int) tkk), vck] led h' → Q .next ⟨h', g, d, tk', os⟩) :
    wpAny (model prog w) A (exec (sAt brkD 1) env) Q E ⟨h, g, d, tk, os⟩ := by
  conv in exec (sAt brkD 1) _ => arg 1; whnf
  walk_at "m go"
  · rw [if_pos (by assumption)] at q
    exact q _ _ _ (by assumption)
  · rw [if_neg (by assumption)] at q
    exact q _ _ _ (by assumption)
theorem dashElse {cs cs' : List (List Nat)} (X : FE env L ["pat", "STAR", "QUESTION_MARK", "res", "add", "i", "n", "c", "j", "stuff", "chunks", "k", "chunk"] ["len", "range", "_twin_re_1", "escape"]) (R : Rm A 2) (U : TopU b) (Tt : TbL lamPos lq b led ps) (G : AllBare g)
    (hcode : env.code = .ref 61) (hclos : closureFor genS env = pure []) (hl : l.length ≤ 200) (hij : i ≤ j) (hj : j < l.length)
    (hE : chunkE l j (chunkG l j l.length i (if [l.getD i 0] = [33] then i + 2 else i + 1) []) = some cs) (hM : mergeL (cs.length - 1) cs = some cs')
    (F : Fm b L ["pat", "STAR", "QUESTION_MARK", "res", "add", "i", "n", "c", "j", "stuff", "chunks", "k", "chunk"] [some (.str (T l) t), v1, v2, v3, v4, some (.int (i : Int) ti), vn, vc, some (.int (j : Int) tj), vst, vch, vk, vck] ((57, PySem.W.tabObj ps) :: led) h)
    (q : ∀ h' g' tk' vi' ts' vch' vk' vck' more led', Fm b L ["pat", "STAR", "QUESTION_MARK", "res", "add", "i", "n", "c", "j", "stuff", "chunks", "k", "chunk"] [some (.str (T l) t), v1, v2, v3, v4, vi', vn, vc, some (.int (j : Int) tj), some (.str (T (joinL [45] (cs'.map eltF))) ts'), vch', vk', vck'] ((57, PySem.W.tabObj (ps ++ more)) :: led') h' →
      TbL lamPos lq b led' (ps ++ more) → (∀ p ∈ led, p ∈ led') → AllBare g' → Q .next ⟨h', g', d, tk', os⟩) :
    wpAny (model prog w) A (execs brkD env) Q E ⟨h, g, d, tk, os⟩ := by
  have hs : Small l := ar_to hl _
  have hil : i < l.length := Nat.lt_of_le_of_lt hij hj
  have hG := chunkG_wsum l j (Nat.le_of_lt hj) l.length i (if [l.getD i 0] = [33] then i + 2 else i + 1) [] (by split; exact Nat.le_add_right _ _; exact Nat.le_succ _) hij
  rw [wsum_nil] at hG
  have hEw := chunkE_wsum (Nat.le_of_lt hj) hG.2.1 hE
  rw [brkD_eq]
  walk1
  conv in exec (sAt brkD 0) _ => arg 1; whnf
  walk_at "m go"
  refine kStart X R hs hil (by assumption) fun h₁ tk₁ tkk₁ F₁ => ?_
  generalize (if [l.getD i 0] = [33] then i + 2 else i + 1) = k₀ at *
  try dsimp only
  walk1
  refine whileC X R hs (Nat.le_of_lt hj) (Nat.zero_le _) .nil F₁ fun h₂ tk₂ ti₂ vs₂ n₂ led₂ vk₂ hv₂ hl₂ hs₂ F₂ => ?_
  have F₂ := F₂.shape (led := (57, PySem.W.tabObj ps) :: led) hs₂ F₁.nd
  clear F₁
  try dsimp only
  walk1
  conv in exec (sAt brkD 3) _ => arg 1; whnf
  walk_at "m go"
  rename_i F₃ _
  clear F₂
  have hc1 : (chunkG l j l.length i k₀ []).1 ≤ l.length := Nat.le_trans hG.2.1 (Nat.le_of_lt hj)
  have hc2 : (chunkG l j l.length i k₀ []).2.length ≤ wsum (chunkG l j l.length i k₀ []).2 := wsum_len _
  have hw3 : wsum (chunkG l j l.length i k₀ []).2 ≤ 200 := Nat.le_trans (Nat.le_trans (Nat.le_trans (Nat.le_add_right _ i) hG.2.2) (Nat.le_of_eq (Nat.zero_add _))) (Nat.le_trans hc1 hl)
  have hw4 : wsum cs ≤ 201 := ar_w hG.2.2 hG.2.1 (Nat.le_trans (Nat.le_of_lt hj) hl) hEw.1
  refine chunkIf X R (Q := _) ?_ ?_ hv₂ ?_ hE F₃ fun h₄ tk₄ vs₄ n₄ led₄ hv₄ hs₄ F₄ => ?_
  · exact ar_to (ar_take hl) _
  · exact Nat.le_trans hc2 (ar_to hw3 _)
  · exact fun x hx => Nat.le_trans (Nat.le_of_succ_le (wsum_mem hx)) (ar_to hw3 _)
  have F₄ := F₄.shape (led := (57, PySem.W.tabObj ps) :: led) hs₄ F₃.nd
  clear F₃
  try dsimp only
  walk1
  refine forM X R (ar_to hw4 _) hEw.2 hv₄ hM F₄ fun h₅ tk₅ vs₅ n₅ led₅ vk₅ hv₅ hw₅ hs₅ F₅ => ?_
  have F₅ := F₅.shape (led := (57, PySem.W.tabObj ps) :: led) hs₅ F₄.nd
  clear F₄
  try dsimp only
  walk1
  conv in exec (sAt brkD 6) _ => arg 1; whnf
  walk_at "m go"
  refine joinE (lq := lq) X R U (Tt.toTb F₅ (.there .here) (fun p m => List.mem_cons_of_mem _ (List.mem_cons_of_mem _ m))) G hcode hclos (Nat.le_trans hw₅ hw4) hv₅ F₅ ?_
  intro h₆ g₆ tk₆ more a F₆ G₆ hjoin
  clear F₅
  walk_at "m go"
  refine hjoin _ _ fun h₇ g₇ tk₇ t₇ F₇ T₇ G₇ => ?_
  clear F₆ hjoin
  have F₈ := F₇.sub (led' := (57, PySem.W.tabObj (ps ++ more)) :: led) (fun p m => List.mem_cons_of_mem _ m) (List.nodup_cons.mp F₇.nd).2
  clear F₇
  obtain ⟨led', hs', F₉, TL⟩ := T₇.toL F₈
  clear F₈
  walk_at "m go"
  exact q _ _ _ _ _ _ _ _ _ _ (by assumption) TL hs' G₇
theorem stuffO_len {so : List Nat} (hl : l.length ≤ 200) (hij : i ≤ j) (hj : j < l.length) (h : stuffO l i j = some so) : so.length ≤ 1100 := by
  have hlen : ((l.take j).drop i).length ≤ 200 := ar_take hl
  unfold stuffO at h
  dsimp only at h
  split at h
  · cases h
    have := flat_len 92 [92, 92] (by simp) ((l.take j).drop i)
    exact Nat.le_trans this (Nat.le_trans (Nat.mul_le_mul_left 2 hlen) (by decide))
  · split at h
    · cases h
    · rename_i cs hE
      split at h
      · cases h
      · rename_i cs' hM
        cases h
        have hG := chunkG_wsum l j (Nat.le_of_lt hj) l.length i (if [l.getD i 0] = [33] then i + 2 else i + 1) [] (by split; exact Nat.le_add_right _ _; exact Nat.le_succ _) hij
        rw [wsum_nil] at hG
        have hEw := chunkE_wsum (Nat.le_of_lt hj) hG.2.1 hE
        have hm : ∀ (n : Nat) (cs cs' : List (List Nat)), n < cs.length → mergeL n cs = some cs' → wsum cs' ≤ wsum cs := by
          intro n
          induction n with
          | zero => intro cs cs' _ h; simp [mergeL] at h; subst h; exact Nat.le_refl _
          | succ n ih =>
            intro cs cs' hn h
            rw [mergeL] at h
            split at h
            · cases h
            · rename_i hne
              split at h
              · refine Nat.le_trans (ih _ _ (by rw [List.length_eraseIdx_of_lt (by rw [List.length_set]; exact hn), List.length_set]; exact Nat.lt_sub_of_add_lt hn) h) (merge_wsum hn (by rw [List.length_append, List.length_dropLast, List.length_drop]; exact Nat.add_le_add (Nat.sub_le _ _) (Nat.sub_le _ _)))
              · exact ih _ _ (Nat.lt_of_succ_lt hn) h
        have hw := hm _ _ _ (Nat.sub_lt (List.length_pos_iff.mpr hEw.2) Nat.one_pos) hM
        have hjl := joinL_len [45] (cs'.map eltF)
        have hw5 : wsum cs' ≤ 201 := Nat.le_trans hw (ar_w hG.2.2 hG.2.1 (Nat.le_trans (Nat.le_of_lt hj) hl) hEw.1)
        rw [List.length_map, List.length_singleton, Nat.mul_one] at hjl
        exact Nat.le_trans hjl (Nat.le_trans (Nat.add_le_add (Nat.le_trans (eltSum_le cs') (Nat.mul_le_mul_left 4 hw5)) (Nat.le_trans (wsum_len cs') hw5)) (by decide))
local macro_rules | `(tactic| walk_at "isTrue Compare") => `(tactic| (refine wpAny_isTrue_Compare1 ?_))
theorem dashIf {so : List Nat} (X : FE env L ["pat", "STAR", "QUESTION_MARK", "res", "add", "i", "n", "c", "j", "stuff", "chunks", "k", "chunk"] ["len", "range", "_twin_re_1", "escape"]) (R : Rm A 2) (U : TopU b) (Tt : TbL lamPos lq b led ps) (G : AllBare g)
    (hcode : env.code = .ref 61) (hclos : closureFor genS env = pure []) (hl : l.length ≤ 200) (hij : i ≤ j) (hj : j < l.length) (hso : stuffO l i j = some so)
    (F : Fm b L ["pat", "STAR", "QUESTION_MARK", "res", "add", "i", "n", "c", "j", "stuff", "chunks", "k", "chunk"] [some (.str (T l) t), v1, v2, v3, v4, some (.int (i : Int) ti), vn, vc, some (.int (j : Int) tj), some (.str (T ((l.take j).drop i)) ts), vch, vk, vck] ((57, PySem.W.tabObj ps) :: led) h)
    (q : ∀ h' g' tk' vi' ts' vch' vk' vck' more led', Fm b L ["pat", "STAR", "QUESTION_MARK", "res", "add", "i", "n", "c", "j", "stuff", "chunks", "k", "chunk"] [some (.str (T l) t), v1, v2, v3, v4, vi', vn, vc, some (.int (j : Int) tj), some (.str (T so) ts'), vch', vk', vck'] ((57, PySem.W.tabObj (ps ++ more)) :: led') h' →
      TbL lamPos lq b led' (ps ++ more) → (∀ p ∈ led, p ∈ led') → AllBare g' → Q .next ⟨h', g', d, tk', os⟩) :
    wpAny (model prog w) A (exec (sAt brk 1) env) Q E ⟨h, g, d, tk, os⟩ := by
  have hs : Small l := ar_to hl _
  have hlen : ((l.take j).drop i).length ≤ 200 := ar_take hl
  rw [dash_eq]
  generalize hB : brkD = B
  conv in sTest _ => whnf
  walk_at "m go"
  · first
      | ((with_reducible show wpAny _ _ (call _ _) _ _ _)
         refine replT (by omega) (by decide) (show (tk + 1 : Nat) ≠ 0 by omega) (show (tk + 1 + 1 : Nat) ≠ 0 by omega) (show (tk + 1 : Nat) ≠ tk + 1 + 1 by omega) (by decide) ?_
         intro t₁ k₁
         walk_at "m go")
      | skip
    unfold stuffO at hso
    dsimp only at hso
    rw [if_pos (by assumption)] at hso
    cases hso
    exact q _ _ _ _ _ _ _ _ #[] led (by rw [Array.append_empty]; assumption) (by rw [Array.append_empty]; exact Tt) (fun _ m => m) G
  · subst hB
    unfold stuffO at hso
    dsimp only at hso
    rw [if_neg (by assumption)] at hso
    cases hE : chunkE l j (chunkG l j l.length i (if [l.getD i 0] = [33] then i + 2 else i + 1) []) with
    | none => rw [hE] at hso; cases hso
    | some cs =>
      rw [hE] at hso
      cases hM : mergeL (cs.length - 1) cs with
      | none => dsimp only at hso; rw [hM] at hso; cases hso
      | some cs' =>
        dsimp only at hso
        rw [hM] at hso
        cases hso
        exact dashElse X R U Tt G hcode hclos hl hij hj hE hM (by assumption) q
end
end

section
theorem brk_eq : brk = [sAt brk 0, sAt brk 1, sAt brk 2, sAt brk 3, sAt brk 4] := by with_unfolding_all rfl
noncomputable def inner : List Stmt := sElse (sAt brk 4)
section
variable {b h : Heap} {L : Addr} {names : List Str} {vals : List (Option Value)} {led : List (Addr × Obj)} {M : Model} {A : Around} {E : Value → Shared → Prop} {env : Env} {s : Shared}
theorem fieldT {l : List Nat} {t : Tok} {prog : Program} {w : World} {Q : Value → Shared → Prop} (hs : Small l) (q : ∀ t' k, Q (.str (T l) t') { s with toks := k }) : wpAny (model prog w) A (formatField (.str (T l) t) Str.empty) Q E s :=
  wpAny_formatField_str (q _ _) (q _ _) (by rw [T_len, sizeLine_eq]; unfold Small at hs; (first | exact ar_to (by assumption) _ | lia | omega))
theorem jpNil {out : Str} {m : List Nat} {Q : Value → Shared → Prop} (e : out = T m) (hs : Small m) (q : ∀ t' k, Q (.str (T m) t') { s with toks := k }) : wpAny M A (joinParts out (evalEach [] env)) Q E s := by
  subst e
  refine joinParts_nilE (PyProof.Rows.joinParts_nil (q _ _) ?_)
  rw [T_len, sizeLine_eq]; unfold Small at hs; (first | exact ar_to (by assumption) _ | lia | omega)
theorem box1 {m : List Nat} (hs : m.length ≤ 5000) : (Str.empty ++ T [91] ++ T m).length ≤ sizeLine := by
  rw [strLen_append, strLen_append, T_len, T_len, sizeLine_eq]
  have : Str.empty.length = 0 := rfl
  simp only [List.length_singleton]
  (first | exact ar_to (by assumption) _ | lia | omega)
theorem box2 {m : List Nat} (hs : m.length ≤ 5000) : (Str.empty ++ T [91] ++ T m ++ T [93]).length ≤ sizeLine := by
  rw [strLen_append, strLen_append, strLen_append, T_len, T_len, T_len, sizeLine_eq]
  have : Str.empty.length = 0 := rfl
  simp only [List.length_singleton]
  (first | exact ar_to (by assumption) _ | lia | omega)
theorem box3 {m : List Nat} : Str.empty ++ T [91] ++ T m ++ T [93] = T ([91] ++ m ++ [93]) := by
  have : Str.empty ++ T [91] = T [91] := by
    show (⟨#[] ++ (T [91]).cps⟩ : Str) = _
    simp
  rw [this, T_app, T_app]
theorem Fm.tail1 {p : Addr × Obj} (F : Fm b L names vals (p :: led) h) : Fm b L names vals led h := F.sub (fun p m => List.mem_cons_of_mem _ m) (List.nodup_cons.mp F.nd).2
theorem endF_1 {s : List Nat} (h : s = [33]) : endF s = [46] := by subst h; rfl
theorem endF_2 {s : List Nat} (h1 : ¬¬ s ≠ []) (h2 : ¬ s = [33]) (h3 : [s.getD 0 0] = [33]) : endF s = [91] ++ ([94] ++ s.drop 1) ++ [93] := by
  unfold endF; rw [if_neg (Decidable.not_not.mp h1), if_neg h2, if_pos h3]
theorem endF_3 {s : List Nat} (h1 : ¬¬ s ≠ []) (h2 : ¬ s = [33]) (h3 : ¬ [s.getD 0 0] = [33]) (h4 : [s.getD 0 0] ∈ ([[94], [91]] : List (List Nat))) : endF s = [91] ++ ([92] ++ s) ++ [93] := by
  unfold endF; rw [if_neg (Decidable.not_not.mp h1), if_neg h2, if_neg h3, if_pos h4]
theorem endF_4 {s : List Nat} (h1 : ¬¬ s ≠ []) (h2 : ¬ s = [33]) (h3 : ¬ [s.getD 0 0] = [33]) (h4 : ¬ [s.getD 0 0] ∈ ([[94], [91]] : List (List Nat))) : endF s = [91] ++ s ++ [93] := by
  unfold endF; rw [if_neg (Decidable.not_not.mp h1), if_neg h2, if_neg h3, if_neg h4]
theorem callBMF {pos : Pos} {m D : Addr} {e : Expr} {rest : List Expr} {Q : Value → Shared → Prop} (_F : Fm b L names vals led h) (_hm : Got led m (bmObj D))
    (hq : wpAny M A (spliced (backTo pos (starEach (e :: rest) env))) (fun vs s₁ => (∃ vals led, Fm b L names vals led s₁.heap ∧ Got led m (bmObj D)) ∧ wpAny M A (call (.ref m) vs) Q E s₁) E s)
    (he : starEach (e :: rest) env = (false, eval e env) :: starEach rest env := by rfl)
    (hplain : (backTo pos (starEach rest env)).any (·.1) = false := by rfl) :
    wpAny M A (callWith pos (.ref m) [] (backTo pos (starEach (e :: rest) env)) []) Q E s := callBM hq he hplain
end
local macro_rules | `(tactic| walk_at "callWith ref") => `(tactic| (refine callBMF (by assumption) (by walk_at "m got") ?_))
section
variable {b h : Heap} {L : Addr} {led : List (Addr × Obj)} {A : Around} {E : Value → Shared → Prop} {env : Env} {gl : List Str} {v1 v2 v3 v4 vn vc vst vch vk vck vi vj : Option Value}
  {g : Array GenState} {d : Drawn} {tk : Nat} {os : OsState} {prog : Program} {w : World} {l s : List Nat} {t tn tj ti tkk ts : Tok} {i k j : Nat} {ps : Array Value} {lq : Str} {Q : Flow → Shared → Prop}
theorem addStuff {ra m : Addr} {vs : List Value} {n : Nat} (X : FE env L ["pat", "STAR", "QUESTION_MARK", "res", "add", "i", "n", "c", "j", "stuff", "chunks", "k", "chunk"] ["len", "range", "_twin_re_1", "escape"]) (R : Rm A 2) (hs : s.length ≤ 3000) (hvs : vs.length ≤ 1000)
    (F : Fm b L ["pat", "STAR", "QUESTION_MARK", "res", "add", "i", "n", "c", "j", "stuff", "chunks", "k", "chunk"] [some (.str (T l) t), v1, v2, some (.ref ra), some (.ref m), vi, vn, vc, vj, some (.str (T s) ts), vch, vk, vck] ((m, bmObj ra) :: (ra, listObj vs n) :: led) h)
    (q : ∀ h' tk' vst' t' n', Fm b L ["pat", "STAR", "QUESTION_MARK", "res", "add", "i", "n", "c", "j", "stuff", "chunks", "k", "chunk"] [some (.str (T l) t), v1, v2, some (.ref ra), some (.ref m), vi, vn, vc, vj, vst', vch, vk, vck] ((m, bmObj ra) :: (ra, listObj (vs ++ [.str (T (endF s)) t']) n') :: led) h' → Q .next ⟨h', g, d, tk', os⟩) :
    wpAny (model prog w) A (exec (sAt brk 4) env) Q E ⟨h, g, d, tk, os⟩ := by
  have hsm : Small s := by unfold Small; (first | exact ar_to (by assumption) _ | lia | omega)
  conv in exec (sAt brk 4) _ => arg 1; whnf
  walk_at "m go"
  all_goals try (refine fieldT (by walk_at "m small") ?_; intro _ _; walk_at "m go")
  all_goals try exact box1 (by first | (first | exact ar_to (by assumption) _ | lia | omega) | (simp; (first | exact ar_to (by assumption) _ | lia | omega)))
  all_goals try exact box2 (by first | (first | exact ar_to (by assumption) _ | lia | omega) | (simp; (first | exact ar_to (by assumption) _ | lia | omega)))
  all_goals try (refine jpNil box3 (by unfold Small; simp; (first | exact ar_to (by assumption) _ | lia | omega)) ?_; intro _ _; walk_at "m go")
  · have e := Decidable.not_not.mp (show ¬¬ s = [] by assumption)
    subst e
    exact q _ _ _ _ _ (by assumption)
  · rw [endF_1 (by assumption)] at q
    exact q _ _ _ _ _ (by assumption)
  · rw [endF_2 (by assumption) (by assumption) (by assumption)] at q
    exact q _ _ _ _ _ (by assumption)
  · rw [endF_3 (by assumption) (by assumption) (by assumption) (by assumption)] at q
    refine q _ _ _ _ _ (by first | assumption | exact Fm.tail1 (by assumption))
  · rw [endF_4 (by assumption) (by assumption) (by assumption) (by assumption)] at q
    refine q _ _ _ _ _ (by first | assumption | exact Fm.tail1 (by assumption))
end

noncomputable def NoCode (o : Obj) : Prop := ∀ vs q t, o.data = .fields vs → vs[1]? ≠ some (.str q t)
theorem noCode_bm {a : Addr} : NoCode (bmObj a) := fun vs q t e e2 => by
  cases e; cases e2
theorem noCode_list {vs : List Value} {n : Nat} : NoCode (listObj vs n) := fun _ _ _ e => by cases e
section
variable {b h : Heap} {L : Addr} {names : List Str} {vals : List (Option Value)} {led led' : List (Addr × Obj)} {lp : Pos} {lq : Str} {ps : Array Value}
theorem regroup {m ra : Addr} {om oa o : Obj} (F : Fm b L names vals ((57, o) :: led') h) (h1 : (m, om) ∈ led') (h2 : (ra, oa) ∈ led') (ne : m ≠ ra) (T : TbL lp lq b led' ps) (n1 : NoCode om) (n2 : NoCode oa) :
    ∃ led'', Fm b L names vals ((m, om) :: (ra, oa) :: (57, o) :: led'') h ∧ TbL lp lq b led'' ps := by
  have hn := List.nodup_cons.mp F.nd
  have uniq : ∀ {a : Addr} {o1 o2 : Obj}, (a, o1) ∈ led' → (a, o2) ∈ led' → o1 = o2 := fun {a o1 o2} x y => by
    have e1 := (F.nw _ (List.mem_cons_of_mem _ x)).1
    have e2 := (F.nw _ (List.mem_cons_of_mem _ y)).1
    rw [e1] at e2; cases e2; rfl
  have mk : ∀ {x : Addr} {ox : Obj}, (x, ox) ∈ led' → x ∈ led'.map (·.1) := fun m => List.mem_map.mpr ⟨_, m, rfl⟩
  refine ⟨led'.filter (fun p => decide (p.1 ≠ m ∧ p.1 ≠ ra)), F.sub (fun p hp => ?_) ?_, T.tri, fun c' e => ?_⟩
  · rcases List.mem_cons.mp hp with rfl | hp
    · exact List.mem_cons_of_mem _ h1
    · rcases List.mem_cons.mp hp with rfl | hp
      · exact List.mem_cons_of_mem _ h2
      · rcases List.mem_cons.mp hp with rfl | hp
        · exact List.mem_cons_self
        · exact List.mem_cons_of_mem _ (List.mem_filter.mp hp).1
  · have hf : ∀ x, x ∈ (led'.filter (fun p => decide (p.1 ≠ m ∧ p.1 ≠ ra))).map (·.1) → x ∈ led'.map (·.1) ∧ x ≠ m ∧ x ≠ ra := fun x hx => by
      obtain ⟨p, hp, rfl⟩ := List.mem_map.mp hx
      obtain ⟨p1, p2⟩ := List.mem_filter.mp hp
      exact ⟨List.mem_map.mpr ⟨p, p1, rfl⟩, by simpa using p2⟩
    simp only [List.map_cons]
    refine List.nodup_cons.mpr ⟨fun x => ?_, List.nodup_cons.mpr ⟨fun x => ?_, List.nodup_cons.mpr ⟨fun x => ?_, ?_⟩⟩⟩
    · rcases List.mem_cons.mp x with e | x
      · exact ne e
      · rcases List.mem_cons.mp x with e | x
        · exact hn.1 (e ▸ mk h1)
        · exact (hf _ x).2.1 rfl
    · rcases List.mem_cons.mp x with e | x
      · exact hn.1 (e ▸ mk h2)
      · exact (hf _ x).2.2 rfl
    · exact hn.1 (hf _ x).1
    · exact (List.filter_sublist.map _).nodup hn.2
  · obtain ⟨a, oc, e1, e2, e3, vs, t, e4, e5⟩ := T.lam c' e
    refine ⟨a, oc, e1, e2, ?_, vs, t, e4, e5⟩
    rcases e3 with hm | hb
    · refine .inl (List.mem_filter.mpr ⟨hm, ?_⟩)
      have c1 : a ≠ m := fun e => by subst e; have := uniq hm h1; subst this; exact n1 _ _ _ e4 e5
      have c2 : a ≠ ra := fun e => by subst e; have := uniq hm h2; subst this; exact n2 _ _ _ e4 e5
      simp [c1, c2]
    · exact .inr hb
end
theorem Got.of {led : List (Addr × Obj)} {a : Addr} {o : Obj} (h : (a, o) ∈ led) : Got led a o := by
  induction led with
  | nil => cases h
  | cons p r ih =>
    rcases List.mem_cons.mp h with rfl | h
    · exact .here
    · exact .there (ih h)
theorem Fm.keepObj {b h : Heap} {L : Addr} {names : List Str} {vals : List (Option Value)} {led : List (Addr × Obj)} {c : Addr} {oc : Obj} {vs : Array Value} (F : Fm b L names vals led h) (e2 : h.get? c = some oc) (e3 : oc.data = .fields vs) :
    ∃ led', (∀ p ∈ led, p ∈ led') ∧ Fm b L names vals led' h ∧ ((c, oc) ∈ led' ∨ b.get? c = some oc) := by
  by_cases hm : ∃ p ∈ led, p.1 = c
  · obtain ⟨p, hp, rfl⟩ := hm
    have := (F.nw p hp).1
    rw [e2] at this
    cases this
    exact ⟨led, fun _ m => m, F, .inl hp⟩
  · cases hb : b.get? c with
    | some o' =>
      have := F.keep _ _ hb
      rw [e2] at this
      cases this
      exact ⟨led, fun _ m => m, F, .inr rfl⟩
    | none =>
      have hL : c ≠ L := fun e => by
        obtain ⟨oL, es, ep, x1, x2, _⟩ := F.fr.ns
        subst e
        rw [e2] at x1; cases x1
        rw [e3] at x2; cases x2
      refine ⟨(c, oc) :: led, fun _ m => List.mem_cons_of_mem _ m, ⟨F.top, F.fr, fun p hp => ?_, List.nodup_cons.mpr ⟨fun m => ?_, F.nd⟩⟩, .inl List.mem_cons_self⟩
      · rcases List.mem_cons.mp hp with rfl | hp
        · exact ⟨e2, hL, hb⟩
        · exact F.nw _ hp
      · obtain ⟨p, hp, e⟩ := List.mem_map.mp m
        exact hm ⟨p, hp, e⟩
local macro_rules | `(tactic| walk_at "getMethod ref") => `(tactic| (refine getSubF (Fm.keep (by assumption) _ _ (Fm.top (by assumption)).pat.1) ?_))
section
variable {b h : Heap} {L : Addr} {led : List (Addr × Obj)} {A : Around} {E : Value → Shared → Prop} {env : Env} {gl : List Str} {v1 v2 v3 v4 vn vc vst vch vk vck vi vj : Option Value}
  {g : Array GenState} {d : Drawn} {tk : Nat} {os : OsState} {prog : Program} {w : World} {l s : List Nat} {t tn tj ti tkk ts : Tok} {i k j : Nat} {ps : Array Value} {lq : Str} {Q : Flow → Shared → Prop}
theorem subS (X : FE env L ["pat", "STAR", "QUESTION_MARK", "res", "add", "i", "n", "c", "j", "stuff", "chunks", "k", "chunk"] ["len", "range", "_twin_re_1", "escape"]) (R : Rm A 4) (U : TopU b) (Tt : TbL lamPos lq b led ps) (hcode : env.code = .ref 61) (hclos : closureFor lamS env = pure []) (hlq : env.qual ++ "<lambda>" = lq) (hs : s.length ≤ 1200)
    (F : Fm b L ["pat", "STAR", "QUESTION_MARK", "res", "add", "i", "n", "c", "j", "stuff", "chunks", "k", "chunk"] [some (.str (T l) t), v1, v2, v3, v4, vi, vn, vc, vj, some (.str (T s) ts), vch, vk, vck] ((57, PySem.W.tabObj ps) :: led) h)
    (q : ∀ h' tk' ts' more led', Fm b L ["pat", "STAR", "QUESTION_MARK", "res", "add", "i", "n", "c", "j", "stuff", "chunks", "k", "chunk"] [some (.str (T l) t), v1, v2, v3, v4, vi, vn, vc, vj, some (.str (T (subF s)) ts'), vch, vk, vck] ((57, PySem.W.tabObj (ps ++ more)) :: led') h' → TbL lamPos lq b led' (ps ++ more) → (∀ p ∈ led, p ∈ led') → Q .next ⟨h', g, d, tk', os⟩) :
    wpAny (model prog w) A (exec (sAt brk 2) env) Q E ⟨h, g, d, tk, os⟩ := by
  conv in exec (sAt brk 2) _ => arg 1; whnf
  walk_at "m go"
  refine evalLamF X F U (Tt.toTb F .here (fun p m => List.mem_cons_of_mem _ m)) .here (fun o => .here) hcode hclos hlq ?_
  intro f fo h₁ tk₁ more pm cdv ctv F₁ T₁ hcls hdat hcr
  obtain ⟨c, oc, vs, tc, e1, e2, e3, e4⟩ := hcr
  have F₂ := F₁.swap
  clear F₁ F
  obtain ⟨led₁, hs₁, F₃, TL⟩ := T₁.toL F₂
  clear F₂
  have nd₃ := F₃.nd
  obtain ⟨led₂, hs₂, F₄, hc⟩ := F₃.keepObj e2 e3
  clear F₃
  have hfo : Got led₂ f fo := Got.of (hs₂ _ (List.mem_cons_of_mem _ (hs₁ _ List.mem_cons_self)))
  walk_at "m go"
  refine subCall F₄ F₄.top.pat (by (first | exact ar_to (by assumption) _ | lia | omega)) ?_ hfo hcls ?_
  · intro led' h' tk' m tp p Q' F' hsub hf hm hp hpl q'
    refine lam_spec F' ⟨R.hd, by have := R.dp; show A.depth + 2 < _; (first | exact ar_to (by assumption) _ | lia | omega), by have := R.un; show A.units + 1 + _ + _ < _; (first | exact ar_to (by assumption) _ | lia | omega)⟩ (F'.get hf) hdat ⟨c, oc, vs, tc, e1, ?_, e3, e4⟩ (F'.get hm) (F'.get hp) (by (first | exact ar_to (by assumption) _ | lia | omega)) hpl q'
    rcases hc with hc | hc
    · exact (F'.nw _ (hsub _ hc)).1
    · exact F'.keep _ _ hc
  · intro h' tk' t' F'
    clear F₄
    walk_at "m go"
    rename_i Fz _
    exact q _ _ _ more led₁ (Fz.sub hs₂ nd₃) TL (fun p m => hs₁ p (List.mem_cons_of_mem _ m))
end

section
variable {b h : Heap} {L : Addr} {led : List (Addr × Obj)} {A : Around} {E : Value → Shared → Prop} {env : Env} {gl : List Str} {v1 v2 v3 v4 vn vc vst vch vk vck vi vj : Option Value}
  {g : Array GenState} {d : Drawn} {tk : Nat} {os : OsState} {prog : Program} {w : World} {l s : List Nat} {t tn tj ti tkk ts : Tok} {i k j : Nat} {ps : Array Value} {lq : Str} {Q : Flow → Shared → Prop}
theorem perm3 {names : List Str} {vals : List (Option Value)} {p1 p2 p3 : Addr × Obj} (F : Fm b L names vals (p1 :: p2 :: p3 :: led) h) : Fm b L names vals (p3 :: p1 :: p2 :: led) h := by
  have hp : List.Perm (p1 :: p2 :: p3 :: led) (p3 :: p1 :: p2 :: led) := (List.Perm.cons p1 (List.Perm.swap p3 p2 led)).trans (List.Perm.swap p3 p1 (p2 :: led))
  exact F.sub (fun p m => hp.symm.mem_iff.mp m) ((hp.map _).nodup_iff.mp F.nd)
theorem brkAll {ra m : Addr} {vs : List Value} {n : Nat} {so : List Nat} (X : FE env L ["pat", "STAR", "QUESTION_MARK", "res", "add", "i", "n", "c", "j", "stuff", "chunks", "k", "chunk"] ["len", "range", "_twin_re_1", "escape"]) (R : Rm A 4) (U : TopU b) (Tt : TbL lamPos lq b led ps) (G : AllBare g)
    (hcode : env.code = .ref 61) (hclos : closureFor lamS env = pure []) (hclos2 : closureFor genS env = pure []) (hlq : env.qual ++ "<lambda>" = lq) (hl : l.length ≤ 200) (hij : i ≤ j) (hj : j < l.length) (hso : stuffO l i j = some so) (hvs : vs.length ≤ 1000)
    (F : Fm b L ["pat", "STAR", "QUESTION_MARK", "res", "add", "i", "n", "c", "j", "stuff", "chunks", "k", "chunk"] [some (.str (T l) t), v1, v2, some (.ref ra), some (.ref m), some (.int (i : Int) ti), vn, vc, some (.int (j : Int) tj), vst, vch, vk, vck] ((m, bmObj ra) :: (ra, listObj vs n) :: (57, PySem.W.tabObj ps) :: led) h)
    (q : ∀ h' g' tk' ti' vst' vch' vk' vck' t' n' more led', Fm b L ["pat", "STAR", "QUESTION_MARK", "res", "add", "i", "n", "c", "j", "stuff", "chunks", "k", "chunk"] [some (.str (T l) t), v1, v2, some (.ref ra), some (.ref m), some (.int ((j + 1 : Nat) : Int) ti'), vn, vc, some (.int (j : Int) tj), vst', vch', vk', vck'] ((m, bmObj ra) :: (ra, listObj (vs ++ [.str (T (endF (subF so))) t']) n') :: (57, PySem.W.tabObj (ps ++ more)) :: led') h' →
      TbL lamPos lq b led' (ps ++ more) → AllBare g' → Q .next ⟨h', g', d, tk', os⟩) :
    wpAny (model prog w) A (execs brk env) Q E ⟨h, g, d, tk, os⟩ := by
  have hs : Small l := by unfold Small; (first | exact ar_to (by assumption) _ | lia | omega)
  have hsl := stuffO_len hl hij hj hso
  have hsl2 := subF_len so
  rw [brk_eq]
  walk1
  conv in exec (sAt brk 0) _ => arg 1; whnf
  walk_at "m go"
  rename_i F₁ _
  clear F
  have F₁ := perm3 F₁
  refine dashIf X (R.mono (by decide)) U (Tt.more fun p m => List.mem_cons_of_mem _ (List.mem_cons_of_mem _ m)) G hcode hclos2 hl hij hj hso F₁ fun h₂ g₂ tk₂ vi₂ ts₂ vch₂ vk₂ vck₂ more₂ led₂ F₂ T₂ hs₂ G₂ => ?_
  have ne : m ≠ ra := fun e => by
    have := (List.nodup_cons.mp (List.nodup_cons.mp F₁.nd).2).1
    exact this (e ▸ List.mem_cons_self)
  clear F₁
  try dsimp only
  walk1
  refine subS X R U T₂ hcode hclos hlq (by (first | exact ar_to (by assumption) _ | lia | omega)) F₂ fun h₃ tk₃ ts₃ more₃ led₃ F₃ T₃ hs₃ => ?_
  obtain ⟨led₄, F₄, T₄⟩ := regroup F₃ (hs₃ _ (hs₂ _ List.mem_cons_self)) (hs₃ _ (hs₂ _ (List.mem_cons_of_mem _ List.mem_cons_self))) ne T₃ noCode_bm noCode_list
  clear F₂ F₃
  try dsimp only
  walk1
  conv in exec (sAt brk 3) _ => arg 1; whnf
  walk_at "m go"
  rename_i F₅ _
  refine addStuff X (R.mono (by decide)) (by (first | exact ar_to (by assumption) _ | lia | omega)) hvs F₅ fun h₆ tk₆ vst₆ t₆ n₆ F₆ => ?_
  try dsimp only
  walk1
  rw [Array.append_assoc] at F₆ T₄
  exact q _ _ _ _ _ _ _ _ _ _ (more₂ ++ more₃) led₄ F₆ T₄ G₂
end

theorem brkF_eq : brkF = [sAt brkF 0, sAt brkF 1, sAt brkF 2, sAt brkF 3, sAt brkF 4] := by with_unfolding_all rfl
theorem shut_eq : sAt brkF 4 = .If (sTest (sAt brkF 4)) (sBody (sAt brkF 4)) brk (sPos (sAt brkF 4)) := by with_unfolding_all rfl
theorem closeW_ge {l : List Nat} : ∀ (n j : Nat), j ≤ closeW l n j := by
  intro n
  induction n with
  | zero => intro j; exact Nat.le_refl _
  | succ n ih =>
    intro j
    rw [closeW]
    split
    · have := ih (j + 1); (first | exact ar_to (by assumption) _ | lia | omega)
    · exact Nat.le_refl _
theorem stepIf_ge {l : List Nat} {c j : Nat} : j ≤ stepIf l c j := by unfold stepIf; split <;> (first | exact ar_to (by assumption) _ | lia | omega)
theorem closeJ_ge {l : List Nat} {i : Nat} : i ≤ closeJ l i := Nat.le_trans (Nat.le_trans stepIf_ge stepIf_ge) (closeW_ge _ _)
section
variable {b h : Heap} {L : Addr} {led : List (Addr × Obj)} {A : Around} {E : Value → Shared → Prop} {env : Env} {gl : List Str} {v1 v2 v3 v4 vn vc vst vch vk vck vi vj : Option Value}
  {g : Array GenState} {d : Drawn} {tk : Nat} {os : OsState} {prog : Program} {w : World} {l s : List Nat} {t tn tj ti tkk ts : Tok} {i k j : Nat} {ps : Array Value} {lq : Str} {Q : Flow → Shared → Prop}
theorem brkFull {ra m : Addr} {vs : List Value} {n i' : Nat} {r : List Nat} (X : FE env L ["pat", "STAR", "QUESTION_MARK", "res", "add", "i", "n", "c", "j", "stuff", "chunks", "k", "chunk"] ["len", "range", "_twin_re_1", "escape"]) (R : Rm A 4) (U : TopU b) (Tt : TbL lamPos lq b led ps) (G : AllBare g)
    (hcode : env.code = .ref 61) (hclos : closureFor lamS env = pure []) (hclos2 : closureFor genS env = pure []) (hlq : env.qual ++ "<lambda>" = lq) (hl : l.length ≤ 200) (hvs : vs.length ≤ 1000)
    (hout : (l.length ≤ closeJ l i ∧ i' = i ∧ r = [92, 91]) ∨ (closeJ l i < l.length ∧ ∃ so, stuffO l i (closeJ l i) = some so ∧ i' = closeJ l i + 1 ∧ r = endF (subF so)))
    (F : Fm b L ["pat", "STAR", "QUESTION_MARK", "res", "add", "i", "n", "c", "j", "stuff", "chunks", "k", "chunk"] [some (.str (T l) t), v1, v2, some (.ref ra), some (.ref m), some (.int (i : Int) ti), some (.int (l.length : Int) tn), vc, vj, vst, vch, vk, vck] ((m, bmObj ra) :: (ra, listObj vs n) :: (57, PySem.W.tabObj ps) :: led) h)
    (q : ∀ h' g' tk' ti' vj' vst' vch' vk' vck' t' n' more led', Fm b L ["pat", "STAR", "QUESTION_MARK", "res", "add", "i", "n", "c", "j", "stuff", "chunks", "k", "chunk"] [some (.str (T l) t), v1, v2, some (.ref ra), some (.ref m), some (.int (i' : Int) ti'), some (.int (l.length : Int) tn), vc, vj', vst', vch', vk', vck'] ((m, bmObj ra) :: (ra, listObj (vs ++ [.str (T r) t']) n') :: (57, PySem.W.tabObj (ps ++ more)) :: led') h' →
      TbL lamPos lq b led' (ps ++ more) → AllBare g' → Q .next ⟨h', g', d, tk', os⟩) :
    wpAny (model prog w) A (execs brkF env) Q E ⟨h, g, d, tk, os⟩ := by
  have hs : Small l := by unfold Small; (first | exact ar_to (by assumption) _ | lia | omega)
  have R2 : Rm A 2 := R.mono (by decide)
  have hge := closeJ_ge (l := l) (i := i)
  rw [brkF_eq]
  walk1
  conv in exec (sAt brkF 0) _ => arg 1; whnf
  walk_at "m go"
  rename_i F₀ _
  refine ifJ1 X R2 hs F₀ fun h₁ tk₁ tj₁ F₁ => ?_
  clear F F₀
  try dsimp only
  walk1
  refine ifJ2 X R2 hs F₁ fun h₂ tk₂ tj₂ F₂ => ?_
  clear F₁
  try dsimp only
  walk1
  refine whileJ X R2 hs F₂ fun h₃ tk₃ tj₃ F₃ => ?_
  clear F₂
  have F₃ : Fm b L ["pat", "STAR", "QUESTION_MARK", "res", "add", "i", "n", "c", "j", "stuff", "chunks", "k", "chunk"] [some (.str (T l) t), v1, v2, some (.ref ra), some (.ref m), some (.int (i : Int) ti), some (.int (l.length : Int) tn), vc, some (.int ((closeJ l i : Nat) : Int) tj₃), vst, vch, vk, vck] ((m, bmObj ra) :: (ra, listObj vs n) :: (57, PySem.W.tabObj ps) :: led) h₃ := F₃
  generalize closeJ l i = cj at *
  try dsimp only
  walk1
  rw [shut_eq]
  generalize hB : brk = B
  conv in sTest _ => whnf
  conv in sBody _ => whnf
  walk_at "m go"
  · rename_i hle _ Fz
    rcases hout with ⟨_, rfl, rfl⟩ | ⟨h1, _⟩
    · exact q _ _ _ _ _ _ _ _ _ _ _ #[] led (by rw [Array.append_empty]; exact Fz) (by rw [Array.append_empty]; exact Tt) G
    · (first | exact ar_to (by assumption) _ | lia | omega)
  · rename_i hle
    subst hB
    rcases hout with ⟨h1, _⟩ | ⟨h1, so, hso, rfl, rfl⟩
    · (first | exact ar_to (by assumption) _ | lia | omega)
    · refine brkAll X R U Tt G hcode hclos hclos2 hlq hl hge h1 hso hvs F₃ ?_
      intro h' g' tk' ti' vst' vch' vk' vck' t' n' more led' F' T' G'
      try dsimp only
      walk1
      exact q _ _ _ _ _ _ _ _ _ _ _ _ _ F' T' G'
end

theorem OV.nil : OV .none none := rfl
theorem OV.tx {x : List Nat} {t : Tok} : OV (.str (T x) t) (some x) := ⟨_, rfl⟩
noncomputable def wb : List Stmt := sBody (sAt (fBody 7) 3)
noncomputable def el1 : Stmt := sAt (sElse (sAt wb 2)) 0
noncomputable def el2 : Stmt := sAt (sElse el1) 0
theorem wb_eq : wb = [sAt wb 0, sAt wb 1, sAt wb 2] := by with_unfolding_all rfl
theorem chain_eq : sAt wb 2 = .If (sTest (sAt wb 2)) (sBody (sAt wb 2)) [.If (sTest el1) (sBody el1) [.If (sTest el2) brkF (sElse el2) (sPos el2)] (sPos el1)] (sPos (sAt wb 2)) := by with_unfolding_all rfl
local macro_rules | `(tactic| walk_at "ite") => `(tactic| first | (refine ite_t (by with_reducible assumption) ?_) | (refine ite_f (by with_reducible assumption) ?_))
local macro_rules | `(tactic| walk_at "isTrue") => `(tactic| first
  | (refine useCt (by assumption) (by assumption) (by walk_at "ev") (by with_reducible assumption) ?_; intro _)
  | (refine useCf (by assumption) (by assumption) (by walk_at "ev") (by with_reducible assumption) ?_; intro _))
local macro_rules | `(tactic| walk_at "call ref") => `(tactic| (refine escape_spec (Fm.top' (by assumption)) (Rm.mono (by assumption) (by decide)) (by assumption) ?_; intro _ _ _ K; have F := Fm.went (by assumption) K))
section
variable {b h : Heap} {L : Addr} {led : List (Addr × Obj)} {A : Around} {E : Value → Shared → Prop} {env : Env} {gl : List Str} {v1 v2 v3 v4 vn vc vst vch vk vck vi vj : Option Value}
  {g : Array GenState} {d : Drawn} {tk : Nat} {os : OsState} {prog : Program} {w : World} {l s : List Nat} {t t2 tn tj ti tkk ts : Tok} {i k j : Nat} {ps : Array Value} {lq : Str} {Q : Flow → Shared → Prop}
theorem trTurn {ra m : Addr} {vs : List Value} {n f : Nat} {res out : List (Option (List Nat))} (X : FE env L ["pat", "STAR", "QUESTION_MARK", "res", "add", "i", "n", "c", "j", "stuff", "chunks", "k", "chunk"] ["len", "range", "_twin_re_1", "escape"]) (R : Rm A 5) (U : TopU b) (Tt : TbL lamPos lq b led ps) (G : AllBare g)
    (hcode : env.code = .ref 61) (hclos : closureFor lamS env = pure []) (hclos2 : closureFor genS env = pure []) (hlq : env.qual ++ "<lambda>" = lq) (hl : l.length ≤ 200) (hvs : vs.length ≤ i) (hi : i < l.length) (hv : All2 OV vs res)
    (htr : trG l (f + 1) i res = some out)
    (F : Fm b L ["pat", "STAR", "QUESTION_MARK", "res", "add", "i", "n", "c", "j", "stuff", "chunks", "k", "chunk"] [some (.str (T l) t), some .none, some (.str (T [63]) t2), some (.ref ra), some (.ref m), some (.int (i : Int) ti), some (.int (l.length : Int) tn), vc, vj, vst, vch, vk, vck] ((m, bmObj ra) :: (ra, listObj vs n) :: (57, PySem.W.tabObj ps) :: led) h)
    (q : ∀ h' g' tk' i' res' vs' ti' vc' vj' vst' vch' vk' vck' n' more led', All2 OV vs' res' → trG l f i' res' = some out → i < i' → i' ≤ l.length → vs'.length ≤ i' →
      Fm b L ["pat", "STAR", "QUESTION_MARK", "res", "add", "i", "n", "c", "j", "stuff", "chunks", "k", "chunk"] [some (.str (T l) t), some .none, some (.str (T [63]) t2), some (.ref ra), some (.ref m), some (.int (i' : Int) ti'), some (.int (l.length : Int) tn), vc', vj', vst', vch', vk', vck'] ((m, bmObj ra) :: (ra, listObj vs' n') :: (57, PySem.W.tabObj (ps ++ more)) :: led') h' →
      TbL lamPos lq b led' (ps ++ more) → AllBare g' → Q .next ⟨h', g', d, tk', os⟩) :
    wpAny (model prog w) A (execs wb env) Q E ⟨h, g, d, tk, os⟩ := by
  have hs : Small l := by unfold Small; (first | exact ar_to (by assumption) _ | lia | omega)
  have hvl := hv.len
  rw [trG, if_neg (by (first | exact ar_to (by assumption) _ | lia | omega))] at htr
  dsimp only at htr
  rw [wb_eq]
  walk1
  conv in exec (sAt wb 0) _ => arg 1; whnf
  walk_at "m go"
  clear F
  conv in exec (sAt wb 1) _ => arg 1; whnf
  walk_at "m go"
  rename_i F₂ _
  rw [show Int.toNat (i : Int) = i from rfl] at F₂
  rw [chain_eq]
  generalize hB : brkF = B
  generalize l.getD i 0 = c at *
  have e42 : ∀ k : Nat, ([c] = [k]) = (c = k) := fun k => by simp
  by_cases c1 : c = 42
  · have k1 : [c] = [42] := by rw [c1]
    rw [if_pos c1] at htr
    conv in sTest (sAt wb 2) => whnf
    conv in sBody (sAt wb 2) => whnf
    rcases hv.last with ⟨e1, e2⟩ | ⟨x, o, e1, e2, ho⟩
    · subst e1 e2
      rw [if_pos (.inl rfl)] at htr
      have hnn : ¬ ([] : List Value) ≠ [] := fun x => x rfl
      walk_at "m go"
      rename_i Fz
      exact q _ _ _ (i + 1) _ _ _ _ _ _ _ _ _ _ #[] led (All2.nil.snoc OV.nil) htr (by (first | exact ar_to (by assumption) _ | lia | omega)) (by (first | exact ar_to (by assumption) _ | lia | omega)) (by simp) (by rw [Array.append_empty]; exact Fz) (by rw [Array.append_empty]; exact Tt) G
    · have hnn : ¬¬ vs ≠ [] := fun h => h (fun e => by rw [e] at e1; cases e1)
      cases o with
      | none =>
        have hx : x = .none := ho
        subst hx
        rw [if_neg (by rintro (e | e); (· rw [e] at e2; cases e2); exact e e2)] at htr
        walk_at "m go"
        · rename_i Fz
          exact q _ _ _ (i + 1) _ _ _ _ _ _ _ _ _ _ #[] led hv htr (by (first | exact ar_to (by assumption) _ | lia | omega)) (by (first | exact ar_to (by assumption) _ | lia | omega)) (by (first | exact ar_to (by assumption) _ | lia | omega)) (by rw [Array.append_empty]; exact F₂) (by rw [Array.append_empty]; exact Tt) G
      | some y =>
        obtain ⟨ty, rfl⟩ : ∃ t, x = .str (T y) t := ho
        rw [if_pos (.inr (by rw [e2]; simp))] at htr
        walk_at "m go"
        · rename_i Fz
          exact q _ _ _ (i + 1) _ _ _ _ _ _ _ _ _ _ #[] led (hv.snoc OV.nil) htr (by (first | exact ar_to (by assumption) _ | lia | omega)) (by (first | exact ar_to (by assumption) _ | lia | omega)) (by simp; (first | exact ar_to (by assumption) _ | lia | omega)) (by rw [Array.append_empty]; exact Fz) (by rw [Array.append_empty]; exact Tt) G
  · have k1 : ¬ [c] = [42] := by rw [e42]; exact c1
    rw [if_neg c1] at htr
    conv in sTest (sAt wb 2) => whnf
    conv in sTest el1 => whnf
    conv in sBody el1 => whnf
    conv in sTest el2 => whnf
    conv in sElse el2 => whnf
    by_cases c2 : c = 63
    · have k2 : [c] = [63] := by rw [c2]
      rw [if_pos c2] at htr
      walk_at "m go"
      rename_i Fz
      exact q _ _ _ (i + 1) _ _ _ _ _ _ _ _ _ _ #[] led (hv.snoc OV.tx) htr (by (first | exact ar_to (by assumption) _ | lia | omega)) (by (first | exact ar_to (by assumption) _ | lia | omega)) (by simp; (first | exact ar_to (by assumption) _ | lia | omega)) (by rw [Array.append_empty]; exact Fz) (by rw [Array.append_empty]; exact Tt) G
    · have k2 : ¬ [c] = [63] := by rw [e42]; exact c2
      rw [if_neg c2] at htr
      by_cases c3 : c = 91
      · have k3 : [c] = [91] := by rw [c3]
        rw [if_pos c3] at htr
        walk_at "m go"
        subst hB
        by_cases hc : l.length ≤ closeJ l (i + 1)
        · rw [if_pos hc] at htr
          refine brkFull (i := i + 1) (i' := i + 1) (r := [92, 91]) X (R.mono (by decide)) U Tt G hcode hclos hclos2 hlq hl (by (first | exact ar_to (by assumption) _ | lia | omega)) (.inl ⟨hc, rfl, rfl⟩) F₂ ?_
          intro h' g' tk' ti' vj' vst' vch' vk' vck' t' n' more led' F' T' G'
          try dsimp only
          walk_at "m go"
          exact q _ _ _ (i + 1) _ _ _ _ _ _ _ _ _ _ more led' (hv.snoc OV.tx) htr (by (first | exact ar_to (by assumption) _ | lia | omega)) (by (first | exact ar_to (by assumption) _ | lia | omega)) (by simp; (first | exact ar_to (by assumption) _ | lia | omega)) F' T' G'
        · rw [if_neg hc] at htr
          cases hso : stuffO l (i + 1) (closeJ l (i + 1)) with
          | none => rw [hso] at htr; cases htr
          | some so =>
            rw [hso] at htr
            dsimp only at htr
            have hge := closeJ_ge (l := l) (i := i + 1)
            refine brkFull (i := i + 1) (i' := closeJ l (i + 1) + 1) (r := endF (subF so)) X (R.mono (by decide)) U Tt G hcode hclos hclos2 hlq hl (by (first | exact ar_to (by assumption) _ | lia | omega)) (.inr ⟨by (first | exact ar_to (by assumption) _ | lia | omega), so, hso, rfl, rfl⟩) F₂ ?_
            intro h' g' tk' ti' vj' vst' vch' vk' vck' t' n' more led' F' T' G'
            try dsimp only
            walk_at "m go"
            exact q _ _ _ (closeJ l (i + 1) + 1) _ _ _ _ _ _ _ _ _ _ more led' (hv.snoc OV.tx) htr (by (first | exact ar_to (by assumption) _ | lia | omega)) (by (first | exact ar_to (by assumption) _ | lia | omega)) (by simp; (first | exact ar_to (by assumption) _ | lia | omega)) F' T' G'
      · have k3 : ¬ [c] = [91] := by rw [e42]; exact c3
        rw [if_neg c3] at htr
        by_cases c4 : c < 128
        · rw [if_pos c4] at htr
          walk_at "m go"
          rename_i Fz
          exact q _ _ _ (i + 1) _ _ _ _ _ _ _ _ _ _ #[] led (hv.snoc OV.tx) htr (by (first | exact ar_to (by assumption) _ | lia | omega)) (by (first | exact ar_to (by assumption) _ | lia | omega)) (by simp; (first | exact ar_to (by assumption) _ | lia | omega)) (by rw [Array.append_empty]; exact Fz) (by rw [Array.append_empty]; exact Tt) G
        · rw [if_neg c4] at htr; cases htr
end

theorem fB_eq : fBody 7 = [sAt (fBody 7) 0, sAt (fBody 7) 1, sAt (fBody 7) 2, sAt (fBody 7) 3, sAt (fBody 7) 4, sAt (fBody 7) 5] := by with_unfolding_all rfl
theorem outer_eq : sAt (fBody 7) 3 = .While (sTest (sAt (fBody 7) 3)) wb [] (sPos (sAt (fBody 7) 3)) := by with_unfolding_all rfl
/-- the lambda's name -/
noncomputable def lqT : Str := (envOf (fName 7) (fScope 7) 0 62 (.ref 61)).qual ++ "<lambda>"
inductive OuterJ (b : Heap) (L : Addr) (l : List Nat) (t t2 : Tok) (ra m : Addr) (tn : Tok) (lq : Str) (ps : Array Value) (out : List (Option (List Nat))) (d : Drawn) (os : OsState) (k : Nat) (s : Shared) : Prop
  | mk (i f : Nat) (res : List (Option (List Nat))) (vs : List Value) (n : Nat) (h : Heap) (g : Array GenState) (tk : Nat) (ti : Tok) (vc vj vst vch vk vck : Option Value) (more : Array Value) (led : List (Addr × Obj))
    (e : s = ⟨h, g, d, tk, os⟩) (e1 : k = l.length - i) (htr : trG l f i res = some out) (hv : All2 OV vs res) (hvs : vs.length ≤ i) (hi : i ≤ l.length) (G : AllBare g) (Tt : TbL lamPos lq b led (ps ++ more))
    (F : Fm b L ["pat", "STAR", "QUESTION_MARK", "res", "add", "i", "n", "c", "j", "stuff", "chunks", "k", "chunk"] [some (.str (T l) t), some .none, some (.str (T [63]) t2), some (.ref ra), some (.ref m), some (.int (i : Int) ti), some (.int (l.length : Int) tn), vc, vj, vst, vch, vk, vck] ((m, bmObj ra) :: (ra, listObj vs n) :: (57, PySem.W.tabObj (ps ++ more)) :: led) h)
section
variable {b h : Heap} {L : Addr} {led : List (Addr × Obj)} {A : Around} {E : Value → Shared → Prop}
  {g : Array GenState} {d : Drawn} {tk : Nat} {os : OsState} {prog : Program} {w : World} {l : List Nat} {t t2 : Tok} {ps : Array Value}
theorem TbL.start {lp : Pos} {lq : Str} (T : Tb lp lq h ps) : TbL lp lq (cut h) [] ps :=
  ⟨T.tri, fun c' e => by
    obtain ⟨a, e1, e2, c, o, vs, t, e3, e4, e5, e6⟩ := T.lam c' e
    cases e3
    exact ⟨a, o, e1, e2, .inr (by rw [cut_other e2]; exact e4), vs, t, e5, e6⟩⟩
theorem Fm.tl {names : List Str} {vals : List (Option Value)} {p : Addr × Obj} (F : Fm b L names vals (p :: led) h) : Fm b L names vals led h :=
  F.sub (fun _ m => List.mem_cons_of_mem _ m) (List.nodup_cons.mp F.nd).2
theorem outer {env : Env} {vc vj vst vch vk vck : Option Value} {ti tn : Tok} {i : Nat} {lq : Str} {Q : Flow → Shared → Prop} {ra m : Addr} {vs : List Value} {n f : Nat} {res out : List (Option (List Nat))} (X : FE env L ["pat", "STAR", "QUESTION_MARK", "res", "add", "i", "n", "c", "j", "stuff", "chunks", "k", "chunk"] ["len", "range", "_twin_re_1", "escape"]) (R : Rm A 5) (U : TopU b) (Tt : TbL lamPos lq b led ps) (G : AllBare g)
    (hcode : env.code = .ref 61) (hclos : closureFor lamS env = pure []) (hclos2 : closureFor genS env = pure []) (hlq : env.qual ++ "<lambda>" = lq) (hl : l.length ≤ 200) (hvs : vs.length ≤ i) (hi : i ≤ l.length) (hv : All2 OV vs res)
    (htr : trG l f i res = some out)
    (F : Fm b L ["pat", "STAR", "QUESTION_MARK", "res", "add", "i", "n", "c", "j", "stuff", "chunks", "k", "chunk"] [some (.str (T l) t), some .none, some (.str (T [63]) t2), some (.ref ra), some (.ref m), some (.int (i : Int) ti), some (.int (l.length : Int) tn), vc, vj, vst, vch, vk, vck] ((m, bmObj ra) :: (ra, listObj vs n) :: (57, PySem.W.tabObj ps) :: led) h)
    (q : ∀ h' g' tk' vs' ti' vc' vj' vst' vch' vk' vck' n' more led', All2 OV vs' out →
      Fm b L ["pat", "STAR", "QUESTION_MARK", "res", "add", "i", "n", "c", "j", "stuff", "chunks", "k", "chunk"] [some (.str (T l) t), some .none, some (.str (T [63]) t2), some (.ref ra), some (.ref m), some (.int (l.length : Int) ti'), some (.int (l.length : Int) tn), vc', vj', vst', vch', vk', vck'] ((m, bmObj ra) :: (ra, listObj vs' n') :: (57, PySem.W.tabObj (ps ++ more)) :: led') h' →
      TbL lamPos lq b led' (ps ++ more) → AllBare g' → Q .next ⟨h', g', d, tk', os⟩) :
    wpAny (model prog w) A (exec (sAt (fBody 7) 3) env) Q E ⟨h, g, d, tk, os⟩ := by
  rw [outer_eq]
  generalize hW : wb = W
  conv in sTest _ => whnf
  refine while_ (OuterJ b L l t t2 ra m tn lq ps out d os)
    (l.length - i) ⟨i, f, res, vs, n, h, g, tk, ti, vc, vj, vst, vch, vk, vck, #[], led, rfl, rfl, htr, hv, hvs, hi, G, by rw [Array.append_empty]; exact Tt, by rw [Array.append_empty]; exact F⟩ ?_
  rintro k s E' ⟨i, f, res, vs, n, h, g, tk, ti, vc, vj, vst, vch, vk, vck, more, led, rfl, rfl, htr, hv, hvs, hi, G, Tt, F'⟩
  clear F
  walk_at "m go"
  · have hlt : i < l.length := by (first | exact ar_to (by assumption) _ | lia | omega)
    subst hW
    cases f with
    | zero => rw [trG, if_neg (by (first | exact ar_to (by assumption) _ | lia | omega))] at htr; cases htr
    | succ f =>
      refine trTurn X R U Tt G hcode hclos hclos2 hlq hl hvs hlt hv htr F' ?_
      intro h' g' tk' i' res' vs' ti' vc' vj' vst' vch' vk' vck' n' more' led' hv' htr' hlt' hle' hvs' F₂ T₂ G₂
      rw [Array.append_assoc] at F₂ T₂
      exact ⟨l.length - i', by (first | exact ar_to (by assumption) _ | lia | omega), i', f, res', vs', n', h', g', tk', ti', vc', vj', vst', vch', vk', vck', more ++ more', led', rfl, rfl, htr', hv', hvs', hle', G₂, T₂, F₂⟩
  · have hge : i = l.length := by (first | exact ar_to (by assumption) _ | lia | omega)
    subst hge
    have e : res = out := by
      cases f with
      | zero => rw [trG, if_pos (Nat.le_refl _)] at htr; cases htr; rfl
      | succ f => rw [trG, if_pos (Nat.le_refl _)] at htr; cases htr; rfl
    subst e
    exact q _ _ _ _ _ _ _ _ _ _ _ _ _ _ hv F' Tt G
theorem translate_spec {out : List (Option (List Nat))} {Q : Value → Shared → Prop} (H0 : TopF h) (HC : TopF (cut h)) (U : TopU (cut h)) (T0 : Tb lamPos lqT h ps) (G : AllBare g) (R : Rm A 6) (hl : l.length ≤ 200) (htr : trG l l.length 0 [] = some out)
    (q : ∀ h' g' tk' r rvs n more, Keep (cut h) h' → Tb lamPos lqT h' (ps ++ more) → AllBare g' → h'.get? r = some (listObj rvs n) → (cut h).get? r = none → r ≠ 57 → All2 OV rvs out → Q (.ref r) ⟨h', g', d, tk', os⟩) :
    wpAny (model prog w) A (call (.ref 62) [.str (T l) t, .none, .str (T [63]) t2]) Q E ⟨h, g, d, tk, os⟩ := by
  refine enterT ["pat", "STAR", "QUESTION_MARK"] ["res", "add", "i", "n", "c", "j", "stuff", "chunks", "k", "chunk"] (gl := ["len", "range", "_twin_re_1", "escape"]) (names := ["pat", "STAR", "QUESTION_MARK", "res", "add", "i", "n", "c", "j", "stuff", "chunks", "k", "chunk"])
    (vals := [some (.str (T l) t), some .none, some (.str (T [63]) t2), none, none, none, none, none, none, none, none, none, none]) H0 R rfl rfl (fun _ _ _ => rfl) rfl (mkFE (by decide +kernel) (by decide +kernel) (by decide +kernel) (by decide +kernel)) (by decide +kernel) (by decide +kernel) (by decide +kernel) ?_
  intro L h₁ tk₁ A' R' X hL F₀
  have F := F₀.toCut HC T0.here
  clear F₀
  have TL := TbL.start T0
  have hs : Small l := by unfold Small; (first | exact ar_to (by assumption) _ | lia | omega)
  have hcode : (envOf (fName 7) (fScope 7) L 62 (.ref 61)).code = .ref 61 := rfl
  have hclos : closureFor lamS (envOf (fName 7) (fScope 7) L 62 (.ref 61)) = pure [] := by kernel_rfl
  have hclos2 : closureFor genS (envOf (fName 7) (fScope 7) L 62 (.ref 61)) = pure [] := by kernel_rfl
  have hlq : (envOf (fName 7) (fScope 7) L 62 (.ref 61)).qual ++ "<lambda>" = lqT := rfl
  have hE : ∃ a cd, envOf (fName 7) (fScope 7) L 62 (.ref 61) = envOf (fName 7) (fScope 7) L a cd := ⟨_, _, rfl⟩
  generalize envOf (fName 7) (fScope 7) L 62 (.ref 61) = env at *
  rw [fB_eq]
  walk1
  conv in exec (sAt (fBody 7) 0) _ => arg 1; whnf
  walk_at "m go"
  conv in exec (sAt (fBody 7) 1) _ => arg 1; whnf
  walk_at "m go"
  conv in exec (sAt (fBody 7) 2) _ => arg 1; whnf
  walk_at "m go"
  rename_i F₃ _
  refine outer X R' U TL G hcode hclos hclos2 hlq hl (Nat.zero_le _) (Nat.zero_le _) .nil htr F₃.tl ?_
  intro h₅ g₅ tk₅ vs₅ ti₅ vc₅ vj₅ vst₅ vch₅ vk₅ vck₅ n₅ more₅ led₅ hv₅ F₅ T₅ G₅
  clear F F₃
  try dsimp only
  walk1
  conv in exec (sAt (fBody 7) 4) _ => arg 1; whnf
  walk_at "m go"
  conv in exec (sAt (fBody 7) 5) _ => arg 1; whnf
  walk_at "m go"
  try dsimp only
  have nd := (List.nodup_cons.mp (List.nodup_cons.mp F₅.nd).2).1
  exact q _ _ _ _ vs₅ n₅ more₅ F₅.keep (T₅.toTb F₅ (.there (.there .here)) (fun p m => List.mem_cons_of_mem _ (List.mem_cons_of_mem _ (List.mem_cons_of_mem _ m)))) G₅ (F₅.get (.there .here)) (F₅.nw _ (List.mem_cons_of_mem _ List.mem_cons_self)).2.2
    (fun e => nd (e ▸ List.mem_cons_self)) hv₅
end
end

section
noncomputable def readF (out : List (Option (List Nat))) : List Nat := (out.map signF).flatten
theorem signM_len (ms : List (List Nat)) : (signM ms).length ≤ 2 := by
  have hZ : ∀ ms k, (signZ ms k).length ≤ 2 := fun ms k => by unfold signZ lastC; split <;> simp
  unfold signM
  split
  · simp
  · split
    · unfold signY
      split
      · simp
      · split
        · simp
        · split
          · split <;> simp [lastC]
          · split
            · exact hZ _ _
            · exact hZ _ _
    · exact hZ _ _
theorem signF_len (o : Option (List Nat)) : (signF o).length ≤ 2 := by
  cases o with
  | none => simp [signF]
  | some l =>
    unfold signF
    try dsimp only
    split
    · simp
    · split
      · simp
      · split
        · simp
        · exact signM_len _
section
variable {b h h' : Heap} {L : Addr} {names : List Str} {vals : List (Option Value)} {led : List (Addr × Obj)}
theorem Fm.called {r : Addr} {ps : Array Value} {o' orr : Obj} (F : Fm b L names vals ((57, PySem.W.tabObj ps) :: led) h) (k : Keep (cut h) h') (e : h'.get? 57 = some o') (hr : h'.get? r = some orr) (hn : (cut h).get? r = none) (ne : r ≠ 57) :
    Fm b L names vals ((r, orr) :: (57, o') :: led) h' := by
  have F' := F.tab (h' := h') (fun p o hp e => k p o (by rw [cut_other hp]; exact e)) e
  rw [cut_other ne] at hn
  refine ⟨F'.top, F'.fr, fun p hp => ?_, List.nodup_cons.mpr ⟨fun m => ?_, F'.nd⟩⟩
  · rcases List.mem_cons.mp hp with rfl | hp
    · refine ⟨hr, fun e => ?_, ?_⟩
      · obtain ⟨oL, es, ep, x1, _⟩ := F.fr.ns
        subst e; rw [hn] at x1; cases x1
      · cases hb : b.get? r with
        | none => rfl
        | some ob => have := F.keep _ _ hb; rw [hn] at this; cases this
    · exact F'.nw p hp
  · obtain ⟨p, hp, e⟩ := List.mem_map.mp m
    rcases List.mem_cons.mp hp with rfl | hp
    · exact ne e.symm
    · have := (F.nw p (List.mem_cons_of_mem _ hp)).1
      rw [e, hn] at this; cases this
end
local macro_rules | `(tactic| walk_at "call ref") => `(tactic| (refine law_sign_spec (Fm.top' (by assumption)) (Rm.mono (by assumption) (by decide)) (by assumption) (by assumption) ?_; intro _ _ _ K; have F := Fm.went (by assumption) K))
section
variable {prog : Program} {w : World} {h : Heap} {A : Around} {E : Value → Shared → Prop}
  {g : Array GenState} {d : Drawn} {tk : Nat} {os : OsState} {l : List Nat} {t : Tok} {ps : Array Value}
theorem law_read_spec {out : List (Option (List Nat))} {Q : Value → Shared → Prop} (H0 : TopF h) (HC : TopF (cut h)) (U : TopU (cut h)) (T0 : Tb lamPos lqT h ps) (G : AllBare g) (R : Rm A 8) (hl : l.length ≤ 200) (htr : trG l l.length 0 [] = some out)
    (hlen : ∀ o ∈ out, ∀ x, o = some x → x.length ≤ 1000) (hout : out.length ≤ 1000)
    (q : ∀ h' g' tk' t' more, Keep (cut h) h' → Tb lamPos lqT h' (ps ++ more) → AllBare g' → Q (.str (T (readF out)) t') ⟨h', g', d, tk', os⟩) :
    wpAny (model prog w) A (call (.ref 201) [.str (T l) t]) Q E ⟨h, g, d, tk, os⟩ := by
  refine enter ["text"] [] (n := 29) (gl := ["_translate"]) (names := ["text"]) (vals := [some (.str (T l) t)]) H0 R (by walk_at "m in") rfl rfl (fun _ _ _ => rfl) rfl (mkFE (by decide +kernel) (by decide +kernel) (by decide +kernel) (by decide +kernel)) (by decide +kernel) (by decide +kernel) (by decide +kernel) ?_
  intro env L h₁ tk₁ A' R' X hfr F
  with_unfolding_all walk1
  walk_at "m go"
  have F' := F.toCut HC T0.here
  have kc := F'.keep.cut
  refine translate_spec F.top' (HC.keep kc) (U.keep kc) (T0.keep F.keep) G (R'.mono (by decide)) hl htr ?_
  intro h₂ g₂ tk₂ r rvs n more K₂ T₂ G₂ hr hn ne hv
  obtain ⟨led, hs, F₂, TL⟩ := T₂.toL (F'.called K₂ T₂.here hr hn ne).swap
  have hrl : h₂.get? r = some (listObj rvs n) := hr
  clear F F'
  refine compK_listX (vs := rvs) ["_law_sign"] (fun i ys => TV ys ((out.take i).map signF)) X R'.hd F₂ (isList hrl) .nil ?_ ?_ ?_
  · intro i ys hy _
    have := hy.len
    rw [sizeLine_eq, this, List.length_map, List.length_take]; (first | exact ar_to (by assumption) _ | lia | omega)
  · rintro C D it i v ys o n₂ h₃ tk₃ E' X' hvi hys Fc
    obtain ⟨ov, hov, hOV⟩ := hv.at hvi
    have hl3 : ∀ l, ov = some l → l.length ≤ 1000 := fun l e => hlen ov (List.mem_iff_getElem?.mpr ⟨i, hov⟩) l e
    refine ifs0 ?_
    rw [if_pos rfl]
    walk_at "m go"
    exact ⟨_, _, _, rfl, by rw [List.take_add_one, hov, Option.toList_some, List.map_append]; exact hys.snoc, by assumption, by walk_at "m got", by walk_at "m got"⟩
  · rintro C oC D ys n₃ h₃ tk₃ hys hns F₃
    refine RRe.ok hns F₃ fun h₄ F₄ => ?_
    rw [List.take_of_length_le (by rw [hv.len]; exact Nat.le_refl _)] at hys
    clear F₂ F₃
    walk_at "m go"
    have hsum : ∀ out : List (Option (List Nat)), ((out.map signF).map (·.length)).sum ≤ 2 * out.length := by
      intro out
      induction out with
      | nil => simp
      | cons o r ih => have := signF_len o; simp only [List.map_cons, List.sum_cons, List.length_cons]; (first | exact ar_to (by assumption) _ | lia | omega)
    have hsum := hsum out
    refine joinF F₄ .here hys (sep := []) (by simp only [List.length_nil, Nat.mul_zero, Nat.add_zero]; (first | exact ar_to (by assumption) _ | lia | omega)) fun t₅ k₅ => ?_
    rw [joinL_nil]
    exact q _ _ _ _ more F₄.keep (TL.toTb F₄ (.there .here) (fun p m => List.mem_cons_of_mem _ (List.mem_cons_of_mem _ m))) G₂
end
end

section
noncomputable def rootOf (p : List Nat) : List Nat × List Nat :=
  if p.take 1 ≠ [47] then ([], p) else if (p.take 2).drop 1 ≠ [47] ∨ (p.take 3).drop 2 = [47] then ([47], p.drop 1) else (p.take 2, p.drop 2)
noncomputable def splitF (p : List Nat) : List Nat × List Nat :=
  (if p.take (cutN 47 p) ≠ [] then (if p.take (cutN 47 p) ≠ List.replicate (p.take (cutN 47 p)).length 47 then rst 47 (p.take (cutN 47 p)) else p.take (cutN 47 p)) else p.take (cutN 47 p), p.drop (cutN 47 p))
theorem cutN_le (c : Nat) (l : List Nat) : cutN c l ≤ l.length := Nat.sub_le _ _
local macro_rules | `(tactic| walk_at "call ref") => `(tactic| (refine fspath_spec (Fm.top' (by assumption)) (Rm.mono (by assumption) (by decide)) ?_; intro _ _ K; have F := Fm.went (by assumption) K))
local macro_rules | `(tactic| walk_at "call ref") => `(tactic| (refine get_sep_spec (Fm.top' (by assumption)) (Rm.mono (by assumption) (by decide)) ?_; intro _ _ _ K; have F := Fm.went (by assumption) K))
theorem Fm.outRef {b h : Heap} {L : Addr} {names : List Str} {vals : List (Option Value)} {led : List (Addr × Obj)} {a : Addr} {o : Obj} (F : Fm b L names vals ((a, o) :: led) h) :
    Keep b h ∧ b.get? a = none ∧ h.get? a = some o := ⟨F.keep, (F.nw _ List.mem_cons_self).2.2, (F.nw _ List.mem_cons_self).1⟩
section
variable {prog : Program} {w : World} {h : Heap} {A : Around} {E : Value → Shared → Prop}
  {g : Array GenState} {d : Drawn} {tk : Nat} {os : OsState}
theorem splitroot_spec {p : List Nat} {t : Tok} {Q : Value → Shared → Prop} (H0 : TopF h) (R : Rm A 4) (hp : Small p)
    (q : ∀ h' a tk' t1 t2 t3, Keep h h' → h.get? a = none → h'.get? a = some (tupObj [.str (T []) t1, .str (T (rootOf p).1) t2, .str (T (rootOf p).2) t3]) → Q (.ref a) ⟨h', g, d, tk', os⟩) :
    wpAny (model prog w) A (call (.ref 170) [.str (T p) t]) Q E ⟨h, g, d, tk, os⟩ := by
  refine enter ["p"] ["sep", "empty"] (n := 23) (gl := ["fspath", "isinstance", "bytes"]) (names := ["p", "sep", "empty"]) (vals := [some (.str (T p) t), none, none]) H0 R (by walk_at "m in") rfl rfl (fun _ _ _ => rfl) rfl (mkFE (by decide +kernel) (by decide +kernel) (by decide +kernel) (by decide +kernel)) (by decide +kernel) (by decide +kernel) (by decide +kernel) ?_
  intro env L h₁ tk₁ A' R' X hfr F
  with_unfolding_all walk1
  walk_at "m go"
  · rename_i F
    have e : rootOf p = ([], p) := if_pos (by assumption)
    rw [e] at q
    exact q _ _ _ _ _ _ F.outRef.1 F.outRef.2.1 F.outRef.2.2
  · rename_i F
    have e : rootOf p = ([47], p.drop 1) := (if_neg (by assumption)).trans (if_pos (.inl (by assumption)))
    rw [e] at q
    exact q _ _ _ _ _ _ F.outRef.1 F.outRef.2.1 F.outRef.2.2
  · rename_i F
    have e : rootOf p = ([47], p.drop 1) := (if_neg (by assumption)).trans (if_pos (.inr (by assumption)))
    rw [e] at q
    exact q _ _ _ _ _ _ F.outRef.1 F.outRef.2.1 F.outRef.2.2
  · rename_i F
    have e : rootOf p = (p.take 2, p.drop 2) := (if_neg (by assumption)).trans (if_neg (not_or.mpr ⟨by assumption, by assumption⟩))
    rw [e] at q
    exact q _ _ _ _ _ _ F.outRef.1 F.outRef.2.1 F.outRef.2.2
theorem split_spec {p : List Nat} {t : Tok} {Q : Value → Shared → Prop} (H0 : TopF h) (R : Rm A 4) (hp : Small p)
    (q : ∀ h' a tk' t1 t2, Keep h h' → h.get? a = none → h'.get? a = some (tupObj [.str (T (splitF p).1) t1, .str (T (splitF p).2) t2]) → Q (.ref a) ⟨h', g, d, tk', os⟩) :
    wpAny (model prog w) A (call (.ref 163) [.str (T p) t]) Q E ⟨h, g, d, tk, os⟩ := by
  have hc := cutN_le 47 p
  refine enter ["p"] ["sep", "i", "head", "tail"] (n := 22) (gl := ["fspath", "_get_sep", "len"]) (names := ["p", "sep", "i", "head", "tail"]) (vals := [some (.str (T p) t), none, none, none, none]) H0 R (by walk_at "m in") rfl rfl (fun _ _ _ => rfl) rfl (mkFE (by decide +kernel) (by decide +kernel) (by decide +kernel) (by decide +kernel)) (by decide +kernel) (by decide +kernel) (by decide +kernel) ?_
  intro env L h₁ tk₁ A' R' X hfr F
  with_unfolding_all walk1
  walk_at "m go"
  all_goals (
    have hE : ((cutN 47 p : Int) - 1 + 1).toNat = cutN 47 p := by rw [Int.sub_add_cancel]; rfl
    simp only [hE] at *
    rename_i F)
  · have e : splitF p = (rst 47 (p.take (cutN 47 p)), p.drop (cutN 47 p)) := by unfold splitF; rw [if_pos (by assumption), if_pos (by assumption)]
    rw [e] at q
    exact q _ _ _ _ _ F.outRef.1 F.outRef.2.1 F.outRef.2.2
  · have e : splitF p = (p.take (cutN 47 p), p.drop (cutN 47 p)) := by unfold splitF; rw [if_pos (by assumption), if_neg (by assumption)]
    rw [e] at q
    exact q _ _ _ _ _ F.outRef.1 F.outRef.2.1 F.outRef.2.2
  · have e : splitF p = (p.take (cutN 47 p), p.drop (cutN 47 p)) := by unfold splitF; rw [if_neg (by assumption)]
    rw [e] at q
    exact q _ _ _ _ _ F.outRef.1 F.outRef.2.1 F.outRef.2.2
end

local macro_rules | `(tactic| walk_at "call ref") => `(tactic| 
 (refine split_spec (Fm.top' (by assumption)) (Rm.mono (by assumption) (by decide)) (by walk_at "m small") ?_; intro _ _ _ _ _ K hn hg; have F := Fm.add (by assumption) K hn hg))
/-- path.strip('/') -/
noncomputable def bare (p : List Nat) : List Nat := rst 47 (p.dropWhile (· == 47))
noncomputable def tailsF : Nat → List Nat → List (List Nat) → List (List Nat)
  | 0, p, ts => p :: ts
  | n + 1, p, ts => if bare p ≠ [] then tailsF n (splitF p).1 ((splitF p).2 :: ts) else p :: ts
theorem bare_slashes {p : List Nat} (h : ∀ x ∈ p, x = 47) : bare p = [] := by
  have : p.dropWhile (· == 47) = [] := by
    have := takeWhile_all (p := (· == 47)) (l := p) (fun x hx => by simpa using h x hx)
    have h2 := drop_takeWhile (· == 47) p
    rw [this, List.drop_length] at h2
    exact h2.symm
  unfold bare rst; rw [this]; rfl
theorem rst_le (c : Nat) (l : List Nat) : (rst c l).length ≤ l.length := by
  unfold rst
  have h1 := drop_takeWhile (· == c) l.reverse
  rw [List.length_reverse, ← h1, List.length_drop, List.length_reverse]; exact Nat.sub_le _ _
theorem split_less {p : List Nat} (h : bare p ≠ []) : (splitF p).1.length < p.length := by
  unfold splitF
  have hp : p ≠ [] := fun e => h (by subst e; rfl)
  have hl := List.length_pos_iff.mpr hp
  rcases last_split 47 p with hf | ⟨a, b, rfl, hb⟩
  · rw [cutN_free hf]; simpa using hl
  · rw [cutN_at hb]
    have ht : (a ++ 47 :: b).take (a.length + 1) = a ++ [47] := by
      rw [List.take_append, List.take_of_length_le (Nat.le_succ _)]; simp
    rw [ht]
    have hne : (a ++ [47]) ≠ [] := by simp
    rw [if_pos hne]
    split
    · have hr : rst 47 (a ++ [47]) = rst 47 a := by unfold rst; simp
      rw [hr]
      rw [List.length_append]; exact Nat.lt_of_le_of_lt (rst_le 47 a) (Nat.lt_add_of_pos_right (Nat.succ_pos _))
    · rename_i hs
      have hs' : a ++ [47] = List.replicate (a ++ [47]).length 47 := Decidable.not_not.mp hs
      cases b with
      | nil =>
        exact absurd (bare_slashes fun x hx => by
          rw [hs'] at hx; exact (List.mem_replicate.mp hx).2) h
      | cons y r => simp
theorem tailsF_fuel : ∀ (n : Nat) (p : List Nat) (ts : List (List Nat)), p.length ≤ n → tailsF n p ts = tailsF p.length p ts := by
  intro n
  induction n using Nat.strongRecOn with
  | ind n ih =>
    intro p ts hp
    by_cases hb : bare p ≠ []
    · have hlt := split_less hb
      obtain ⟨k, hk⟩ : ∃ k, p.length = k + 1 := ⟨p.length - 1, ar_p1 (Nat.lt_of_le_of_lt (Nat.zero_le _) hlt)⟩
      obtain ⟨m, hm⟩ : ∃ m, n = m + 1 := ⟨n - 1, ar_p1 (Nat.lt_of_lt_of_le (Nat.lt_of_le_of_lt (Nat.zero_le _) hlt) hp)⟩
      rw [hk, hm, tailsF, tailsF, if_pos hb, if_pos hb, ih m (by rw [hm]; exact Nat.lt_succ_self m) _ _ (Nat.le_of_lt_succ (Nat.lt_of_lt_of_le hlt (by show p.length ≤ m + 1; rw [← hm]; exact hp)))]
      exact (ih k (Nat.lt_of_lt_of_le (by rw [hk]; exact Nat.lt_succ_self k) hp) _ _ (Nat.le_of_lt_succ (by show _ < k + 1; rw [← hk]; exact hlt))).symm
    · have key : ∀ n, tailsF n p ts = p :: ts := fun n => by
        cases n with
        | zero => rfl
        | succ n => exact if_neg hb
      rw [key, key]
inductive TailJ (h : Heap) (L : Addr) (p0 : List Nat) (g : Array GenState) (d : Drawn) (os : OsState) (n : Nat) (s : Shared) : Prop
  | mk (p : List Nat) (ts : List (List Nat)) (vs : List Value) (t : Tok) (ta : Addr) (k : Nat) (vt : Option Value) (led' : List (Addr × Obj)) (h' : Heap) (tk' : Nat) (e : s = ⟨h', g, d, tk', os⟩) (e1 : n = p.length)
    (hlen : ts.length + p.length ≤ 1000000) (hv : TV vs ts) (hR : tailsF p.length p ts = tailsF p0.length p0 []) (F : Fm h L ["path", "tails", "tail"] [some (.str (T p) t), some (.ref ta), vt] ((ta, listObj vs k) :: led') h')
section
variable {prog : Program} {w : World} {h : Heap} {A : Around} {E : Value → Shared → Prop}
  {g : Array GenState} {d : Drawn} {tk : Nat} {os : OsState}
theorem law_tails_spec {p0 : List Nat} {t : Tok} {Q : Value → Shared → Prop} (H0 : TopF h) (R : Rm A 6) (hp : Small p0)
    (q : ∀ h' a tk' vs, Keep h h' → h.get? a = none → TV vs (tailsF p0.length p0 []) → h'.get? a = some (listObj vs) → Q (.ref a) ⟨h', g, d, tk', os⟩) :
    wpAny (model prog w) A (call (.ref 208) [.str (T p0) t]) Q E ⟨h, g, d, tk, os⟩ := by
  refine enter ["path"] ["tails", "tail"] (n := 30) (gl := ["split"]) (names := ["path", "tails", "tail"]) (vals := [some (.str (T p0) t), none, none]) H0 R (by walk_at "m in") rfl rfl (fun _ _ _ => rfl) rfl (mkFE (by decide +kernel) (by decide +kernel) (by decide +kernel) (by decide +kernel)) (by decide +kernel) (by decide +kernel) (by decide +kernel) ?_
  intro env L h₁ tk₁ A' R' X hfr F
  with_unfolding_all walk1
  walk_at "m go"
  rename_i h₂ ta _ _ F2 h₃ F3 tk₃
  refine while_ (TailJ h L p0 g d os) p0.length
    ⟨p0, [], [], t, ta, 0, none, [], h₃, tk₃, rfl, rfl, by unfold Small at hp; simpa using hp, .nil, rfl, F3⟩ ?_
  rintro n s E' ⟨p, ts, vs, t, ta, k, vt, led', h', tk', rfl, rfl, hlen, hv, hR, F⟩
  have hp : Small p := Nat.le_trans (Nat.le_add_left _ _) hlen
  have hvl := hv.len
  clear F3 F2
  walk_at "m go"
  · rename_i hx Fx tkx
    have hb : bare p ≠ [] := by assumption
    have hlt := split_less hb
    have e : tailsF p.length p ts = tailsF (splitF p).1.length (splitF p).1 ((splitF p).2 :: ts) := by
      obtain ⟨n, hn⟩ : ∃ n, p.length = n + 1 := ⟨p.length - 1, ar_p1 (Nat.lt_of_le_of_lt (Nat.zero_le _) hlt)⟩
      rw [hn, tailsF, if_pos hb]
      exact tailsF_fuel n _ _ (Nat.le_of_lt_succ (hn ▸ hlt : (splitF p).1.length < n + 1))
    exact ⟨_, hlt, (splitF p).1, (splitF p).2 :: ts, _, _, _, _, _, _, _, _, rfl, rfl, Nat.le_trans (by rw [List.length_cons, Nat.add_assoc, Nat.add_comm 1]; exact Nat.add_le_add_left hlt _) hlen, .cons hv, e.symm.trans hR, Fx⟩
  · rename_i Fx
    have e : tailsF p.length p ts = p :: ts := by
      cases hp' : p.length with
      | zero => rfl
      | succ n => exact if_neg (by assumption)
    exact q _ _ _ _ Fx.outRef.1 Fx.outRef.2.1 (by rw [← hR, e]; exact .cons hv) Fx.outRef.2.2
end

local macro_rules | `(tactic| walk_at "call ref") => `(tactic| (refine splitroot_spec (Fm.top' (by assumption)) (Rm.mono (by assumption) (by decide)) (by walk_at "m small") ?_; intro _ _ _ _ _ _ K hn hg; have F := Fm.add (by assumption) K hn hg))
noncomputable def nstep (r : List Nat) (st : List (List Nat)) (c : List Nat) : List (List Nat) :=
  if c = [] ∨ c = [46] then st
  else if c ≠ [46, 46] ∨ (r = [] ∧ st = []) ∨ (st ≠ [] ∧ st.getLast? = some [46, 46]) then st ++ [c]
  else st.dropLast
noncomputable def normF (p : List Nat) : List Nat :=
  if p = [] then [46] else
  let res := (rootOf p).1 ++ joinL [47] ((sp 47 (rootOf p).2).foldl (nstep (rootOf p).1) [])
  if res ≠ [] then res else [46]
section
variable {prog : Program} {w : World} {h : Heap} {A : Around} {E : Value → Shared → Prop}
  {g : Array GenState} {d : Drawn} {tk : Nat} {os : OsState}
theorem nstep_a {r c : List Nat} {st : List (List Nat)} (h : ¬ c ≠ [] ∨ c = [46]) : nstep r st c = st := if_pos (h.imp_left Decidable.not_not.mp)
theorem nlast {st : List (List Nat)} {ws : List Value} (hn : ws = [] ↔ st = []) {y : List Nat} : (ws ≠ [] ∧ st.getLastD [] = y) ↔ (st ≠ [] ∧ st.getLast? = some y) := by
  rw [ne_eq, hn]
  refine and_congr_right fun h => ?_
  rw [List.getLastD_eq_getLast?]
  cases e : st.getLast? with
  | none => exact absurd (List.getLast?_eq_none_iff.mp e) h
  | some x => rw [Option.getD_some, Option.some.injEq]
theorem ncond {r c : List Nat} {st : List (List Nat)} {ws : List Value} (hn : ws = [] ↔ st = []) : (c ≠ [46, 46] ∨ ((¬ r ≠ [] ∧ ¬ ws ≠ []) ∨ ws ≠ [] ∧ st.getLastD [] = [46, 46])) ↔ (c ≠ [46, 46] ∨ (r = [] ∧ st = []) ∨ (st ≠ [] ∧ st.getLast? = some [46, 46])) := by
  rw [nlast hn, Decidable.not_not, Decidable.not_not, hn]
theorem nstep_b {r c : List Nat} {st : List (List Nat)} {ws : List Value} (hn : ws = [] ↔ st = []) (h : ¬(¬ c ≠ [] ∨ c = [46])) (h2 : c ≠ [46, 46] ∨ ((¬ r ≠ [] ∧ ¬ ws ≠ []) ∨ ws ≠ [] ∧ st.getLastD [] = [46, 46])) : nstep r st c = st ++ [c] :=
  (if_neg fun x => h (x.imp_left Decidable.not_not.mpr)).trans (if_pos ((ncond hn).mp h2))
theorem nstep_c {r c : List Nat} {st : List (List Nat)} {ws : List Value} (hn : ws = [] ↔ st = []) (h : ¬(¬ c ≠ [] ∨ c = [46])) (h2 : ¬(c ≠ [46, 46] ∨ ((¬ r ≠ [] ∧ ¬ ws ≠ []) ∨ ws ≠ [] ∧ st.getLastD [] = [46, 46]))) : nstep r st c = st.dropLast :=
  (if_neg fun x => h (x.imp_left Decidable.not_not.mpr)).trans (if_neg fun x => h2 ((ncond hn).mpr x))
inductive NormJ (p : List Nat) (r nc : Addr) (vs : List Value) (i : Nat) (vals : List (Option Value)) (led : List (Addr × Obj)) : Prop
  | mk (q0 : List Nat) (t1 t2 t3 t4 : Tok) (v5 : Value) (t6 : Tok) (vc : Option Value) (st : List (List Nat)) (ws : List Value) (k : Nat) (led0 : List (Addr × Obj))
    (e1 : vals = [some (.str (T q0) t1), some (.str (T [47]) t2), some (.str (T [46]) t3), some (.str (T [46,46]) t4), some v5, some (.str (T (rootOf p).1) t6), some (.ref r), some (.ref nc), vc])
    (e2 : led = (nc, listObj ws k) :: (r, listObj vs) :: led0) (hv : TV ws st) (hst : st = ((sp 47 (rootOf p).2).take i).foldl (nstep (rootOf p).1) []) (hw : wsum st ≤ wsum ((sp 47 (rootOf p).2).take i))
theorem rootOf_len (p : List Nat) : (rootOf p).1.length + (rootOf p).2.length = p.length := by
  unfold rootOf
  split
  · simp
  · rename_i h1
    have h1' : p.take 1 = [47] := Decidable.not_not.mp h1
    have hl : 1 ≤ p.length := by
      cases p with
      | nil => cases h1'
      | cons a r => exact Nat.succ_le_succ (Nat.zero_le _)
    split
    · simp; exact Nat.add_sub_cancel' hl
    · rename_i h2
      have h2' : (p.take 2).drop 1 = [47] := Decidable.not_not.mp fun e => h2 (.inl e)
      have := congrArg List.length h2'
      simp at this ⊢
      rw [this]; exact Nat.add_sub_cancel' (by rw [← this]; exact Nat.min_le_right _ _)
theorem normpath_spec {p : List Nat} {t : Tok} {Q : Value → Shared → Prop} (H0 : TopF h) (R : Rm A 6) (hp : p.length ≤ 100000)
    (q : ∀ h' tk' t, Keep h h' → Q (.str (T (normF p)) t) ⟨h', g, d, tk', os⟩) :
    wpAny (model prog w) A (call (.ref 177) [.str (T p) t]) Q E ⟨h, g, d, tk, os⟩ := by
  have hs : Small p := ar_to hp _
  have hr := rootOf_len p
  have hr1 : (rootOf p).1.length ≤ 100000 := Nat.le_trans (Nat.le_trans (Nat.le_add_right _ _) (Nat.le_of_eq hr)) hp
  have hq' : wsum (sp 47 (rootOf p).2) ≤ 100001 := by rw [wsum_sp]; exact Nat.succ_le_succ (Nat.le_trans (Nat.le_trans (Nat.le_add_left _ _) (Nat.le_of_eq hr)) hp)
  refine enter ["path"] ["sep", "dot", "dotdot", "_", "initial_slashes", "comps", "new_comps", "comp"] (n := 24) (gl := ["fspath", "isinstance", "bytes", "splitroot"]) (names := ["path", "sep", "dot", "dotdot", "_", "initial_slashes", "comps", "new_comps", "comp"]) (vals := [some (.str (T p) t), none, none, none, none, none, none, none, none]) H0 R (by walk_at "m in") rfl rfl (fun _ _ _ => rfl) rfl (mkFE (by decide +kernel) (by decide +kernel) (by decide +kernel) (by decide +kernel)) (by decide +kernel) (by decide +kernel) (by decide +kernel) ?_
  intro env L h₁ tk₁ A' R' X hfr F
  with_unfolding_all walk1
  walk_at "m go"
  · have e : normF p = [46] := if_pos (Decidable.not_not.mp (by assumption))
    rw [e] at q
    try dsimp only
    exact q _ _ _ (Fm.keep (by assumption))
  · rename_i hA r kA vs hTV FA hB FB tkB hC nc KC nC FC hD FD tkD
    refine wpAny_For ?_ (fun _ => by with_unfolding_all rfl)
    walk1
    refine iterList (vs := vs) (NormJ p r nc vs)
      X R'.hd (x := "comp") (by walk_at "m in") FD ⟨_, _, _, _, _, _, _, _, [], [], _, _, rfl, rfl, .nil, by simp, by simp [wsum]⟩ ?_ 8 ?_ ?_ ?_
    · rintro i _ _ h' ⟨q0, t1, t2, t3, t4, v5, t6, vc, st, ws, k, led0, rfl, rfl, hv, hst, hw⟩ F
      exact isList (F.get (.there .here))
    · rintro i _ _ v ⟨q0, t1, t2, t3, t4, v5, t6, vc, st, ws, k, led0, rfl, rfl, hv, hst, hw⟩
      walk_at "m up"
    · rintro i v _ _ it o h' tk' E' hvi ⟨q0, t1, t2, t3, t4, v5, t6, vc, st, ws, k, led0, rfl, rfl, hv, hst, hw⟩ F
      obtain ⟨c, tc, hc, rfl⟩ := hTV.at hvi
      simp only [List.set_cons_succ, List.set_cons_zero] at F
      clear FA FB FC FD
      have hcm := wsum_mem (List.mem_iff_getElem?.mpr ⟨i, hc⟩)
      have hcs : Small c := ar_to (Nat.le_trans (Nat.le_of_succ_le hcm) hq') _
      have hwt := wsum_take (sp 47 (rootOf p).2) i
      have hwl : ws.length ≤ sizeLine := by rw [sizeLine_eq, hv.len]; exact ar_to (Nat.le_trans (wsum_len st) (Nat.le_trans hw (Nat.le_trans hwt hq'))) _
      have hnx : ((sp 47 (rootOf p).2).take (i + 1)).foldl (nstep (rootOf p).1) [] = nstep (rootOf p).1 st c := by
        rw [List.take_add_one, hc, Option.toList_some, List.foldl_append, ← hst]; rfl
      have hwn : wsum ((sp 47 (rootOf p).2).take (i + 1)) = wsum ((sp 47 (rootOf p).2).take i) + c.length + 1 := by
        rw [List.take_add_one, hc, Option.toList_some, wsum_app, wsum_one]; rfl
      have hw2 : wsum st ≤ wsum ((sp 47 (rootOf p).2).take (i + 1)) := by rw [hwn]; exact Nat.le_trans hw (Nat.le_trans (Nat.le_add_right _ _) (Nat.le_succ _))
      have hn := hv.nil_iff
      have hwd := wsum_dropLast st
      walk_at "m go"
      · have e := nstep_a (r := (rootOf p).1) (st := st) (by assumption)
        exact ⟨_, _, _, _, rfl, ⟨_, _, _, _, _, _, _, _, st, _, _, _, rfl, rfl, hv, (hnx.trans e).symm, hw2⟩, by assumption⟩
      · have e := nstep_b hn (by assumption) (by assumption)
        exact ⟨_, _, _, _, rfl, ⟨_, _, _, _, _, _, _, _, st ++ [c], _, _, _, rfl, rfl, hv.snoc, (hnx.trans e).symm, by rw [hwn, wsum_app, wsum_one]; exact Nat.add_le_add_right hw (c.length + 1)⟩, by assumption⟩
      · rcases hv.last with ⟨e1, _⟩ | ⟨x, tx, e1, _⟩
        · exact absurd e1 (by assumption)
        walk_at "m go"
        have e := nstep_c hn (by assumption) (by assumption)
        exact ⟨_, _, _, _, rfl, ⟨_, _, _, _, _, _, _, _, st.dropLast, _, _, _, rfl, rfl, hv.dropLast, (hnx.trans e).symm, Nat.le_trans hwd hw2⟩, by assumption⟩
      · have e := nstep_c hn (by assumption) (by assumption)
        have h0 : st = [] := hn.mp (Decidable.not_not.mp (by assumption))
        subst h0
        exact ⟨_, _, _, _, rfl, ⟨_, _, _, _, _, _, _, _, [], _, _, _, rfl, rfl, hv, (hnx.trans e).symm, hw2⟩, by assumption⟩
    · rintro _ _ h' tk' ⟨q0, t1, t2, t3, t4, v5, t6, vc, st, ws, k, led0, rfl, rfl, hv, hst, hw⟩ F
      clear FA FB FC FD
      rw [hTV.len, List.take_length] at hst hw
      have hwl : ws.length ≤ sizeLine := by rw [sizeLine_eq, hv.len]; exact ar_to (Nat.le_trans (wsum_len st) (Nat.le_trans hw hq')) _
      have hjb1 : (st.map (·.length)).sum + st.length * [47].length ≤ 100001 := by rw [show [47].length = 1 from rfl, Nat.mul_one]; exact Nat.le_trans hw hq'
      have hjb : (st.map (·.length)).sum + st.length * [47].length ≤ 1000000 := ar_to hjb1 _
      have hjl := joinL_len [47] st
      have hjs : Small (joinL [47] st) := Nat.le_trans hjl hjb
      have hjt : Small ((rootOf p).1 ++ joinL [47] st) := by unfold Small; rw [List.length_append]; exact Nat.le_trans (Nat.add_le_add hr1 (Nat.le_trans hjl hjb1)) (by decide)
      have hnF : normF p = if (rootOf p).1 ++ joinL [47] st ≠ [] then (rootOf p).1 ++ joinL [47] st else [46] := by
        unfold normF; rw [if_neg (Decidable.not_not.mp (show ¬¬ p ≠ [] by assumption)), hst]
      walk_at "m go"
      all_goals try dsimp only
      · rw [hnF, if_pos (by assumption)] at q
        exact q _ _ _ (Fm.keep (by assumption))
      · rw [hnF, if_neg (by assumption)] at q
        exact q _ _ _ (Fm.keep (by assumption))
end

noncomputable def jstep (path b : List Nat) : List Nat :=
  if b.head? = some 47 ∨ path = [] then b else if path.getLast? = some 47 then path ++ b else path ++ ([47] ++ b)
inductive JoinJ (a : List Nat) (ta : Addr) (v : Value) (vs : List Value) (r : List Nat) (rs : List (List Nat)) (i : Nat) (vals : List (Option Value)) (led : List (Addr × Obj)) : Prop
  | mk (path : List Nat) (t1 t2 t3 : Tok) (vb : Option Value) (e1 : vals = [some (.str (T a) t1), some (.ref ta), some (.str (T [47]) t2), some (.str (T path) t3), vb])
    (e2 : led = [(ta, tupObj (v :: vs))]) (e3 : path = ((r :: rs).take i).foldl jstep a) (e4 : path.length ≤ a.length + wsum ((r :: rs).take i))
theorem jstep_len (path b : List Nat) : (jstep path b).length ≤ path.length + b.length + 1 := by
  unfold jstep
  split
  · exact Nat.le_succ_of_le (Nat.le_add_left _ _)
  · split
    · rw [List.length_append]; exact Nat.le_succ _
    · rw [List.length_append, List.length_append, Nat.add_comm [47].length]; exact Nat.le_refl _
section
variable {prog : Program} {w : World} {h : Heap} {A : Around} {E : Value → Shared → Prop}
  {g : Array GenState} {d : Drawn} {tk : Nat} {os : OsState}
theorem join_spec {a r : List Nat} {rs : List (List Nat)} {t : Tok} {v : Value} {vs : List Value} {Q : Value → Shared → Prop} (H0 : TopF h) (R : Rm A 4) (hv : TV (v :: vs) (r :: rs)) (hp : a.length + wsum (r :: rs) ≤ 100000)
    (q : ∀ h' tk' t, Keep h h' → Q (.str (T ((r :: rs).foldl jstep a)) t) ⟨h', g, d, tk', os⟩) :
    wpAny (model prog w) A (call (.ref 156) (.str (T a) t :: v :: vs)) Q E ⟨h, g, d, tk, os⟩ := by
  have hvl := hv.len
  have hw1 : vs.length + 1 ≤ wsum (r :: rs) := Nat.le_trans (Nat.le_of_eq hvl) (wsum_len _)
  refine enterJoin (k := 3) (gl := ["fspath", "_get_sep"]) H0 R (by rw [sizeLine_eq]; exact Nat.le_trans hw1 (Nat.le_trans (Nat.le_add_left _ _) (ar_to hp _))) (mkFE (by decide +kernel) (by decide +kernel) (by decide +kernel) (by decide +kernel)) ?_
  intro env L ta h₁ tk₁ A' R' X hfr F
  with_unfolding_all walk1
  walk_at "m go"
  rename_i F2 tk2
  refine wpAny_Try_except ?_
  walk1
  refine wpAny_For ?_ (fun _ => by with_unfolding_all rfl)
  walk1
  refine iterTuple (vs := v :: vs) (JoinJ a ta v vs r rs)
      X R'.hd (x := "b") (by walk_at "m in") F2 ⟨_, _, _, _, _, rfl, rfl, rfl, by simp⟩ ?_ 4 ?_ ?_ ?_
  · rintro i _ _ h' ⟨path, t1, t2, t3, vb, rfl, rfl, hpa, hle⟩ F
    exact ⟨_, F.get .here, rfl, _, rfl⟩
  · rintro i _ _ v ⟨path, t1, t2, t3, vb, rfl, rfl, hpa, hle⟩
    walk_at "m up"
  · rintro i y _ _ it o h' tk' E' hvi ⟨path, t1, t2, t3, vb, rfl, rfl, hpa, hle⟩ F
    obtain ⟨c, tc, hc, rfl⟩ := hv.at hvi
    simp only [List.set_cons_succ, List.set_cons_zero] at F
    clear F2
    have hcm := wsum_mem (List.mem_iff_getElem?.mpr ⟨i, hc⟩)
    have hwn : wsum ((r :: rs).take (i + 1)) = wsum ((r :: rs).take i) + c.length + 1 := by
      rw [List.take_add_one, hc, Option.toList_some, wsum_app, wsum_one]; rfl
    have hwt2 := wsum_take (r :: rs) (i + 1)
    have hnx : ((r :: rs).take (i + 1)).foldl jstep a = jstep path c := by
      rw [List.take_add_one, hc, Option.toList_some, List.foldl_append, ← hpa]; rfl
    have hps : path.length + (c.length + 1) ≤ a.length + wsum ((r :: rs).take (i + 1)) := by rw [hwn]; exact Nat.le_trans (Nat.add_le_add_right hle (c.length + 1)) (Nat.le_of_eq (Nat.add_assoc _ _ _))
    have hp2 : path.length + (c.length + 1) ≤ 1000000 := ar_to (Nat.le_trans hps (Nat.le_trans (Nat.add_le_add_left hwt2 _) hp)) _
    have hs1 : Small path := Nat.le_trans (Nat.le_add_right _ _) hp2
    have hs2 : Small c := Nat.le_trans (Nat.le_trans (Nat.le_succ _) (Nat.le_add_left _ _)) hp2
    have hs3 : Small (path ++ c) := by unfold Small; rw [List.length_append]; exact Nat.le_of_succ_le hp2
    have hs4 : Small ([47] ++ c) := Nat.le_trans (Nat.le_add_left _ _) hp2
    have hs5 : Small (path ++ ([47] ++ c)) := by unfold Small; rw [List.length_append]; exact hp2
    walk_at "m go"
    all_goals try dsimp only
    · have e : jstep path c = c := if_pos (.inl (by simpa using ‹(c.head? == some 47) = true›))
      exact ⟨_, _, _, _, rfl, ⟨_, _, _, _, _, rfl, rfl, (hnx.trans e).symm, Nat.le_trans (Nat.le_trans (Nat.le_succ _) (Nat.le_add_left _ _)) hps⟩, by assumption⟩
    · have e : jstep path c = c := if_pos (.inr (Decidable.not_not.mp ‹¬path ≠ []›))
      exact ⟨_, _, _, _, rfl, ⟨_, _, _, _, _, rfl, rfl, (hnx.trans e).symm, Nat.le_trans (Nat.le_trans (Nat.le_succ _) (Nat.le_add_left _ _)) hps⟩, by assumption⟩
    · have e : jstep path c = path ++ c := (if_neg (by simpa using ⟨by simpa using ‹(c.head? == some 47) = false›, Decidable.not_not.mp ‹¬¬path ≠ []›⟩)).trans (if_pos (by simpa using ‹(path.getLast? == some 47) = true›))
      exact ⟨_, _, _, _, rfl, ⟨_, _, _, _, _, rfl, rfl, (hnx.trans e).symm, by rw [List.length_append]; exact Nat.le_of_succ_le hps⟩, by assumption⟩
    · have e : jstep path c = path ++ ([47] ++ c) := (if_neg (by simpa using ⟨by simpa using ‹(c.head? == some 47) = false›, Decidable.not_not.mp ‹¬¬path ≠ []›⟩)).trans (if_neg (by simpa using ‹(path.getLast? == some 47) = false›))
      exact ⟨_, _, _, _, rfl, ⟨_, _, _, _, _, rfl, rfl, (hnx.trans e).symm, by rw [List.length_append]; exact hps⟩, by assumption⟩
  · rintro _ _ h' tk' ⟨path, t1, t2, t3, vb, rfl, rfl, hpa, hle⟩ F
    clear F2
    rw [hvl, List.take_length] at hpa
    subst hpa
    try dsimp only
    walk_at "m go"
    try dsimp only
    exact q _ _ _ (Fm.keep (by assumption))
end
end

section
theorem IV.are {vs : List Value} {ns : List Int} (h : IV vs ns) : IntsAre vs ns := by
  unfold IV at h
  induction h with
  | nil => exact .nil
  | cons p _ ih => obtain ⟨t, rfl⟩ := p; exact .cons _ t ih
theorem IV.to {vs : List Value} {ns : List Int} (h : IV vs ns) {b : Nat} : IV (slicePick vs.toArray none (some (b : Int)) none).toList (ns.take b) := by
  rw [slicePick_plain]
  simp only [Option.elim, clipAt_nat, List.size_toArray]
  have e : List.take (min b vs.length - 0) (List.drop 0 vs) = vs.take b := by
    rw [List.drop_zero, Nat.sub_zero]
    rcases Nat.le_total b vs.length with h | h
    · rw [Nat.min_eq_left h]
    · rw [Nat.min_eq_right h, List.take_of_length_le (Nat.le_refl _), List.take_of_length_le h]
  show IV (List.take (min b vs.length - 0) (List.drop 0 vs)) _
  rw [e]
  exact h.pick b
section
variable {b h : Heap} {L : Addr} {names : List Str} {vals : List (Option Value)} {led : List (Addr × Obj)} {A : Around} {E : Value → Shared → Prop}
  {g : Array GenState} {d : Drawn} {tk : Nat} {os : OsState} {prog : Program} {w : World}
theorem sumF {a : Addr} {vs : List Value} {ns : List Int} {n : Nat} {Q : Value → Shared → Prop} (F : Fm b L names vals led h) (hh : A.handled = none) (hg : h.get? a = some (listObj vs n)) (hv : IV vs ns)
    (q : ∀ h' tk' t', Fm b L names vals led h' → Q (.int ns.sum t') ⟨h', g, d, tk', os⟩) : wpAny (model prog w) A (call (.builtin "sum") [.ref a]) Q E ⟨h, g, d, tk, os⟩ := by
  have hi := hv.are
  obtain ⟨xs, hx⟩ := hi.allInts.items
  have hn := hi.numsOf
  have hl : (⟨h, g, d, tk, os⟩ : Shared).heap.IsList a (intItems xs) := by rw [← hx]; exact isList hg
  refine sum_intListG hh hl fun h' tk' t' hk => ?_
  have e : preSum (numAt xs) xs.size = ns.sum := by
    rw [preSum_eq, List.take_of_length_le (by simp), ← nums_intItems, ← hx]
    show (numsOf vs).sum = _
    rw [hn]
  rw [e]
  exact q _ _ _ (F.went hk)
end
section
variable {prog : Program} {w : World} {A : Around} {E : Value → Shared → Prop}
theorem drawL {it t : Addr} {items : Array Value} (hne : t ≠ it) : ∀ (n i : Nat) (s : Shared) (Q : List Value → Shared → Prop), s.heap.IsListIter it t i → s.heap.IsList t items → i + n ≤ items.size →
    (∀ h', h'.IsListIter it t (i + n) → Heap.SameBut it s.heap h' → Q ((items.toList.drop i).take n) { s with heap := h' }) → wpAny (model prog w) A (draw (.ref it) n) Q E s := by
  intro n
  induction n with
  | zero =>
    intro i s Q hit _ _ hQ
    exact wpAny_pure (by simpa using hQ s.heap hit (Heap.SameBut.refl ..))
  | succ n ih =>
    intro i s Q hit hl hle hQ
    have hlt : i < items.size := by (first | exact ar_to (by assumption) _ | lia | omega)
    show wpAny _ _ (pyNext (.ref it) >>= _) Q E s
    refine wpAny_bind (wpAny_pyNext_list_item hit hl (x := items[i]) (by simp [hlt]) fun h₁ hit₁ hs₁ => ?_)
    have hl₁ : h₁.IsList t items := by obtain ⟨o, e, r⟩ := hl; exact ⟨o, hs₁.extBut t o hne e, r⟩
    refine wpAny_bind (wpAny_holding (ih (i + 1) _ _ hit₁ hl₁ (by (first | exact ar_to (by assumption) _ | lia | omega)) fun h₂ hit₂ hs₂ => wpAny_pure ?_))
    have := hQ h₂ (by rw [show i + (n + 1) = i + 1 + n by (first | exact ar_to (by assumption) _ | lia | omega)]; exact hit₂) (hs₁.trans hs₂)
    rw [List.drop_eq_getElem_cons (by simpa using hlt), List.take_succ_cons] at this
    simpa using this
theorem unpackL {t : Addr} {items : Array Value} {s : Shared} {Q : List Value → Shared → Prop} (hh : A.handled = none) (hl : s.heap.IsList t items)
    (hQ : ∀ h', Keep s.heap h' → Q items.toList { s with heap := h' }) : wpAny (model prog w) A (unpackItems (.ref t) items.size none) Q E s := by
  have hlt : t ≠ s.heap.objs.size := by obtain ⟨o, ho, _⟩ := hl; exact Nat.ne_of_lt (Heap.lt_size ho)
  unfold unpackItems
  refine wpAny_bind ?_
  unfold notIterableAtAll
  refine wpAny_bind (wpAny_specialOf hl.typeIs slot_list_iter.lookup ?_)
  refine wpAny_pure ?_
  simp only [Bool.false_eq_true, if_false]
  refine wpAny_bind (wpAny_holding (wpAny_pyIter_list hl ?_))
  have hk : Keep s.heap (s.heap.push { cls := .type "list_iterator", data := .fields #[.ref t, .int 0 0] }) := Keep.push _ _
  have hl' : (s.heap.push { cls := .type "list_iterator", data := .fields #[.ref t, .int 0 0] }).IsList t items := by obtain ⟨o, e, r⟩ := hl; exact ⟨o, hk _ _ e, r⟩
  refine wpAny_bind (wpAny_holding (drawL hlt items.size 0 _ _ ⟨_, Heap.get?_push_size _ rfl, rfl, rfl⟩ hl' (by (first | exact ar_to (by assumption) _ | lia | omega)) fun h₁ hit₁ hs₁ => ?_))
  have hall : List.take items.size (List.drop 0 items.toList) = items.toList := by
    rw [List.drop_zero]; exact List.take_of_length_le (by simp)
  rw [hall]
  rw [if_neg (by simp)]
  have hl₁ : h₁.IsList t items := by obtain ⟨o, e, r⟩ := hl'; exact ⟨o, hs₁.extBut t o hlt e, r⟩
  refine wpAny_bind (wpAny_holding (wpAny_pyNext_list_end hh hit₁ hl₁ (by simp) fun h₂ he₂ => ?_))
  simp only [Option.isSome_none, Bool.false_eq_true, if_false]
  exact wpAny_pure (hQ h₂ fun b o e => he₂ b o (Nat.ne_of_lt (Heap.lt_size e)) (hs₁.extBut b o (Nat.ne_of_lt (Heap.lt_size e)) (hk _ _ e)))
end
section
variable {b h : Heap} {L : Addr} {names : List Str} {vals : List (Option Value)} {led : List (Addr × Obj)} {A : Around} {E : Value → Shared → Prop} {env : Env}
  {g : Array GenState} {d : Drawn} {tk : Nat} {os : OsState} {prog : Program} {w : World}
theorem assignList {a : Addr} {vs : List Value} {elts : List Expr} {k n : Nat} {pos : Pos} {Q : Unit → Shared → Prop} (F : Fm b L names vals led h) (R : A.handled = none) (hg : h.get? a = some (listObj vs n))
    (hn : (assignEach elts env).length = vs.length) (hstar : (assignEach elts env).findIdx? (·.1) = none)
    (q : ∀ h', Fm b L names vals led h' → wpAny (model prog w) A (assignInOrder ((assignEach elts env).map (·.2)) vs) Q E ⟨h', g, d, tk, os⟩) :
    wpAny (model prog w) A (assign (.Tuple elts k pos) env (.ref a)) Q E ⟨h, g, d, tk, os⟩ := by
  rw [assign_Tuple]
  refine wpAny_bind (wpAny_standAt ?_)
  unfold unpack
  rw [hn, hstar]
  refine wpAny_bind (wpAny_holding ?_)
  have := unpackL (prog := prog) (w := w) (A := A) (E := E) (s := ⟨h, g, d, tk, os⟩) (Q := fun v s' => wpAny (model prog w) A (assignInOrder ((assignEach elts env).map (·.2)) v) Q E s') R (isList hg) (fun h' hk => q h' (F.went hk))
  simpa using this
end
theorem Fm.addAll {b h h' : Heap} {L : Addr} {names : List Str} {vals : List (Option Value)} {led new : List (Addr × Obj)} (F : Fm b L names vals led h) (k : Keep h h') (hp : ∀ p ∈ new, h'.get? p.1 = some p.2 ∧ h.get? p.1 = none) (nd : (new.map (·.1)).Nodup) :
    Fm b L names vals (new ++ led) h' := by
  have F' := F.went k
  refine ⟨F'.top, F'.fr, fun p hm => ?_, ?_⟩
  · rcases List.mem_append.mp hm with hm | hm
    · obtain ⟨e1, e2⟩ := hp p hm
      refine ⟨e1, fun e => ?_, ?_⟩
      · obtain ⟨oL, es, ep, x1, _⟩ := F.fr.ns
        rw [e] at e2; rw [e2] at x1; cases x1
      · cases hb : b.get? p.1 with
        | none => rfl
        | some ob => have := F.keep _ _ hb; rw [e2] at this; cases this
    · exact F'.nw p hm
  · rw [List.map_append]
    refine List.nodup_append.mpr ⟨nd, F.nd, fun x hx y hy e => ?_⟩
    obtain ⟨p, hpm, rfl⟩ := List.mem_map.mp hx
    obtain ⟨p', hpm', e'⟩ := List.mem_map.mp hy
    have h1 := (F.nw p' hpm').1
    rw [e', ← e, (hp p hpm).2] at h1
    cases h1
end

section
local macro_rules | `(tactic| walk_at "z") => `(tactic| skip)
section
variable {b h : Heap} {L : Addr} {names gl : List Str} {vals : List (Option Value)} {led : List (Addr × Obj)} {A : Around} {E : Value → Shared → Prop} {env : Env} {M : Model}
  {g : Array GenState} {d : Drawn} {tk : Nat} {os : OsState} {prog : Program} {w : World} {s : Shared}
/-- a list of texts, twice -/
theorem mulList2 {a : Addr} {v : Value} {n : Nat} {x : Int} {u : Tok} {Q : Value → Shared → Prop} (F : Fm b L names vals led h) (hg : Got led a (listObj [v] n)) (hx : x = 2)
    (q : ∀ h' r, Fm b L names vals ((r, listObj [v, v]) :: led) h' → Q (.ref r) ⟨h', g, d, tk, os⟩) : wpAny (model prog w) A (binaryOp .Mult (.ref a) (.int x u)) Q E ⟨h, g, d, tk, os⟩ := by
  subst hx
  refine mul_list (s := ⟨h, g, d, tk, os⟩) (h₀ := b) (L := L) (m := look names vals) (news := led) F.fr F.nw (items := #[v]) (k := n) (F.get hg) (by decide) (by decide) (by show 1 * 2 ≤ 2 ^ 24; decide) fun h' f' n' => ?_
  exact q h' _ (F.of_new f' n')
/-- a copy of a list -/
theorem listOfF {a : Addr} {vs : List Value} {n : Nat} {Q : Value → Shared → Prop} (F : Fm b L names vals led h) (hg : Got led a (listObj vs n)) (hsz : vs.length ≤ sizeLine)
    (q : ∀ h' r c, Fm b L names vals ((r, listObj vs c) :: led) h' → Q (.ref r) ⟨h', g, d, tk, os⟩) : wpAny (model prog w) A (call (.type "list") [.ref a]) Q E ⟨h, g, d, tk, os⟩ := by
  refine call_list_seq (s := ⟨h, g, d, tk, os⟩) (T := "list") (items := vs.toArray) (n := n) (hsz := by simpa using hsz) a (.inl rfl) (F.get hg) rfl rfl fun h' c' hk he => ?_
  exact q h' _ c' (F.add hk (Heap.get?_size h) he)
/-- a call with a starred list -/
theorem starG {pos p : Pos} {a : Addr} {n : Nat} {e : Expr} {Q : Value → Shared → Prop} (F : Fm b L names vals led s.heap) (hf : In1 fTab (a, n))
    (hq : wpAny M A (eval e env) (fun v s₁ => PySem.W.StarOf M A E v (fun vs s₂ => (∃ vals led, Fm b L names vals led s₂.heap) ∧ wpAny M A (call (.ref a) vs) Q E s₂) s₁) E s)
    (he : starEach [.Starred e p] env = [(true, eval e env)] := by rfl) :
    wpAny M A (callWith pos (.ref a) [] (backTo pos (starEach [.Starred e p] env)) []) Q E s := by
  obtain ⟨o, pm, cd, doc, ho, hd, hcr⟩ := F.top.fns _ hf.mem
  rw [he]
  refine callWith_def_kw (o := o) hd (PySem.W.ks_lone (wpAny_mono hq (fun v s₁ x => ?_) fun _ _ x => x))
  unfold PySem.W.StarOf at x ⊢
  refine wpAny_mono x (fun b s₂ y => ⟨y.1, wpAny_mono y.2 (fun vs s₃ z => ?_) fun _ _ x => x⟩) fun _ _ x => x
  obtain ⟨⟨_, _, F3⟩, z⟩ := z
  exact ⟨F3.keep _ _ ho, z⟩
theorem starOfF {a : Addr} {vs : List Value} {n : Nat} {Q : List Value → Shared → Prop} (F : Fm b L names vals led h) (hg : Got led a (listObj vs n)) (hsz : vs.length ≤ sizeLine)
    (q : ∀ h', Fm b L names vals led h' → Q vs ⟨h', g, d, tk, os⟩) : PySem.W.StarOf (model prog w) A E (.ref a) Q ⟨h, g, d, tk, os⟩ :=
  PySem.W.star_seq (s := ⟨h, g, d, tk, os⟩) (T := "list") F.fr F.nw hg.mem rfl rfl (.inl rfl) (by simp) (by simpa using hsz) fun h' f' n' => q h' (F.of f' n')
end
/-! the reading of a text -/
noncomputable def Reads (l r : List Nat) : Prop := l.length ≤ 200 ∧ ∃ out, trG l l.length 0 [] = some out ∧ (∀ o ∈ out, ∀ x, o = some x → x.length ≤ 1000) ∧ out.length ≤ 1000 ∧ r = readF out
section
variable {prog : Program} {w : World} {h b : Heap} {A : Around} {E : Value → Shared → Prop} {env : Env} {L : Addr} {names gl : List Str} {vals : List (Option Value)} {led : List (Addr × Obj)}
  {g : Array GenState} {d : Drawn} {tk : Nat} {os : OsState} {ps : Array Value}
theorem read_spec {l r : List Nat} {t : Tok} {Q : Value → Shared → Prop} (H0 : TopF h) (HC : TopF (cut h)) (U : TopU (cut h)) (T0 : Tb lamPos lqT h ps) (G : AllBare g) (R : Rm A 8) (hr : Reads l r)
    (q : ∀ h' g' tk' t' more, Keep (cut h) h' → Tb lamPos lqT h' (ps ++ more) → AllBare g' → Q (.str (T r) t') ⟨h', g', d, tk', os⟩) :
    wpAny (model prog w) A (call (.ref 201) [.str (T l) t]) Q E ⟨h, g, d, tk, os⟩ := by
  obtain ⟨hl, out, e, h1, h2, rfl⟩ := hr
  exact law_read_spec H0 HC U T0 G R hl e h1 h2 q
end
end

section
section
variable {prog : Program} {w : World} {h b : Heap} {A : Around} {E : Value → Shared → Prop} {env : Env} {L : Addr} {names gl : List Str} {vals : List (Option Value)} {led : List (Addr × Obj)}
  {g : Array GenState} {d : Drawn} {tk : Nat} {os : OsState} {ps : Array Value}
theorem Fm.toCutL {h₁ : Heap} {o : Obj} (F : Fm h L names vals led h₁) (HC : TopF (cut h)) (e : h.get? 57 = some o) : Fm (cut h) L names vals ((57, o) :: led) h₁ := by
  have hlt := Heap.lt_size e
  have hL : (57 : Addr) ≠ L := Nat.ne_of_lt (Nat.lt_of_lt_of_le hlt F.fr.above)
  refine ⟨HC, ⟨F.fr.ns, fun p o' e' => ?_, by rw [cut_size]; exact F.fr.above⟩, fun p hp => ?_, List.nodup_cons.mpr ⟨fun m => ?_, F.nd⟩⟩
  · by_cases hp : p = 57
    · subst hp; rw [cut_57] at e'; cases e'
    · rw [cut_other hp] at e'; exact F.keep _ _ e'
  · rcases List.mem_cons.mp hp with rfl | hp
    · exact ⟨F.keep _ _ e, hL, cut_57⟩
    · have q := F.nw p hp
      refine ⟨q.1, q.2.1, ?_⟩
      rw [cut_other (fun e' => by rw [e'] at q; rw [q.2.2] at e; cases e)]; exact q.2.2
  · obtain ⟨p, hp, e'⟩ := List.mem_map.mp m
    have q := F.nw p hp
    have e' : p.1 = 57 := e'
    rw [e'] at q; rw [q.2.2] at e; cases e
theorem Fm.calledAll {h' : Heap} {o' : Obj} {new : List (Addr × Obj)} (F : Fm b L names vals ((57, PySem.W.tabObj ps) :: led) h) (k : Keep (cut h) h') (e : h'.get? 57 = some o')
    (hn : ∀ p ∈ new, h'.get? p.1 = some p.2 ∧ (cut h).get? p.1 = none ∧ p.1 ≠ 57) (nd : (new.map (·.1)).Nodup) :
    Fm b L names vals (new ++ (57, o') :: led) h' := by
  have F' := F.tab (h' := h') (fun p o hp e => k p o (by rw [cut_other hp]; exact e)) e
  refine ⟨F'.top, F'.fr, fun p hp => ?_, ?_⟩
  · rcases List.mem_append.mp hp with hp | hp
    · obtain ⟨e1, e2, e3⟩ := hn p hp
      rw [cut_other e3] at e2
      refine ⟨e1, fun e => ?_, ?_⟩
      · obtain ⟨oL, es, ep, x1, _⟩ := F.fr.ns
        rw [e] at e2; rw [e2] at x1; cases x1
      · cases hb : b.get? p.1 with
        | none => rfl
        | some ob => have := F.keep _ _ hb; rw [e2] at this; cases this
    · exact F'.nw p hp
  · rw [List.map_append]
    refine List.nodup_append.mpr ⟨nd, F'.nd, fun x hx y hy e => ?_⟩
    obtain ⟨p, hpm, rfl⟩ := List.mem_map.mp hx
    obtain ⟨e1, e2, e3⟩ := hn p hpm
    rw [cut_other e3] at e2
    obtain ⟨p', hpm', e'⟩ := List.mem_map.mp hy
    rcases List.mem_cons.mp hpm' with rfl | hpm'
    · exact e3 (e.trans e'.symm)
    · have h1 := (F.nw p' (List.mem_cons_of_mem _ hpm')).1
      rw [e', ← e, e2] at h1
      cases h1
theorem Tb.off {lp : Pos} {lq : Str} {h' : Heap} {C : Addr} (T : Tb lp lq h ps) (x : Heap.ExtBut C h h') (hC : C ≠ 57) (hns : ∃ m, h.Ns C m) : Tb lp lq h' ps :=
  ⟨x _ _ hC.symm T.here, T.tri, fun c' e => by
    obtain ⟨a, e1, e2, c, o, vs, t, e3, e4, e5, e6⟩ := T.lam c' e
    cases e3
    refine ⟨a, e1, e2, a, o, vs, t, rfl, x _ _ (fun eC => ?_) e4, e5, e6⟩
    obtain ⟨m, oL, es, ep, x1, x2, _⟩ := hns
    subst eC
    rw [e4] at x1; cases x1
    rw [e5] at x2; cases x2⟩
theorem RRe.okX {Q : Value → Shared → Prop} {C D : Addr} {oC : Obj} {n : Nat} {ys : List Value} {scope : Scope} {tk' : Nat} {h' : Heap} (ns : ∀ h₂ : Heap, h₂.get? C = some oC → ∃ m, h₂.Ns C m)
    (F : Fm b L names vals ((C, oC) :: (D, listObj ys n) :: led) h') (q : ∀ h'', Heap.ExtBut C h' h'' → Fm b L names vals ((D, listObj ys n) :: led) h'' → Q (.ref D) ⟨h'', g, d, tk', os⟩) :
    RRe prog w A E Q (.ref D) (compEnv scope C env) (.ok .next) ⟨h', g, d, tk', os⟩ := by
  obtain ⟨m, hn⟩ := ns h' (F.get .here)
  exact ⟨m, hn, fun h'' hs => q h'' hs.extBut ((F.sub (fun p hp => List.mem_cons_of_mem _ hp) (List.nodup_cons.mp F.nd).2).iterGone F hs.extBut)⟩

/-- what the loop holds -/
inductive RdSt (h : Heap) (C D it a : Addr) (x : Str) (rs : List (List Nat)) (d : Drawn) (os : OsState) (i : Nat) (s : Shared) : Prop
  | mk (ys : List Value) (o : Obj) (m : Nat) (v : Option Value) (ledc : List (Addr × Obj)) (h' : Heap) (tk' : Nat) (g' : Array GenState) (ps' : Array Value) (e : s = ⟨h', g', d, tk', os⟩) (hJ : TV ys (rs.take i))
    (F : Fm (cut h) C [x] [v] ((57, PySem.W.tabObj ps') :: (D, listObj ys m) :: (it, o) :: ledc) h') (hT : Tb lamPos lqT h' ps') (hG : AllBare g') (hc : o.cls = .type "list_iterator") (hd : o.data = .fields #[.ref a, .int (i : Int) 0])
theorem compLoopR {elt iter : Expr} {x : Str} {px : Pos} {scope : Scope} {pos : Pos} {R : Result → Shared → Prop} {a C D it : Addr} {vs : List Value} {ls rs : List (List Nat)}
    (X : FE (compEnv scope C env) C [x] gl) (hA : A.handled = none) (hl : (cut h).IsList a vs.toArray) (hv : TV vs ls) (hr : All2 Reads ls rs) (hlen : rs.length ≤ 1000) {s : Shared}
    (h0 : RdSt h C D it a x rs d os 0 s)
    (turn : ∀ l r t led' h' tk' g' ps' E' (Q' : Value → Shared → Prop), Reads l r → Fm (cut h) C [x] [some (.str (T l) t)] led' h' → Got led' 57 (PySem.W.tabObj ps') → Tb lamPos lqT h' ps' → AllBare g' →
      (∀ h'' g'' tk'' t'' more, Keep (cut h') h'' → Tb lamPos lqT h'' (ps' ++ more) → AllBare g'' → Q' (.str (T r) t'') ⟨h'', g'', d, tk'', os⟩) →
      wpAny (model prog w) A (eval elt (compEnv scope C env)) Q' E' ⟨h', g', d, tk', os⟩)
    (done : ∀ ys n v ledc h' tk' g' ps', TV ys rs → Fm (cut h) C [x] [v] ((57, PySem.W.tabObj ps') :: (D, listObj ys n) :: ledc) h' → Tb lamPos lqT h' ps' → AllBare g' → R (.ok .next) ⟨h', g', d, tk', os⟩) :
    codeAny (model prog w) A (.compLoop (.ListComp elt [⟨.Name x px, iter, [], 0⟩] scope pos) 0 (.ref it) (.ref D) (compEnv scope C env)) R s := by
  have hll : ls.length = rs.length := hr.len
  have hvl : vs.length = rs.length := hv.len.trans hll
  refine codeAny_compLoop_tests (fun n s => ∃ i, n = vs.length - i ∧ i ≤ vs.length ∧ RdSt h C D it a x rs d os i s) ?_ vs.length ⟨0, rfl, Nat.zero_le _, h0⟩
  rintro n s ⟨i, rfl, hi, ys, o, m, v, ledc, h', tk', g', ps', rfl, hJ, F', hT, hG, hc, hd⟩
  have hl' : h'.IsList a vs.toArray := by obtain ⟨ol, e, r⟩ := hl; exact ⟨ol, F'.keep _ _ e, r⟩
  have hit : h'.IsListIter it a i := ⟨o, F'.get (.there (.there .here)), hc, hd⟩
  have tcut : ∀ {p : Addr} {ob : Obj} {h₂ : Heap}, (p, ob) ∈ (57, PySem.W.tabObj ps') :: (D, listObj ys m) :: (it, o) :: ledc → True := fun _ => trivial
  by_cases hlt : i < vs.length
  · have hvi : vs[i]? = some vs[i] := List.getElem?_eq_getElem hlt
    obtain ⟨l, t, hli, hvt⟩ := hv.at hvi
    obtain ⟨r, hri, hrd⟩ := hr.at hli
    obtain ⟨ledT, hsT, FT, TLT⟩ := hT.toL F'
    refine wpAny_pyNext_list_item (s := ⟨h', g', d, tk', os⟩) hit hl' (x := vs[i]) (by rw [List.getElem?_toArray]; exact hvi) fun h₁ hit₁ hs₁ => ?_
    obtain ⟨o₁, ho₁, hc₁, hd₁⟩ := hit₁
    have F₁ := F'.put (Put.there (Put.there Put.here)) hs₁ ho₁
    have T₁ : Tb lamPos lqT h₁ ps' := by
      refine ⟨hs₁.extBut _ _ (fun e => ?_) hT.here, hT.tri, fun c' e => ?_⟩
      · have := F'.nd; simp only [List.map_cons, List.nodup_cons, List.mem_cons, not_or] at this; exact this.1.2.1 e
      · obtain ⟨a', e1, e2, cX, oc, vsc, tc, e3, e4, e5, e6⟩ := hT.lam c' e
        cases e3
        refine ⟨a', e1, e2, a', oc, vsc, tc, rfl, hs₁.extBut _ _ (fun eC => ?_) e4, e5, e6⟩
        have g2 := F'.get (.there (.there .here))
        rw [← eC, e4] at g2; cases g2
        rw [e5] at hd; cases hd
        simp at e6
    obtain ⟨led₁, hs1, F₁, TL₁⟩ := T₁.toL F₁
    refine wpAny_assign_Name (storeL X F₁ Up.here fun h₂ F₂ tk₂ => ?_)
    have T₂ := TL₁.toTb F₂ .here (fun p m => List.mem_cons_of_mem _ m)
    refine ifs0 ?_
    rw [if_pos rfl]
    rw [hvt] at F₂
    refine turn l r t _ h₂ tk₂ g' ps' _ _ hrd F₂ .here T₂ hG ?_
    intro h₃ g₃ tk₃ t₃ more K₃ T₃ G₃
    have F₃ := F₂.tab (h' := h₃) (fun p o hp e => K₃ p o (by rw [cut_other hp]; exact e)) T₃.here
    obtain ⟨led₃, hs3, F₃, TL₃⟩ := T₃.toL F₃
    have F₄ := F₃.sub (led' := (D, listObj ys m) :: (57, PySem.W.tabObj (ps' ++ more)) :: (it, o₁) :: led₃.filter (fun p => p.1 ≠ D ∧ p.1 ≠ it)) ?_ ?_
    · have hy : ys.length ≤ 1000 := by rw [hJ.len, List.length_take]; exact Nat.le_trans (Nat.min_le_right _ _) hlen
      refine appendF F₄ Got.here Put.here (by rw [sizeLine_eq]; exact ar_to hy _) fun h₆ F₆ => ?_
      refine ⟨vs.length - (i + 1), ar_back hlt, i + 1, rfl, hlt, _, o₁, m + 1, _, led₃.filter (fun p => p.1 ≠ D ∧ p.1 ≠ it), h₆, tk₃, g₃, ps' ++ more, rfl, by rw [List.take_add_one, hri, Option.toList_some]; exact hJ.snoc, F₆.swap, ?_, G₃, hc₁, hd₁⟩
      refine TbL.toTb ⟨TL₃.tri, fun c' e => ?_⟩ F₆.swap .here (fun _ m => m)
      obtain ⟨a', oa, e1, e2, e3, va, ta, e4, e5⟩ := TL₃.lam c' e
      refine ⟨a', oa, e1, e2, e3.imp (fun mm => ?_) id, va, ta, e4, e5⟩
      by_cases hD : a' = D
      · have g1 := F₄.get .here
        have g2 := (F₃.nw _ (List.mem_cons_of_mem _ mm)).1
        dsimp only at g2
        rw [hD, g1] at g2; cases g2; cases e4
      · by_cases hI : a' = it
        · have g1 := F₄.get (.there (.there .here))
          have g2 := (F₃.nw _ (List.mem_cons_of_mem _ mm)).1
          dsimp only at g2
          rw [hI, g1] at g2; cases g2
          rw [hd₁] at e4; cases e4; simp at e5
        · refine List.mem_cons_of_mem _ (List.mem_cons_of_mem _ (List.mem_cons_of_mem _ (List.mem_filter.mpr ⟨mm, by simp [hD, hI]⟩)))
    · intro p hp
      rcases List.mem_cons.mp hp with rfl | hp
      · exact List.mem_cons_of_mem _ (hs3 _ (hs1 _ (by simp)))
      rcases List.mem_cons.mp hp with rfl | hp
      · exact List.mem_cons_self
      rcases List.mem_cons.mp hp with rfl | hp
      · exact List.mem_cons_of_mem _ (hs3 _ (hs1 _ (by simp)))
      · exact List.mem_cons_of_mem _ (List.mem_filter.mp hp).1
    · have n1 := F₃.nd
      have n2 := F'.nd
      simp only [List.map_cons, List.nodup_cons, List.mem_cons, not_or] at n1 n2 ⊢
      refine ⟨⟨fun e => n2.1.1 e.symm, n2.2.1.1, fun mm => ?_⟩, ⟨n2.1.2.1, fun mm => ?_⟩, fun mm => ?_, (List.filter_sublist.map _).nodup n1.2⟩
      · obtain ⟨p, hp, e⟩ := List.mem_map.mp mm
        have := (List.mem_filter.mp hp).2
        simp [e] at this
      · obtain ⟨p, hp, e⟩ := List.mem_map.mp mm
        exact n1.1 (List.mem_map.mpr ⟨p, (List.mem_filter.mp hp).1, e⟩)
      · obtain ⟨p, hp, e⟩ := List.mem_map.mp mm
        have := (List.mem_filter.mp hp).2
        simp [e] at this
  · have hi' : i = vs.length := ar_end hi hlt
    subst hi'
    refine wpAny_pyNext_list_end (s := ⟨h', g', d, tk', os⟩) hA hit hl' (by simp) fun h₁ hx₁ => ?_
    have F₁ : Fm (cut h) C [x] [v] ((it, o) :: (57, PySem.W.tabObj ps') :: (D, listObj ys m) :: ledc) h' := F'.perm ((List.Perm.cons _ (List.Perm.swap _ _ _)).trans (List.Perm.swap _ _ _))
    have F₂ := (F₁.sub (fun p hp => List.mem_cons_of_mem _ hp) (List.nodup_cons.mp F₁.nd).2).iterGone F₁ hx₁
    have hit57 : it ≠ 57 := by have := F₁.nd; simp only [List.map_cons, List.nodup_cons, List.mem_cons, not_or] at this; exact this.1.1
    have T₁ : Tb lamPos lqT h₁ ps' := by
      refine ⟨hx₁ _ _ hit57.symm hT.here, hT.tri, fun c' e => ?_⟩
      obtain ⟨a', e1, e2, cX, oc, vsc, tc, e3, e4, e5, e6⟩ := hT.lam c' e
      cases e3
      refine ⟨a', e1, e2, a', oc, vsc, tc, rfl, hx₁ _ _ (fun eC => ?_) e4, e5, e6⟩
      have g2 := F₁.get .here
      rw [← eC, e4] at g2; cases g2
      rw [e5] at hd; cases hd
      simp at e6
    rw [List.take_of_length_le (Nat.le_of_eq hvl.symm)] at hJ
    exact done _ _ _ _ _ _ _ _ hJ F₂ T₁ hG
theorem compReadK {elt iter : Expr} {x : Str} {px : Pos} {scope : Scope} {pos : Pos} {RR : Value → Env → Result → Shared → Prop} {a : Addr} {vs : List Value} {ls rs : List (List Nat)} {n : Nat} (gl' : List Str)
    (X : FE env L names gl) (hA : A.handled = none) (F : Fm b L names vals ((57, PySem.W.tabObj ps) :: led) h) (T0 : Tb lamPos lqT h ps) (G : AllBare g) (hl : h.get? a = some (listObj vs n)) (hv : TV vs ls) (hr : All2 Reads ls rs) (hlen : rs.length ≤ 1000)
    (turn : ∀ C l r t led' h' tk' g' ps' E' (Q' : Value → Shared → Prop), FE (compEnv scope C env) C [x] gl' → Reads l r → Fm (cut h) C [x] [some (.str (T l) t)] led' h' → Got led' 57 (PySem.W.tabObj ps') → Tb lamPos lqT h' ps' → AllBare g' →
      (∀ h'' g'' tk'' t'' more, Keep (cut h') h'' → Tb lamPos lqT h'' (ps' ++ more) → AllBare g'' → Q' (.str (T r) t'') ⟨h'', g'', d, tk'', os⟩) →
      wpAny (model prog w) A (eval elt (compEnv scope C env)) Q' E' ⟨h', g', d, tk', os⟩)
    (done : ∀ C oC D ys n led' h' tk' g' ps', TV ys rs → (∀ h₂ : Heap, h₂.get? C = some oC → ∃ m, h₂.Ns C m) → (∀ p ∈ led, p ∈ led') → Fm b L names vals ((C, oC) :: (D, listObj ys n) :: (57, PySem.W.tabObj ps') :: led') h' → Tb lamPos lqT h' ps' → AllBare g' →
      RR (.ref D) (compEnv scope C env) (.ok .next) ⟨h', g', d, tk', os⟩)
    (hcell : ∀ y ∈ scope.names, y.2 ≠ .cell := by decide +kernel) (hkind : scope.kind = .function := by rfl)
    (hx : scope.names.lookup x = some .local := by rfl) (hdb : (x == ("__debug__" : Str)) = false := by decide +kernel)
    (hg : ∀ y ∈ gl', scope.names.lookup y = some .globalImplicit ∧ (y == ("__debug__" : Str)) = false := by decide +kernel) :
    CompK prog w A E env elt iter x px [] scope pos RR (.ref a) ⟨h, g, d, tk, os⟩ := by
  unfold CompK
  have hb57 : b.get? 57 = none := (F.nw _ List.mem_cons_self).2.2
  have kb : Keep b (cut h) := fun p o e => by
    rw [cut_other (fun e' => by rw [e', hb57] at e; cases e)]; exact F.keep _ _ e
  have HC : TopF (cut h) := F.top.keep kb
  have ha57 : a ≠ 57 := fun e => by rw [e, T0.here] at hl; cases hl
  have hlc : (cut h).IsList a vs.toArray := isList (by rw [cut_other ha57]; exact hl)
  refine wpAny_pyIter_list (isList hl) (wpAny_newObj_type (hd := by size_fits) (wpAny_newFunctionEnv hcell (by intro y hy; simp at hy) (fun h₁ hns₁ hsb₁ => ?_) hkind))
  dsimp only at hns₁ hsb₁ ⊢
  have F1 := compStartFm (x := x) (itO := { cls := .type "list_iterator", data := .fields #[.ref a, .int 0 0] }) F.top' rfl hns₁ (fun p hp o e => hsb₁.extBut p o hp (Heap.get?_push_of_some _ e))
  have F2 := F1.toCutL HC T0.here
  have T1 : Tb lamPos lqT h₁ ps := T0.keep F1.keep
  have st : RdSt h _ _ _ a x rs d os 0 ⟨h₁, g, d, tk, os⟩ := ⟨[], _, _, none, [], h₁, tk, g, ps, rfl, by simpa using TV.nil, F2, T1, G, rfl, rfl⟩
  have X' : ∀ C, FE (compEnv scope C env) C [x] gl' := fun C => compFE X hkind (fun y hy => by rw [List.mem_singleton.mp hy]; exact ⟨hx, hdb⟩) hg
  have fin : ∀ C D ys n v ledc h' tk' g' ps', TV ys rs → Fm (cut h) C [x] [v] ((57, PySem.W.tabObj ps') :: (D, listObj ys n) :: ledc) h' → Tb lamPos lqT h' ps' → AllBare g' → RR (.ref D) (compEnv scope C env) (.ok .next) ⟨h', g', d, tk', os⟩ := by
    intro C D ys n v ledc h' tk' g' ps' hJ F' T' G'
    obtain ⟨oC, es, ep, e, r⟩ := F'.fr.ns
    have hC : (cut h).get? C = none := by
      cases e : (cut h).get? C with
      | none => rfl
      | some o' => exact absurd (Heap.lt_size e) (Nat.not_lt.mpr F'.fr.above)
    have hC57 : C ≠ 57 := (F'.nw _ List.mem_cons_self).2.1.symm
    have q := F'.nw (D, listObj ys n) (by simp)
    have hD57 : D ≠ 57 := fun e => by have := F'.nd; simp only [List.map_cons, List.nodup_cons, List.mem_cons, not_or] at this; exact this.1.1 e.symm
    have Fo := F.calledAll (new := [(C, oC), (D, listObj ys n)]) F'.keep T'.here (fun p hp => by
      rcases List.mem_cons.mp hp with rfl | hp
      · exact ⟨e, hC, hC57⟩
      · rw [List.mem_singleton.mp hp]; exact ⟨q.1, q.2.2, hD57⟩) (by simpa using Ne.symm q.2.1)
    exact done C oC D ys n led h' tk' g' ps' hJ (fun h₂ e₂ => ⟨_, oC, es, ep, e₂, r⟩) (fun _ m => m) Fo T' G'
  exact codeAny_compStart_list (compLoopR (env := env) (gl := gl') (X' _) hA hlc hv hr hlen st (fun l r t led' h' tk' g' ps' E' Q' => turn _ l r t led' h' tk' g' ps' E' Q' (X' _)) (fin _ _))
    (wpAny_pyIter_listiter ⟨_, F1.get (.there .here), rfl, rfl⟩ (compLoopR (env := env) (gl := gl') (X' _) hA hlc hv hr hlen st (fun l r t led' h' tk' g' ps' E' Q' => turn _ l r t led' h' tk' g' ps' E' Q' (X' _)) (fin _ _)))
end
end

section
/-! the plain law: paths -/
theorem sp_cat (c : Nat) : ∀ a b : List Nat, sp c (a ++ c :: b) = sp c a ++ sp c b
  | [], b => by simp [sp]
  | x :: a, b => by
    have ih := sp_cat c a b
    by_cases h : x = c
    · subst h; simp [sp, ih]
    · have hne := sp_ne c a
      rw [List.cons_append]
      simp only [sp, if_neg h, ih]
      cases hs : sp c a with
      | nil => exact absurd hs hne
      | cons y ys => simp
noncomputable def compsOf (p : List Nat) : List (List Nat) := (sp 47 (rootOf p).2).foldl (nstep (rootOf p).1) []
noncomputable def act (r : List Nat) (st : List (List Nat)) (b : List Nat) : List (List Nat) := (sp 47 b).foldl (nstep r) st
theorem rootOf_app {p x : List Nat} (hp : p ≠ []) (h : x.head? ≠ some 47 ∨ p.getLast? ≠ some 47) :
    rootOf (p ++ x) = ((rootOf p).1, (rootOf p).2 ++ x) := by
  match p, hp with
  | [a], _ =>
    by_cases ha : a = 47
    · subst ha
      have hx : x.head? ≠ some 47 := by simpa using h
      have : x.take 1 ≠ [47] := by
        cases x with
        | nil => simp
        | cons y ys => simpa using hx
      simp [rootOf, this]
    · simp [rootOf, ha]
  | [a, b], _ =>
    by_cases ha : a = 47
    · subst ha
      by_cases hb : b = 47
      · subst hb
        have hx : x.head? ≠ some 47 := by simpa using h
        have : x.take 1 ≠ [47] := by
          cases x with
          | nil => simp
          | cons y ys => simpa using hx
        simp [rootOf, this]
      · simp [rootOf, hb]
    · simp [rootOf, ha]
  | a :: b :: c :: r, _ =>
    unfold rootOf
    simp only [List.cons_append, List.take_succ_cons, List.take_zero, List.drop_succ_cons, List.drop_zero]
    split
    · simp
    · split
      · simp
      · simp
theorem jstep_comps {p b : List Nat} (hb : b.head? ≠ some 47) :
    (p ≠ [] → (rootOf (jstep p b)).1 = (rootOf p).1) ∧ (p = [] → (rootOf (jstep p b)).1 = []) ∧ compsOf (jstep p b) = act (rootOf p).1 (compsOf p) b := by
  have hnil : ∀ r st, nstep r st [] = st := fun r st => by simp [nstep]
  unfold jstep
  by_cases hp : p = []
  · subst hp
    rw [if_pos (.inr rfl)]
    have hr : rootOf b = ([], b) := by
      cases b with
      | nil => rfl
      | cons x xs => simp only [List.head?_cons, ne_eq, Option.some.injEq] at hb; simp [rootOf, hb]
    refine ⟨fun h => absurd rfl h, fun _ => by rw [hr], ?_⟩
    unfold compsOf act
    rw [hr]
    simp [rootOf, sp, hnil]
  · rw [if_neg (fun e => e.elim hb hp)]
    by_cases hl : p.getLast? = some 47
    · rw [if_pos hl]
      have hr := rootOf_app (x := b) hp (.inl hb)
      refine ⟨fun _ => by rw [hr], fun e => absurd e hp, ?_⟩
      unfold compsOf act
      rw [hr]
      dsimp only
      have h2 : (rootOf p).2 = [] ∨ ∃ q, (rootOf p).2 = q ++ [47] := by
        obtain ⟨q, hq⟩ : ∃ q, p = q ++ [47] := by
          refine ⟨p.dropLast, ?_⟩
          have h1 := List.dropLast_concat_getLast hp
          rw [List.getLast?_eq_some_getLast hp] at hl
          rw [Option.some.inj hl] at h1
          exact h1.symm
        subst hq
        match q with
        | [] => left; rfl
        | [a] =>
          by_cases ha : a = 47
          · subst ha; left; rfl
          · right; refine ⟨[a], ?_⟩; simp [rootOf, ha]
        | a :: b :: r =>
          right
          unfold rootOf
          split
          · exact ⟨_, rfl⟩
          · split
            · exact ⟨b :: r, rfl⟩
            · exact ⟨r, rfl⟩
      rcases h2 with e | ⟨q, e⟩
      · rw [e]; simp [sp, hnil]
      · rw [e, List.append_assoc, List.singleton_append, sp_cat, sp_cat, List.foldl_append, List.foldl_append]
        simp [sp, hnil]
    · rw [if_neg hl]
      have hr := rootOf_app (x := [47] ++ b) hp (.inr hl)
      refine ⟨fun _ => by rw [hr], fun e => absurd e hp, ?_⟩
      unfold compsOf act
      rw [hr]
      dsimp only
      rw [List.singleton_append, sp_cat, List.foldl_append]
theorem jfold_comps : ∀ (bs : List (List Nat)) (p : List Nat), (∀ b ∈ bs, b.head? ≠ some 47) → (rootOf (bs.foldl jstep p)).1 = (rootOf p).1 ∧ compsOf (bs.foldl jstep p) = bs.foldl (act (rootOf p).1) (compsOf p)
  | [], p, _ => ⟨rfl, rfl⟩
  | b :: bs, p, h => by
    have hb := h b (by simp)
    obtain ⟨h1, h2⟩ := jfold_comps bs (jstep p b) (fun x m => h x (List.mem_cons_of_mem _ m))
    obtain ⟨j1, j2, j3⟩ := jstep_comps (p := p) hb
    have hr : (rootOf (jstep p b)).1 = (rootOf p).1 := by
      by_cases e : p = []
      · rw [j2 e, e]; rfl
      · exact j1 e
    rw [List.foldl_cons, List.foldl_cons, h1, h2, hr, j3]
    exact ⟨rfl, rfl⟩
/-- the detours -/
noncomputable def detL : List (List Nat) := [[42,47,46,46], [91,46,93,47,46,46,47,46], [], [91,47,46,46], [97,47,98,93,47,46,46,47,46,46], [46], [91,33,47,97,47,46,46,47,47,46,46]]
theorem det_head {d : List Nat} (h : d ∈ detL) : d.head? ≠ some 47 := by
  revert d; decide
theorem nstep_push {r : List Nat} {st : List (List Nat)} {c : List Nat} (h1 : c ≠ []) (h2 : c ≠ [46]) (h3 : c ≠ [46,46]) : nstep r st c = st ++ [c] := by
  unfold nstep; rw [if_neg (by simp [h1, h2]), if_pos (.inl h3)]
theorem nstep_pop {r : List Nat} {st : List (List Nat)} {c : List Nat} (h3 : c ≠ [46,46]) : nstep r (st ++ [c]) [46,46] = st := by
  unfold nstep
  rw [if_neg (by decide), if_neg]
  · simp
  · simp [h3]
theorem nstep_skip {r : List Nat} {st : List (List Nat)} {c : List Nat} (h : c = [] ∨ c = [46]) : nstep r st c = st := by
  unfold nstep; rw [if_pos h]
theorem det_act {d : List Nat} (h : d ∈ detL) (r : List Nat) (st : List (List Nat)) : act r st d = st := by
  simp only [detL, List.mem_cons, List.not_mem_nil, or_false] at h
  rcases h with rfl | rfl | rfl | rfl | rfl | rfl | rfl
  · show nstep r (nstep r st [42]) [46,46] = st
    rw [nstep_push (c := [42]) (by decide) (by decide) (by decide), nstep_pop (by decide)]
  · show nstep r (nstep r (nstep r st [91,46,93]) [46,46]) [46] = st
    rw [nstep_push (c := [91,46,93]) (by decide) (by decide) (by decide), nstep_pop (by decide), nstep_skip (.inr rfl)]
  · show nstep r st [] = st
    rw [nstep_skip (.inl rfl)]
  · show nstep r (nstep r st [91]) [46,46] = st
    rw [nstep_push (c := [91]) (by decide) (by decide) (by decide), nstep_pop (by decide)]
  · show nstep r (nstep r (nstep r (nstep r st [97]) [98,93]) [46,46]) [46,46] = st
    rw [nstep_push (c := [97]) (by decide) (by decide) (by decide), nstep_push (c := [98,93]) (by decide) (by decide) (by decide), nstep_pop (by decide), nstep_pop (by decide)]
  · show nstep r st [46] = st
    rw [nstep_skip (.inr rfl)]
  · show nstep r (nstep r (nstep r (nstep r (nstep r st [91,33]) [97]) [46,46]) []) [46,46] = st
    rw [nstep_push (c := [91,33]) (by decide) (by decide) (by decide), nstep_push (c := [97]) (by decide) (by decide) (by decide), nstep_pop (by decide), nstep_skip (.inl rfl), nstep_pop (by decide)]
/-- a name that is a piece of a path -/
noncomputable def Name1 (p : List Nat) : Prop := 47 ∉ p ∧ p ≠ [] ∧ p.head? ≠ some 46
theorem Name1.act {p : List Nat} (h : Name1 p) (r : List Nat) (st : List (List Nat)) : act r st p = st ++ [p] := by
  unfold Mine.act
  rw [sp_free h.1]
  exact nstep_push h.2.1 (fun e => h.2.2 (by rw [e]; rfl)) (fun e => h.2.2 (by rw [e]; rfl))
theorem Name1.head {p : List Nat} (h : Name1 p) : p.head? ≠ some 47 := fun e => by
  cases p with
  | nil => cases e
  | cons x xs => simp at e; exact h.1 (by simp [e])
/-- a path of a root and pieces, split from behind -/
theorem joinL_snoc (s : List Nat) (c : List Nat) : ∀ cs : List (List Nat), cs ≠ [] → joinL s (cs ++ [c]) = joinL s cs ++ s ++ c
  | [], h => absurd rfl h
  | [p], _ => rfl
  | p :: q :: r, _ => by
    show p ++ s ++ joinL s ((q :: r) ++ [c]) = p ++ s ++ joinL s (q :: r) ++ s ++ c
    rw [joinL_snoc s c (q :: r) (by simp)]
    simp
noncomputable def RootS (r : List Nat) : Prop := r = [] ∨ r = [47] ∨ r = [47,47]
noncomputable def Piece (p : List Nat) : Prop := 47 ∉ p ∧ p ≠ []
theorem rst_free {c : Nat} {a b : List Nat} (h : c ∉ b) (hb : b ≠ []) : rst c (a ++ b) = a ++ b := by
  unfold rst
  rw [List.reverse_append]
  cases hr : b.reverse with
  | nil => exact absurd (List.reverse_eq_nil_iff.mp hr) hb
  | cons x xs =>
    have hx : x ≠ c := fun e => h (by have : x ∈ b.reverse := by rw [hr]; simp
                                      rw [← e]; exact List.mem_reverse.mp this)
    rw [List.cons_append, List.dropWhile_cons_of_neg (by simpa using hx), ← List.cons_append, ← hr, ← List.reverse_append, List.reverse_reverse]
theorem rst_end {c : Nat} {a : List Nat} : rst c (a ++ [c]) = rst c a := by
  unfold rst; rw [List.reverse_append]; simp
theorem bare_piece {a b c : List Nat} (h : 47 ∉ b) (hb : b ≠ []) : bare (a ++ b) ≠ [] := by
  intro e
  have hall : ∀ x ∈ a ++ b, x = 47 := by
    unfold bare rst at e
    rw [List.reverse_eq_nil_iff] at e
    intro x hx
    have h1 : ∀ {l : List Nat}, l.dropWhile (· == 47) = [] → ∀ x ∈ l, x = 47 := by
      intro l
      induction l with
      | nil => simp
      | cons y ys ih =>
        intro hd z hz
        by_cases hy : y = 47
        · subst hy
          rw [List.dropWhile_cons_of_pos (by simp)] at hd
          rcases List.mem_cons.mp hz with rfl | hz
          · rfl
          · exact ih hd z hz
        · rw [List.dropWhile_cons_of_neg (by simpa using hy)] at hd; cases hd
    by_cases h2 : (a ++ b).dropWhile (· == 47) = []
    · exact h1 h2 x hx
    · have h3 := h1 e
      cases hd : (a ++ b).dropWhile (· == 47) with
      | nil => exact absurd hd h2
      | cons y ys =>
        have hy := List.head_dropWhile_not (p := (· == 47)) (l := a ++ b) (by rw [hd]; simp)
        simp only [hd, List.head_cons] at hy
        have := h3 y (by rw [hd]; simp)
        simp [this] at hy
  cases b with
  | nil => exact hb rfl
  | cons x xs => exact h (by rw [hall x (by simp)]; simp)
theorem tails_fold {r : List Nat} (hr : RootS r) : ∀ (n : Nat) (cs ts : List (List Nat)), cs.length = n → (∀ c ∈ cs, Piece c) → ∀ f, n ≤ f → tailsF f (r ++ joinL [47] cs) ts = r :: (cs ++ ts) := by
  intro n
  induction n with
  | zero =>
    intro cs ts hn _ f _
    rw [List.length_eq_zero_iff.mp hn]
    show tailsF f (r ++ []) ts = r :: ts
    have hb : bare (r ++ []) = [] := bare_slashes (fun x hx => by rw [List.append_nil] at hx; rcases hr with rfl | rfl | rfl <;> simp_all)
    cases f with
    | zero => simp [tailsF]
    | succ f => rw [tailsF, if_neg (fun h => h hb), List.append_nil]
  | succ n ih =>
    intro cs ts hn hc f hf
    obtain ⟨cs', c, rfl⟩ : ∃ cs' c, cs = cs' ++ [c] := by
      have : cs ≠ [] := fun e => by subst e; cases hn
      exact ⟨_, _, (List.dropLast_concat_getLast this).symm⟩
    have hn' : cs'.length = n := by simpa using hn
    obtain ⟨f, rfl⟩ : ∃ f', f = f' + 1 := ⟨f - 1, ar_p1 (Nat.lt_of_lt_of_le (Nat.succ_pos n) hf)⟩
    have hcP := hc c (by simp)
    have hs : ∃ a, r ++ joinL [47] (cs' ++ [c]) = a ++ c ∧ ((cs' = [] ∧ a = r) ∨ (cs' ≠ [] ∧ a = r ++ joinL [47] cs' ++ [47])) := by
      by_cases e : cs' = []
      · subst e; exact ⟨r, rfl, .inl ⟨rfl, rfl⟩⟩
      · exact ⟨_, by rw [joinL_snoc _ _ _ e]; simp, .inr ⟨e, rfl⟩⟩
    obtain ⟨a, ea, hcase⟩ := hs
    have hsplit : splitF (a ++ c) = (r ++ joinL [47] cs', c) := by
      have hcut : cutN 47 (a ++ c) = a.length := by
        rcases hcase with ⟨_, rfl⟩ | ⟨_, rfl⟩
        · rcases hr with rfl | rfl | rfl
          · rw [List.nil_append, cutN_free hcP.1]; rfl
          · exact cutN_at (a := []) hcP.1
          · exact cutN_at (a := [47]) hcP.1
        · rw [List.append_assoc, List.singleton_append, cutN_at hcP.1]; simp; exact Nat.add_assoc _ _ _
      unfold splitF
      rw [hcut, List.take_left, List.drop_left]
      congr 1
      rcases hcase with ⟨rfl, rfl⟩ | ⟨hne, rfl⟩
      · rcases hr with rfl | rfl | rfl <;> rfl
      · rw [if_pos (by simp)]
        have hlast : ∃ cs'' c', cs' = cs'' ++ [c'] := ⟨_, _, (List.dropLast_concat_getLast hne).symm⟩
        obtain ⟨cs'', c', rfl⟩ := hlast
        have hc' := hc c' (by simp)
        have hform : ∃ a', r ++ joinL [47] (cs'' ++ [c']) = a' ++ c' := by
          by_cases e : cs'' = []
          · subst e; exact ⟨r, rfl⟩
          · exact ⟨_, by rw [joinL_snoc _ _ _ e, ← List.append_assoc]⟩
        obtain ⟨a', ea'⟩ := hform
        rw [if_pos, rst_end, ea', rst_free hc'.1 hc'.2]
        intro e
        cases hcc : c' with
        | nil => exact hc'.2 hcc
        | cons x xs =>
          have hx : x ∈ (r ++ joinL [47] (cs'' ++ [c']) ++ [47]) := by rw [ea', hcc]; simp
          rw [e] at hx
          have := List.eq_of_mem_replicate hx
          exact hc'.1 (by rw [hcc, this]; simp)
    rw [ea, tailsF, if_pos (bare_piece (c := []) hcP.1 hcP.2), hsplit]
    dsimp only
    rw [ih cs' (c :: ts) hn' (fun x m => hc x (by simp [m])) f (Nat.le_of_succ_le_succ hf)]
    simp
end

section
noncomputable def RRu (prog : Program) (w : World) (A : Around) (E : Value → Shared → Prop) (env : Env) (y : Str) (py : Pos) (Q : Flow → Shared → Prop) (acc : Value) (cenv : Env) (r : Result) (s' : Shared) : Prop :=
  match r with
  | .ok _ => wpAny (model prog w) A (assign (.Name y py) env acc) (fun _ s'' => ∃ m, s''.heap.Ns cenv.locals m ∧ ∀ h', Heap.SameBut cenv.locals s''.heap h' → Q .next { s'' with heap := h' }) E s'
  | .error x => ∃ m, s'.heap.Ns cenv.locals m ∧ ∀ h', Heap.SameBut cenv.locals s'.heap h' → wpAny (model prog w) A (passOn "comprehension.variables-let-go" x cenv) (fun (_ : Value) s' => Q .next s') E { s' with heap := h' }
section
variable {prog : Program} {w : World} {A : Around} {E : Value → Shared → Prop} {env : Env} {b h : Heap} {L : Addr} {names gl : List Str} {vals : List (Option Value)} {led : List (Addr × Obj)}
  {g : Array GenState} {d : Drawn} {tk : Nat} {os : OsState}
theorem Assign_comp {elt iter : Expr} {x y : Str} {px py : Pos} {scope : Scope} {pos spos : Pos} {Q : Flow → Shared → Prop} {s : Shared}
    (hsw : swapsWith (.ListComp elt [⟨.Name x px, iter, [], 0⟩] scope pos) (some (.Name y py)) spos.line env = pure true)
    (hfree : ∀ z ∈ scope.names, z.2 ≠ .free) (hkind : scope.kind = .function) (hnames : ∀ z ∈ scope.names, z.2 = .local → scope.names.lookup z.1 = some .local)
    (h : wpAny (model prog w) A (eval iter env) (CompK prog w A E env elt iter x px [] scope pos (RRu prog w A E env y py Q)) E s)
    (hs : ∀ x, foldedSetIterable iter env x = pure x := by intro _; rfl) :
    wpAny (model prog w) A (exec (.Assign [.Name y py] (.ListComp elt [⟨.Name x px, iter, [], 0⟩] scope pos) spos) env) Q E s := by
  rw [exec_Assign_Name_used _ _ _ _ hsw]
  refine wpAny_bind (wpAny_standAt (wpAny_bind ?_))
  show wpAny _ A (do let _ ← comprehension (.ListComp elt [⟨.Name x px, iter, [], 0⟩] scope pos) scope env _ (newList []) false (eval iter env) (some (assign (.Name y py) env))) _ _ s
  refine wpAny_bind (wpAny_mono (wpAny_comprehension_use (Q := fun _ s' => Q .next s') rfl hs hfree hkind hnames (wpAny_mono h (fun xv s₁ h₁ => ?_) fun _ _ e => e))
    (fun _ s' hq => wpAny_pure (wpAny_pure hq)) fun _ _ e => e)
  exact h₁
theorem RRu.ok {Q : Flow → Shared → Prop} {C D : Addr} {oC : Obj} {n : Nat} {ys : List Value} {scope : Scope} {tk' : Nat} {h' : Heap} {y : Str} {py : Pos} {vals' : List (Option Value)} (X : FE env L names gl) (ns : ∀ h₂ : Heap, h₂.get? C = some oC → ∃ m, h₂.Ns C m)
    (F : Fm b L names vals ((C, oC) :: (D, listObj ys n) :: led) h') (u : Up names vals y (.ref D) vals') (q : ∀ h'' tk'', Fm b L names vals' ((D, listObj ys n) :: led) h'' → Q .next ⟨h'', g, d, tk'', os⟩) :
    RRu prog w A E env y py Q (.ref D) (compEnv scope C env) (.ok .next) ⟨h', g, d, tk', os⟩ := by
  refine wpAny_assign_Name (storeL X F u fun h₂ F₂ tk₂ => ?_)
  obtain ⟨m, hn⟩ := ns h₂ (F₂.get .here)
  exact ⟨m, hn, fun h'' hs => q h'' _ ((F₂.sub (fun p hp => List.mem_cons_of_mem _ hp) (List.nodup_cons.mp F₂.nd).2).iterGone F₂ hs.extBut)⟩
theorem itemListH {a : Addr} {vs : List Value} {n : Nat} {k : Int} {x : Value} {u : Tok} {value slice : Expr} {Q : Value → Shared → Prop} (hg : h.get? a = some (listObj vs n)) (h0 : 0 ≤ k) (hk : k < 1000000) (hx : vs[k.toNat]? = some x)
    (q : Q x ⟨h, g, d, tk, os⟩)
    (hs : subscripted slice false (.ref a) (.int k u) = operate [.ref a, .int k u] (getItem (.ref a) (.int k u)) := by with_unfolding_all rfl) :
    wpAny (model prog w) A (subscriptTail value slice (.ref a) (.int k u)) Q E ⟨h, g, d, tk, os⟩ :=
  item_listR (s := ⟨h, g, d, tk, os⟩) (items := vs.toArray) (isList hg) h0 (by (first | exact ar_to (by assumption) _ | lia | omega)) (by rw [List.getElem?_toArray]; exact hx) q hs
end
/-! the plain functions of the law -/
noncomputable def sixL : List (List (List Nat) × List Nat × List (List Nat)) :=
  [([[46,46]], [], [[46,46]]), ([[]], [], []), ([[47]], [47], []), ([[63], [47,47]], [47,47], []), ([[42], [47,47,47,46,46]], [47], []), ([[46,46], [46,46]], [], [[46,46], [46,46]])]
noncomputable def endL : List (List Nat) := [[], [91], [91,33], [91,97]]
noncomputable def endT (num : Int) : List Nat := endL.getD (num / 42 % 4).toNat []
noncomputable def addEnd (rows : List (List Pair)) (e : List Nat) : List (List Pair) := rows.dropLast ++ [rows.getLastD [] ++ [(e, e)]]
noncomputable def pOf (row : List Pair) : List Nat := (row.map (·.1)).flatten
noncomputable def nOf (row : List Pair) : List Nat := (row.map (·.2)).flatten
noncomputable def sumK (ns : List Int) (k : Nat) : Int := (((ns.take (k + 2)).drop (k + 1)).map (· / 88)).sum
noncomputable def detAt (ns : List Int) (k : Nat) : List Nat := detL.getD ((sumK ns k + k) % 7).toNat []
noncomputable def partsN (ns : List Int) (rows : List (List Pair)) (i : Nat) : List (List Nat) := (List.range i).flatMap fun k => [detAt ns k, pOf (rows.getD k [])]
noncomputable def partsF (ns : List Int) (rows : List (List Pair)) (num : Int) (front : List (List Nat)) : List (List Nat) := front ++ partsN ns rows rows.length ++ [detL.getD (num / 6 % 7).toNat []]
noncomputable def strF (ps : List (List Nat)) : List Nat := normF (ps.tail.foldl jstep (ps.headD []))
end

section
local macro_rules | `(tactic| walk_at "m iv") => `(tactic| first | assumption | exact IV.to (by assumption))
local macro_rules | `(tactic| walk_at "m subref") => `(tactic| ((with_reducible show wpAny _ _ (subscriptTail _ (Expr.Constant _ _ _) (Value.ref _) (Value.int _ _)) _ _ _); refine itemListH (by walk_at "m at") (by decide) (by decide) rfl ?_))
local macro_rules | `(tactic| walk_at "subscriptTail List") => `(tactic| ((with_reducible show wpAny _ _ (subscriptTail _ _ (Value.ref _) (Value.int _ _)) _ _ _); refine itemTV (by assumption) (by walk_at "m got") (by walk_at "m tv") (by walk_at "m int") (by walk_at "m int") (by first | decide | assumption) (by first | decide | assumption) ?_; intro _ _))
theorem Fm.drop2 {b h : Heap} {L : Addr} {names : List Str} {vals : List (Option Value)} {p q1 q2 : Addr × Obj} {rest : List (Addr × Obj)} (F : Fm b L names vals (p :: q1 :: q2 :: rest) h) : Fm b L names vals (p :: rest) h :=
  ((F.perm ((List.Perm.swap q1 p _).trans (.cons _ (List.Perm.swap q2 p _)))).tl).tl
noncomputable def lB (i : Nat) : Stmt := sAt (fBody 31) i
section
variable {prog : Program} {w : World} {b h : Heap} {A : Around} {E : Value → Shared → Prop} {env : Env} {L : Addr} {led : List (Addr × Obj)}
  {g : Array GenState} {d : Drawn} {tk : Nat} {os : OsState} {Q : Flow → Shared → Prop} {v0 v1 v2 v3 v4 v5 v6 v7 v8 v9 v10 v11 : Option Value} {num : Int} {tn : Tok}
theorem lawS2 {st : Stmt} (hst : lB 2 = st) (X : FE env L ["script", "number", "front", "root", "ups", "detours", "rows", "parts", "k", "names", "straight", "tails"] ["sum", "_law_rows", "len", "range", "normpath", "join", "_law_tails", "_law_read", "list"]) (R : Rm A 9) (F : Fm b L ["script", "number", "front", "root", "ups", "detours", "rows", "parts", "k", "names", "straight", "tails"] [v0, v1, v2, v3, v4, v5, v6, v7, v8, v9, v10, v11] led h)
    (q : ∀ h' tk' da dvs, Fm b L ["script", "number", "front", "root", "ups", "detours", "rows", "parts", "k", "names", "straight", "tails"] [v0, v1, v2, v3, v4, some (.ref da), v6, v7, v8, v9, v10, v11] ((da, listObj dvs) :: led) h' → TV dvs detL → Q .next ⟨h', g, d, tk', os⟩) :
    wpAny (model prog w) A (exec st env) Q E ⟨h, g, d, tk, os⟩ := by
  subst hst
  conv in exec (lB 2) _ => arg 1; whnf
  walk_at "m go"
  exact q _ _ _ _ (by assumption) (by walk_at "m tv")
theorem lawS4 {st : Stmt} {D r : Addr} {ys vs : List Value} {n k : Nat} (hst : lB 4 = st) (X : FE env L ["script", "number", "front", "root", "ups", "detours", "rows", "parts", "k", "names", "straight", "tails"] ["sum", "_law_rows", "len", "range", "normpath", "join", "_law_tails", "_law_read", "list"]) (R : Rm A 9) 
    (F : Fm b L ["script", "number", "front", "root", "ups", "detours", "rows", "parts", "k", "names", "straight", "tails"] [v0, some (.int num tn), v2, v3, v4, v5, some (.ref D), v7, v8, v9, v10, v11] ((r, listObj vs k) :: led) h) (hD : Got led D (listObj ys n)) (hl : ys.getLast? = some (.ref r)) (hvs : vs.length ≤ 100)
    (q : ∀ h' tk' i t1 t2, Fm b L ["script", "number", "front", "root", "ups", "detours", "rows", "parts", "k", "names", "straight", "tails"] [v0, some (.int num tn), v2, v3, v4, v5, some (.ref D), v7, v8, v9, v10, v11] ((i, listObj [.str (T (endT num)) t1, .str (T (endT num)) t2]) :: (r, listObj (vs ++ [.ref i]) (k + 1)) :: led) h' → Q .next ⟨h', g, d, tk', os⟩) :
    wpAny (model prog w) A (exec st env) Q E ⟨h, g, d, tk, os⟩ := by
  subst hst
  have hk0 : 0 ≤ num / 42 % 4 := Int.emod_nonneg _ (by decide)
  have hk1 : num / 42 % 4 < 4 := Int.emod_lt_of_pos _ (by decide)
  conv in exec (lB 4) _ => arg 1; whnf
  walk_at "m go"
  rename_i Fz
  exact q _ _ _ _ _ (Fm.drop2 Fz)
theorem lawS5 {st : Stmt} {fa : Addr} {fvs : List Value} {n : Nat} (hst : lB 5 = st) (X : FE env L ["script", "number", "front", "root", "ups", "detours", "rows", "parts", "k", "names", "straight", "tails"] ["sum", "_law_rows", "len", "range", "normpath", "join", "_law_tails", "_law_read", "list"]) (R : Rm A 9) (hl : fvs.length ≤ 100)
    (F : Fm b L ["script", "number", "front", "root", "ups", "detours", "rows", "parts", "k", "names", "straight", "tails"] [v0, v1, some (.ref fa), v3, v4, v5, v6, v7, v8, v9, v10, v11] led h) (hf : Got led fa (listObj fvs n))
    (q : ∀ h' tk' pa c, Fm b L ["script", "number", "front", "root", "ups", "detours", "rows", "parts", "k", "names", "straight", "tails"] [v0, v1, some (.ref fa), v3, v4, v5, v6, some (.ref pa), v8, v9, v10, v11] ((pa, listObj fvs c) :: led) h' → Q .next ⟨h', g, d, tk', os⟩) :
    wpAny (model prog w) A (exec st env) Q E ⟨h, g, d, tk, os⟩ := by
  subst hst
  conv in exec (lB 5) _ => arg 1; whnf
  walk_at "m go"
  exact q _ _ _ _ (by assumption)
theorem lawS7 {st : Stmt} {da pa : Addr} {dvs pvs : List Value} {n k : Nat} (hst : lB 7 = st) (X : FE env L ["script", "number", "front", "root", "ups", "detours", "rows", "parts", "k", "names", "straight", "tails"] ["sum", "_law_rows", "len", "range", "normpath", "join", "_law_tails", "_law_read", "list"]) (R : Rm A 9) (hl : pvs.length ≤ 1000) (hk : 0 ≤ num / 6 % 7 ∧ num / 6 % 7 < 7)
    (F : Fm b L ["script", "number", "front", "root", "ups", "detours", "rows", "parts", "k", "names", "straight", "tails"] [v0, some (.int num tn), v2, v3, v4, some (.ref da), v6, some (.ref pa), v8, v9, v10, v11] ((pa, listObj pvs k) :: led) h) (hf : Got led da (listObj dvs n)) (hv : TV dvs detL)
    (q : ∀ h' tk' t, Fm b L ["script", "number", "front", "root", "ups", "detours", "rows", "parts", "k", "names", "straight", "tails"] [v0, some (.int num tn), v2, v3, v4, some (.ref da), v6, some (.ref pa), v8, v9, v10, v11] ((pa, listObj (pvs ++ [.str (T (detL.getD (num / 6 % 7).toNat [])) t]) (k + 1)) :: led) h' → Q .next ⟨h', g, d, tk', os⟩) :
    wpAny (model prog w) A (exec st env) Q E ⟨h, g, d, tk, os⟩ := by
  subst hst
  have hk0 := hk.1
  have hk1 : num / 6 % 7 < detL.length := hk.2
  conv in exec (lB 7) _ => arg 1; whnf
  walk_at "m go"
  exact q _ _ _ (by assumption)
theorem lawS3 {st : Stmt} {sc : Addr} {svs : List Value} {ns : List Int} {k : Nat} (hst : lB 3 = st) (X : FE env L ["script", "number", "front", "root", "ups", "detours", "rows", "parts", "k", "names", "straight", "tails"] ["sum", "_law_rows", "len", "range", "normpath", "join", "_law_tails", "_law_read", "list"]) (R : Rm A 9) (hs : b.get? sc = some (listObj svs k)) (hv : IV svs ns) (hl : svs.length ≤ 1000)
    (F : Fm b L ["script", "number", "front", "root", "ups", "detours", "rows", "parts", "k", "names", "straight", "tails"] [some (.ref sc), v1, v2, v3, v4, v5, v6, v7, v8, v9, v10, v11] led h)
    (q : ∀ h' tk' D ys n ledR, Fm b L ["script", "number", "front", "root", "ups", "detours", "rows", "parts", "k", "names", "straight", "tails"] [some (.ref sc), v1, v2, v3, v4, v5, some (.ref D), v7, v8, v9, v10, v11] ((D, listObj ys n) :: ledR ++ led) h' → All2 (RowAt ledR) ys (rowsF ((ns.take 13).drop 1)) → ys.Nodup → Q .next ⟨h', g, d, tk', os⟩) :
    wpAny (model prog w) A (exec st env) Q E ⟨h, g, d, tk, os⟩ := by
  subst hst
  conv in exec (lB 3) _ => arg 1; whnf
  walk_at "m go"
  refine law_rows_spec F.top' (R.mono (by decide)) (F.keep _ _ hs) hv hl ?_
  intro h₂ D tk₂ hR
  obtain ⟨ledR, ys, n, hk, hp, hnd, ha, hy⟩ := hR
  have F₂ := F.addAll hk hp hnd
  clear F
  walk_at "m go"
  exact q _ _ D ys n ledR (by assumption) ha hy
theorem sliceNat {vs : List Value} {k : Nat} : (slicePick vs.toArray (some ((k : Int) + 1)) (some ((k : Int) + 2)) none).toList = (vs.take (k + 2)).drop (k + 1) := slicePick_nat vs (k + 1) (k + 2)
theorem RowAt.get {led : List (Addr × Obj)} {ys : List Value} {rows : List (List Pair)} (a : All2 (RowAt led) ys rows) {k : Nat} (hk : k < rows.length) : ∃ r n vs, ys[((k : Int)).toNat]? = some (.ref r) ∧ Got led r (listObj vs n) ∧ All2 (ItemAt led) vs (rows.getD k []) := by
  obtain ⟨v, hv, r, n, vs, rfl, hm, hi⟩ := a.atR (List.getElem?_eq_getElem hk)
  refine ⟨r, n, vs, by simpa using hv, Got.of_mem hm, ?_⟩
  rw [List.getD_eq_getElem?_getD, List.getElem?_eq_getElem hk]; exact hi
noncomputable def Fits (rows : List (List Pair)) : Prop := rows.length ≤ 20 ∧ ∀ row ∈ rows, row.length ≤ 20 ∧ ∀ p ∈ row, p.1.length ≤ 20 ∧ p.2.length ≤ 20
theorem Fits.at {rows : List (List Pair)} (h : Fits rows) {k : Nat} (hk : k < rows.length) : (rows.getD k []).length ≤ 20 ∧ ∀ p ∈ rows.getD k [], p.1.length ≤ 20 ∧ p.2.length ≤ 20 := by
  rw [List.getD_eq_getElem?_getD, List.getElem?_eq_getElem hk]
  exact h.2 _ (List.getElem_mem hk)
theorem sum_le20 {l : List (List Nat)} (h : ∀ x ∈ l, x.length ≤ 20) : (l.map (·.length)).sum ≤ 20 * l.length := by
  induction l with
  | nil => simp
  | cons a r ih =>
    have h1 := h a (by simp)
    have h2 := ih (fun x m => h x (List.mem_cons_of_mem _ m))
    rw [List.map_cons, List.sum_cons]; exact Nat.le_trans (Nat.le_of_eq (Nat.add_comm _ _)) (Nat.add_le_add h2 h1)
theorem partsN_succ (ns : List Int) (rows : List (List Pair)) (i : Nat) : partsN ns rows (i + 1) = partsN ns rows i ++ [detAt ns i] ++ [pOf (rows.getD i [])] := by
  unfold partsN; rw [List.range_succ, List.flatMap_append]; simp
theorem partsN_len (ns : List Int) (rows : List (List Pair)) (i : Nat) : (partsN ns rows i).length = 2 * i := by
  induction i with
  | zero => rfl
  | succ i ih => rw [partsN_succ]; simp [ih]; rfl
theorem detL_len {k : Nat} : (detL.getD k []).length ≤ 20 := by
  have h : ∀ d ∈ detL, d.length ≤ 20 := by decide
  rw [List.getD_eq_getElem?_getD]
  cases e : detL[k]? with
  | none => simp
  | some d => exact h d (List.mem_of_getElem? e)
inductive S6J (sc da D pa : Addr) (v1 v2 v3 v4 v9 v10 v11 : Option Value) (led : List (Addr × Obj)) (front : List (List Nat)) (ns : List Int) (rows : List (List Pair)) (i : Nat) (vals : List (Option Value)) (led' : List (Addr × Obj)) : Prop
  | mk (vk : Option Value) (pvs : List Value) (c' : Nat) (e1 : vals = [some (.ref sc), v1, v2, v3, v4, some (.ref da), some (.ref D), some (.ref pa), vk, v9, v10, v11]) (e2 : led' = (pa, listObj pvs c') :: led) (hp : TV pvs (front ++ partsN ns rows i))
theorem lawS6 {st : Stmt} {sc da D pa : Addr} {svs dvs ys fvs : List Value} {ns : List Int} {k nd n c : Nat} {rows : List (List Pair)} {front : List (List Nat)} (hst : lB 6 = st) (X : FE env L ["script", "number", "front", "root", "ups", "detours", "rows", "parts", "k", "names", "straight", "tails"] ["sum", "_law_rows", "len", "range", "normpath", "join", "_law_tails", "_law_read", "list"]) (R : Rm A 9) (hs : b.get? sc = some (listObj svs k)) (hv : IV svs ns) (hl : svs.length ≤ 1000)
    (hd : Got led da (listObj dvs nd)) (hdv : TV dvs detL) (hD : Got led D (listObj ys n)) (ha : All2 (RowAt led) ys rows) (hr : Fits rows) (hf : TV fvs front) (hfl : front.length ≤ 10)
    (F : Fm b L ["script", "number", "front", "root", "ups", "detours", "rows", "parts", "k", "names", "straight", "tails"] [some (.ref sc), v1, v2, v3, v4, some (.ref da), some (.ref D), some (.ref pa), v8, v9, v10, v11] ((pa, listObj fvs c) :: led) h)
    (q : ∀ h' tk' vk pvs c', Fm b L ["script", "number", "front", "root", "ups", "detours", "rows", "parts", "k", "names", "straight", "tails"] [some (.ref sc), v1, v2, v3, v4, some (.ref da), some (.ref D), some (.ref pa), vk, v9, v10, v11] ((pa, listObj pvs c') :: led) h' → TV pvs (front ++ partsN ns rows rows.length) → Q .next ⟨h', g, d, tk', os⟩) :
    wpAny (model prog w) A (exec st env) Q E ⟨h, g, d, tk, os⟩ := by
  subst hst
  have hyl : ys.length = rows.length := ha.len
  have hys : ys.length ≤ 20 := by rw [hyl]; exact hr.1
  conv in exec (lB 6) _ => arg 1; whnf
  refine wpAny_For ?_ (fun _ => by with_unfolding_all rfl)
  walk_at "m go"
  rename_i FR
  have F₁ := FR.sub (fun p hp => List.mem_cons_of_mem _ hp) (List.nodup_cons.mp FR.nd).2
  rw [hyl] at FR
  clear F
  refine iterRange (n := rows.length) (S6J sc da D pa v1 v2 v3 v4 v9 v10 v11 led front ns rows)
      X R.hd (x := "k") (by walk_at "m in") F₁ (FR.get .here) (small_up _ (ar_to hr.1 _)) (rsz_up _) ⟨_, _, _, rfl, rfl, by simpa [partsN] using hf⟩ 8 ?_ ?_ ?_
  · rintro i _ _ v ⟨vk, pvs, c', rfl, rfl, hp⟩
    walk_at "m up"
  · rintro i tv _ _ it o h' tk' E' hi ⟨vk, pvs, c', rfl, rfl, hp⟩ F
    simp only [List.set_cons_succ, List.set_cons_zero, Int.zero_add, Int.mul_one] at F
    clear F₁ FR
    obtain ⟨r, nr, rvs, hyk, hgr, hri⟩ := RowAt.get ha hi
    have hrow := hr.at hi
    have hpl := hp.len
    rw [List.length_append, partsN_len] at hpl
    have hi20 : i < 20 := Nat.lt_of_lt_of_le hi hr.1
    walk_at "m go"
    rename_i FS
    rw [sliceNat] at FS
    have hslv : IV ((svs.take (i + 2)).drop (i + 1)) ((ns.take (i + 2)).drop (i + 1)) := (hv.pick _).drop _
    have hsll : ((svs.take (i + 2)).drop (i + 1)).length ≤ 1 := by rw [List.length_drop, List.length_take]; exact Nat.sub_le_iff_le_add'.mpr (Nat.min_le_left _ _)
    have hsln := hslv.len
    generalize hS1 : (svs.take (i + 2)).drop (i + 1) = sv at *
    have hsum : sumK ns i = (((ns.take (i + 2)).drop (i + 1)).map (· / 88)).sum := rfl
    generalize hS2 : (ns.take (i + 2)).drop (i + 1) = sn at *
    clear F
    refine compK_listX (vs := sv) [] (fun j zs => IV zs ((sn.take j).map (· / 88))) X R.hd FS (isList (FS.get .here)) .nil ?_ ?_ ?_
    · intro j zs hz hj
      have := hz.len
      rw [List.length_map, List.length_take] at this
      rw [sizeLine_eq, this]; exact Nat.le_trans (Nat.min_le_left _ _) (Nat.le_trans hj (ar_to hsll _))
    · rintro C D' it' j v zs o' n' h₃ tk₃ E₃ X₃ hvj hz F₃
      obtain ⟨x, hx, t, rfl⟩ := hslv.at hvj
      refine ifs0 ?_
      rw [if_pos rfl]
      walk_at "m go"
      exact ⟨_, _, _, rfl, by rw [List.take_add_one, hx, Option.toList_some, List.map_append]; exact All2.snoc hz ⟨_, rfl⟩, by assumption, by walk_at "m got", by walk_at "m got"⟩
    · intro C oC D' zs n' h₃ tk₃ hz hns F₃
      refine RRe.ok hns F₃ fun h₄ F₄ => ?_
      have hz : IV zs (sn.map (· / 88)) := by
        rw [List.take_of_length_le (Nat.le_of_eq hsln.symm)] at hz; exact hz
      have hk1 : ((sn.map (· / 88)).sum + (i : Int)) % 7 < (detL.length : Int) := by show _ < 7; exact Int.emod_lt_of_pos _ (by decide)
      clear FS F₃
      walk_at "m go"
      rename_i FA _
      clear F₄
      have hir := hri.len
      generalize hR : rows.getD i [] = row at *
      refine compK_listX (vs := rvs) [] (fun j zs => TV zs ((row.take j).map (·.1))) X R.hd FA (isList (FA.get (.there (.there (.there (.there hgr)))))) .nil ?_ ?_ ?_
      · intro j zs hz hj
        have := hz.len
        rw [List.length_map, List.length_take] at this
        rw [sizeLine_eq, this]; exact Nat.le_trans (Nat.min_le_right _ _) (ar_to hrow.1 _)
      · rintro C D' it' j v zs o' n' h₃ tk₃ E₃ X₃ hvj hz F₃
        obtain ⟨p, hpr, ai, t1, t2, rfl, hm⟩ := hri.at hvj
        have hai := FA.get (.there (.there (.there (.there (Got.of_mem hm)))))
        refine ifs0 ?_
        rw [if_pos rfl]
        walk_at "m go"
        exact ⟨_, _, _, rfl, by rw [List.take_add_one, hpr, Option.toList_some, List.map_append]; exact hz.snoc, by assumption, by walk_at "m got", by walk_at "m got"⟩
      · intro C oC D' zs n' h₃ tk₃ hz hns F₃
        refine RRe.ok hns F₃ fun h₄ F₄ => ?_
        have hz : TV zs (row.map (·.1)) := by
          rw [List.take_of_length_le (Nat.le_of_eq hir.symm)] at hz; exact hz
        have hs1 : ((row.map (·.1)).map (·.length)).sum ≤ 20 * (row.map (·.1)).length := sum_le20 (fun x hx => by
          obtain ⟨p, hp, rfl⟩ := List.mem_map.mp hx; exact (hrow.2 p hp).1)
        have hs2 : ((row.map (·.1)).map (·.length)).sum + (row.map (·.1)).length * ([] : List Nat).length ≤ 1000000 := by
          show _ + _ * 0 ≤ _; rw [Nat.mul_zero]; exact ar_to (Nat.le_trans hs1 (Nat.mul_le_mul_left 20 (by rw [List.length_map]; exact hrow.1))) _
        clear FA F₃
        walk_at "m go"
        rename_i Fz
        refine ⟨_, _, _, _, rfl, ⟨_, _, _, rfl, rfl, ?_⟩, (Fz.tl).tl.tl⟩
        rw [partsN_succ, ← List.append_assoc, ← List.append_assoc, hR, show pOf row = joinL [] (row.map (·.1)) from (joinL_nil _).symm]
        unfold detAt
        rw [hsum]
        exact (hp.snoc).snoc
  · rintro _ _ h' tk' ⟨vk, pvs, c', rfl, rfl, hp⟩ F
    exact q _ _ _ _ _ F hp
theorem lawS8 {st : Stmt} {D : Addr} {ys : List Value} {n : Nat} {rows : List (List Pair)} (hst : lB 8 = st) (X : FE env L ["script", "number", "front", "root", "ups", "detours", "rows", "parts", "k", "names", "straight", "tails"] ["sum", "_law_rows", "len", "range", "normpath", "join", "_law_tails", "_law_read", "list"]) (R : Rm A 9) (hE : ∃ a cd, env = envOf (fName 31) (fScope 31) L a cd)
    (hD : Got led D (listObj ys n)) (ha : All2 (RowAt led) ys rows) (hr : Fits rows)
    (F : Fm b L ["script", "number", "front", "root", "ups", "detours", "rows", "parts", "k", "names", "straight", "tails"] [v0, v1, v2, v3, v4, v5, some (.ref D), v7, v8, v9, v10, v11] led h)
    (q : ∀ h' tk' na nvs m, Fm b L ["script", "number", "front", "root", "ups", "detours", "rows", "parts", "k", "names", "straight", "tails"] [v0, v1, v2, v3, v4, v5, some (.ref D), v7, v8, some (.ref na), v10, v11] ((na, listObj nvs m) :: led) h' → TV nvs (rows.map nOf) → Q .next ⟨h', g, d, tk', os⟩) :
    wpAny (model prog w) A (exec st env) Q E ⟨h, g, d, tk, os⟩ := by
  subst hst
  have hyl : ys.length = rows.length := ha.len
  have hr1 := hr.1
  conv in exec (lB 8) _ => arg 1; whnf
  refine Assign_comp (by obtain ⟨a, cd, rfl⟩ := hE; with_unfolding_all rfl) (by decide +kernel) rfl (by decide +kernel) ?_ (by intro _; with_unfolding_all rfl)
  walk_at "m go"
  refine compK_listX (vs := ys) [] (fun j zs => TV zs ((rows.take j).map nOf)) X R.hd F (isList (F.get hD)) .nil ?_ ?_ ?_
  · intro j zs hz hj
    have := hz.len
    rw [List.length_map, List.length_take] at this
    rw [sizeLine_eq, this]; exact Nat.le_trans (Nat.min_le_right _ _) (ar_to hr1 _)
  · rintro C D' it' j v zs o' n' h₃ tk₃ E₃ X₃ hvj hzo F₃
    obtain ⟨row, hpr, ra, nr, rvs, rfl, hm, hri⟩ := ha.at hvj
    have hj : j < rows.length := (List.getElem?_eq_some_iff.mp hpr).1
    have hrow := hr.at hj
    rw [List.getD_eq_getElem?_getD, hpr, Option.getD_some] at hrow
    have hra := F₃.keep _ _ (F.get (Got.of_mem hm))
    have hir := hri.len
    refine ifs0 ?_
    rw [if_pos rfl]
    walk_at "m go"
    refine compK_listX (vs := rvs) [] (fun j zs => TV zs ((row.take j).map (·.2))) X₃ R.hd F₃ (isList hra) .nil ?_ ?_ ?_
    · intro j zs hz hj
      have := hz.len
      rw [List.length_map, List.length_take] at this
      rw [sizeLine_eq, this]; exact Nat.le_trans (Nat.min_le_right _ _) (ar_to hrow.1 _)
    · rintro C D' it' j v zs o' n' h₄ tk₄ E₄ X₄ hvj hz F₄
      obtain ⟨p, hpr, ai, t1, t2, rfl, hm⟩ := hri.at hvj
      have hai := F₃.keep _ _ (F.get (Got.of_mem hm))
      refine ifs0 ?_
      rw [if_pos rfl]
      walk_at "m go"
      exact ⟨_, _, _, rfl, by rw [List.take_add_one, hpr, Option.toList_some, List.map_append]; exact hz.snoc, by assumption, by walk_at "m got", by walk_at "m got"⟩
    · intro C oC D' zs n' h₄ tk₄ hz hns F₄
      refine RRe.ok hns F₄ fun h₅ F₅ => ?_
      have hz : TV zs (row.map (·.2)) := by
        rw [List.take_of_length_le (Nat.le_of_eq hir.symm)] at hz; exact hz
      have hs1 : ((row.map (·.2)).map (·.length)).sum ≤ 20 * (row.map (·.2)).length := sum_le20 (fun x hx => by
        obtain ⟨p, hp, rfl⟩ := List.mem_map.mp hx; exact (hrow.2 p hp).2)
      have hs2 : ((row.map (·.2)).map (·.length)).sum + (row.map (·.2)).length * ([] : List Nat).length ≤ 1000000 := by
        show _ + _ * 0 ≤ _; rw [Nat.mul_zero]; exact ar_to (Nat.le_trans hs1 (Nat.mul_le_mul_left 20 (by rw [List.length_map]; exact hrow.1))) _
      clear F F₃ F₄
      walk_at "m go"
      refine ⟨_, _, _, rfl, ?_, by assumption, by walk_at "m got", by walk_at "m got"⟩
      rw [List.take_add_one, hpr, Option.toList_some, List.map_append, show [row].map nOf = [joinL [] (row.map (·.2))] by rw [joinL_nil]; rfl]
      exact hzo.snoc
  · intro C oC D' zs n' h₃ tk₃ hz hns F₃
    have hz : TV zs (rows.map nOf) := by
      rw [List.take_of_length_le (Nat.le_of_eq hyl.symm)] at hz; exact hz
    exact RRu.ok X hns F₃ (by walk_at "m up") fun h₄ tk₄ F₄ => q _ _ _ _ _ F₄ hz
theorem jfold_len : ∀ (ps : List (List Nat)) (p : List Nat), (ps.foldl jstep p).length ≤ p.length + wsum ps
  | [], p => by simp
  | q :: ps, p => by
    have h1 := jfold_len ps (jstep p q)
    have h2 := jstep_len p q
    rw [List.foldl_cons, wsum_cons]
    exact Nat.le_trans h1 (Nat.le_trans (Nat.add_le_add_right h2 _) (Nat.le_of_eq (by rw [Nat.add_assoc p.length q.length 1, Nat.add_assoc p.length])))
theorem lawS9 {st : Stmt} {pa : Addr} {pvs : List Value} {n : Nat} {p : List Nat} {ps : List (List Nat)} (hst : lB 9 = st) (X : FE env L ["script", "number", "front", "root", "ups", "detours", "rows", "parts", "k", "names", "straight", "tails"] ["sum", "_law_rows", "len", "range", "normpath", "join", "_law_tails", "_law_read", "list"]) (R : Rm A 9) (hE : ∃ a cd, env = envOf (fName 31) (fScope 31) L a cd)
    (hp : Got led pa (listObj pvs n)) (hv : TV pvs (p :: ps)) (h2 : ps ≠ []) (hsz : p.length + wsum ps ≤ 100000)
    (F : Fm b L ["script", "number", "front", "root", "ups", "detours", "rows", "parts", "k", "names", "straight", "tails"] [v0, v1, v2, v3, v4, v5, v6, some (.ref pa), v8, v9, v10, v11] led h)
    (q : ∀ h' tk' t, Fm b L ["script", "number", "front", "root", "ups", "detours", "rows", "parts", "k", "names", "straight", "tails"] [v0, v1, v2, v3, v4, v5, v6, some (.ref pa), v8, v9, some (.str (T (normF (ps.foldl jstep p))) t), v11] led h' → Q .next ⟨h', g, d, tk', os⟩) :
    wpAny (model prog w) A (exec st env) Q E ⟨h, g, d, tk, os⟩ := by
  subst hst
  have hl : pvs.length ≤ 100001 := by
    rw [hv.len]
    exact Nat.succ_le_succ (Nat.le_trans (wsum_len ps) (Nat.le_trans (Nat.le_add_left _ _) hsz))
  conv in exec (lB 9) _ => arg 1; whnf
  walk_at "m go"
  refine starG F (by walk_at "m in") ?_
  walk_at "m go"
  refine starOfF F hp (by rw [sizeLine_eq]; exact ar_to hl _) fun h₂ F₂ => ⟨⟨_, _, F₂⟩, ?_⟩
  obtain ⟨q0, qs, rfl⟩ : ∃ q0 qs, ps = q0 :: qs := by
    cases ps with
    | nil => exact absurd rfl h2
    | cons a r => exact ⟨a, r, rfl⟩
  cases hv with
  | cons hv' =>
    cases hv' with
    | cons hv2 =>
      refine join_spec F₂.top' (R.mono (by decide)) (TV.cons hv2) hsz ?_
      intro h₃ tk₃ t₃ K
      have F₃ := F₂.went K
      clear F F₂
      have hn := jfold_len (q0 :: qs) p
      walk_at "m go"
      refine normpath_spec F₃.top' (R.mono (by decide)) (Nat.le_trans hn hsz) ?_
      intro h₄ tk₄ t₄ K
      have F₄ := F₃.went K
      clear F₃
      walk_at "m go"
      exact q _ _ _ (by assumption)
theorem lawS10 {st : Stmt} {p : List Nat} {t : Tok} (hst : lB 10 = st) (X : FE env L ["script", "number", "front", "root", "ups", "detours", "rows", "parts", "k", "names", "straight", "tails"] ["sum", "_law_rows", "len", "range", "normpath", "join", "_law_tails", "_law_read", "list"]) (R : Rm A 9) (hp : p.length ≤ 1000)
    (F : Fm b L ["script", "number", "front", "root", "ups", "detours", "rows", "parts", "k", "names", "straight", "tails"] [v0, v1, v2, v3, v4, v5, v6, v7, v8, v9, some (.str (T p) t), v11] led h)
    (q : ∀ h' tk' ta vs, Fm b L ["script", "number", "front", "root", "ups", "detours", "rows", "parts", "k", "names", "straight", "tails"] [v0, v1, v2, v3, v4, v5, v6, v7, v8, v9, some (.str (T p) t), some (.ref ta)] ((ta, listObj vs) :: led) h' → TV vs (tailsF p.length p []) → Q .next ⟨h', g, d, tk', os⟩) :
    wpAny (model prog w) A (exec st env) Q E ⟨h, g, d, tk, os⟩ := by
  subst hst
  have hs : Small p := ar_to hp _
  conv in exec (lB 10) _ => arg 1; whnf
  walk_at "m go"
  refine law_tails_spec F.top' (R.mono (by decide)) hs ?_
  intro h₂ ta tk₂ vs K hn hv hg
  have F₂ := F.add K hn hg
  clear F
  walk_at "m go"
  exact q _ _ _ _ (by assumption) hv
theorem Fm.kcut {names : List Str} {vals : List (Option Value)} {o : Obj} (F : Fm b L names vals ((57, o) :: led) h) : Keep b (cut h) := fun p o e => by
  have hb57 : b.get? 57 = none := (F.nw _ List.mem_cons_self).2.2
  rw [cut_other (fun e' => by rw [e', hb57] at e; cases e)]; exact F.keep _ _ e
theorem TV.takeN {vs : List Value} {xs : List (List Nat)} (v : TV vs xs) : ∀ n, TV (vs.take n) (xs.take n) := by
  induction v with
  | nil => intro n; simp; exact .nil
  | cons _ ih => intro n; cases n with
    | zero => exact .nil
    | succ n => exact .cons (ih n)
theorem pick_hi {vs : List Value} {m : Nat} : (slicePick vs.toArray none (some ((m : Int) + 1)) none).toList = vs.take (m + 1) := by
  rw [slicePick_plain, show ((m : Int) + 1) = ((m + 1 : Nat) : Int) by push_cast; rfl]
  simp only [Option.elim, clipAt_nat, List.size_toArray]
  show List.take (min (m + 1) vs.length - 0) (List.drop 0 vs) = _
  rw [List.drop_zero, Nat.sub_zero]
  rcases Nat.le_total (m + 1) vs.length with h | h
  · rw [Nat.min_eq_left h]
  · rw [Nat.min_eq_right h, List.take_of_length_le (Nat.le_refl _), List.take_of_length_le h]
theorem pick_lo {vs : List Value} {m : Nat} : (slicePick vs.toArray (some ((m : Int) + 1)) none none).toList = vs.drop (m + 1) := by
  rw [slicePick_plain, show ((m : Int) + 1) = ((m + 1 : Nat) : Int) by push_cast; rfl]
  simp only [Option.elim, clipAt_nat, List.size_toArray]
  show List.take (vs.length - min (m + 1) vs.length) (List.drop (min (m + 1) vs.length) vs) = _
  rw [List.take_of_length_le (by simp)]
  rcases Nat.le_total (m + 1) vs.length with h | h
  · rw [Nat.min_eq_left h]
  · rw [Nat.min_eq_right h, List.drop_of_length_le (Nat.le_refl _), List.drop_of_length_le h]
theorem lawS11 {st : Stmt} {ua ta : Addr} {uvs tvs : List Value} {nu nt : Nat} {rt : List Nat} {tr : Tok} {ups pcs : List (List Nat)} (hst : lB 11 = st) (X : FE env L ["script", "number", "front", "root", "ups", "detours", "rows", "parts", "k", "names", "straight", "tails"] ["sum", "_law_rows", "len", "range", "normpath", "join", "_law_tails", "_law_read", "list"]) (R : Rm A 9)
    (hu : Got led ua (listObj uvs nu)) (hvu : TV uvs ups) (ht : Got led ta (listObj tvs nt)) (hvt : TV tvs (rt :: (ups ++ pcs))) (hul : ups.length ≤ 10) (hpl : pcs.length ≤ 100)
    (F : Fm b L ["script", "number", "front", "root", "ups", "detours", "rows", "parts", "k", "names", "straight", "tails"] [v0, v1, v2, some (.str (T rt) tr), some (.ref ua), v5, v6, v7, v8, v9, v10, some (.ref ta)] led h)
    (q : ∀ h' tk', Fm b L ["script", "number", "front", "root", "ups", "detours", "rows", "parts", "k", "names", "straight", "tails"] [v0, v1, v2, some (.str (T rt) tr), some (.ref ua), v5, v6, v7, v8, v9, v10, some (.ref ta)] led h' → Q .next ⟨h', g, d, tk', os⟩) :
    wpAny (model prog w) A (exec st env) Q E ⟨h, g, d, tk, os⟩ := by
  subst hst
  have hul2 := hvu.len
  have htl := hvt.len
  simp only [List.length_cons, List.length_append] at htl
  have htk : TV (slicePick tvs.toArray none (some ((uvs.length : Int) + 1)) none).toList (rt :: ups) := by
    rw [pick_hi]
    have := hvt.takeN (uvs.length + 1)
    rw [List.take_succ_cons, hul2, List.take_left] at this
    rw [hul2]; exact this
  conv in exec (lB 11) _ => arg 1; whnf
  walk_at "m go"
  · exact absurd rfl ‹rt :: ups ≠ rt :: ups›
  · rename_i Fz _
    exact q _ _ Fz.tl.tl.tl
theorem lawS12 {st : Stmt} {ua ta na : Addr} {uvs tvs nvs : List Value} {nu nt nn : Nat} {rt : List Nat} {ps : Array Value} {ups pcs nms : List (List Nat)} (hst : lB 12 = st) (X : FE env L ["script", "number", "front", "root", "ups", "detours", "rows", "parts", "k", "names", "straight", "tails"] ["sum", "_law_rows", "len", "range", "normpath", "join", "_law_tails", "_law_read", "list"]) (R : Rm A 9)
    (U : TopU b) (T0 : Tb lamPos lqT h ps) (G : AllBare g)
    (hu : Got led ua (listObj uvs nu)) (hvu : TV uvs ups) (ht : Got led ta (listObj tvs nt)) (hvt : TV tvs (rt :: (ups ++ pcs))) (hn : Got led na (listObj nvs nn)) (hvn : TV nvs nms)
    (hul : ups.length ≤ 10) (hpl : pcs.length ≤ 100) (hrd : All2 Reads pcs nms)
    (F : Fm b L ["script", "number", "front", "root", "ups", "detours", "rows", "parts", "k", "names", "straight", "tails"] [v0, v1, v2, v3, some (.ref ua), v5, v6, v7, v8, some (.ref na), v10, some (.ref ta)] ((57, PySem.W.tabObj ps) :: led) h)
    (q : ∀ h' tk' g' ps', Fm b L ["script", "number", "front", "root", "ups", "detours", "rows", "parts", "k", "names", "straight", "tails"] [v0, v1, v2, v3, some (.ref ua), v5, v6, v7, v8, some (.ref na), v10, some (.ref ta)] ((57, PySem.W.tabObj ps') :: led) h' → Tb lamPos lqT h' ps' → AllBare g' → Q .next ⟨h', g', d, tk', os⟩) :
    wpAny (model prog w) A (exec st env) Q E ⟨h, g, d, tk, os⟩ := by
  subst hst
  have hul2 := hvu.len
  have htl := hvt.len
  have hnl := hrd.len
  simp only [List.length_cons, List.length_append] at htl
  have hvd : TV (tvs.drop (uvs.length + 1)) pcs := by
    have := hvt.dropN (uvs.length + 1)
    rw [List.drop_succ_cons, hul2, List.drop_left] at this
    rw [hul2]; exact this
  conv in exec (lB 12) _ => arg 1; whnf
  obtain ⟨ledT, hsT, FT, TL⟩ := T0.toL F
  have hnd0 := F.nd
  clear F
  have htT : Got ledT ta (listObj tvs nt) := Got.of_mem (hsT _ ht.mem)
  have huT : Got ledT ua (listObj uvs nu) := Got.of_mem (hsT _ hu.mem)
  have hnT : Got ledT na (listObj nvs nn) := Got.of_mem (hsT _ hn.mem)
  walk_at "m go"
  rename_i FS
  clear FT
  rw [pick_lo] at FS
  have FS := FS.swap
  have TS := TL.toTb FS .here (fun p m => List.mem_cons_of_mem _ (List.mem_cons_of_mem _ m))
  refine compReadK ["_law_read"] X R.hd FS TS G (FS.get (.there .here)) hvd hrd (by (first | exact ar_to (by assumption) _ | lia | omega)) ?_ ?_
  · intro C l r t led' h' tk' g' ps' E' Q' X' hr F' h57 T' G' q'
    have kc := F'.keep.cut
    have HC := F'.top.keep kc
    have UC := (U.keep FS.kcut).keep kc
    clear FS
    walk_at "m go"
    exact read_spec F'.top' HC UC T' G' (R.mono (by decide)) hr q'
  · intro C oC D ys n led' h' tk' g' ps' hys hns hsub F' T' G'
    refine RRe.okX hns F' fun h'' hx F'' => ?_
    have hC57 : C ≠ 57 := by
      have := F'.nd
      simp only [List.map_cons, List.nodup_cons, List.mem_cons, not_or] at this
      exact this.1.2.1
    have T'' := T'.off hx hC57 (hns _ (F'.get .here))
    obtain ⟨led3, hs3, F3, TL3⟩ := T''.toL F''.swap
    have hn3 : Got led3 na (listObj nvs nn) := Got.of_mem (hs3 _ (List.mem_cons_of_mem _ (hsub _ (List.mem_cons_of_mem _ hnT.mem))))
    have hD3 : Got led3 D (listObj ys n) := Got.of_mem (hs3 _ List.mem_cons_self)
    have hnd : (((57, PySem.W.tabObj ps') :: led).map (·.1)).Nodup := by simpa using hnd0
    clear F' F'' FS
    walk_at "m go"
    · exact absurd rfl ‹nms ≠ nms›
    · have T4 := TL3.toTb F3 .here (fun p m => List.mem_cons_of_mem _ m)
      exact q _ _ _ _ (F3.shape (fun p m => hs3 _ (List.mem_cons_of_mem _ (hsub _ (List.mem_cons_of_mem _ (hsT _ m))))) hnd) T4 G'
theorem lawS13 {stm : Stmt} {ua na : Addr} {uvs nvs : List Value} {nu nn : Nat} {rt st : List Nat} {tr ts : Tok} {ps : Array Value} {ups nms : List (List Nat)} (hst : lB 13 = stm) (X : FE env L ["script", "number", "front", "root", "ups", "detours", "rows", "parts", "k", "names", "straight", "tails"] ["sum", "_law_rows", "len", "range", "normpath", "join", "_law_tails", "_law_read", "list"]) (R : Rm A 9)
    (U : TopU b) (T0 : Tb lamPos lqT h ps) (G : AllBare g)
    (hu : Got led ua (listObj uvs nu)) (hvu : TV uvs ups) (hn : Got led na (listObj nvs nn)) (hvn : TV nvs nms)
    (hul : ups.length ≤ 10) (hnl : nms.length ≤ 100) (hrd : Reads st (rt ++ joinL [47] (ups ++ nms))) (hsz : ((ups ++ nms).map (·.length)).sum ≤ 10000) (hrl : rt.length ≤ 10)
    (F : Fm b L ["script", "number", "front", "root", "ups", "detours", "rows", "parts", "k", "names", "straight", "tails"] [v0, v1, v2, some (.str (T rt) tr), some (.ref ua), v5, v6, v7, v8, some (.ref na), some (.str (T st) ts), v11] ((57, PySem.W.tabObj ps) :: led) h)
    (q : ∀ h' tk' g' ps', Keep b h' → Tb lamPos lqT h' ps' → AllBare g' → Q (.ret (.bool true)) ⟨h', g', d, tk', os⟩) :
    wpAny (model prog w) A (exec stm env) Q E ⟨h, g, d, tk, os⟩ := by
  subst hst
  have hul2 := hvu.len
  have hnl2 := hvn.len
  conv in exec (lB 13) _ => arg 1; whnf
  obtain ⟨ledT, hsT, FT, TL⟩ := T0.toL F
  clear F
  have huT : Got ledT ua (listObj uvs nu) := Got.of_mem (hsT _ hu.mem)
  have hnT : Got ledT na (listObj nvs nn) := Got.of_mem (hsT _ hn.mem)
  walk_at "m go"
  refine read_spec FT.top' (FT.top.keep FT.kcut) (U.keep FT.kcut) T0 G (R.mono (by decide)) hrd ?_
  intro h₂ g₂ tk₂ t₂ more K T₂ G₂
  have F₂ := FT.tab (h' := h₂) (fun p o hp e => K p o (by rw [cut_other hp]; exact e)) T₂.here
  obtain ⟨led3, hs3, F3, TL3⟩ := T₂.toL F₂
  have hu3 : Got led3 ua (listObj uvs nu) := Got.of_mem (hs3 _ huT.mem)
  have hn3 : Got led3 na (listObj nvs nn) := Got.of_mem (hs3 _ hnT.mem)
  clear FT F₂
  have hva := hvu.app hvn
  have hj := joinL_len [47] (ups ++ nms)
  have hal : (ups ++ nms).length ≤ 200 := by rw [List.length_append]; exact Nat.le_trans (Nat.add_le_add (b := 10) (d := 100) (by assumption) (by assumption)) (by decide)
  simp only [List.length_cons, List.length_nil] at hj
  have hsz2 : ((ups ++ nms).map (·.length)).sum + (ups ++ nms).length * ([47] : List Nat).length ≤ 1000000 := by
    exact ar_to (k := 10200) (Nat.add_le_add (b := 10000) (by assumption) (Nat.mul_le_mul_right 1 hal)) _
  have hjl : (joinL [47] (ups ++ nms)).length ≤ 100000 := Nat.le_trans hj (ar_to (k := 10200) (Nat.add_le_add (b := 10000) (by assumption) (Nat.mul_le_mul_right 1 hal)) _)
  walk_at "m go"
  rename_i Fz _ _ _ _
  rw [decide_eq_true (rfl : rt ++ joinL [47] (ups ++ nms) = rt ++ joinL [47] (ups ++ nms))]
  exact q _ _ _ _ Fz.keep (TL3.toTb Fz (.there .here) (fun p m => List.mem_cons_of_mem _ (List.mem_cons_of_mem _ m))) G₂
end

local macro_rules | `(tactic| walk_at "eval List") => `(tactic| (refine useL (by assumption) (by assumption) (by walk_at "ev") (by decide) ?_; intro _ _ _ _ _ _ _ _))
local macro_rules | `(tactic| walk_at "subscriptTail List") => `(tactic| fail)
theorem law_eq : fBody 31 = [lB 0, lB 1, lB 2, lB 3, lB 4, lB 5, lB 6, lB 7, lB 8, lB 9, lB 10, lB 11, lB 12, lB 13] := by with_unfolding_all rfl
theorem Fm.front {b h : Heap} {L : Addr} {names : List Str} {vals : List (Option Value)} {led : List (Addr × Obj)} {a : Addr} {o : Obj} (F : Fm b L names vals led h) (hg : Got led a o) : Fm b L names vals ((a, o) :: led.filter (fun p => decide (p.1 ≠ a))) h :=
  F.sub (fun p hp => by
    rcases List.mem_cons.mp hp with rfl | hp
    · exact hg.mem
    · exact (List.mem_filter.mp hp).1) (List.nodup_cons.mpr ⟨fun m => by
      obtain ⟨p, hp, e⟩ := List.mem_map.mp m
      have := (List.mem_filter.mp hp).2
      simp [e] at this, (List.filter_sublist.map _).nodup F.nd⟩)
theorem Got.filter {led : List (Addr × Obj)} {a a' : Addr} {o : Obj} (h : Got led a' o) (ne : a' ≠ a) : Got (led.filter (fun p => decide (p.1 ≠ a))) a' o :=
  Got.of_mem (List.mem_filter.mpr ⟨h.mem, by simpa using ne⟩)
theorem Fm.ne57 {b h : Heap} {L : Addr} {names : List Str} {vals : List (Option Value)} {led : List (Addr × Obj)} {a : Addr} {vs : List Value} {n : Nat} {ps : Array Value} (F : Fm b L names vals led h) (h1 : Got led a (listObj vs n)) (h2 : Got led 57 (PySem.W.tabObj ps)) : a ≠ 57 := fun e => by
  have e1 := F.get h1
  have e2 := F.get h2
  rw [e, e2] at e1; cases e1
section
variable {prog : Program} {w : World} {b h : Heap} {A : Around} {E : Value → Shared → Prop} {env : Env} {L : Addr} {led : List (Addr × Obj)}
  {g : Array GenState} {d : Drawn} {tk : Nat} {os : OsState} {Q : Flow → Shared → Prop} {v0 v1 v2 v3 v4 v5 v6 v7 v8 v9 v10 v11 : Option Value} {num : Int} {tn : Tok}
theorem lawS0 {st : Stmt} {sc : Addr} {svs : List Value} {ns : List Int} {k : Nat} (hst : lB 0 = st) (X : FE env L ["script", "number", "front", "root", "ups", "detours", "rows", "parts", "k", "names", "straight", "tails"] ["sum", "_law_rows", "len", "range", "normpath", "join", "_law_tails", "_law_read", "list"]) (R : Rm A 9) (hs : b.get? sc = some (listObj svs k)) (hv : IV svs ns) (hl : svs.length ≤ 1000)
    (F : Fm b L ["script", "number", "front", "root", "ups", "detours", "rows", "parts", "k", "names", "straight", "tails"] [some (.ref sc), v1, v2, v3, v4, v5, v6, v7, v8, v9, v10, v11] led h)
    (q : ∀ h' tk' tn, Fm b L ["script", "number", "front", "root", "ups", "detours", "rows", "parts", "k", "names", "straight", "tails"] [some (.ref sc), some (.int (ns.take 1).sum tn), v2, v3, v4, v5, v6, v7, v8, v9, v10, v11] led h' → Q .next ⟨h', g, d, tk', os⟩) :
    wpAny (model prog w) A (exec st env) Q E ⟨h, g, d, tk, os⟩ := by
  subst hst
  conv in exec (lB 0) _ => arg 1; whnf
  walk_at "m go"
  rename_i Fz _
  exact q _ _ _ Fz.tl
theorem lawS1 {st : Stmt} {ps : Array Value} (hst : lB 1 = st) (X : FE env L ["script", "number", "front", "root", "ups", "detours", "rows", "parts", "k", "names", "straight", "tails"] ["sum", "_law_rows", "len", "range", "normpath", "join", "_law_tails", "_law_read", "list"]) (R : Rm A 9) (hE : ∃ a cd, env = envOf (fName 31) (fScope 31) L a cd)
    (F : Fm b L ["script", "number", "front", "root", "ups", "detours", "rows", "parts", "k", "names", "straight", "tails"] [v0, some (.int num tn), v2, v3, v4, v5, v6, v7, v8, v9, v10, v11] ((57, PySem.W.tabObj ps) :: led) h)
    (q : ∀ h' tk' fa ua fvs uvs tr led' front rt ups, sixL.getD (num % 6).toNat ([], [], []) = (front, rt, ups) → TV fvs front → TV uvs ups → Got led' fa (listObj fvs) → Got led' ua (listObj uvs) →
      Fm b L ["script", "number", "front", "root", "ups", "detours", "rows", "parts", "k", "names", "straight", "tails"] [v0, some (.int num tn), some (.ref fa), some (.str (T rt) tr), some (.ref ua), v5, v6, v7, v8, v9, v10, v11] ((57, PySem.W.tabObj ps) :: led') h' → Q .next ⟨h', g, d, tk', os⟩) :
    wpAny (model prog w) A (exec st env) Q E ⟨h, g, d, tk, os⟩ := by
  subst hst
  conv in exec (lB 1) _ => arg 1; whnf
  walk_at "m go"
  have h6 : num % 6 = 0 ∨ num % 6 = 1 ∨ num % 6 = 2 ∨ num % 6 = 3 ∨ num % 6 = 4 ∨ num % 6 = 5 := by (first | exact ar_to (by assumption) _ | lia | omega)
  rename_i Fx _ _
  rcases h6 with e | e | e | e | e | e
  all_goals
    rw [e]
    refine itemList Fx (by walk_at "m got") (by decide) (by decide) rfl ?_
    walk_at "m go"
  all_goals
    rename_i Fz _
    refine' q _ _ _ _ _ _ _ _ _ _ _ ?q1 ?q2 ?q3 ?q4 ?q5 (Fm.front Fz (by walk_at "m got"))
    case q4 => exact Got.filter (by walk_at "m got") (Fm.ne57 (ps := ps) Fz (by walk_at "m got") (by walk_at "m got"))
    case q5 => exact Got.filter (by walk_at "m got") (Fm.ne57 (ps := ps) Fz (by walk_at "m got") (by walk_at "m got"))
    case q1 => rw [e]; rfl
    case q2 => walk_at "m tv"
    case q3 => walk_at "m tv"
end
end

section
/-! the plain law: patterns -/
noncomputable def Go (l : List Nat) (i : Nat) (res : List (Option (List Nat))) (j : Nat) (res' : List (Option (List Nat))) : Prop := i ≤ j ∧ ∃ k, k ≤ j - i ∧ ∀ n, trG l (n + k) i res = trG l n j res'
theorem Go.refl {l : List Nat} {i : Nat} {res : List (Option (List Nat))} : Go l i res i res := ⟨Nat.le_refl _, 0, Nat.zero_le _, fun _ => rfl⟩
theorem Go.trans {l : List Nat} {i j m : Nat} {r1 r2 r3 : List (Option (List Nat))} (a : Go l i r1 j r2) (b : Go l j r2 m r3) : Go l i r1 m r3 := by
  obtain ⟨h1, k1, e1, f1⟩ := a
  obtain ⟨h2, k2, e2, f2⟩ := b
  exact ⟨Nat.le_trans h1 h2, k2 + k1, Nat.le_sub_of_add_le (by rw [Nat.add_assoc]; exact Nat.le_trans (Nat.add_le_add_left (Nat.add_le_of_le_sub h1 e1) _) (Nat.add_le_of_le_sub h2 e2)), fun n => by rw [← Nat.add_assoc, f1, f2]⟩
theorem trG_end {l : List Nat} {res : List (Option (List Nat))} (n : Nat) : trG l n l.length res = some res := by
  cases n <;> simp [trG]
theorem Go.fin {l : List Nat} {out : List (Option (List Nat))} (a : Go l 0 [] l.length out) : trG l l.length 0 [] = some out := by
  obtain ⟨h1, k, e, f⟩ := a
  have : l.length = (l.length - k) + k := (Nat.sub_add_cancel e).symm
  rw [show trG l l.length 0 [] = trG l ((l.length - k) + k) 0 [] by rw [← this], f, trG_end]
theorem Go.one {l : List Nat} {i : Nat} {r r' : List (Option (List Nat))} (h : ∀ n, trG l (n + 1) i r = trG l n (i + 1) r') : Go l i r (i + 1) r' := ⟨Nat.le_succ _, 1, by rw [Nat.add_sub_cancel_left]; exact Nat.le_refl 1, h⟩
theorem getD_pre {pre q : List Nat} (i : Nat) : (pre ++ q).getD (pre.length + i) 0 = q.getD i 0 := by
  simp [List.getD_eq_getElem?_getD, List.getElem?_append_right]
theorem getD_pre0 {pre q : List Nat} {c : Nat} : (pre ++ c :: q).getD pre.length 0 = c := by
  have := getD_pre (pre := pre) (q := c :: q) 0
  simpa using this
theorem len_pre {pre q : List Nat} {c : Nat} : ¬ (pre ++ c :: q).length ≤ pre.length := by simp
theorem Go.star {pre post : List Nat} (res : List (Option (List Nat))) : Go (pre ++ 42 :: post) pre.length res (pre.length + 1) (if res.getLast? = some none then res else res ++ [none]) := by
  refine Go.one fun n => ?_
  rw [trG, if_neg len_pre]
  dsimp only
  rw [getD_pre0, if_pos rfl]
  by_cases h : res.getLast? = some none
  · rw [if_pos h, if_neg]
    intro e
    rcases e with e | e
    · rw [e] at h; cases h
    · exact e h
  · rw [if_neg h, if_pos (.inr h)]
theorem Go.qm {pre post : List Nat} (res : List (Option (List Nat))) : Go (pre ++ 63 :: post) pre.length res (pre.length + 1) (res ++ [some [63]]) := by
  refine Go.one fun n => ?_
  rw [trG, if_neg len_pre]
  dsimp only
  rw [getD_pre0, if_neg (by decide), if_pos rfl]
theorem Go.lit {pre post : List Nat} {c : Nat} (h1 : c ≠ 42) (h2 : c ≠ 63) (h3 : c ≠ 91) (h4 : c < 128) (res : List (Option (List Nat))) : Go (pre ++ c :: post) pre.length res (pre.length + 1) (res ++ [some (escC c)]) := by
  refine Go.one fun n => ?_
  rw [trG, if_neg len_pre]
  dsimp only
  rw [getD_pre0, if_neg h1, if_neg h2, if_neg h3, if_pos h4]
theorem stepIf_pre {pre q : List Nat} (c j : Nat) : stepIf (pre ++ q) c (pre.length + j) = pre.length + stepIf q c j := by
  unfold stepIf
  rw [getD_pre, List.length_append]
  by_cases h : j < q.length ∧ [q.getD j 0] = [c]
  · rw [if_pos h, if_pos ⟨Nat.add_lt_add_left h.1 _, h.2⟩, Nat.add_assoc]
  · rw [if_neg h, if_neg (fun e => h ⟨Nat.lt_of_add_lt_add_left e.1, e.2⟩)]
theorem closeW_pre {pre q : List Nat} : ∀ n j, closeW (pre ++ q) n (pre.length + j) = pre.length + closeW q n j
  | 0, j => rfl
  | n + 1, j => by
    unfold closeW
    rw [getD_pre, List.length_append]
    by_cases h : j < q.length ∧ [q.getD j 0] ≠ [93]
    · rw [if_pos h, if_pos ⟨Nat.add_lt_add_left h.1 _, h.2⟩, Nat.add_assoc]; exact closeW_pre n (j + 1)
    · rw [if_neg h, if_neg (fun e => h ⟨Nat.lt_of_add_lt_add_left e.1, e.2⟩)]
theorem closeW_at {body post : List Nat} : ∀ n s, s ≤ body.length → body.length - s ≤ n → 93 ∉ body.drop s → closeW (body ++ 93 :: post) n s = body.length
  | 0, s, h1, h2, _ => Nat.le_antisymm h1 (Nat.le_of_sub_eq_zero (Nat.le_zero.mp h2))
  | n + 1, s, h1, h2, h3 => by
    unfold closeW
    by_cases hs : s = body.length
    · subst hs
      rw [if_neg]
      rintro ⟨_, e⟩
      exact e (by rw [getD_pre0])
    · have hlt : s < body.length := Nat.lt_of_le_of_ne h1 hs
      have hd : body.drop s = body[s] :: body.drop (s + 1) := List.drop_eq_getElem_cons hlt
      rw [hd] at h3
      have hg : (body ++ 93 :: post).getD s 0 = body[s] := by
        rw [List.getD_eq_getElem?_getD, List.getElem?_append_left hlt]; simp [hlt]
      rw [if_pos ⟨by rw [List.length_append]; exact Nat.lt_of_lt_of_le hlt (Nat.le_add_right _ _), by rw [hg]; intro e; exact h3 (by simp at e; simp [e])⟩]
      exact closeW_at n (s + 1) hlt (by rw [Nat.sub_add_eq]; exact Nat.sub_le_of_le_add h2) (fun m => h3 (List.mem_cons_of_mem _ m))
theorem closeW_none {l : List Nat} : ∀ n s, l.length - s ≤ n → 93 ∉ l.drop s → l.length ≤ closeW l n s
  | 0, s, h2, _ => Nat.le_of_sub_eq_zero (Nat.le_zero.mp h2)
  | n + 1, s, h2, h3 => by
    unfold closeW
    by_cases hs : s < l.length
    · have hd : l.drop s = l[s] :: l.drop (s + 1) := List.drop_eq_getElem_cons hs
      rw [hd] at h3
      have hg : l.getD s 0 = l[s] := by rw [List.getD_eq_getElem?_getD]; simp [hs]
      rw [if_pos ⟨hs, by rw [hg]; intro e; exact h3 (by simp at e; simp [e])⟩]
      exact closeW_none n (s + 1) (by rw [Nat.sub_add_eq]; exact Nat.sub_le_of_le_add h2) (fun m => h3 (List.mem_cons_of_mem _ m))
    · rw [if_neg (fun e => hs e.1)]; exact Nat.not_lt.mp hs
theorem stepIf_ge2 (l : List Nat) (c j : Nat) : j ≤ stepIf l c j ∧ stepIf l c j ≤ j + 1 := by
  unfold stepIf; split
  · exact ⟨Nat.le_succ _, Nat.le_refl _⟩
  · exact ⟨Nat.le_refl _, Nat.le_succ _⟩
theorem stepIf_post {body post : List Nat} {c j : Nat} (h : j ≤ body.length) : stepIf (body ++ 93 :: post) c j = stepIf (body ++ [93]) c j := by
  unfold stepIf
  have h1 : (body ++ 93 :: post).getD j 0 = (body ++ [93]).getD j 0 := by
    rw [List.getD_eq_getElem?_getD, List.getD_eq_getElem?_getD]
    by_cases e : j < body.length
    · rw [List.getElem?_append_left e, List.getElem?_append_left e]
    · have : j = body.length := ar_end h e
      subst this
      simp
  rw [h1]
  have a1 : j < (body ++ 93 :: post).length := by rw [List.length_append]; exact Nat.lt_of_le_of_lt h (Nat.lt_add_of_pos_right (Nat.succ_pos _))
  have a2 : j < (body ++ [93]).length := by rw [List.length_append]; exact Nat.lt_of_le_of_lt h (Nat.lt_add_of_pos_right (Nat.succ_pos _))
  by_cases e : [(body ++ [93]).getD j 0] = [c]
  · rw [if_pos ⟨a1, e⟩, if_pos ⟨a2, e⟩]
  · rw [if_neg (fun x => e x.2), if_neg (fun x => e x.2)]
noncomputable def bodyOk (body : List Nat) : Prop := body ≠ [] ∧ stepIf (body ++ [93]) 33 0 ≤ body.length ∧ stepIf (body ++ [93]) 93 (stepIf (body ++ [93]) 33 0) ≤ body.length ∧ 93 ∉ body.drop (stepIf (body ++ [93]) 93 (stepIf (body ++ [93]) 33 0))
noncomputable def bodyB (body : List Nat) : Bool := decide (body ≠ [] ∧ stepIf (body ++ [93]) 33 0 ≤ body.length ∧ stepIf (body ++ [93]) 93 (stepIf (body ++ [93]) 33 0) ≤ body.length ∧ 93 ∉ body.drop (stepIf (body ++ [93]) 93 (stepIf (body ++ [93]) 33 0)))
theorem bodyOk_of {body : List Nat} (h : bodyB body = true) : bodyOk body := by unfold bodyOk; exact of_decide_eq_true h
theorem closeJ_at {pre body post : List Nat} (h : bodyOk body) : closeJ (pre ++ (body ++ 93 :: post)) pre.length = pre.length + body.length := by
  obtain ⟨h0, h1, h2, h3⟩ := h
  unfold closeJ
  have e1 := stepIf_pre (pre := pre) (q := body ++ 93 :: post) 33 0
  rw [Nat.add_zero] at e1
  rw [e1, stepIf_pre, closeW_pre, stepIf_post (Nat.zero_le _), stepIf_post h1, closeW_at _ _ h2 (Nat.le_trans (Nat.sub_le _ _) (by rw [List.length_append, List.length_append]; exact Nat.le_trans (Nat.le_add_right _ _) (Nat.le_add_left _ _))) h3]
theorem findD_shift {pre body rest : List Nat} (k : Nat) : findD (pre ++ (body ++ rest)) (pre.length + k) (pre.length + body.length) = (findD body k body.length).map (pre.length + ·) := by
  unfold findD
  have e : ((pre ++ (body ++ rest)).take (pre.length + body.length)).drop (pre.length + k) = (body.take body.length).drop k := by
    rw [← List.append_assoc, show pre.length + body.length = (pre ++ body).length by simp, List.take_left, List.take_length, List.drop_append]
    simp
  rw [e, Option.map_map]
  congr 1
  funext x
  exact Nat.add_left_comm _ _ _
theorem findD_mem {body : List Nat} {k m p : Nat} (h : findD body k m = some p) : k ≤ p ∧ p < m := findD_ok h
theorem findD_over {body : List Nat} {k m : Nat} (h : m ≤ k) : findD body k m = none := findD_end h
theorem take_shift {pre body rest : List Nat} {p i : Nat} (hp : p ≤ body.length) : ((pre ++ (body ++ rest)).take (pre.length + p)).drop (pre.length + i) = (body.take p).drop i := by
  rw [List.take_append, List.take_of_length_le (Nat.le_add_right _ _), Nat.add_sub_cancel_left, List.take_append_of_le_length hp, List.drop_append]
  simp
theorem chunkG_shift {pre body rest : List Nat} : ∀ n i k cs, chunkG (pre ++ (body ++ rest)) (pre.length + body.length) n (pre.length + i) (pre.length + k) cs = (pre.length + (chunkG body body.length n i k cs).1, (chunkG body body.length n i k cs).2)
  | 0, i, k, cs => rfl
  | n + 1, i, k, cs => by
    unfold chunkG
    rw [findD_shift]
    cases e : findD body k body.length with
    | none => rfl
    | some p =>
      have hp := findD_mem e
      dsimp only [Option.map_some]
      rw [take_shift (Nat.le_of_lt hp.2)]
      exact chunkG_shift n (p + 1) (p + 3) _
theorem chunkG_fuel2 {body : List Nat} {m : Nat} (n n' i k : Nat) (cs : List (List Nat)) (h1 : m - k ≤ n) (h2 : m - k ≤ n') : chunkG body m n i k cs = chunkG body m n' i k cs :=
  chunkG_fuel n n' i k cs (Nat.sub_le_iff_le_add.mp h1) (Nat.sub_le_iff_le_add.mp h2)
theorem stuffO_shift {pre body rest : List Nat} (hb : body ≠ []) : stuffO (pre ++ (body ++ rest)) pre.length (pre.length + body.length) = stuffO body 0 body.length := by
  have e1 := take_shift (pre := pre) (body := body) (rest := rest) (p := body.length) (i := 0) (Nat.le_refl _)
  rw [Nat.add_zero] at e1
  have e2 : (pre ++ (body ++ rest)).getD pre.length 0 = body.getD 0 0 := by
    have := getD_pre (pre := pre) (q := body ++ rest) 0
    rw [Nat.add_zero] at this
    rw [this]
    cases body with
    | nil => exact absurd rfl hb
    | cons x xs => rfl
  have e3 : chunkE (pre ++ (body ++ rest)) (pre.length + body.length) (chunkG (pre ++ (body ++ rest)) (pre.length + body.length) (pre ++ (body ++ rest)).length pre.length (if [body.getD 0 0] = [33] then pre.length + 2 else pre.length + 1) [])
      = chunkE body body.length (chunkG body body.length body.length 0 (if [body.getD 0 0] = [33] then 0 + 2 else 0 + 1) []) := by
    have e4 : chunkG (pre ++ (body ++ rest)) (pre.length + body.length) (pre ++ (body ++ rest)).length pre.length (if [body.getD 0 0] = [33] then pre.length + 2 else pre.length + 1) []
        = (pre.length + (chunkG body body.length body.length 0 (if [body.getD 0 0] = [33] then 0 + 2 else 0 + 1) []).1, (chunkG body body.length body.length 0 (if [body.getD 0 0] = [33] then 0 + 2 else 0 + 1) []).2) := by
      have h5 : (if [body.getD 0 0] = [33] then pre.length + 2 else pre.length + 1) = pre.length + (if [body.getD 0 0] = [33] then 0 + 2 else 0 + 1) := by split <;> rfl
      rw [h5]
      have := chunkG_shift (pre := pre) (body := body) (rest := rest) (pre ++ (body ++ rest)).length 0 (if [body.getD 0 0] = [33] then 0 + 2 else 0 + 1) []
      rw [Nat.add_zero] at this
      rw [this, chunkG_fuel2 (pre ++ (body ++ rest)).length body.length _ _ _ (Nat.le_trans (Nat.sub_le _ _) (by rw [List.length_append, List.length_append]; exact Nat.le_trans (Nat.le_add_right _ _) (Nat.le_add_left _ _))) (Nat.sub_le _ _)]
    rw [e4]
    unfold chunkE
    dsimp only
    rw [take_shift (Nat.le_refl _)]
  unfold stuffO
  rw [e1, e2, e3]
noncomputable def br (body : List Nat) : Option (List Nat) := (stuffO body 0 body.length).map fun s => endF (subF s)
theorem Go.br {pre body post o : List Nat} (h : bodyOk body) (hb : br body = some o) (res : List (Option (List Nat))) :
    Go (pre ++ 91 :: (body ++ 93 :: post)) pre.length res (pre.length + (body.length + 2)) (res ++ [some o]) := by
  refine ⟨Nat.le_add_right _ _, 1, by rw [Nat.add_sub_cancel_left]; exact Nat.succ_le_succ (Nat.zero_le _), fun n => ?_⟩
  have e : pre ++ 91 :: (body ++ 93 :: post) = (pre ++ [91]) ++ (body ++ 93 :: post) := by simp
  have hc := closeJ_at (pre := pre ++ [91]) (post := post) h
  have hs := stuffO_shift (pre := pre ++ [91]) (rest := 93 :: post) h.1
  rw [← e] at hc hs
  have hl : (pre ++ [91]).length = pre.length + 1 := by simp
  rw [hl] at hc hs
  rw [trG, if_neg len_pre]
  dsimp only
  rw [getD_pre0, if_neg (by decide), if_neg (by decide), if_pos rfl, hc, if_neg (by simp; rw [Nat.add_assoc, Nat.add_comm 1]; exact Nat.add_lt_add_left (Nat.succ_lt_succ (Nat.lt_add_of_pos_right (Nat.succ_pos _))) _), hs]
  unfold Mine.br at hb
  cases e2 : stuffO body 0 body.length with
  | none => rw [e2] at hb; cases hb
  | some s =>
    rw [e2] at hb
    have hb : endF (subF s) = o := by simpa using hb
    dsimp only
    rw [hb, show pre.length + 1 + body.length + 1 = pre.length + (body.length + 2) from congrArg (· + 1) (Nat.add_right_comm pre.length 1 body.length)]
theorem Go.opn {pre post : List Nat} (h : 93 ∉ post) (res : List (Option (List Nat))) : Go (pre ++ 91 :: post) pre.length res (pre.length + 1) (res ++ [some [92, 91]]) := by
  refine Go.one fun n => ?_
  rw [trG, if_neg len_pre]
  dsimp only
  rw [getD_pre0, if_neg (by decide), if_neg (by decide), if_pos rfl, if_pos]
  unfold closeJ
  have h1 := stepIf_ge2 (pre ++ 91 :: post) 33 (pre.length + 1)
  have h2 := stepIf_ge2 (pre ++ 91 :: post) 93 (stepIf (pre ++ 91 :: post) 33 (pre.length + 1))
  refine closeW_none _ _ (Nat.sub_le _ _) fun m => h ?_
  have e : pre ++ 91 :: post = (pre ++ [91]) ++ post := by simp
  generalize hs : stepIf (pre ++ 91 :: post) 93 (stepIf (pre ++ 91 :: post) 33 (pre.length + 1)) = s at *
  rw [e, List.drop_append, List.drop_of_length_le (by rw [List.length_append]; exact Nat.le_trans h1.1 h2.1), List.nil_append] at m
  exact List.mem_of_mem_drop m
end

section
/-! the items, one by one -/
noncomputable def itemOut (p : List Nat) : Option (List Nat) :=
  if p = [63] then some [63]
  else if p.length = 1 ∧ p.headD 0 ≠ 42 ∧ p.headD 0 ≠ 91 ∧ p.headD 0 < 128 then some (escC (p.headD 0))
  else if 2 ≤ p.length ∧ p.headD 0 = 91 ∧ p.getLastD 0 = 93 ∧ bodyB p.tail.dropLast = true then br p.tail.dropLast else none
noncomputable def okItem (it : List Nat × List Nat) : Bool :=
  decide (it.1.length ≤ 9 ∧ it.2.length ≤ 9 ∧ 47 ∉ it.1 ∧ it.1 ≠ []) &&
  if it.2 = [83] then decide (it.1 = [42] ∨ it.1 = [42,42] ∨ it.1 = [42,42,42])
  else match itemOut it.1 with
    | none => false
    | some o => decide (signF (some o) = it.2 ∧ it.2 ≠ [] ∧ o.length ≤ 100)
noncomputable def okFirst (it : List Nat × List Nat) : Bool := decide (it.1.head? ≠ some 46)
/-- the item by its parts -/
noncomputable def itemP (k : Nat) (dr : Nat) (b : Nat) (o : Nat) (first : Bool) : List Nat × List Nat :=
  if k = 15 then ([91,33] ++ [S13.getD b 0] ++ ([[], [98,45,97]] : List (List Nat)).getD o [] ++ [93], [78] ++ [S13.getD b 0])
  else if k = 18 then
    ([([91,97,45,93],[80]), ([91,97,45,98,93],[82]), ([91,98,45,97,97,45,98,93],[82]), ([91,97,45,98,98,45,97,93],[82])] : List (List Nat × List Nat)).getD dr ([], [])
  else if k > 12 then
    ([(List.replicate (1 + dr % 3) 42, [83]), ([63],[81]), ([], []), ([91,98,45,97,93],[48]), ([91,33,98,45,97,93],[65])] : List (List Nat × List Nat)).getD (k - 13) ([], [])
  else (itemG (S13.getD k 0) dr first, [S13.getD k 0])
theorem ar_emod (x : Int) (k : Nat) (h : (k : Int) ≠ 0 := by decide) : x % (k : Int) = ((x % (k : Int)).toNat : Int) := (Int.toNat_of_nonneg (Int.emod_nonneg _ h)).symm
theorem ar_ml {x : Int} {k n : Nat} (e : x % (k : Int) = n) (h : (0 : Int) < k := by decide) : n < k := Int.ofNat_lt.mp (e ▸ Int.emod_lt_of_pos x h)
theorem itemF_P {x : Int} {first : Bool} (h : x % 22 < 19) : ∃ k dr b o, k < 19 ∧ dr < 4 ∧ b < 13 ∧ o < 2 ∧ itemF x first = itemP k dr b o first := by
  obtain ⟨k, hk⟩ : ∃ k : Nat, x % 22 = k := ⟨(x % 22).toNat, ar_emod x 22⟩
  obtain ⟨dr, hdr⟩ : ∃ k : Nat, x / 22 % 4 = k := ⟨(x / 22 % 4).toNat, ar_emod _ 4⟩
  obtain ⟨b, hb⟩ : ∃ k : Nat, x / 22 % 13 = k := ⟨(x / 22 % 13).toNat, ar_emod _ 13⟩
  obtain ⟨o, ho⟩ : ∃ k : Nat, x / 286 % 2 = k := ⟨(x / 286 % 2).toNat, ar_emod _ 2⟩
  refine ⟨k, dr, b, o, Int.ofNat_lt.mp (hk ▸ h), ar_ml hdr, ar_ml hb, ar_ml ho, ?_⟩
  unfold itemF itemP
  rw [hk, hdr, hb, ho]
  simp only [Int.toNat_natCast]
  have e1 : ((k : Int) = 15) = (k = 15) := propext (ar_eq rfl 15)
  have e2 : ((k : Int) = 18) = (k = 18) := propext (ar_eq rfl 18)
  have e3 : ((k : Int) > 12) = (k > 12) := propext (ar_gt rfl 12)
  have e4 : (1 + (dr : Int) % 3).toNat = 1 + dr % 3 := rfl
  have e5 : ((k : Int) - 13).toNat = k - 13 := Int.toNat_sub k 13
  simp only [e1, e2, e3, e4, e5]
theorem chk1 : ∀ k < 13, ∀ dr : Nat, dr < 4 → okItem (itemG (S13.getD k 0) dr true, [S13.getD k 0]) = true ∧ okFirst (itemG (S13.getD k 0) dr true, [S13.getD k 0]) = true ∧ okItem (itemG (S13.getD k 0) dr false, [S13.getD k 0]) = true := by decide +kernel
theorem chk2 : ∀ b < 13, ∀ o < 2, okItem (itemP 15 0 b o true) = true ∧ okFirst (itemP 15 0 b o true) = true := by decide +kernel
theorem chk3 : ∀ dr < 4, okItem (itemP 18 dr 0 0 true) = true ∧ okFirst (itemP 18 dr 0 0 true) = true := by decide +kernel
theorem chk4 : ∀ k < 5, ∀ dr < 4, k ≠ 2 → okItem (itemP (13 + k) dr 0 0 true) = true ∧ okFirst (itemP (13 + k) dr 0 0 true) = true := by decide +kernel
theorem itemF_ok {x : Int} (h : x % 22 < 19) (first : Bool) : okItem (itemF x first) = true ∧ (first = true → okFirst (itemF x first) = true) := by
  obtain ⟨k, dr, b, o, hk, hdr, hb, ho, e⟩ := itemF_P (first := first) h
  rw [e]
  by_cases h1 : k = 15
  · subst h1
    have := chk2 b hb o ho
    have e2 : itemP 15 dr b o first = itemP 15 0 b o true := rfl
    rw [e2]; exact ⟨this.1, fun _ => this.2⟩
  · by_cases h2 : k = 18
    · subst h2
      have := chk3 dr hdr
      have e2 : itemP 18 dr b o first = itemP 18 dr 0 0 true := rfl
      rw [e2]; exact ⟨this.1, fun _ => this.2⟩
    · by_cases h3 : k > 12
      · have := chk4 (k - 13) (Nat.sub_lt_sub_right h3 (Nat.lt_of_le_of_ne (Nat.le_of_lt_succ hk) h2)) dr hdr (fun e => h1 ((Nat.sub_add_cancel h3).symm.trans (congrArg (· + 13) e)))
        rw [Nat.add_sub_cancel' h3] at this
        have e2 : itemP k dr b o first = itemP k dr 0 0 true := by
          unfold itemP; rw [if_neg h1, if_neg h1, if_neg h2, if_neg h2, if_pos h3, if_pos h3]
        rw [e2]; exact ⟨this.1, fun _ => this.2⟩
      · have := chk1 k (Nat.lt_succ_of_le (Nat.not_lt.mp h3)) dr hdr
        have e2 : itemP k dr b o first = (itemG (S13.getD k 0) dr first, [S13.getD k 0]) := by
          unfold itemP; rw [if_neg h1, if_neg h2, if_neg h3]
        rw [e2]
        cases first with
        | true => exact ⟨this.1, fun _ => this.2.1⟩
        | false => exact ⟨this.2.2, fun e => by cases e⟩
end

section
theorem readF_app (a b : List (Option (List Nat))) : readF (a ++ b) = readF a ++ readF b := by unfold readF; rw [List.map_append, List.flatten_append]
theorem readF_one (o : Option (List Nat)) : readF [o] = signF o := by unfold readF; simp
noncomputable def OutOk (out : List (Option (List Nat))) (n : Nat) : Prop := (∀ o ∈ out, ∀ x, o = some x → x.length ≤ 1000) ∧ out.length ≤ n
theorem OutOk.nil : OutOk [] 0 := ⟨fun _ m => by simp at m, by simp⟩
theorem OutOk.app {a b : List (Option (List Nat))} {n m : Nat} (h : OutOk a n) (k : OutOk b m) : OutOk (a ++ b) (n + m) :=
  ⟨fun o mo x e => (List.mem_append.mp mo).elim (fun mo => h.1 o mo x e) (fun mo => k.1 o mo x e), by rw [List.length_append]; exact Nat.add_le_add h.2 k.2⟩
theorem OutOk.le {a : List (Option (List Nat))} {n m : Nat} (h : OutOk a n) (k : n ≤ m) : OutOk a m := ⟨h.1, Nat.le_trans h.2 k⟩
theorem OutOk.star : OutOk [Option.none] 1 := ⟨fun o mo x e => (by rw [List.mem_singleton.mp mo] at e; cases e), by simp⟩
theorem OutOk.lit {o : List Nat} (h : o.length ≤ 1000) : OutOk [Option.some o] 1 := ⟨fun o' mo x e => (by rw [List.mem_singleton.mp mo] at e; cases e; exact h), by simp⟩
theorem last_some {r : List (Option (List Nat))} {o : List Nat} : (r ++ [some o]).getLast? ≠ some none := by simp
theorem Go.stars : ∀ (k : Nat) {pre post : List Nat} (r : List (Option (List Nat))), Go (pre ++ (List.replicate (k + 1) 42 ++ post)) pre.length r (pre.length + (k + 1)) (if r.getLast? = some none then r else r ++ [none])
  | 0, pre, post, r => Go.star r
  | k + 1, pre, post, r => by
    have h1 := Go.star (pre := pre) (post := List.replicate (k + 1) 42 ++ post) r
    have h2 := Go.stars k (pre := pre ++ [42]) (post := post) (if r.getLast? = some none then r else r ++ [none])
    have e : (pre ++ [42]) ++ (List.replicate (k + 1) 42 ++ post) = pre ++ 42 :: (List.replicate (k + 1) 42 ++ post) := by simp
    have e2 : pre ++ (List.replicate (k + 1 + 1) 42 ++ post) = pre ++ 42 :: (List.replicate (k + 1) 42 ++ post) := by rw [List.replicate_succ]; rfl
    have e3 : (if (if r.getLast? = some none then r else r ++ [none]).getLast? = some none then (if r.getLast? = some none then r else r ++ [none]) else (if r.getLast? = some none then r else r ++ [none]) ++ [none]) = (if r.getLast? = some none then r else r ++ [none]) := by
      by_cases h : r.getLast? = some none
      · simp only [if_pos h]
      · simp only [if_neg h]; simp
    rw [e, e3] at h2
    rw [e2]
    have := h1.trans (by simpa using h2)
    rw [show pre.length + (k + 1 + 1) = pre.length + 1 + (k + 1) from Nat.add_right_comm pre.length (k + 1) 1]
    exact this
theorem item_go {p o : List Nat} (h : itemOut p = some o) (pre post : List Nat) (r : List (Option (List Nat))) : Go (pre ++ (p ++ post)) pre.length r (pre.length + p.length) (r ++ [some o]) := by
  unfold itemOut at h
  by_cases h1 : p = [63]
  · rw [if_pos h1] at h
    have h : [63] = o := by simpa using h
    subst h1 h
    exact Go.qm r
  · rw [if_neg h1] at h
    by_cases h2 : p.length = 1 ∧ p.headD 0 ≠ 42 ∧ p.headD 0 ≠ 91 ∧ p.headD 0 < 128
    · rw [if_pos h2] at h
      obtain ⟨hl, h3, h4, h5⟩ := h2
      obtain ⟨c, rfl⟩ := List.length_eq_one_iff.mp hl
      have h : escC c = o := by simpa using h
      subst h
      exact Go.lit h3 (fun e => h1 (by have e : c = 63 := e; rw [e])) h4 h5 r
    · rw [if_neg h2] at h
      by_cases h6 : 2 ≤ p.length ∧ p.headD 0 = 91 ∧ p.getLastD 0 = 93 ∧ bodyB p.tail.dropLast = true
      · rw [if_pos h6] at h
        obtain ⟨hl, h7, h8, h9⟩ := h6
        cases p with
        | nil => simp at hl
        | cons c q =>
          have h7 : c = 91 := h7
          subst h7
          have hq : q ≠ [] := fun e => by subst e; simp at hl
          have hql : q = q.dropLast ++ [93] := by
            have e1 := List.dropLast_concat_getLast hq
            have e2 : q.getLast hq = 93 := by
              rw [List.getLastD_eq_getLast?, List.getLast?_eq_some_getLast (by simp), Option.getD_some, List.getLast_cons hq] at h8
              exact h8
            rw [e2] at e1
            exact e1.symm
          simp only [List.tail_cons] at h h9
          have hb := Go.br (pre := pre) (post := post) (bodyOk_of h9) h r
          have e : pre ++ 91 :: (q.dropLast ++ 93 :: post) = pre ++ (91 :: q ++ post) := by
            rw [show q.dropLast ++ 93 :: post = (q.dropLast ++ [93]) ++ post by simp, ← hql]; rfl
          have e2 : q.dropLast.length + 2 = (91 :: q).length := by
            have := congrArg List.length hql
            rw [List.length_append, List.length_singleton] at this
            rw [List.length_cons, this]
          rw [e, e2] at hb
          exact hb
      · rw [if_neg h6] at h; cases h
theorem okItem_parts {it : List Nat × List Nat} (h : okItem it = true) : it.1.length ≤ 9 ∧ it.2.length ≤ 9 ∧ 47 ∉ it.1 ∧ it.1 ≠ [] ∧
    ((it.2 = [83] ∧ ∃ k, it.1 = List.replicate (k + 1) 42) ∨ (it.2 ≠ [83] ∧ ∃ o, itemOut it.1 = some o ∧ signF (some o) = it.2 ∧ it.2 ≠ [] ∧ o.length ≤ 100)) := by
  unfold okItem at h
  rw [Bool.and_eq_true] at h
  obtain ⟨h1, h2⟩ := h
  obtain ⟨a, b, c, d⟩ := of_decide_eq_true h1
  refine ⟨a, b, c, d, ?_⟩
  by_cases e : it.2 = [83]
  · rw [if_pos e] at h2
    refine .inl ⟨e, ?_⟩
    rcases of_decide_eq_true h2 with h | h | h
    · exact ⟨0, h⟩
    · exact ⟨1, h⟩
    · exact ⟨2, h⟩
  · rw [if_neg e] at h2
    refine .inr ⟨e, ?_⟩
    cases ho : itemOut it.1 with
    | none => rw [ho] at h2; cases h2
    | some o =>
      rw [ho] at h2
      exact ⟨o, rfl, of_decide_eq_true h2⟩
/-- the next item of a row -/
noncomputable def mkI (x : Int) (row : List Pair) : Pair :=
  if (itemF x (decide (row = []))).2 = [83] ∧ row ≠ [] ∧ (row.getLastD ([], [])).2 ∈ ([[83], []] : List (List Nat)) then ((itemF x (decide (row = []))).1, []) else itemF x (decide (row = []))
inductive RowB : List Pair → Prop
  | nil : RowB []
  | snoc {row : List Pair} {x : Int} : RowB row → x % 22 < 19 → RowB (row ++ [mkI x row])
theorem mkI_fst (x : Int) (row : List Pair) : (mkI x row).1 = (itemF x (decide (row = []))).1 := by unfold mkI; split <;> rfl
theorem RowB.items {row : List Pair} (h : RowB row) : ∀ p ∈ row, p.1.length ≤ 9 ∧ p.2.length ≤ 9 ∧ 47 ∉ p.1 ∧ p.1 ≠ [] := by
  induction h with
  | nil => intro p m; simp at m
  | @snoc row x hr hx ih =>
    intro p m
    rcases List.mem_append.mp m with m | m
    · exact ih p m
    · rw [List.mem_singleton.mp m]
      obtain ⟨a, b, c, d, _⟩ := okItem_parts (itemF_ok hx (decide (row = []))).1
      rw [mkI_fst]
      refine ⟨a, ?_, c, d⟩
      unfold mkI
      split
      · simp
      · exact b
theorem pOf_app (a b : List Pair) : pOf (a ++ b) = pOf a ++ pOf b := by unfold pOf; rw [List.map_append, List.flatten_append]
theorem nOf_app (a b : List Pair) : nOf (a ++ b) = nOf a ++ nOf b := by unfold nOf; rw [List.map_append, List.flatten_append]
theorem pOf_one (p : Pair) : pOf [p] = p.1 := by simp [pOf]
theorem nOf_one (p : Pair) : nOf [p] = p.2 := by simp [nOf]
theorem RowB.name {row : List Pair} (h : RowB row) (hne : row ≠ []) : Name1 (pOf row) := by
  have hi := h.items
  refine ⟨fun m => ?_, fun e => ?_, ?_⟩
  · obtain ⟨l, hl, hm⟩ := List.mem_flatten.mp m
    obtain ⟨p, hp, rfl⟩ := List.mem_map.mp hl
    exact (hi p hp).2.2.1 hm
  · cases row with
    | nil => exact hne rfl
    | cons p r =>
      have h1 := (hi p (by simp)).2.2.2
      rw [show p :: r = [p] ++ r from rfl, pOf_app, pOf_one] at e
      exact h1 (List.append_eq_nil_iff.mp e).1
  · clear hi
    induction h with
    | nil => exact absurd rfl hne
    | @snoc row x hr hx ih =>
      rw [pOf_app, pOf_one, mkI_fst]
      by_cases e : row = []
      · subst e
        have h2 := (itemF_ok hx (decide (([] : List Pair) = []))).2 (by decide)
        have h3 := of_decide_eq_true h2
        exact h3
      · have h1 := ih e
        have h4 : pOf row ≠ [] := by
          have hi := hr.items
          cases row with
          | nil => exact absurd rfl e
          | cons p r =>
            intro e2
            rw [show p :: r = [p] ++ r from rfl, pOf_app, pOf_one] at e2
            exact (hi p (by simp)).2.2.2 (List.append_eq_nil_iff.mp e2).1
        cases hp : pOf row with
        | nil => exact absurd hp h4
        | cons c q => rw [hp] at h1; simpa using h1
theorem RowB.read {row : List Pair} (h : RowB row) : ∀ (pre post : List Nat) (res : List (Option (List Nat))), res.getLast? ≠ some none →
    ∃ out, Go (pre ++ (pOf row ++ post)) pre.length res (pre.length + (pOf row).length) (res ++ out) ∧ readF out = nOf row ∧
      (row ≠ [] → ((res ++ out).getLast? = some none ↔ (row.getLastD ([], [])).2 ∈ ([[83], []] : List (List Nat)))) ∧ (row = [] → out = []) ∧ OutOk out (pOf row).length := by
  induction h with
  | nil => intro pre post res hres; exact ⟨[], by rw [List.append_nil]; exact Go.refl, rfl, fun e => absurd rfl e, fun _ => rfl, OutOk.nil.le (Nat.zero_le _)⟩
  | @snoc row x hr hx ih =>
    intro pre post res hres
    have hne : row ++ [mkI x row] ≠ [] := by simp
    have hlast : (row ++ [mkI x row]).getLastD ([], []) = mkI x row := by simp
    obtain ⟨out, g1, e1, l1, n1, k1⟩ := ih pre ((mkI x row).1 ++ post) res hres
    obtain ⟨_, _, _, _, hcase⟩ := okItem_parts (itemF_ok hx (decide (row = []))).1
    have hl : pre ++ (pOf row ++ ((mkI x row).1 ++ post)) = pre ++ (pOf (row ++ [mkI x row]) ++ post) := by rw [pOf_app, pOf_one]; simp
    have hl2 : (pre ++ pOf row) ++ ((mkI x row).1 ++ post) = pre ++ (pOf (row ++ [mkI x row]) ++ post) := by rw [pOf_app, pOf_one]; simp
    have hlen : (pOf (row ++ [mkI x row])).length = (pOf row).length + (mkI x row).1.length := by rw [pOf_app, pOf_one, List.length_append]
    have hplen : (pre ++ pOf row).length = pre.length + (pOf row).length := List.length_append
    rw [hl] at g1
    rw [hlast, nOf_app, nOf_one, hlen, ← Nat.add_assoc]
    rcases hcase with ⟨hn, k, hk⟩ | ⟨hn, o, ho, hs, hn2, hol⟩
    · have hfst := mkI_fst x row
      rw [hk] at hfst
      have g2 := Go.stars k (pre := pre ++ pOf row) (post := post) (res ++ out)
      rw [← hfst, hl2, hplen] at g2
      have hkl : k + 1 = (mkI x row).1.length := by rw [hfst]; simp
      rw [hkl] at g2
      by_cases hm : row ≠ [] ∧ (row.getLastD ([], [])).2 ∈ ([[83], []] : List (List Nat))
      · have hmk : (mkI x row).2 = [] := by unfold mkI; rw [if_pos ⟨hn, hm⟩]
        have hl3 := (l1 hm.1).mpr hm.2
        rw [if_pos hl3] at g2
        exact ⟨out, g1.trans g2, by rw [hmk, e1, List.append_nil], fun _ => by rw [hmk]; exact ⟨fun _ => by simp, fun _ => hl3⟩, fun e => absurd e hne, k1.le (Nat.le_add_right _ _)⟩
      · have hmk : (mkI x row).2 = [83] := by unfold mkI; rw [if_neg (fun e => hm e.2)]; exact hn
        have hl3 : ¬ (res ++ out).getLast? = some none := fun e => by
          by_cases hr0 : row = []
          · rw [n1 hr0, List.append_nil] at e; exact hres e
          · exact hm ⟨hr0, (l1 hr0).mp e⟩
        rw [if_neg hl3, List.append_assoc] at g2
        refine ⟨out ++ [none], g1.trans g2, by rw [readF_app, readF_one, hmk, e1]; rfl, fun _ => ?_, fun e => absurd e hne, (k1.app OutOk.star).le (Nat.add_le_add_left (hkl ▸ Nat.succ_le_succ (Nat.zero_le k)) _)⟩
        rw [hmk, ← List.append_assoc]
        exact ⟨fun _ => by simp, fun _ => by simp⟩
    · have hmk : mkI x row = itemF x (decide (row = [])) := by unfold mkI; rw [if_neg (fun e => hn e.1)]
      have g2 := item_go (by rw [mkI_fst]; exact ho : itemOut (mkI x row).1 = some o) (pre ++ pOf row) post (res ++ out)
      rw [hl2, hplen, List.append_assoc] at g2
      have hpl : 1 ≤ (mkI x row).1.length := by
        rw [mkI_fst]
        have := (okItem_parts (itemF_ok hx (decide (row = []))).1).2.2.2.1
        exact List.length_pos_iff.mpr this
      refine ⟨out ++ [some o], g1.trans g2, by rw [readF_app, readF_one, e1, hs, hmk], fun _ => ?_, fun e => absurd e hne, (k1.app (OutOk.lit (ar_to hol _))).le (Nat.add_le_add_left hpl _)⟩
      rw [← List.append_assoc]
      refine ⟨fun e => absurd e last_some, fun m => ?_⟩
      rw [hmk] at m
      simp only [List.mem_cons, List.not_mem_nil, or_false] at m
      rcases m with m | m
      · exact absurd m hn
      · exact absurd m hn2
end

section
noncomputable def Seg (p nm : List Nat) : Prop := ∀ (pre post : List Nat) (res : List (Option (List Nat))), res.getLast? ≠ some none → ∃ out, Go (pre ++ (p ++ post)) pre.length res (pre.length + p.length) (res ++ out) ∧ readF out = nm ∧ OutOk out p.length
noncomputable def SegC (p nm : List Nat) : Prop := ∀ (pre post : List Nat) (res : List (Option (List Nat))), ∃ out, Go (pre ++ (p ++ post)) pre.length res (pre.length + p.length) (res ++ out) ∧ readF out = nm ∧ OutOk out p.length ∧ (res ++ out).getLast? ≠ some none
noncomputable def SegE (p nm : List Nat) : Prop := ∀ (pre : List Nat) (res : List (Option (List Nat))), res.getLast? ≠ some none → ∃ out, Go (pre ++ p) pre.length res (pre.length + p.length) (res ++ out) ∧ readF out = nm ∧ OutOk out p.length
theorem SegC.lit {c : Nat} (h1 : c ≠ 42) (h2 : c ≠ 63) (h3 : c ≠ 91) (h4 : c < 128) (hs : signF (some (escC c)) = [c]) : SegC [c] [c] := fun pre post res =>
  ⟨[some (escC c)], Go.lit h1 h2 h3 h4 res, by rw [readF_one, hs], OutOk.lit (by unfold escC; split <;> simp), last_some⟩
theorem SegC.app {a b na nb : List Nat} (h : SegC a na) (k : SegC b nb) : SegC (a ++ b) (na ++ nb) := fun pre post res => by
  obtain ⟨o1, g1, e1, k1, l1⟩ := h pre (b ++ post) res
  obtain ⟨o2, g2, e2, k2, l2⟩ := k (pre ++ a) post (res ++ o1)
  rw [List.length_append, List.append_assoc, List.append_assoc] at g2
  refine ⟨o1 ++ o2, ?_, by rw [readF_app, e1, e2], by rw [List.length_append]; exact k1.app k2, by rw [← List.append_assoc]; exact l2⟩
  rw [List.length_append, ← Nat.add_assoc, List.append_assoc]
  exact g1.trans g2
theorem SegC.seg {a na : List Nat} (h : SegC a na) : Seg a na := fun pre post res _ => by obtain ⟨o, g, e, k, _⟩ := h pre post res; exact ⟨o, g, e, k⟩
theorem Seg.fin {a na : List Nat} (h : Seg a na) : SegE a na := fun pre res hr => by
  obtain ⟨o, g, e, k⟩ := h pre [] res hr
  rw [List.append_nil] at g
  exact ⟨o, g, e, k⟩
theorem SegC.appE {a b na nb : List Nat} (h : SegC a na) (k : SegE b nb) : SegE (a ++ b) (na ++ nb) := fun pre res _ => by
  obtain ⟨o1, g1, e1, k1, l1⟩ := h pre b res
  obtain ⟨o2, g2, e2, k2⟩ := k (pre ++ a) (res ++ o1) l1
  rw [List.length_append, List.append_assoc, List.append_assoc] at g2
  refine ⟨o1 ++ o2, ?_, by rw [readF_app, e1, e2], by rw [List.length_append]; exact k1.app k2⟩
  rw [List.length_append, ← Nat.add_assoc]
  exact g1.trans g2
noncomputable def SegD (p nm : List Nat) : Prop := ∀ (pre : List Nat) (res : List (Option (List Nat))), ∃ out, Go (pre ++ p) pre.length res (pre.length + p.length) (res ++ out) ∧ readF out = nm ∧ OutOk out p.length
theorem SegC.appD {a b na nb : List Nat} (h : SegC a na) (k : SegE b nb) : SegD (a ++ b) (na ++ nb) := fun pre res => by
  obtain ⟨o1, g1, e1, k1, l1⟩ := h pre b res
  obtain ⟨o2, g2, e2, k2⟩ := k (pre ++ a) (res ++ o1) l1
  rw [List.length_append, List.append_assoc, List.append_assoc] at g2
  refine ⟨o1 ++ o2, ?_, by rw [readF_app, e1, e2], by rw [List.length_append]; exact k1.app k2⟩
  rw [List.length_append, ← Nat.add_assoc]
  exact g1.trans g2
theorem Seg.appCE {a b na nb : List Nat} (h : Seg a na) {c nc : List Nat} (hc : SegC c nc) (k : SegE b nb) : SegE (a ++ c ++ b) (na ++ nc ++ nb) := fun pre res hr => by
  obtain ⟨o1, g1, e1, k1⟩ := h pre (c ++ b) res hr
  obtain ⟨o2, g2, e2, k2⟩ := (hc.appD k) (pre ++ a) (res ++ o1)
  rw [List.length_append (as := pre), List.append_assoc pre, List.append_assoc res] at g2
  refine ⟨o1 ++ o2, ?_, by rw [readF_app, e1, e2, List.append_assoc], by rw [List.append_assoc, List.length_append]; exact k1.app k2⟩
  rw [List.append_assoc a, List.length_append (as := a), ← Nat.add_assoc]
  exact g1.trans g2
theorem seg_join {last nl : List Nat} (hl : SegE last nl) : ∀ {ps ns : List (List Nat)}, All2 Seg ps ns → SegE (joinL [47] (ps ++ [last])) (joinL [47] (ns ++ [nl])) := by
  have h47 : SegC [47] [47] := SegC.lit (by decide) (by decide) (by decide) (by decide) (by decide +kernel)
  intro ps ns h
  induction h with
  | nil => exact hl
  | @cons p n ps ns hp hr ih =>
    have e1 : joinL [47] (p :: ps ++ [last]) = p ++ [47] ++ joinL [47] (ps ++ [last]) := by
      cases ps <;> rfl
    have e2 : joinL [47] (n :: ns ++ [nl]) = n ++ [47] ++ joinL [47] (ns ++ [nl]) := by
      cases ns <;> rfl
    rw [e1, e2]
    exact hp.appCE h47 ih
theorem seg_up : Seg [46,46] [46,46] :=
  have h : SegC [46] [46] := SegC.lit (by decide) (by decide) (by decide) (by decide) (by decide +kernel)
  (h.app h).seg
theorem seg_root {r p n : List Nat} (hr : RootS r) (h : SegE p n) : SegE (r ++ p) (r ++ n) := by
  have h47 : SegC [47] [47] := SegC.lit (by decide) (by decide) (by decide) (by decide) (by decide +kernel)
  rcases hr with rfl | rfl | rfl
  · exact h
  · exact h47.appE h
  · exact (h47.app h47).appE h
theorem RowB.seg {row : List Pair} (h : RowB row) : Seg (pOf row) (nOf row) := fun pre post res hr => by
  obtain ⟨out, g, e, _, _, k⟩ := h.read pre post res hr
  exact ⟨out, g, e, k⟩
theorem RowB.segE {row : List Pair} (h : RowB row) {e : List Nat} (he : e ∈ endL) : SegE (pOf row ++ e) (nOf row ++ e) := fun pre res hr => by
  obtain ⟨out, g, en, _, _, k⟩ := h.read pre e res hr
  have hlen : (pre ++ pOf row).length = pre.length + (pOf row).length := List.length_append
  have hE : ∃ o2, Go ((pre ++ pOf row) ++ e) (pre ++ pOf row).length (res ++ out) ((pre ++ pOf row).length + e.length) (res ++ out ++ o2) ∧ readF o2 = e ∧ OutOk o2 e.length := by
    simp only [endL, List.mem_cons, List.not_mem_nil, or_false] at he
    rcases he with rfl | rfl | rfl | rfl
    · exact ⟨[], by rw [List.append_nil, List.append_nil]; exact Go.refl, rfl, OutOk.nil⟩
    · exact ⟨[some [92,91]], Go.opn (by simp) _, by decide +kernel, OutOk.lit (by simp)⟩
    · have g1 := Go.opn (pre := pre ++ pOf row) (post := [33]) (by decide) (res ++ out)
      have g2 := Go.lit (pre := (pre ++ pOf row) ++ [91]) (post := []) (c := 33) (by decide) (by decide) (by decide) (by decide) (res ++ out ++ [some [92,91]])
      rw [List.length_append (as := pre ++ pOf row), List.append_assoc (pre ++ pOf row), List.append_assoc (res ++ out)] at g2
      exact ⟨[some [92,91], some (escC 33)], g1.trans g2, by decide +kernel, (OutOk.lit (o := [92,91]) (by simp)).app (OutOk.lit (o := escC 33) (by decide))⟩
    · have g1 := Go.opn (pre := pre ++ pOf row) (post := [97]) (by decide) (res ++ out)
      have g2 := Go.lit (pre := (pre ++ pOf row) ++ [91]) (post := []) (c := 97) (by decide) (by decide) (by decide) (by decide) (res ++ out ++ [some [92,91]])
      rw [List.length_append (as := pre ++ pOf row), List.append_assoc (pre ++ pOf row), List.append_assoc (res ++ out)] at g2
      exact ⟨[some [92,91], some (escC 97)], g1.trans g2, by decide +kernel, (OutOk.lit (o := [92,91]) (by simp)).app (OutOk.lit (o := escC 97) (by decide))⟩
  obtain ⟨o2, g2, e2, k2⟩ := hE
  rw [hlen, List.append_assoc pre, List.append_assoc res] at g2
  refine ⟨out ++ o2, ?_, by rw [readF_app, en, e2], by rw [List.length_append]; exact k.app k2⟩
  rw [List.length_append, ← Nat.add_assoc]
  exact g.trans g2
theorem SegE.reads {p n : List Nat} (h : SegE p n) (hl : p.length ≤ 200) : Reads p n := by
  obtain ⟨out, g, e, k⟩ := h [] [] (by simp)
  refine ⟨hl, out, ?_, k.1, Nat.le_trans k.2 (ar_to hl _), e.symm⟩
  have g : Go p 0 [] p.length out := by simpa using g
  exact g.fin
/-! the rows -/
theorem rowsStep_B {st : List (List Pair) × List Pair} {x : Int} {n : Nat} (h : (∀ r ∈ st.1, RowB r ∧ r ≠ []) ∧ RowB st.2 ∧ st.1.flatten.length + st.2.length ≤ n) :
    (∀ r ∈ (rowsStep st x).1, RowB r ∧ r ≠ []) ∧ RowB (rowsStep st x).2 ∧ (rowsStep st x).1.flatten.length + (rowsStep st x).2.length ≤ n + 1 := by
  obtain ⟨h1, h2, h3⟩ := h
  unfold rowsStep
  by_cases hx : x % 22 < 19
  · rw [if_pos hx]
    refine ⟨h1, RowB.snoc h2 hx, ?_⟩
    dsimp only
    rw [List.length_append, List.length_singleton]; exact Nat.succ_le_succ h3
  · rw [if_neg hx]
    by_cases hs : st.2 ≠ []
    · rw [if_pos hs]
      refine ⟨fun r m => ?_, RowB.nil, ?_⟩
      · rcases List.mem_append.mp m with m | m
        · exact h1 r m
        · rw [List.mem_singleton.mp m]; exact ⟨h2, hs⟩
      · dsimp only
        rw [List.flatten_append, List.length_append, List.flatten_cons, List.flatten_nil, List.append_nil, List.length_nil]; exact Nat.le_succ_of_le h3
    · rw [if_neg hs]; exact ⟨h1, h2, Nat.le_succ_of_le h3⟩
theorem rowsFold_B : ∀ (xs : List Int) (st : List (List Pair) × List Pair) (n : Nat), ((∀ r ∈ st.1, RowB r ∧ r ≠ []) ∧ RowB st.2 ∧ st.1.flatten.length + st.2.length ≤ n) →
    (∀ r ∈ (xs.foldl rowsStep st).1, RowB r ∧ r ≠ []) ∧ RowB (xs.foldl rowsStep st).2 ∧ (xs.foldl rowsStep st).1.flatten.length + (xs.foldl rowsStep st).2.length ≤ n + xs.length
  | [], st, n, h => h
  | x :: xs, st, n, h => by
    have := rowsFold_B xs _ _ (rowsStep_B (x := x) h)
    rw [List.foldl_cons, List.length_cons]
    exact ⟨this.1, this.2.1, by have := this.2.2; rw [Nat.add_right_comm n 1] at this; exact this⟩
theorem filter_flat {rs : List (List Pair)} : (rs.filter fun r => decide (r ≠ [])).flatten = rs.flatten := by
  induction rs with
  | nil => rfl
  | cons r rs ih =>
    by_cases h : r = []
    · subst h
      rw [List.filter_cons_of_neg (by simp), List.flatten_cons, List.nil_append, ih]
    · rw [List.filter_cons_of_pos (by simpa using h), List.flatten_cons, List.flatten_cons, ih]
theorem rowsF_B {xs : List Int} (hx : xs.length ≤ 12) : rowsF xs ≠ [] ∧ (∀ r ∈ rowsF xs, RowB r ∧ r ≠ []) ∧ (rowsF xs).flatten.length ≤ 12 := by
  obtain ⟨h1, h2, h3⟩ := rowsFold_B xs ([], []) 0 ⟨fun r m => by simp at m, RowB.nil, by simp⟩
  unfold rowsF
  dsimp only
  split
  · rename_i hne
    refine ⟨hne, fun r m => ?_, ?_⟩
    · obtain ⟨m, hr⟩ := List.mem_filter.mp m
      have hr : r ≠ [] := by simpa using hr
      rcases List.mem_append.mp m with m | m
      · exact h1 r m
      · rw [List.mem_singleton.mp m] at hr ⊢; exact ⟨h2, hr⟩
    · rw [filter_flat, List.flatten_append, List.length_append, List.flatten_cons, List.flatten_nil, List.append_nil]
      exact Nat.le_trans h3 (by rw [Nat.zero_add]; exact hx)
  · refine ⟨by simp, fun r m => ?_, by simp⟩
    rw [List.mem_singleton.mp m]
    refine ⟨?_, by simp⟩
    have b0 : RowB ([] ++ [mkI 0 []]) := RowB.snoc RowB.nil (by decide)
    have b1 : RowB (([] ++ [mkI 0 []]) ++ [mkI 0 ([] ++ [mkI 0 []])]) := RowB.snoc b0 (by decide)
    exact b1
theorem flat_lens {rs : List (List Pair)} (h : ∀ r ∈ rs, r ≠ []) : rs.length ≤ rs.flatten.length ∧ ∀ r ∈ rs, r.length ≤ rs.flatten.length := by
  induction rs with
  | nil => exact ⟨by simp, fun r m => by simp at m⟩
  | cons a rs ih =>
    obtain ⟨i1, i2⟩ := ih (fun r m => h r (List.mem_cons_of_mem _ m))
    have ha : 1 ≤ a.length := List.length_pos_iff.mpr (h a (by simp))
    rw [List.flatten_cons, List.length_append, List.length_cons]
    refine ⟨by rw [Nat.add_comm a.length]; exact Nat.add_le_add i1 ha, fun r m => ?_⟩
    rcases List.mem_cons.mp m with rfl | m
    · exact Nat.le_add_right _ _
    · exact Nat.le_trans (i2 r m) (Nat.le_add_left _ _)
end

section
theorem det_mem (k : Nat) : detL.getD k [] ∈ detL := by
  rw [List.getD_eq_getElem?_getD]
  cases e : detL[k]? with
  | none => show [] ∈ detL; decide
  | some d => exact List.mem_of_getElem? e
theorem getD_mem {rows : List (List Pair)} {i : Nat} (h : i < rows.length) : rows[i]? = some (rows.getD i []) := by
  rw [List.getD_eq_getElem?_getD, List.getElem?_eq_getElem h]; rfl
theorem partsN_act (ns : List Int) (rows : List (List Pair)) (hN : ∀ r ∈ rows, Name1 (pOf r)) (r : List Nat) (st : List (List Nat)) : ∀ i, i ≤ rows.length → (partsN ns rows i).foldl (act r) st = st ++ (rows.take i).map pOf
  | 0, _ => by simp [partsN]
  | i + 1, h => by
    have hg := getD_mem (rows := rows) (i := i) h
    have hm : Name1 (pOf (rows.getD i [])) := hN _ (List.mem_of_getElem? hg)
    rw [partsN_succ, List.foldl_append, List.foldl_append, partsN_act ns rows hN r st i (Nat.le_of_succ_le h)]
    simp only [List.foldl_cons, List.foldl_nil]
    rw [show detAt ns i = detL.getD ((sumK ns i + i) % 7).toNat [] from rfl, det_act (det_mem _), hm.act, List.take_add_one, hg, Option.toList_some, List.map_append, List.append_assoc]
    rfl
theorem partsN_head (ns : List Int) (rows : List (List Pair)) (hN : ∀ r ∈ rows, Name1 (pOf r)) (i : Nat) (h : i ≤ rows.length) : ∀ b ∈ partsN ns rows i, b.head? ≠ some 47 := by
  intro b m
  obtain ⟨k, hk, m⟩ := List.mem_flatMap.mp m
  have hk := List.mem_range.mp hk
  simp only [List.mem_cons, List.not_mem_nil, or_false] at m
  rcases m with rfl | rfl
  · exact det_head (det_mem _)
  · exact (hN _ (List.mem_of_getElem? (getD_mem (Nat.lt_of_lt_of_le hk h)))).head
theorem partsN_small (ns : List Int) (rows : List (List Pair)) (hN : ∀ r ∈ rows, (pOf r).length ≤ 200) (i : Nat) (h : i ≤ rows.length) : ∀ b ∈ partsN ns rows i, b.length ≤ 200 := by
  intro b m
  obtain ⟨k, hk, m⟩ := List.mem_flatMap.mp m
  have hk := List.mem_range.mp hk
  simp only [List.mem_cons, List.not_mem_nil, or_false] at m
  rcases m with rfl | rfl
  · exact Nat.le_trans detL_len (by decide)
  · exact hN _ (List.mem_of_getElem? (getD_mem (Nat.lt_of_lt_of_le hk h)))
theorem wsum_all : ∀ {l : List (List Nat)}, (∀ x ∈ l, x.length ≤ 200) → wsum l ≤ 201 * l.length
  | [], _ => by simp [wsum]
  | a :: l, h => by
    have h1 := wsum_all (l := l) (fun x m => h x (List.mem_cons_of_mem _ m))
    have h2 := h a (by simp)
    rw [wsum_cons, List.length_cons, Nat.mul_succ]
    exact Nat.le_trans (Nat.le_of_eq (Nat.add_comm _ _)) (Nat.add_le_add h1 (Nat.succ_le_succ h2))
theorem joinL_ne {cs : List (List Nat)} {c : List Nat} (hc : c ≠ []) : joinL [47] (cs ++ [c]) ≠ [] := by
  by_cases h : cs = []
  · subst h; exact hc
  · rw [joinL_snoc _ _ _ h]; simp [hc]
theorem joinL_ge : ∀ {cs : List (List Nat)}, (∀ c ∈ cs, c ≠ []) → cs.length ≤ (joinL [47] cs).length
  | [], _ => by simp
  | [p], h => by
    have := List.length_pos_iff.mpr (h p (by simp))
    exact this
  | p :: q :: r, h => by
    have h1 := joinL_ge (cs := q :: r) (fun c m => h c (List.mem_cons_of_mem _ m))
    show _ ≤ (p ++ [47] ++ joinL [47] (q :: r)).length
    rw [List.length_append, List.length_append]
    rw [Nat.add_comm _ (joinL [47] (q :: r)).length]
    exact Nat.le_trans (Nat.succ_le_succ h1) (Nat.add_le_add_left (show 1 ≤ p.length + [47].length from Nat.le_add_left 1 _) _)
/-- the path, straightened -/
theorem norm_path {p : List Nat} {bs : List (List Nat)} {rt : List Nat} {ups cs : List (List Nat)} {c : List Nat} (h1 : (rootOf p).1 = rt) (h2 : compsOf p = ups) (hb : ∀ b ∈ bs, b.head? ≠ some 47)
    (ha : bs.foldl (act rt) ups = cs ++ [c]) (hc : c ≠ []) : normF (bs.foldl jstep p) = rt ++ joinL [47] (cs ++ [c]) := by
  obtain ⟨e1, e2⟩ := jfold_comps bs p hb
  rw [h1, h2, ha] at e2
  rw [h1] at e1
  have hne : bs.foldl jstep p ≠ [] := fun e => by
    rw [e] at e2
    have : compsOf [] = [] := rfl
    rw [this] at e2
    exact absurd e2.symm (by simp)
  have hj := joinL_ne (cs := cs) hc
  unfold normF
  rw [if_neg hne, e1]
  have e3 : ((sp 47 (rootOf (bs.foldl jstep p)).2).foldl (nstep rt) []) = cs ++ [c] := by
    rw [← e2]; unfold compsOf; rw [e1]
  rw [e3]
  dsimp only
  rw [if_pos (by simp [hj])]
theorem pOf_len {row : List Pair} (h : ∀ p ∈ row, p.1.length ≤ 9 ∧ p.2.length ≤ 9) : (pOf row).length ≤ 9 * row.length ∧ (nOf row).length ≤ 9 * row.length := by
  induction row with
  | nil => simp [pOf, nOf]
  | cons p r ih =>
    obtain ⟨i1, i2⟩ := ih (fun x m => h x (List.mem_cons_of_mem _ m))
    have := h p (by simp)
    have e1 : pOf (p :: r) = p.1 ++ pOf r := (pOf_app [p] r).trans (by rw [pOf_one])
    have e2 : nOf (p :: r) = p.2 ++ nOf r := (nOf_app [p] r).trans (by rw [nOf_one])
    rw [e1, e2, List.length_append, List.length_append, List.length_cons, Nat.mul_succ, Nat.add_comm (9 * r.length)]
    exact ⟨Nat.add_le_add this.1 i1, Nat.add_le_add this.2 i2⟩
theorem rows_len {rows : List (List Pair)} (h : ∀ r ∈ rows, ∀ p ∈ r, p.1.length ≤ 9 ∧ p.2.length ≤ 9) : ((rows.map pOf).map (·.length)).sum ≤ 9 * rows.flatten.length ∧ ((rows.map nOf).map (·.length)).sum ≤ 9 * rows.flatten.length := by
  induction rows with
  | nil => simp
  | cons r rs ih =>
    obtain ⟨i1, i2⟩ := ih (fun x m => h x (List.mem_cons_of_mem _ m))
    obtain ⟨j1, j2⟩ := pOf_len (h r (by simp))
    rw [List.map_cons, List.map_cons, List.map_cons, List.map_cons, List.sum_cons, List.sum_cons, List.flatten_cons, List.length_append, Nat.mul_add]
    exact ⟨Nat.add_le_add j1 i1, Nat.add_le_add j2 i2⟩
structure PL (ns : List Int) (rows : List (List Pair)) (num : Int) (front : List (List Nat)) (rt : List Nat) (ups : List (List Nat)) : Prop where
  fits : Fits rows
  st : ∃ p ps, partsF ns rows num front = p :: ps ∧ ps ≠ [] ∧ p.length + wsum ps ≤ 100000 ∧ normF (ps.foldl jstep p) = rt ++ joinL [47] (ups ++ rows.map pOf)
  tails : tailsF (rt ++ joinL [47] (ups ++ rows.map pOf)).length (rt ++ joinL [47] (ups ++ rows.map pOf)) [] = rt :: (ups ++ rows.map pOf)
  rd : All2 Reads (rows.map pOf) (rows.map nOf)
  rds : Reads (rt ++ joinL [47] (ups ++ rows.map pOf)) (rt ++ joinL [47] (ups ++ rows.map nOf))
  size : ups.length ≤ 10 ∧ front.length ≤ 10 ∧ rt.length ≤ 10 ∧ ((ups ++ rows.map nOf).map (·.length)).sum ≤ 10000
theorem endT_mem (num : Int) : endT num ∈ endL := by
  unfold endT
  rw [List.getD_eq_getElem?_getD]
  cases e : endL[(num / 42 % 4).toNat]? with
  | none => show [] ∈ endL; decide
  | some d => exact List.mem_of_getElem? e
theorem six_front {i : Nat} {front : List (List Nat)} {rt : List Nat} {ups : List (List Nat)} (hi : i < 6) (h : sixL.getD i ([], [], []) = (front, rt, ups)) :
    ∃ p f, front = p :: f ∧ (rootOf (f.foldl jstep p)).1 = rt ∧ compsOf (f.foldl jstep p) = ups ∧ RootS rt ∧ (∀ u ∈ ups, u = [46,46]) ∧ ups.length ≤ 2 ∧ f.length ≤ 1 ∧ (∀ x ∈ front, x.length ≤ 5) := by
  have h6 : i = 0 ∨ i = 1 ∨ i = 2 ∨ i = 3 ∨ i = 4 ∨ i = 5 := (by decide : ∀ i < 6, i = 0 ∨ i = 1 ∨ i = 2 ∨ i = 3 ∨ i = 4 ∨ i = 5) i hi
  rcases h6 with rfl | rfl | rfl | rfl | rfl | rfl
  all_goals
    injection h with h1 h2
    injection h2 with h2 h3
    subst h1 h2 h3
    refine ⟨_, _, rfl, by decide, by decide, by unfold RootS; decide, by decide, by decide, by decide, by decide⟩
theorem ar_9 {a n m : Nat} (h : a ≤ 9 * n) (h2 : n ≤ m) (h3 : m ≤ 12) : a ≤ 108 := Nat.le_trans h (Nat.mul_le_mul_left 9 (Nat.le_trans h2 h3))
theorem ar_s {s p e f : Nat} (h : s + (p + 0) ≤ 9 * f) (hf : f ≤ 12) (he : e ≤ 2) : s + (p + e + 0) ≤ 110 := by
  rw [Nat.add_zero, ← Nat.add_assoc]; exact Nat.add_le_add (Nat.le_trans h (Nat.mul_le_mul_left 9 hf)) he
theorem plain_law (ns : List Int) (num : Int) {front : List (List Nat)} {rt : List Nat} {ups : List (List Nat)} (hs : sixL.getD (num % 6).toNat ([], [], []) = (front, rt, ups)) :
    PL ns (addEnd (rowsF ((ns.take 13).drop 1)) (endT num)) num front rt ups := by
  have hx : ((ns.take 13).drop 1).length ≤ 12 := by rw [List.length_drop, List.length_take]; exact Nat.sub_le_sub_right (Nat.min_le_left 13 _) 1
  obtain ⟨hne, hB, hfl⟩ := rowsF_B hx
  obtain ⟨hl1, hl2⟩ := flat_lens (fun r m => (hB r m).2)
  have he := endT_mem num
  obtain ⟨p0, f0, rfl, hr1, hr2, hroot, hup, hul, hf0, hfr⟩ := six_front (ar_lt (Int.emod_nonneg _ (by decide)) (Int.emod_lt_of_pos _ (by decide))) hs
  generalize endT num = e at *
  generalize rowsF ((ns.take 13).drop 1) = rows0 at *
  obtain ⟨init, last, rfl⟩ : ∃ i l, rows0 = i ++ [l] := ⟨_, _, (List.dropLast_concat_getLast hne).symm⟩
  have hrows : addEnd (init ++ [last]) e = init ++ [last ++ [(e, e)]] := by unfold addEnd; simp
  rw [hrows]
  have hel : e.length ≤ 2 ∧ 47 ∉ e := by
    simp only [endL, List.mem_cons, List.not_mem_nil, or_false] at he
    rcases he with rfl | rfl | rfl | rfl <;> decide
  have hBl := hB last (by simp)
  have hpl : pOf (last ++ [(e, e)]) = pOf last ++ e := by rw [pOf_app, pOf_one]
  have hnl : nOf (last ++ [(e, e)]) = nOf last ++ e := by rw [nOf_app, nOf_one]
  have hItems : ∀ r ∈ init ++ [last], ∀ p ∈ r, p.1.length ≤ 9 ∧ p.2.length ≤ 9 := fun r m p mp => ⟨((hB r m).1.items p mp).1, ((hB r m).1.items p mp).2.1⟩
  obtain ⟨hs1, hs2⟩ := rows_len hItems
  have hlen : (init ++ [last]).length = init.length + 1 := by simp
  have hN : ∀ r ∈ init ++ [last ++ [(e, e)]], Name1 (pOf r) := by
    intro r m
    rcases List.mem_append.mp m with m | m
    · exact (hB r (by simp [m])).1.name (hB r (by simp [m])).2
    · rw [List.mem_singleton.mp m, hpl]
      obtain ⟨a, b, c⟩ := hBl.1.name hBl.2
      refine ⟨fun m => (List.mem_append.mp m).elim a hel.2, by simp [b], ?_⟩
      cases hp : pOf last with
      | nil => exact absurd hp b
      | cons x xs => rw [hp] at c; simpa using c
  have hlast9 : (pOf last).length ≤ 108 ∧ (nOf last).length ≤ 108 := by
    have h1 := pOf_len (hItems last (by simp))
    have h2 := hl2 last (by simp)
    exact ⟨ar_9 h1.1 h2 hfl, ar_9 h1.2 h2 hfl⟩
  have hinit9 : ∀ r ∈ init, (pOf r).length ≤ 108 ∧ (nOf r).length ≤ 108 := fun r m => by
    have h1 := pOf_len (hItems r (by simp [m]))
    have h2 := hl2 r (by simp [m])
    exact ⟨ar_9 h1.1 h2 hfl, ar_9 h1.2 h2 hfl⟩
  have hP : ∀ r ∈ init ++ [last ++ [(e, e)]], (pOf r).length ≤ 200 := by
    intro r m
    rcases List.mem_append.mp m with m | m
    · exact ar_to (hinit9 r m).1 _
    · rw [List.mem_singleton.mp m, hpl, List.length_append]; exact ar_to (Nat.add_le_add hlast9.1 hel.1) _
  have hupl : ∀ u ∈ ups, u.length = 2 := fun u m => by rw [hup u m]; rfl
  have hups : ∀ l : List (List Nat), (∀ u ∈ l, u.length = 2) → (l.map (·.length)).sum = 2 * l.length := by
    intro l
    induction l with
    | nil => simp
    | cons a l ih =>
      intro h
      have h1 := h a (by simp)
      have h2 := ih (fun x m => h x (List.mem_cons_of_mem _ m))
      rw [List.map_cons, List.sum_cons, h1, h2, List.length_cons, Nat.mul_succ, Nat.add_comm]
  have hups := hups ups hupl
  have hrl : rt.length ≤ 2 := by rcases hroot with rfl | rfl | rfl <;> decide
  have hmapP : (init ++ [last ++ [(e, e)]]).map pOf = init.map pOf ++ [pOf last ++ e] := by rw [List.map_append, List.map_singleton, hpl]
  have hmapN : (init ++ [last ++ [(e, e)]]).map nOf = init.map nOf ++ [nOf last ++ e] := by rw [List.map_append, List.map_singleton, hnl]
  have hsumP : (((init.map pOf ++ [pOf last ++ e])).map (·.length)).sum ≤ 110 := by
    rw [List.map_append, List.map_append, List.sum_append] at hs1
    rw [List.map_append, List.sum_append]
    simp only [List.map_cons, List.map_nil, List.sum_cons, List.sum_nil, List.length_append] at hs1 ⊢
    exact ar_s hs1 hfl hel.1
  have hsumN : (((init.map nOf ++ [nOf last ++ e])).map (·.length)).sum ≤ 110 := by
    rw [List.map_append, List.map_append, List.sum_append] at hs2
    rw [List.map_append, List.sum_append]
    simp only [List.map_cons, List.map_nil, List.sum_cons, List.sum_nil, List.length_append] at hs2 ⊢
    exact ar_s hs2 hfl hel.1
  have hi12 : init.length + 1 ≤ 12 := hlen ▸ Nat.le_trans hl1 hfl
  have hstl : (rt ++ joinL [47] (ups ++ (init ++ [last ++ [(e, e)]]).map pOf)).length ≤ 200 := by
    have h1 := joinL_len [47] (ups ++ (init ++ [last ++ [(e, e)]]).map pOf)
    rw [hmapP, List.map_append, List.sum_append, hups] at h1
    have hcl : (ups ++ (init.map pOf ++ [pOf last ++ e])).length ≤ 14 := by rw [List.length_append, List.length_append, List.length_map]; exact Nat.add_le_add hul hi12
    rw [hmapP, List.length_append]
    exact ar_to (Nat.add_le_add hrl (Nat.le_trans h1 (Nat.add_le_add (Nat.add_le_add (Nat.mul_le_mul_left 2 hul) hsumP) (Nat.mul_le_mul_right _ hcl)))) _
  have hPieces : ∀ c ∈ ups ++ (init ++ [last ++ [(e, e)]]).map pOf, Piece c := by
    intro c m
    rcases List.mem_append.mp m with m | m
    · rw [hup c m]; exact ⟨by decide, by decide⟩
    · obtain ⟨r, hr, rfl⟩ := List.mem_map.mp m
      exact ⟨(hN r hr).1, (hN r hr).2.1⟩
  refine ⟨?_, ?_, ?_, ?_, ?_, ?_⟩
  · refine ⟨by rw [List.length_append]; exact ar_to hi12 _, fun r m => ?_⟩
    rcases List.mem_append.mp m with m | m
    · have h2 := hl2 r (by simp [m])
      exact ⟨ar_to (Nat.le_trans h2 hfl) _, fun p mp => by have := hItems r (by simp [m]) p mp; exact ⟨ar_to this.1 _, ar_to this.2 _⟩⟩
    · rw [List.mem_singleton.mp m]
      have h2 := hl2 last (by simp)
      refine ⟨ar_snoc (Nat.le_trans h2 hfl) _, fun p mp => ?_⟩
      rcases List.mem_append.mp mp with mp | mp
      · have := hItems last (by simp) p mp; exact ⟨ar_to this.1 _, ar_to this.2 _⟩
      · rw [List.mem_singleton.mp mp]; exact ⟨ar_to hel.1 _, ar_to hel.1 _⟩
  · refine ⟨p0, f0 ++ (partsN ns (init ++ [last ++ [(e, e)]]) (init ++ [last ++ [(e, e)]]).length ++ [detL.getD (num / 6 % 7).toNat []]), by unfold partsF; simp, by simp, ?_, ?_⟩
    · have h1 := wsum_all (l := f0 ++ (partsN ns (init ++ [last ++ [(e, e)]]) (init ++ [last ++ [(e, e)]]).length ++ [detL.getD (num / 6 % 7).toNat []])) (fun x m => by
        rcases List.mem_append.mp m with m | m
        · exact ar_to (hfr x (by simp [m])) _
        · rcases List.mem_append.mp m with m | m
          · exact partsN_small ns _ hP _ (Nat.le_refl _) x m
          · rw [List.mem_singleton.mp m]; exact Nat.le_trans detL_len (by decide))
      have hMl := partsN_len ns (init ++ [last ++ [(e, e)]]) (init ++ [last ++ [(e, e)]]).length
      have hL : (init ++ [last ++ [(e, e)]]).length = init.length + 1 := by simp
      rw [hL] at hMl
      rw [hL] at h1
      rw [hL]
      generalize partsN ns (init ++ [last ++ [(e, e)]]) (init.length + 1) = M at *
      have h2 := hfr p0 (by simp)
      have hq : (f0 ++ (M ++ [detL.getD (num / 6 % 7).toNat []])).length ≤ 26 := by rw [List.length_append, List.length_append, hMl]; exact Nat.add_le_add hf0 (Nat.add_le_add_right (Nat.mul_le_mul_left 2 hi12) 1)
      exact ar_to (Nat.add_le_add h2 (Nat.le_trans h1 (Nat.mul_le_mul_left 201 hq))) _
    · rw [List.foldl_append, hmapP, ← List.append_assoc]
      refine norm_path hr1 hr2 (fun b m => ?_) ?_ (by have := (hBl.1.name hBl.2).2.1; simp [this])
      · rcases List.mem_append.mp m with m | m
        · exact partsN_head ns _ hN _ (Nat.le_refl _) b m
        · rw [List.mem_singleton.mp m]; exact det_head (det_mem _)
      · rw [List.foldl_append, partsN_act ns _ hN _ _ _ (Nat.le_refl _), List.take_length]
        show act rt _ _ = _
        rw [det_act (det_mem _), hmapP, List.append_assoc]
  · have h1 := tails_fold hroot _ (ups ++ (init ++ [last ++ [(e, e)]]).map pOf) [] rfl hPieces (rt ++ joinL [47] (ups ++ (init ++ [last ++ [(e, e)]]).map pOf)).length (by
      have := joinL_ge (fun c m => (hPieces c m).2)
      rw [List.length_append (as := rt)]; exact Nat.le_trans this (Nat.le_add_left _ _))
    rw [List.append_nil] at h1
    exact h1
  · rw [hmapP, hmapN]
    refine All2.snoc ?_ ?_
    · have : ∀ l : List (List Pair), (∀ r ∈ l, RowB r ∧ (pOf r).length ≤ 200) → All2 Reads (l.map pOf) (l.map nOf) := by
        intro l
        induction l with
        | nil => intro _; exact .nil
        | cons r l ih => intro h; exact .cons ((h r (by simp)).1.seg.fin.reads (h r (by simp)).2) (ih fun x m => h x (List.mem_cons_of_mem _ m))
      exact this init fun r m => ⟨(hB r (by simp [m])).1, ar_to (hinit9 r m).1 _⟩
    · exact (hBl.1.segE he).reads (by rw [List.length_append]; exact ar_to (Nat.add_le_add hlast9.1 hel.1) _)
  · have hu : ∀ l : List (List Nat), (∀ u ∈ l, u = [46,46]) → All2 Seg l l := by
      intro l
      induction l with
      | nil => intro _; exact .nil
      | cons u l ih => intro h; exact .cons (by rw [h u (by simp)]; exact seg_up) (ih fun x m => h x (List.mem_cons_of_mem _ m))
    have hi : ∀ l : List (List Pair), (∀ r ∈ l, RowB r) → All2 Seg (l.map pOf) (l.map nOf) := by
      intro l
      induction l with
      | nil => intro _; exact .nil
      | cons r l ih => intro h; exact .cons (h r (by simp)).seg (ih fun x m => h x (List.mem_cons_of_mem _ m))
    have h1 := seg_root hroot (seg_join (hBl.1.segE he) ((hu ups hup).app (hi init fun r m => (hB r (by simp [m])).1)))
    rw [List.append_assoc, List.append_assoc, ← hmapP, ← hmapN] at h1
    exact h1.reads hstl
  · refine ⟨ar_to hul _, Nat.succ_le_succ (ar_to hf0 _), ar_to hrl _, ?_⟩
    rw [hmapN, List.map_append, List.sum_append, hups]
    exact ar_to (Nat.add_le_add (Nat.mul_le_mul_left 2 hul) hsumN) _
end

section
theorem addEnd_rows {D : Addr} {oD : Obj} {ys : List Value} {rows : List (List Pair)} {ledR rest : List (Addr × Obj)} (nd : (((D, oD) :: ledR ++ rest).map (·.1)).Nodup) (ha : All2 (RowAt ledR) ys rows) (hy : ys.Nodup) (hne : rows ≠ []) :
    ∃ r k vs, ys.getLast? = some (.ref r) ∧ (r, listObj vs k) ∈ ledR ∧ vs.length = (rows.getLastD []).length ∧ r ≠ D ∧ (∀ p ∈ rest, p.1 ≠ r) ∧
      ∀ i e t1 t2 led4, (i, listObj [.str (T e) t1, .str (T e) t2]) ∈ led4 → (r, listObj (vs ++ [.ref i]) (k + 1)) ∈ led4 → (∀ p ∈ ledR, p.1 ≠ r → p ∈ led4) → All2 (RowAt led4) ys (addEnd rows e) := by
  obtain ⟨init, last, rfl⟩ : ∃ i l, rows = i ++ [l] := ⟨_, _, (List.dropLast_concat_getLast hne).symm⟩
  obtain ⟨ys0, y, rfl, ha0, r, k, vs, rfl, hm, hi⟩ := ha.unsnoc
  rw [List.cons_append, List.map_cons, List.nodup_cons, List.map_append, List.nodup_append] at nd
  obtain ⟨nD, ndR, _, nx⟩ := nd
  have hr : r ∈ ledR.map (·.1) := List.mem_map.mpr ⟨_, hm, rfl⟩
  have uniq : ∀ {o o' : Obj} {a : Addr}, (a, o) ∈ ledR → (a, o') ∈ ledR → o = o' := by
    intro o o' a h1 h2
    have : ∀ (l : List (Addr × Obj)), (l.map (·.1)).Nodup → (a, o) ∈ l → (a, o') ∈ l → o = o' := by
      intro l
      induction l with
      | nil => intro _ m; simp at m
      | cons p l ih =>
        intro hn m1 m2
        obtain ⟨hn1, hn2⟩ := List.nodup_cons.mp hn
        rcases List.mem_cons.mp m1 with e1 | m1
        · rcases List.mem_cons.mp m2 with e2 | m2
          · rw [← e1] at e2; injection e2 with _ e2; exact e2.symm
          · exact absurd (List.mem_map.mpr ⟨_, m2, by rw [← e1]⟩) hn1
        · rcases List.mem_cons.mp m2 with e2 | m2
          · exact absurd (List.mem_map.mpr ⟨_, m1, by rw [← e2]⟩) hn1
          · exact ih hn2 m1 m2
    exact this ledR ndR h1 h2
  refine ⟨r, k, vs, by simp, hm, by rw [hi.len]; simp, fun e => nD (by rw [← e]; exact List.mem_append_left _ hr), fun p hp e => nx r hr p.1 (List.mem_map.mpr ⟨p, hp, rfl⟩) e.symm, ?_⟩
  intro i e t1 t2 led4 h1 h2 h3
  have hit : ∀ {v : Value} {p : Pair}, ItemAt ledR v p → ItemAt led4 v p := by
    rintro v p ⟨a, u1, u2, rfl, hma⟩
    refine ⟨a, u1, u2, rfl, h3 _ hma fun ea => ?_⟩
    have ea : a = r := ea
    subst ea
    have e3 := uniq hm hma
    have e4 : vs = [.str (T p.1) u1, .str (T p.2) u2] := by
      unfold listObj at e3
      injection e3 with _ _ e5
      injection e5 with e5
      have := congrArg Array.toList e5
      simpa using this
    subst e4
    cases hi with
    | cons q _ => obtain ⟨_, _, _, e6, _⟩ := q; cases e6
  have hadd : addEnd (init ++ [last]) e = init ++ [last ++ [(e, e)]] := by unfold addEnd; simp
  rw [hadd]
  refine All2.snoc (ha0.mono fun v row hv hrow => ?_) ⟨r, k + 1, _, rfl, h2, (hi.mono fun _ _ _ q => hit q).snoc ⟨i, t1, t2, rfl, h1⟩⟩
  obtain ⟨r', n', vs', rfl, hm', hi'⟩ := hrow
  refine ⟨r', n', vs', rfl, h3 _ hm' fun er => ?_, hi'.mono fun _ _ _ q => hit q⟩
  have er : r' = r := er
  subst er
  exact absurd rfl ((List.nodup_append.mp hy).2.2 _ hv _ (by simp))
section
variable {prog : Program} {w : World} {h : Heap} {A : Around} {E : Value → Shared → Prop}
  {g : Array GenState} {d : Drawn} {tk : Nat} {os : OsState}
theorem stmt {prog : Program} {w : World} {A : Around} {E : Value → Shared → Prop} {st : Stmt} {rest : List Stmt} {env : Env} {s : Shared} {Q : Flow → Shared → Prop}
    (h : wpAny (model prog w) A (exec st env) (fun f s' => match f with | .next => wpAny (model prog w) A (execs rest env) Q E s' | f => Q f s') E s) : wpAny (model prog w) A (execs (st :: rest) env) Q E s := by
  refine wpAny_execs_cons ?_
  exact h
theorem law_spec {sc : Addr} {vs : List Value} {ns : List Int} {k : Nat} {Q : Value → Shared → Prop} (H0 : TopF h) (HC : TopF (cut h)) (U : TopU (cut h)) (e57 : h.get? 57 = some (PySem.W.tabObj #[])) (G : AllBare g) (R : Rm A 12) (hs : h.get? sc = some (listObj vs k)) (hv : IV vs ns) (hl : vs.length ≤ 1000)
    (q : ∀ h' tk' g' ps', Keep (cut h) h' → h'.get? 57 = some (PySem.W.tabObj ps') → AllBare g' → Q (.bool true) ⟨h', g', d, tk', os⟩) :
    wpAny (model prog w) A (call (.ref 213) [.ref sc]) Q E ⟨h, g, d, tk, os⟩ := by
  have hsc57 : sc ≠ 57 := fun e => by rw [e, e57] at hs; cases hs
  have hsc : (cut h).get? sc = some (listObj vs k) := by rw [cut_other hsc57]; exact hs
  refine enter ["script"] ["number", "front", "root", "ups", "detours", "rows", "parts", "k", "names", "straight", "tails"] (n := 31) (gl := ["sum", "_law_rows", "len", "range", "normpath", "join", "_law_tails", "_law_read", "list"]) (names := ["script", "number", "front", "root", "ups", "detours", "rows", "parts", "k", "names", "straight", "tails"]) (vals := [some (.ref sc), none, none, none, none, none, none, none, none, none, none, none]) H0 R (by walk_at "m in") rfl rfl (fun _ _ _ => rfl) rfl (mkFE (by decide +kernel) (by decide +kernel) (by decide +kernel) (by decide +kernel)) (by decide +kernel) (by decide +kernel) (by decide +kernel) ?_
  intro env L h₁ tk₁ A' R' X hE F0
  have F0 := F0.toCut HC e57
  have R9 : Rm A' 9 := R'.mono (by decide)
  rw [law_eq]
  generalize hl0 : lB 0 = l0
  generalize hl1 : lB 1 = l1
  generalize hl2 : lB 2 = l2
  generalize hl3 : lB 3 = l3
  generalize hl4 : lB 4 = l4
  generalize hl5 : lB 5 = l5
  generalize hl6 : lB 6 = l6
  generalize hl7 : lB 7 = l7
  generalize hl8 : lB 8 = l8
  generalize hl9 : lB 9 = l9
  generalize hl10 : lB 10 = l10
  generalize hl11 : lB 11 = l11
  generalize hl12 : lB 12 = l12
  generalize hl13 : lB 13 = l13
  refine stmt ?_
  refine lawS0 hl0 X R9 hsc hv hl F0 ?_
  intro h₂ tk₂ tn F1
  clear F0
  dsimp only
  refine stmt ?_
  refine lawS1 hl1 X R9 hE F1 ?_
  intro h₃ tk₃ fa ua fvs uvs tr led1 front rt ups hsix hfv huv hfa hua F2
  clear F1
  have P := plain_law ns (ns.take 1).sum hsix
  obtain ⟨pfit, ⟨p0, pr, hpp, hpn, hpw, hpst⟩, ptl, prd, prds, psz1, psz2, psz3, psz4⟩ := P
  have hfl := hfv.len
  have hul := huv.len
  dsimp only
  refine stmt ?_
  refine lawS2 hl2 X R9 F2 ?_
  intro h₄ tk₄ da dvs F3 hdv
  clear F2
  dsimp only
  refine stmt ?_
  refine lawS3 hl3 X R9 hsc hv hl F3 ?_
  intro h₅ tk₅ D ys n ledR F4 hra hyn
  clear F3
  have hrne : rowsF ((ns.take 13).drop 1) ≠ [] := (rowsF_B (by rw [List.length_drop, List.length_take]; (first | exact ar_to (by assumption) _ | lia | omega))).1
  generalize hR0 : rowsF ((ns.take 13).drop 1) = rows0 at *
  obtain ⟨r, kr, rvs, hlast, hrm, hrl, hrD, hrr, hadd⟩ := addEnd_rows F4.nd hra hyn hrne
  have hrl20 : rvs.length ≤ 20 := by
    have := pfit.2 (rows0.getLastD [] ++ [(endT (ns.take 1).sum, endT (ns.take 1).sum)]) (by unfold addEnd; simp)
    have := this.1
    rw [List.length_append, List.length_singleton] at this
    (first | exact ar_to (by assumption) _ | lia | omega)
  have F4' := F4.front (Got.of_mem (List.mem_append_left _ (List.mem_cons_of_mem _ hrm)))
  have gD : Got (((D, listObj ys n) :: ledR ++ ((da, listObj dvs) :: (57, PySem.W.tabObj #[]) :: led1)).filter (fun p => decide (p.1 ≠ r))) D (listObj ys n) := Got.filter .here hrD.symm
  have gRest : ∀ {a : Addr} {o : Obj}, (a, o) ∈ ((da, listObj dvs) :: (57, PySem.W.tabObj #[]) :: led1) → Got (((D, listObj ys n) :: ledR ++ ((da, listObj dvs) :: (57, PySem.W.tabObj #[]) :: led1)).filter (fun p => decide (p.1 ≠ r))) a o := fun {a o} m =>
    Got.filter (Got.of_mem (List.mem_append_right _ m)) (hrr _ m)
  have gda := gRest (a := da) List.mem_cons_self
  have g57 := gRest (a := 57) (List.mem_cons_of_mem _ List.mem_cons_self)
  have gfa := gRest (List.mem_cons_of_mem _ (List.mem_cons_of_mem _ hfa.mem))
  have gua := gRest (List.mem_cons_of_mem _ (List.mem_cons_of_mem _ hua.mem))
  have gAll : ∀ p ∈ ledR, p.1 ≠ r → p ∈ (((D, listObj ys n) :: ledR ++ ((da, listObj dvs) :: (57, PySem.W.tabObj #[]) :: led1)).filter (fun p => decide (p.1 ≠ r))) := fun p m ne =>
    List.mem_filter.mpr ⟨List.mem_append_left _ (List.mem_cons_of_mem _ m), by simpa using ne⟩
  clear F4 gRest
  generalize (((D, listObj ys n) :: ledR ++ ((da, listObj dvs) :: (57, PySem.W.tabObj #[]) :: led1)).filter (fun p => decide (p.1 ≠ r))) = ledF at *
  dsimp only
  refine stmt ?_
  refine lawS4 hl4 X R9 F4' gD hlast (by (first | exact ar_to (by assumption) _ | lia | omega)) ?_
  intro h₆ tk₆ i t1 t2 F5
  clear F4'
  have hRows : All2 (RowAt ((i, listObj [.str (T (endT (ns.take 1).sum)) t1, .str (T (endT (ns.take 1).sum)) t2]) :: (r, listObj (rvs ++ [.ref i]) (kr + 1)) :: ledF)) ys (addEnd rows0 (endT (ns.take 1).sum)) :=
    hadd i _ t1 t2 _ List.mem_cons_self (List.mem_cons_of_mem _ List.mem_cons_self) (fun p m ne => List.mem_cons_of_mem _ (List.mem_cons_of_mem _ (gAll p m ne)))
  have gD := (gD.there (p := (r, listObj (rvs ++ [.ref i]) (kr + 1)))).there (p := (i, listObj [.str (T (endT (ns.take 1).sum)) t1, .str (T (endT (ns.take 1).sum)) t2]))
  have gda := (gda.there (p := (r, listObj (rvs ++ [.ref i]) (kr + 1)))).there (p := (i, listObj [.str (T (endT (ns.take 1).sum)) t1, .str (T (endT (ns.take 1).sum)) t2]))
  have g57 := (g57.there (p := (r, listObj (rvs ++ [.ref i]) (kr + 1)))).there (p := (i, listObj [.str (T (endT (ns.take 1).sum)) t1, .str (T (endT (ns.take 1).sum)) t2]))
  have gfa := (gfa.there (p := (r, listObj (rvs ++ [.ref i]) (kr + 1)))).there (p := (i, listObj [.str (T (endT (ns.take 1).sum)) t1, .str (T (endT (ns.take 1).sum)) t2]))
  have gua := (gua.there (p := (r, listObj (rvs ++ [.ref i]) (kr + 1)))).there (p := (i, listObj [.str (T (endT (ns.take 1).sum)) t1, .str (T (endT (ns.take 1).sum)) t2]))
  clear hadd gAll
  generalize hL4 : ((i, listObj [.str (T (endT (ns.take 1).sum)) t1, .str (T (endT (ns.take 1).sum)) t2]) :: (r, listObj (rvs ++ [.ref i]) (kr + 1)) :: ledF) = led4 at *
  generalize hnum : (ns.take 1).sum = num at *
  generalize hrowsG : addEnd rows0 (endT num) = rows at *
  dsimp only
  refine stmt ?_
  refine lawS5 hl5 X R9 (by (first | exact ar_to (by assumption) _ | lia | omega)) F5 gfa ?_
  intro h₇ tk₇ pa c F6
  clear F5
  dsimp only
  refine stmt ?_
  refine lawS6 hl6 X R9 hsc hv hl gda hdv gD hRows pfit hfv (by (first | exact ar_to (by assumption) _ | lia | omega)) F6 ?_
  intro h₈ tk₈ vk pvs c' F7 hpv
  clear F6
  have hpl := hpv.len
  have hfit1 := pfit.1
  rw [List.length_append, partsN_len] at hpl
  dsimp only
  refine stmt ?_
  refine lawS7 hl7 X R9 (by (first | exact ar_to (by assumption) _ | lia | omega)) (by (first | exact ar_to (by assumption) _ | lia | omega)) F7 gda hdv ?_
  intro h₉ tk₉ t9 F8
  clear F7
  have hparts : TV (pvs ++ [.str (T (detL.getD (num / 6 % 7).toNat [])) t9]) (p0 :: pr) := by
    rw [← hpp]; exact hpv.snoc
  dsimp only
  refine stmt ?_
  refine lawS8 hl8 X R9 hE (gD.there) (hRows.mono fun _ _ _ y => y.more fun x m => List.mem_cons_of_mem _ m) pfit F8 ?_
  intro h₁₀ tk₁₀ na nvs m F9 hnv
  clear F8
  dsimp only
  refine stmt ?_
  refine lawS9 hl9 X R9 hE (.there .here) hparts hpn hpw F9 ?_
  intro h₁₁ tk₁₁ ts F10
  clear F9
  rw [hpst] at F10
  have hstl := prds.1
  dsimp only
  refine stmt ?_
  refine lawS10 hl10 X R9 (by (first | exact ar_to (by assumption) _ | lia | omega)) F10 ?_
  intro h₁₂ tk₁₂ ta tvs F11 htv
  clear F10
  rw [ptl] at htv
  have hrows20 : (rows.map pOf).length ≤ 20 := by rw [List.length_map]; exact hfit1
  dsimp only
  refine stmt ?_
  refine lawS11 hl11 X R9 (gua.there.there.there) huv .here htv (by (first | exact ar_to (by assumption) _ | lia | omega)) (by (first | exact ar_to (by assumption) _ | lia | omega)) F11 ?_
  intro h₁₃ tk₁₃ F12
  clear F11
  have F13 := F12.front (a := 57) (g57.there.there.there)
  have n57 : ∀ {a : Addr} {vs : List Value} {n : Nat}, Got ((ta, listObj tvs) :: (na, listObj nvs m) :: (pa, listObj (pvs ++ [.str (T (detL.getD (num / 6 % 7).toNat [])) t9]) (c' + 1)) :: led4) a (listObj vs n) →
      Got (((ta, listObj tvs) :: (na, listObj nvs m) :: (pa, listObj (pvs ++ [.str (T (detL.getD (num / 6 % 7).toNat [])) t9]) (c' + 1)) :: led4).filter (fun p => decide (p.1 ≠ 57))) a (listObj vs n) := fun gx => gx.filter (Fm.ne57 F12 gx (g57.there.there.there))
  have gua := n57 (gua.there.there.there)
  have gta := n57 (a := ta) .here
  have gna := n57 (a := na) (.there .here)
  clear n57 F12
  have T13 : Tb lamPos lqT h₁₃ #[] := ⟨F13.get .here, trivial, fun c' e => by simp [codeAmong] at e⟩
  dsimp only
  refine stmt ?_
  refine lawS12 hl12 X R9 U T13 G gua huv gta htv gna hnv (by (first | exact ar_to (by assumption) _ | lia | omega)) (by (first | exact ar_to (by assumption) _ | lia | omega)) prd F13 ?_
  intro h₁₄ tk₁₄ g₁₄ ps₁₄ F14 T14 G14
  clear F13
  dsimp only
  refine stmt ?_
  refine lawS13 hl13 X R9 U T14 G14 gua huv gna hnv (by (first | exact ar_to (by assumption) _ | lia | omega)) (by rw [List.length_map]; (first | exact ar_to (by assumption) _ | lia | omega)) prds psz4 psz3 F14 ?_
  intro h₁₅ tk₁₅ g₁₅ ps₁₅ K T15 G15
  exact q _ _ _ _ K T15.here G15
end
end

section
/-! what the head knows of the top -/
theorem cut_keep (h : Heap) : Keep (cut h) h := fun b o e => by
  by_cases hb : b = 57
  · subst hb; rw [cut_57] at e; cases e
  · rwa [cut_other hb] at e
theorem get_cut {h : Heap} {t : PySem.W.X.KT} (H : PySem.W.X.KT.Holds h 1 0 t) {a : Addr} {o : Obj} (e : t.get a = some o) (ne : a ≠ 57) : (cut h).get? a = some o := by
  rw [cut_other ne]; exact PySem.W.X.kt_at H e
theorem ns_cut {h : Heap} {a : Addr} {m : Str → Option Value} (x : h.Ns a m) (ne : a ≠ 57) : (cut h).Ns a m :=
  by obtain ⟨o, es, ep, e, r⟩ := x; exact ⟨o, es, ep, by rw [cut_other ne]; exact e, r⟩
theorem fn_of {h : Heap} {t : PySem.W.X.KT} (H : PySem.W.X.KT.Holds h 1 0 t) {a n c : Nat} {o oc : Obj} {fd : FuncData} {vs : Array Value} {tq : Tok} (e : t.get a = some o) (hd : o.data = .func fd)
    (hf : fd = docDef (fName n) (fParams n) (fBody n) (fScope n) fd.pyModule (.ref c) fd.doc) (ec : t.get c = some oc) (hv : oc.data = .fields vs) (hq : vs[1]? = some (.str (fName n) tq)) (ne : a ≠ 57) (nc : c ≠ 57) : FnAt (cut h) a n :=
  ⟨o, fd.pyModule, c, fd.doc, get_cut H e ne, hd.trans (congrArg Data.func hf), c, oc, vs, tq, rfl, get_cut H ec nc, hv, hq⟩
noncomputable def escArr : Array DictEntry := (escL.zipIdx.map fun x => ({ hash := x.1, key := .int x.1 (330 + 6 * x.2), val := .str (T [92, x.1]) (334 + 6 * x.2) } : DictEntry)).toArray
noncomputable def escO : Obj := { cls := .type "dict", data := .dict escArr 24 }
noncomputable def escB (c : Nat) : Bool := match findBy Value.isInt escArr (c : Int) with
  | some (.str x _) => decide (c ∈ escL) && decide (x = T [92, c])
  | none => decide (c ∉ escL)
  | _ => false
theorem escB_all : ∀ c < 128, escB c = true := by decide +kernel
noncomputable def escK (e : DictEntry) : Bool := match e.key with
  | .int k _ => decide (e.hash = hashInt k)
  | _ => false
theorem escK_all : escArr.toList.all escK = true := by decide +kernel
theorem escTab_of {h : Heap} (e : h.get? 45 = some escO) : EscTab h := by
  refine ⟨fun k => findBy Value.isInt escArr k, fun prog w => ⟨_, _, _, e, ⟨rfl, rfl, rfl⟩, rfl, fun x hx => ?_, fun k => rfl⟩, fun c hc => ?_⟩
  · have h1 := List.all_eq_true.mp escK_all x (Array.mem_toList_iff.mpr hx)
    unfold escK at h1
    split at h1
    · rename_i k tk ek
      exact ⟨k, by rw [ek]; show Value.isInt k (.int k tk) = true; simp [Value.isInt], of_decide_eq_true h1⟩
    · cases h1
  · have h1 := escB_all c hc
    unfold escB at h1
    split at h1
    · rename_i x t ex
      rw [Bool.and_eq_true] at h1
      have h2 := of_decide_eq_true h1.1
      have h3 := of_decide_eq_true h1.2
      exact .inl ⟨h2, t, by rw [h3] at ex; exact ex⟩
    · rename_i ex
      exact .inr ⟨of_decide_eq_true h1, ex⟩
    · cases h1
noncomputable def codVs : Array Value := #[.str (T [95, 116, 114, 97, 110, 115, 108, 97, 116, 101]) 484, .str (T [95, 116, 114, 97, 110, 115, 108, 97, 116, 101]) 485, .str (T [47, 99, 108, 97, 105, 109, 47, 99, 117, 116, 46, 112, 121]) 486,
  .int 15 0, .int 3 0, .int 0 0, .int 0 0, .int 3 0, .ref 56, .bool true, .int 276 0, .ref 57, .none, .ref 58, .ref 59, .ref 60, .int 500 0, .int 15 0, .str (T [47, 99, 108, 97, 105, 109, 47, 99, 117, 116, 46, 112, 121]) 501]
noncomputable def codO : Obj := { cls := .type "code", data := .fields codVs }
theorem codeSt_of {h : Heap} (e : h.get? 61 = some codO) : CodeSt h ∧ PySem.W.CodeHd h 61 57 :=
  ⟨⟨codO, codVs, _, _, _, _, _, _, _, e, rfl, rfl, rfl, rfl, rfl, rfl, rfl, rfl⟩, ⟨codO, codVs, _, _, _, _, _, _, _, e, rfl, rfl, rfl, rfl, rfl, rfl, rfl, rfl, by decide⟩⟩
theorem codeRec_of {h : Heap} (e : h.get? 61 = some codO) : h.CodeRec (.ref 61) (fName 7) := ⟨61, codO, codVs, 485, rfl, e, rfl, by with_unfolding_all rfl⟩
theorem tra_of {h : Heap} {o : Obj} {fd : FuncData} (e : h.get? 62 = some o) (hd : o.data = .func fd)
    (hf : fd = docDef (fName 7) (fParams 7) (fBody 7) (fScope 7) fd.pyModule (.ref 61) fd.doc) (ec : h.get? 61 = some codO) : TrAt h :=
  ⟨o, fd.pyModule, fd.doc, e, hd.trans (congrArg Data.func hf), codeRec_of ec⟩
theorem rm_caller : Rm callerA 12 := ⟨rfl, by decide +kernel, by decide +kernel⟩
theorem iv_of {vs : List Value} {ns : List Int} (h : IntsAre vs ns) : IV vs ns := by
  induction h with
  | nil => exact .nil
  | cons n t _ ih => exact .cons ⟨t, rfl⟩ ih
theorem oldK_of {h h' : Heap} {ps' : Array Value} (e : h.get? 57 = some (PySem.W.tabObj #[])) (hc : isCodeTable h 57) (k : Keep (cut h) h') (e' : h'.get? 57 = some (PySem.W.tabObj ps')) : OldK h h' := by
  refine ⟨fun b o eb => ?_, fun b o eb => ?_⟩
  · by_cases hb : b = 57
    · subst hb
      rw [e] at eb; cases eb
      exact .inr (.inl ⟨hc, rfl, #[], ps', rfl, by rw [e']; simp [PySem.W.tabObj]⟩)
    · exact .inl (k b o (by rw [cut_other hb]; exact eb))
  · by_cases hb : b = 57
    · subst hb; exact ⟨_, e'⟩
    · exact ⟨o, k b o (by rw [cut_other hb]; exact eb)⟩
end

/-! names that the head need not fill -/
noncomputable def head.tw4154363929692500862 : Nat := 0
noncomputable def head.tw5015311536963163689 : Nat := 0
noncomputable def head.tw17097718393577683390 : Nat := 0
noncomputable def head.tw1196103078216682557 : Nat := 0
noncomputable def head.tw9033115884520675380 : Nat := 0
noncomputable def head.tw6024198346192738183 : Nat := 0
noncomputable def head.tw7329765489698167057 : Nat := 0
noncomputable def head.tw9198962664997412088 : Nat := 0
noncomputable def head.tw10205793480724240784 : Nat := 0
noncomputable def head.tw6212921109956642855 : Nat := 0
noncomputable def head.tw2437478716016495240 : Nat := 0
noncomputable def head.tw9030979908501067730 : Nat := 0
noncomputable def head.tw11820730986300896962 : Nat := 0
noncomputable def head.tw5165731573573916101 : Nat := 0
noncomputable def head.tw18379175249704201485 : Nat := 0
noncomputable def head.tw9449176361245260279 : Nat := 0
noncomputable def head.tw4885112425497105109 : Nat := 0
noncomputable def head.tw2797894973233656403 : Nat := 0
noncomputable def head.tw3405375401864073989 : Nat := 0
noncomputable def head.tw12741294794224977040 : Nat := 0
noncomputable def head.tw11338825007792423415 : Nat := 0
noncomputable def head.tw13357441389134331599 : Nat := 0
noncomputable def head.tw12095829319087573521 : Nat := 0
noncomputable def head.tw14643959010103036307 : Nat := 0
noncomputable def head.tw2483590981736569835 : Nat := 0
noncomputable def head.tw8988664977312594650 : Nat := 0
noncomputable def head.tw16474958459275807246 : Nat := 0
noncomputable def head.tw3368474557548986910 : Nat := 0
noncomputable def head.tw15487638686976844055 : Nat := 0
noncomputable def head.tw5485833197653379195 : Nat := 0
noncomputable def head.tw2641368528265132563 : Nat := 0
noncomputable def head.tw10544064009108086568 : Nat := 0
noncomputable def head.tw17513103129775332898 : Nat := 0
noncomputable def head.tw9251545996854613125 : Nat := 0
noncomputable def head.tw7873374376366092466 : Nat := 0
noncomputable def head.tw12327391423119875794 : Nat := 0
noncomputable def head.tw940147379719373870 : Nat := 0
noncomputable def head.tw16903022960794457021 : Nat := 0
noncomputable def head.tw1939405473400901271 : Nat := 0
noncomputable def head.tw6402496994288996404 : Nat := 0
noncomputable def head.tw1588943658860677225 : Nat := 0
noncomputable def head.tw12328230846540189838 : Nat := 0
noncomputable def head.tw13349887611470776335 : Nat := 0
noncomputable def head.tw2591067827882107080 : Nat := 0
noncomputable def head.tw6968674436765558698 : Nat := 0
noncomputable def head.tw739537129135343663 : Nat := 0
noncomputable def head.tw14195316510222423288 : Nat := 0
noncomputable def head.tw1134157569726261602 : Nat := 0
noncomputable def head.tw16443408561251100101 : Nat := 0
noncomputable def head.tw7096138990903361605 : Nat := 0
noncomputable def head.tw13276723143375012678 : Nat := 0
noncomputable def head.tw14028522991509751376 : Nat := 0
noncomputable def head.tw4473611206160876864 : Nat := 0
noncomputable def head.tw14637134836413734856 : Nat := 0
noncomputable def head.tw11709247114249697940 : Nat := 0
noncomputable def head.tw15193194302506122181 : Nat := 0
noncomputable def head.tw16078238667976319046 : Nat := 0
noncomputable def head.tw5617373736292572815 : Nat := 0
noncomputable def head.tw2545145822199252752 : Nat := 0
noncomputable def head.tw11923155195566972133 : Nat := 0
noncomputable def head.tw2066564036433440168 : Nat := 0
noncomputable def head.tw7688317290187622652 : Nat := 0
noncomputable def head.tw17486074103640542121 : Nat := 0
noncomputable def head.tw11063524718261073790 : Nat := 0
noncomputable def head.tw13600378441667735501 : Nat := 0
noncomputable def head.tw3995774739199527822 : Nat := 0
noncomputable def head.tw1575233056930134442 : Nat := 0
noncomputable def head.tw13002585709282622103 : Nat := 0
noncomputable def head.tw12214093580764582487 : Nat := 0
noncomputable def head.tw17265401458761052179 : Nat := 0
noncomputable def head.tw140066278072042493 : Nat := 0
noncomputable def head.tw15785421084128741142 : Nat := 0
noncomputable def head.tw5353729903917744248 : Nat := 0
noncomputable def head.tw11921502728821362576 : Nat := 0
noncomputable def head.tw16055944274796611463 : Nat := 0
noncomputable def head.tw12613433811301422364 : Nat := 0
noncomputable def head.tw1643771367246577777 : Nat := 0
noncomputable def head.tw14432977821161478157 : Nat := 0
noncomputable def head.tw15326552575505426906 : Nat := 0
noncomputable def head.tw8035625575855466936 : Nat := 0
noncomputable def head.tw13295082483830516422 : Nat := 0
noncomputable def head.tw1214346256449528893 : Nat := 0
noncomputable def head.tw17113217626458354986 : Nat := 0
noncomputable def head.tw3271325274910284565 : Nat := 0
noncomputable def head.tw14969385696402013904 : Nat := 0
noncomputable def head.tw527386997569798941 : Nat := 0
noncomputable def head.tw13620187042125375733 : Nat := 0
noncomputable def head.tw1970811146720035896 : Nat := 0
noncomputable def head.tw16966009324859112401 : Nat := 0
noncomputable def head.tw7551999263953989387 : Nat := 0
noncomputable def head.tw6536181036136497285 : Nat := 0
noncomputable def head.tw1503407388533364548 : Nat := 0
noncomputable def head.tw12428389735305899900 : Nat := 0
noncomputable def head.tw10389290468125465742 : Nat := 0
noncomputable def head.tw7287109101882759415 : Nat := 0
noncomputable def head.tw5274623360512300857 : Nat := 0
noncomputable def head.tw5874639182527098836 : Nat := 0
noncomputable def head.tw1687793838685487538 : Nat := 0
noncomputable def head.tw7272792461964422541 : Nat := 0
noncomputable def head.tw17188972718952451159 : Nat := 0
noncomputable def head.tw5761143379720292478 : Nat := 0
noncomputable def head.tw9065935926736091543 : Nat := 0
noncomputable def head.tw5697773043789114877 : Nat := 0
noncomputable def head.tw11582096051123008839 : Nat := 0
noncomputable def head.tw1082313596108445148 : Nat := 0
noncomputable def head.tw10748227973586771634 : Nat := 0
noncomputable def head.tw708152393587867187 : Nat := 0
noncomputable def head.tw14882813523228863612 : Nat := 0
noncomputable def head.tw5096742575497195690 : Nat := 0
noncomputable def head.tw14597329475937083939 : Nat := 0
noncomputable def head.tw14234965402570480558 : Nat := 0
noncomputable def head.tw4139743521699918326 : Nat := 0
noncomputable def head.tw10948677003083999065 : Nat := 0
noncomputable def head.tw11715283913529211631 : Nat := 0
noncomputable def head.tw17849114369824339471 : Nat := 0
noncomputable def head.tw15656768269340197940 : Nat := 0
noncomputable def head.tw1224924573807776437 : Nat := 0
noncomputable def head.tw17821319399108415887 : Nat := 0
noncomputable def head.tw1935634263752387805 : Nat := 0
noncomputable def head.tw7734086686654790897 : Nat := 0
noncomputable def head.tw807142644699662319 : Nat := 0
noncomputable def head.tw8216834362191484069 : Nat := 0
noncomputable def head.tw16106133796442146334 : Nat := 0
noncomputable def head.tw9083612298779875492 : Nat := 0
noncomputable def head.tw16545597347906280737 : Nat := 0
noncomputable def head.tw1489404036187247834 : Nat := 0
noncomputable def head.tw5038994553942263901 : Nat := 0
noncomputable def head.tw2825341998796452840 : Nat := 0
noncomputable def head.tw10521553517811329670 : Nat := 0
noncomputable def head.tw13227620805987009915 : Nat := 0
noncomputable def head.tw4273228799998304602 : Nat := 0
noncomputable def head.tw4543076655600059902 : Nat := 0
noncomputable def head.tw2907111362388958804 : Nat := 0
noncomputable def head.tw10900948863051656163 : Nat := 0
noncomputable def head.tw17539234302018041193 : Nat := 0
noncomputable def head.tw693309671712327132 : Nat := 0
noncomputable def head.tw6891450509433485068 : Nat := 0

end Mine

open PySem PySem.W PySem.W.X PySem.W.ZRun PyProof.Rows PySem.Calls Mine
set_option Elab.async true in
set_option maxRecDepth 100000 in
set_option maxHeartbeats 0 in
theorem Mine.head : PySem.Challenge.rw_rx0108_01.Holds := by
  w_on; o_law; z_head; (case hw => w_witness2)
  k_fill
  intro w s₀ s₁ mg mb G y fa o pm cd doc dV kV ho hd hcd hD hmg hg args vals as L hpre hlay hrd hwl hlo
  z_open y L KX ZH ZN ZT
  refine Ground.open G ?_
  intro T B D TE TW
  wrow_args hpre hlay hrd hwl hlo
  obtain ⟨hat, hsz⟩ := script_at L
  have htk := script_toks L ZT
  rw [ZN] at hat hsz
  subst hat
  x_fa T KX hmg
  all_lens
  have hT : TopF (cut s₁.heap) := by
    refine ⟨⟨mg, mb, ns_cut T.g (by decide), ns_cut T.b (by decide), ?_, ?_⟩, ?_, ?_, ?_, ?_, ?_, ?_⟩
    · intro p hp
      simp only [gTab, List.mem_cons, List.not_mem_nil, or_false] at hp
      rcases hp with rfl | rfl | rfl | rfl | rfl | rfl | rfl | rfl | rfl | rfl | rfl | rfl | rfl | rfl | rfl
      all_goals exact mg_of KX T.g (by kernel_rfl)
    · intro p hp
      simp only [bTab, List.mem_cons, List.not_mem_nil, or_false] at hp
      rcases hp with rfl | rfl | rfl | rfl | rfl | rfl | rfl | rfl | rfl | rfl | rfl | rfl
      all_goals exact ⟨mg_none_of KX T.g (by kernel_rfl), (T.builtins _ (by decide +kernel)).trans (by kernel_rfl)⟩
    · obtain ⟨mc, e1, e2⟩ := T.nolimit
      exact ⟨mc, ns_cut e1 (by decide), e2⟩
    · intro p hp
      simp only [fTab, List.mem_cons, List.not_mem_nil, or_false] at hp
      rcases hp with rfl | rfl | rfl | rfl | rfl | rfl | rfl | rfl | rfl | rfl | rfl | rfl | rfl | rfl
      · exact fn_of ZH (a := 55) (n := 5) (c := 54) rfl rfl (by kernel_rfl) rfl rfl (by with_unfolding_all rfl) (by decide) (by decide)
      · exact fn_of ZH (a := 62) (n := 7) (c := 61) rfl rfl (by kernel_rfl) rfl rfl (by with_unfolding_all rfl) (by decide) (by decide)
      · exact fn_of ZH (a := 135) (n := 16) (c := 134) rfl rfl (by kernel_rfl) rfl rfl (by with_unfolding_all rfl) (by decide) (by decide)
      · exact fn_of ZH (a := 149) (n := 20) (c := 148) rfl rfl (by kernel_rfl) rfl rfl (by with_unfolding_all rfl) (by decide) (by decide)
      · exact fn_of ZH (a := 156) (n := 21) (c := 155) rfl rfl (by kernel_rfl) rfl rfl (by with_unfolding_all rfl) (by decide) (by decide)
      · exact fn_of ZH (a := 163) (n := 22) (c := 162) rfl rfl (by kernel_rfl) rfl rfl (by with_unfolding_all rfl) (by decide) (by decide)
      · exact fn_of ZH (a := 170) (n := 23) (c := 169) rfl rfl (by kernel_rfl) rfl rfl (by with_unfolding_all rfl) (by decide) (by decide)
      · exact fn_of ZH (a := 177) (n := 24) (c := 176) rfl rfl (by kernel_rfl) rfl rfl (by with_unfolding_all rfl) (by decide) (by decide)
      · exact fn_of ZH (a := 184) (n := 26) (c := 183) rfl rfl (by kernel_rfl) rfl rfl (by with_unfolding_all rfl) (by decide) (by decide)
      · exact fn_of ZH (a := 189) (n := 27) (c := 188) rfl rfl (by kernel_rfl) rfl rfl (by with_unfolding_all rfl) (by decide) (by decide)
      · exact fn_of ZH (a := 196) (n := 28) (c := 195) rfl rfl (by kernel_rfl) rfl rfl (by with_unfolding_all rfl) (by decide) (by decide)
      · exact fn_of ZH (a := 201) (n := 29) (c := 200) rfl rfl (by kernel_rfl) rfl rfl (by with_unfolding_all rfl) (by decide) (by decide)
      · exact fn_of ZH (a := 208) (n := 30) (c := 207) rfl rfl (by kernel_rfl) rfl rfl (by with_unfolding_all rfl) (by decide) (by decide)
      · exact fn_of ZH (a := 213) (n := 31) (c := 212) rfl rfl (by kernel_rfl) rfl rfl (by with_unfolding_all rfl) (by decide) (by decide)
    · exact escTab_of (get_cut ZH (a := 45) (o := escO) (by kernel_rfl) (by decide))
    · exact ⟨get_cut ZH (a := 43) (o := patO) (by kernel_rfl) (by decide), get_cut ZH (a := 42) (o := patC) (by kernel_rfl) (by decide)⟩
    · exact (codeSt_of (get_cut ZH (a := 61) (o := codO) (by kernel_rfl) (by decide))).1
    · exact tra_of (get_cut ZH (a := 62) rfl (by decide)) rfl (by kernel_rfl) (get_cut ZH (a := 61) (o := codO) (by kernel_rfl) (by decide))
  have h57 : s₁.heap.get? 57 = some (tabObj #[]) := kt_at ZH (a := 57) (o := tabObj #[]) (by kernel_rfl)
  have hU : TopU (cut s₁.heap) := by
    refine ⟨⟨mg, ns_cut T.g (by decide), ?_⟩, (codeSt_of (get_cut ZH (a := 61) (o := codO) (by kernel_rfl) (by decide))).2⟩
    obtain ⟨bm, ob, e1, e2, e3, e4, e5, e6⟩ := T.bmain
    have hbm : bm ≠ 57 := fun e => by rw [e, h57] at e3; cases e3; cases e4
    have hbg : bm ≠ mainGlobals := fun e => by
      obtain ⟨og, es, ep, g1, g2, _⟩ := T.g
      rw [← e, e3] at g1; cases g1
      rw [e6] at g2; cases g2
    exact ⟨bm, ob, e1, e2, hbg, hbm, by rw [cut_other hbm]; exact e3, e4, e5, e6⟩
  have hLst : ∃ vs : List Value, ∃ ns : List Int, s₁.heap.get? 214 = some (listObj vs) ∧ IV vs ns ∧ vs.length ≤ 1000 := by
    refine ⟨_, _, script_obj L (by assumption), iv_of (by assumption), ?_⟩
    (first | exact ar_to (by assumption) _ | lia | omega)
  obtain ⟨vs, ns, hs, hv, hl⟩ := hLst
  have hcode : isCodeTable s₁.heap 57 := ⟨61, codO, codVs, kt_at ZH (a := 61) (o := codO) (by kernel_rfl), rfl, rfl, rfl⟩
  have hB : AllBare s₁.gens := by rw [hg]; exact AllBare.empty
  refine law_spec (h := s₁.heap) (g := s₁.gens) (d := s₁.drawn) (tk := s₁.toks) (os := s₁.os) (hT.keep (cut_keep _)) hT hU h57 hB rm_caller hs hv hl ?_
  intro h' tk' g' ps' K e' G'
  exact ⟨.inl ⟨_, _, [], rfl, (fun _ => rfl), ReadsW.bool true, (by first | rfl | wrow_post), fun _ => ⟨List.nodup_nil, fun _ hm => (nomatch hm)⟩⟩, oldK_of h57 hcode K e', rfl, G'⟩

theorem PySem.Challenge.cw_rx0108_01_holds : PySem.Challenge.rw_rx0108_01.Holds := by
  exact Mine.head
