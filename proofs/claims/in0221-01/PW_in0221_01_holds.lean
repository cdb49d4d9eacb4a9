import PyProof.Rows.All
import Wide.All
import OpenK.AllK
import Wide.FinOn
import PyProof.IsiBase
import Lean
import PySem.Challenge.RW_in0221_01
set_option linter.unusedVariables false
set_option Elab.async false
set_option maxRecDepth 100000
-- LN
section
namespace Mine
/-! linear facts of numbers, by a row of factors that the kernel adds up -/
/-- a linear term: a number, the i-th part, a sum, a multiple -/
inductive Lx | n (c : Nat) | a (i : Nat) | p (x y : Lx) | m (c : Nat) (x : Lx) | r (x : Lx) (c : Nat)
noncomputable def nth (v : List Nat) : Nat → Nat := @List.rec Nat (fun _ => Nat → Nat) (fun _ => 0) (fun x _ f i => @Nat.rec (fun _ => Nat) x (fun j _ => f j) i) v
noncomputable abbrev Lx.ev (v : List Nat) (e : Lx) : Nat := @Lx.rec (fun _ => Nat) (fun c => c) (fun i => nth v i) (fun _ _ a b => a + b) (fun c _ a => c * a) (fun _ c a => a * c) e
noncomputable def Lx.k (e : Lx) : Nat := @Lx.rec (fun _ => Nat) (fun c => c) (fun _ => 0) (fun _ _ a b => Nat.add a b) (fun c _ a => Nat.mul c a) (fun _ c a => Nat.mul a c) e
noncomputable def Lx.c (i : Nat) (e : Lx) : Nat := @Lx.rec (fun _ => Nat) (fun _ => 0) (fun j => @Bool.rec (fun _ => Nat) 0 1 (Nat.beq i j)) (fun _ _ a b => Nat.add a b) (fun c _ a => Nat.mul c a) (fun _ c a => Nat.mul a c) e
/-- facts, each with its factor, and the goal behind them: h ≤, l <, e =, f = turned, n not ≤, o not <; g ≤, j <, z none -/
inductive Ls | h (c : Nat) (x y : Lx) (r : Ls) | l (c : Nat) (x y : Lx) (r : Ls) | e (c : Nat) (x y : Lx) (r : Ls) | f (c : Nat) (x y : Lx) (r : Ls) | n (c : Nat) (x y : Lx) (r : Ls) | o (c : Nat) (x y : Lx) (r : Ls)
  | g (c : Nat) (x y : Lx) | j (c : Nat) (x y : Lx) | z
noncomputable abbrev Ls.Cur (v : List Nat) (s : Ls) : Prop := @Ls.rec (fun _ => Prop) (fun _ x y _ q => x.ev v ≤ y.ev v → q) (fun _ x y _ q => x.ev v < y.ev v → q) (fun _ x y _ q => x.ev v = y.ev v → q) (fun _ x y _ q => x.ev v = y.ev v → q)
  (fun _ x y _ q => ¬ x.ev v ≤ y.ev v → q) (fun _ x y _ q => ¬ x.ev v < y.ev v → q) (fun _ x y => x.ev v ≤ y.ev v) (fun _ x y => x.ev v < y.ev v) False s
noncomputable def Ls.A (s : Ls) : Lx := @Ls.rec (fun _ => Lx) (fun c x _ _ q => .p (.m c x) q) (fun c x _ _ q => .p (.m c (.p x (.n 1))) q) (fun c x _ _ q => .p (.m c x) q) (fun c _ y _ q => .p (.m c y) q)
  (fun c _ y _ q => .p (.m c (.p y (.n 1))) q) (fun c _ y _ q => .p (.m c y) q) (fun c _ y => .m c (.p y (.n 1))) (fun c _ y => .m c y) (.n 0) s
noncomputable def Ls.B (s : Ls) : Lx := @Ls.rec (fun _ => Lx) (fun c _ y _ q => .p (.m c y) q) (fun c _ y _ q => .p (.m c y) q) (fun c _ y _ q => .p (.m c y) q) (fun c x _ _ q => .p (.m c x) q)
  (fun c x _ _ q => .p (.m c x) q) (fun c x _ _ q => .p (.m c x) q) (fun c x _ => .m c x) (fun c x _ => .m c x) (.n 0) s
noncomputable def Lx.bel (B A : Lx) (v : List Nat) : Nat → Bool := @List.rec Nat (fun _ => Nat → Bool) (fun _ => true) (fun _ _ f i => @Bool.rec (fun _ => Bool) false (f (Nat.succ i)) (Nat.ble (B.c i) (A.c i))) v
noncomputable def Ls.ok (v : List Nat) (s : Ls) : Bool := @Bool.rec (fun _ => Bool) false (Lx.bel s.B s.A v 0) (Nat.ble (Nat.succ s.B.k) s.A.k)

noncomputable def dot (f : Nat → Nat) (v : List Nat) : Nat → Nat := @List.rec Nat (fun _ => Nat → Nat) (fun _ => 0) (fun x _ q i => f i * x + q (i + 1)) v
theorem dot_add (f g : Nat → Nat) : ∀ (v : List Nat) (i : Nat), dot (fun i => f i + g i) v i = dot f v i + dot g v i := by
  intro v
  induction v with
  | nil => intro i; rfl
  | cons x v ih =>
    intro i
    show (f i + g i) * x + dot _ v (i + 1) = (f i * x + dot f v (i + 1)) + (g i * x + dot g v (i + 1))
    rw [ih, Nat.add_mul]; omega
theorem dot_mul (c : Nat) (f : Nat → Nat) : ∀ (v : List Nat) (i : Nat), dot (fun i => c * f i) v i = c * dot f v i := by
  intro v
  induction v with
  | nil => intro i; rfl
  | cons x v ih =>
    intro i
    show (c * f i) * x + dot _ v (i + 1) = c * (f i * x + dot f v (i + 1))
    rw [ih, Nat.mul_add, Nat.mul_assoc]
theorem dot_zero : ∀ (v : List Nat) (i : Nat), dot (fun _ => 0) v i = 0 := by
  intro v
  induction v with
  | nil => intro i; rfl
  | cons x v ih =>
    intro i
    show 0 * x + dot _ v (i + 1) = 0
    rw [ih, Nat.zero_mul]
theorem dot_one (j : Nat) : ∀ (v : List Nat) (i : Nat), dot (fun i => Lx.c i (.a j)) v i = if i ≤ j then nth v (j - i) else 0 := by
  intro v
  induction v with
  | nil => intro i; simp [dot, nth]
  | cons x v ih =>
    intro i
    show Lx.c i (.a j) * x + dot _ v (i + 1) = _
    rw [ih]
    show (@Bool.rec (fun _ => Nat) 0 1 (Nat.beq i j)) * x + _ = _
    rcases Nat.lt_trichotomy i j with h | h | h
    · have e : Nat.beq i j = false := by
        cases q : Nat.beq i j with
        | false => rfl
        | true => have := Nat.eq_of_beq_eq_true q; omega
      obtain ⟨d, hd⟩ : ∃ d, j - i = d + 1 := ⟨j - i - 1, by omega⟩
      rw [e, if_pos (by omega), if_pos (by omega), hd, show j - (i + 1) = d by omega]
      show 0 * x + nth v d = nth (x :: v) (d + 1)
      rw [Nat.zero_mul, Nat.zero_add]; rfl
    · subst h
      rw [Nat.beq_refl, if_neg (by omega), if_pos (Nat.le_refl _), Nat.sub_self]
      show 1 * x + 0 = x
      omega
    · have e : Nat.beq i j = false := by
        cases q : Nat.beq i j with
        | false => rfl
        | true => have := Nat.eq_of_beq_eq_true q; omega
      rw [e, if_neg (by omega), if_neg (by omega)]
      show 0 * x + 0 = 0
      omega
theorem Lx.ev_eq (v : List Nat) : ∀ e : Lx, e.ev v = e.k + dot (fun i => e.c i) v 0 := by
  intro e
  induction e with
  | n c => show c = c + dot (fun _ => 0) v 0; rw [dot_zero]; rfl
  | a j => show nth v j = 0 + dot (fun i => Lx.c i (.a j)) v 0; rw [dot_one]; simp
  | p x y hx hy => show x.ev v + y.ev v = (x.k + y.k) + dot (fun i => x.c i + y.c i) v 0; rw [dot_add, hx, hy]; omega
  | m c x hx => show c * x.ev v = (c * x.k) + dot (fun i => c * x.c i) v 0; rw [dot_mul, hx, Nat.mul_add]
  | r x c hx => show x.ev v * c = (x.k * c) + dot (fun i => x.c i * c) v 0; rw [show (fun i => x.c i * c) = fun i => c * x.c i from funext fun i => Nat.mul_comm _ _, dot_mul, hx, Nat.add_mul, Nat.mul_comm c]
theorem Lx.bel_le {B A : Lx} : ∀ (v : List Nat) (i : Nat), Lx.bel B A v i = true → dot (fun i => B.c i) v i ≤ dot (fun i => A.c i) v i := by
  intro v
  induction v with
  | nil => intro i _; exact Nat.le_refl _
  | cons x v ih =>
    intro i h
    have h' : @Bool.rec (fun _ => Bool) false (Lx.bel B A v (Nat.succ i)) (Nat.ble (B.c i) (A.c i)) = true := h
    cases q : Nat.ble (B.c i) (A.c i) with
    | false => rw [q] at h'; cases h'
    | true =>
      rw [q] at h'
      exact Nat.add_le_add (Nat.mul_le_mul_right x (Nat.le_of_ble_eq_true q)) (ih (i + 1) h')
/-- not all facts hold, or the goal does -/
theorem lin (v : List Nat) (s : Ls) (h : s.ok v = true) : s.Cur v := by
  have hlt : s.B.ev v < s.A.ev v := by
    unfold Ls.ok at h
    cases q : Nat.ble (Nat.succ s.B.k) s.A.k with
    | false => rw [q] at h; cases h
    | true =>
      rw [q] at h
      rw [Lx.ev_eq v s.B, Lx.ev_eq v s.A]
      have := Lx.bel_le v 0 h
      have := Nat.le_of_ble_eq_true q
      omega
  have key : ∀ s : Ls, (s.A.ev v ≤ s.B.ev v → False) → s.Cur v := by
    intro s
    induction s with
    | h c x y r ih => exact fun k q => ih fun e => k (Nat.add_le_add (Nat.mul_le_mul_left c q) e)
    | l c x y r ih => exact fun k q => ih fun e => k (Nat.add_le_add (Nat.mul_le_mul_left c q) e)
    | e c x y r ih => exact fun k q => ih fun e => k (Nat.add_le_add (Nat.mul_le_mul_left c (Nat.le_of_eq q)) e)
    | f c x y r ih => exact fun k q => ih fun e => k (Nat.add_le_add (Nat.mul_le_mul_left c (Nat.le_of_eq q.symm)) e)
    | n c x y r ih => exact fun k q => ih fun e => k (Nat.add_le_add (Nat.mul_le_mul_left c (Nat.gt_of_not_le q)) e)
    | o c x y r ih => exact fun k q => ih fun e => k (Nat.add_le_add (Nat.mul_le_mul_left c (Nat.ge_of_not_lt q)) e)
    | g c x y => exact fun k => Decidable.byContradiction fun q => k (Nat.mul_le_mul_left c (Nat.gt_of_not_le q))
    | j c x y => exact fun k => Decidable.byContradiction fun q => k (Nat.mul_le_mul_left c (Nat.ge_of_not_lt q))
    | z => exact fun k => k (Nat.le_refl 0)
  exact key s fun e => absurd hlt (Nat.not_lt.mpr e)
theorem subA (x y : Nat) : x ≤ x - y + y := Nat.sub_le_iff_le_add.mp (Nat.le_refl _)
theorem subB (x y : Nat) : x - y ≤ x := Nat.sub_le x y
theorem subC {x y : Nat} (h : y ≤ x) : x - y + y = x := Nat.sub_add_cancel h
theorem subD {x y : Nat} (h : x ≤ y) : x - y = 0 := Nat.sub_eq_zero_of_le h
end Mine
end
-- KZ
section
open PySem PySem.W PyProof.Rows
namespace Mine
/-- the parameters, the body and the scope of the i-th statement of the row's text, a def -/
noncomputable def fnOf (i : Nat) : Arguments × List Stmt × Scope := match PySem.Challenge.pw_in0221_01.main.body[i]? with | some (.FunctionDef _ a b _ _ _ s _ _ _) => (a, b, s) | _ => default
abbrev FnOf (i : Nat) : Type := { t : Arguments × List Stmt × Scope // fnOf i = t }
noncomputable def Nunmatched : FnOf 3 := ⟨(_, _, _), rfl⟩
noncomputable def Nsplit_header_words : FnOf 8 := ⟨(_, _, _), rfl⟩
noncomputable def Njoin_header_words : FnOf 11 := ⟨(_, _, _), rfl⟩
noncomputable def Nstrip_quotes : FnOf 12 := ⟨(_, _, _), rfl⟩
noncomputable def Ntranslate : FnOf 15 := ⟨(_, _, _), rfl⟩
noncomputable def Nescape : FnOf 18 := ⟨(_, _, _), rfl⟩
noncomputable def N_translate : FnOf 20 := ⟨(_, _, _), rfl⟩
noncomputable def N_join_translated_parts : FnOf 21 := ⟨(_, _, _), rfl⟩
noncomputable def Nsafe_repr : FnOf 24 := ⟨(_, _, _), rfl⟩
noncomputable def Nunorderable_list_difference : FnOf 25 := ⟨(_, _, _), rfl⟩
noncomputable def N_law_sign : FnOf 27 := ⟨(_, _, _), rfl⟩
noncomputable def N_law_outer : FnOf 28 := ⟨(_, _, _), rfl⟩
noncomputable def N_law_inner : FnOf 29 := ⟨(_, _, _), rfl⟩
noncomputable def N_law_item : FnOf 30 := ⟨(_, _, _), rfl⟩
noncomputable def N_law_pieces : FnOf 31 := ⟨(_, _, _), rfl⟩
noncomputable def N_law_reads : FnOf 32 := ⟨(_, _, _), rfl⟩
noncomputable def N_law_in_marks : FnOf 33 := ⟨(_, _, _), rfl⟩
noncomputable def N_law_by_translate : FnOf 34 := ⟨(_, _, _), rfl⟩
noncomputable def N_law_by_safe_repr : FnOf 35 := ⟨(_, _, _), rfl⟩
noncomputable def N_law_by_join : FnOf 36 := ⟨(_, _, _), rfl⟩
noncomputable def N_law_right : FnOf 37 := ⟨(_, _, _), rfl⟩
noncomputable def Nlaw : FnOf 38 := ⟨(_, _, _), rfl⟩
/-- the top's objects as the law's run leaves them (printed by tools/print_k0) -/
noncomputable def K0 (P : Params) : Frag := [
(2,⟨.none,none,.dict [⟨PyData.keyHash P (Str.ofString "\x69mport.loaded._sre"),.str (Str.ofString "\x69mport.loaded._sre") 183,.bool true⟩,⟨PyData.keyHash P (Str.ofString "class._frozen_importlib.BuiltinImporter"),.str (Str.ofString "class._frozen_importlib.BuiltinImporter") 185,.ref 14⟩,⟨PyData.keyHash P (Str.ofString "watched.\x69mport"),.str (Str.ofString "watched.\x69mport") 206,.ref 18⟩,⟨PyData.keyHash P (Str.ofString "class._frozen_importlib.ModuleSpec"),.str (Str.ofString "class._frozen_importlib.ModuleSpec") 216,.ref 22⟩,⟨PyData.keyHash P (Str.ofString "sys.modules.booked-epoch"),.str (Str.ofString "sys.modules.booked-epoch") 245,.int 3 0⟩,⟨PyData.keyHash P (Str.ofString "\x69mport.later-laid._sre"),.str (Str.ofString "\x69mport.later-laid._sre") 270,.bool true⟩,⟨PyData.keyHash P (Str.ofString "watched.library"),.str (Str.ofString "watched.library") 272,.ref 27⟩,⟨PyData.keyHash P (Str.ofString "watched.library-objects"),.str (Str.ofString "watched.library-objects") 0,.str (Str.ofString "\x0c") 0⟩,⟨PyData.keyHash P (Str.ofString "watched.library-deep._sre"),.str (Str.ofString "watched.library-deep._sre") 273,.str (Str.ofString "\x04\x00\x00\x0b\x04\x00\x00\x0b\x04\x00\x00\x03\x04\x00\x00\x0b\x08\x04dict\x02") 0⟩].toArray 9,[].toArray⟩),
(3,⟨.type "dict",none,.dict [⟨PyData.keyHash P (Str.ofString "__name__"),.str (Str.ofString "__name__") 165,.str (Str.ofString "law_in0221_01") 878⟩,⟨PyData.keyHash P (Str.ofString "__doc__"),.str (Str.ofString "__doc__") 166,.none⟩,⟨PyData.keyHash P (Str.ofString "__package__"),.str (Str.ofString "__package__") 167,.none⟩,⟨PyData.keyHash P (Str.ofString "__loader__"),.str (Str.ofString "__loader__") 168,.builtin "__main__.__loader__#opaque"⟩,⟨PyData.keyHash P (Str.ofString "__spec__"),.str (Str.ofString "__spec__") 169,.none⟩,⟨PyData.keyHash P (Str.ofString "__annotations__"),.str (Str.ofString "__annotations__") 170,.ref 6⟩,⟨PyData.keyHash P (Str.ofString "__builtins__"),.str (Str.ofString "__builtins__") 171,.ref 4⟩,⟨PyData.keyHash P (Str.ofString "__file__"),.str (Str.ofString "__file__") 173,.str (Str.ofString "/claim/cut.py") 172⟩,⟨PyData.keyHash P (Str.ofString "__cached__"),.str (Str.ofString "__cached__") 174,.none⟩,⟨PyData.keyHash P (Str.ofString "_sre"),.str (Str.ofString "_sre") 275,.ref 12⟩,⟨PyData.keyHash P (Str.ofString "_twin_re_7"),.str (Str.ofString "_twin_re_7") 311,.ref 36⟩,⟨PyData.keyHash P (Str.ofString "unmatched"),.str (Str.ofString "unmatched") 320,.ref 43⟩,⟨PyData.keyHash P (Str.ofString "HEADER_TOKEN_RE"),.str (Str.ofString "HEADER_TOKEN_RE") 368,.ref 48⟩,⟨PyData.keyHash P (Str.ofString "HEADER_QUOTED_VALUE_RE"),.str (Str.ofString "HEADER_QUOTED_VALUE_RE") 446,.ref 53⟩,⟨PyData.keyHash P (Str.ofString "HEADER_VALUE_RE"),.str (Str.ofString "HEADER_VALUE_RE") 501,.ref 58⟩,⟨PyData.keyHash P (Str.ofString "HEADER_ESCAPE_RE"),.str (Str.ofString "HEADER_ESCAPE_RE") 524,.ref 63⟩,⟨PyData.keyHash P (Str.ofString "split_header_words"),.str (Str.ofString "split_header_words") 540,.ref 70⟩,⟨PyData.keyHash P (Str.ofString "HEADER_JOIN_TOKEN_RE"),.str (Str.ofString "HEADER_JOIN_TOKEN_RE") 569,.ref 75⟩,⟨PyData.keyHash P (Str.ofString "HEADER_JOIN_ESCAPE_RE"),.str (Str.ofString "HEADER_JOIN_ESCAPE_RE") 597,.ref 80⟩,⟨PyData.keyHash P (Str.ofString "join_header_words"),.str (Str.ofString "join_header_words") 609,.ref 87⟩,⟨PyData.keyHash P (Str.ofString "strip_quotes"),.str (Str.ofString "strip_quotes") 616,.ref 94⟩,⟨PyData.keyHash P (Str.ofString "_twin_re_1"),.str (Str.ofString "_twin_re_1") 656,.ref 99⟩,⟨PyData.keyHash P (Str.ofString "translate"),.str (Str.ofString "translate") 665,.ref 106⟩,⟨PyData.keyHash P (Str.ofString "_special_chars_map"),.str (Str.ofString "_special_chars_map") 813,.ref 108⟩,⟨PyData.keyHash P (Str.ofString "escape"),.str (Str.ofString "escape") 820,.ref 118⟩,⟨PyData.keyHash P (Str.ofString "_translate"),.str (Str.ofString "_translate") 841,.ref 125⟩,⟨PyData.keyHash P (Str.ofString "_join_translated_parts"),.str (Str.ofString "_join_translated_parts") 854,.ref 132⟩,⟨PyData.keyHash P (Str.ofString "_MAX_LENGTH"),.str (Str.ofString "_MAX_LENGTH") 858,.int 80 857⟩,⟨PyData.keyHash P (Str.ofString "safe_repr"),.str (Str.ofString "safe_repr") 867,.ref 140⟩,⟨PyData.keyHash P (Str.ofString "unorderable_list_difference"),.str (Str.ofString "unorderable_list_difference") 877,.ref 147⟩,⟨PyData.keyHash P (Str.ofString "_law_sign"),.str (Str.ofString "_law_sign") 886,.ref 154⟩,⟨PyData.keyHash P (Str.ofString "_law_outer"),.str (Str.ofString "_law_outer") 893,.ref 161⟩,⟨PyData.keyHash P (Str.ofString "_law_inner"),.str (Str.ofString "_law_inner") 900,.ref 168⟩,⟨PyData.keyHash P (Str.ofString "_law_item"),.str (Str.ofString "_law_item") 914,.ref 175⟩,⟨PyData.keyHash P (Str.ofString "_law_pieces"),.str (Str.ofString "_law_pieces") 927,.ref 182⟩,⟨PyData.keyHash P (Str.ofString "_law_reads"),.str (Str.ofString "_law_reads") 935,.ref 189⟩,⟨PyData.keyHash P (Str.ofString "_law_in_marks"),.str (Str.ofString "_law_in_marks") 942,.ref 196⟩,⟨PyData.keyHash P (Str.ofString "_law_by_translate"),.str (Str.ofString "_law_by_translate") 948,.ref 201⟩,⟨PyData.keyHash P (Str.ofString "_law_by_safe_repr"),.str (Str.ofString "_law_by_safe_repr") 960,.ref 208⟩,⟨PyData.keyHash P (Str.ofString "_law_by_join"),.str (Str.ofString "_law_by_join") 968,.ref 215⟩,⟨PyData.keyHash P (Str.ofString "_law_right"),.str (Str.ofString "_law_right") 974,.ref 220⟩,⟨PyData.keyHash P (Str.ofString "law"),.str (Str.ofString "law") 980,.ref 225⟩].toArray 42,[].toArray⟩),
(35,⟨.type "tuple",none,.seq [.int 14 0,.int 4 0,.int 0 0,.int 0 0,.int 4294967295 0,.int 6 0,.int 0 0,.int 24 0,.int 13 0,.int 0 0,.int 4294967295 0,.int 13 0,.int 8 0,.int 16 0,.int 61 0,.int 8 0,.int 12 0,.int 16 0,.int 59 0,.int 0 0,.int 1 0,.int 1 0].toArray 0,[].toArray⟩),
(36,⟨.type "re.Pattern",none,.fields [.str (Str.ofString "^[=\\s;]*") 285,.int 32 310,.int 0 0,.none,.none,.ref 35,.int 0 0].toArray,[].toArray⟩),
(37,⟨.type "tuple",none,.seq [].toArray 0,[].toArray⟩),
(39,⟨.type "tuple",none,.seq [.str (Str.ofString "match") 315,.str (Str.ofString "start") 316,.str (Str.ofString "end") 317].toArray 0,[].toArray⟩),
(40,⟨.type "tuple",none,.seq [].toArray 0,[].toArray⟩),
(42,⟨.type "code",none,.fields [.str (Str.ofString "unmatched") 312,.str (Str.ofString "unmatched") 313,.str (Str.ofString "/claim/cut.py") 314,.int 4 0,.int 1 0,.int 0 0,.int 0 0,.int 3 0,.ref 37,.bool true,.int 276 0,.ref 38,.none,.ref 39,.ref 40,.ref 41,.int 318 0,.int 4 0,.str (Str.ofString "/claim/cut.py") 319].toArray,[].toArray⟩),
(43,⟨.type "function",none,.func ⟨Str.ofString "unmatched",Str.ofString "unmatched",Nunmatched.1.1,.stmts Nunmatched.1.2.1,Nunmatched.1.2.2,3,[],.none,.none,.none,.str (Str.ofString "cpy313.http.cookiejar") 282,none,.ref 42,.none,0⟩,[].toArray⟩),
(47,⟨.type "tuple",none,.seq [.int 14 0,.int 4 0,.int 0 0,.int 1 0,.int 4294967295 0,.int 6 0,.int 0 0,.int 24 0,.int 9 0,.int 0 0,.int 4294967295 0,.int 13 0,.int 4 0,.int 8 0,.int 12 0,.int 0 0,.int 1 0,.int 17 0,.int 0 0,.int 24 0,.int 19 0,.int 1 0,.int 4294967295 0,.int 13 0,.int 14 0,.int 21 0,.int 9 0,.int 0 0,.int 671092736 0,.int 0 0,.int 0 0,.int 0 0,.int 0 0,.int 0 0,.int 0 0,.int 8 0,.int 12 0,.int 0 0,.int 1 0,.int 17 0,.int 1 0,.int 1 0].toArray 0,[].toArray⟩),
(48,⟨.type "re.Pattern",none,.fields [.str (Str.ofString "^\\s*([^=\\s;,]+)") 322,.int 32 367,.int 1 0,.none,.none,.ref 47,.int 0 0].toArray,[].toArray⟩),
(52,⟨.type "tuple",none,.seq [.int 14 0,.int 4 0,.int 0 0,.int 3 0,.int 4294967295 0,.int 6 0,.int 0 0,.int 24 0,.int 9 0,.int 0 0,.int 4294967295 0,.int 13 0,.int 4 0,.int 8 0,.int 12 0,.int 0 0,.int 1 0,.int 16 0,.int 61 0,.int 24 0,.int 9 0,.int 0 0,.int 4294967295 0,.int 13 0,.int 4 0,.int 8 0,.int 12 0,.int 0 0,.int 1 0,.int 16 0,.int 34 0,.int 17 0,.int 0 0,.int 24 0,.int 12 0,.int 0 0,.int 4294967295 0,.int 13 0,.int 7 0,.int 21 0,.int 16 0,.int 34 0,.int 16 0,.int 92 0,.int 0 0,.int 1 0,.int 23 0,.int 19 0,.int 0 0,.int 4294967295 0,.int 16 0,.int 92 0,.int 2 0,.int 24 0,.int 12 0,.int 0 0,.int 4294967295 0,.int 13 0,.int 7 0,.int 21 0,.int 16 0,.int 34 0,.int 16 0,.int 92 0,.int 0 0,.int 1 0,.int 18 0,.int 17 0,.int 1 0,.int 16 0,.int 34 0,.int 1 0].toArray 0,[].toArray⟩),
(53,⟨.type "re.Pattern",none,.fields [.str (Str.ofString "^\\s*=\\s*\\\"([^\\\"\\\\]*(?:\\\\.[^\\\"\\\\]*)*)\\\"") 370,.int 32 445,.int 1 0,.none,.none,.ref 52,.int 0 0].toArray,[].toArray⟩),
(57,⟨.type "tuple",none,.seq [.int 14 0,.int 4 0,.int 0 0,.int 1 0,.int 4294967295 0,.int 6 0,.int 0 0,.int 24 0,.int 9 0,.int 0 0,.int 4294967295 0,.int 13 0,.int 4 0,.int 8 0,.int 12 0,.int 0 0,.int 1 0,.int 16 0,.int 61 0,.int 24 0,.int 9 0,.int 0 0,.int 4294967295 0,.int 13 0,.int 4 0,.int 8 0,.int 12 0,.int 0 0,.int 1 0,.int 17 0,.int 0 0,.int 24 0,.int 14 0,.int 0 0,.int 4294967295 0,.int 13 0,.int 9 0,.int 21 0,.int 8 0,.int 12 0,.int 16 0,.int 59 0,.int 16 0,.int 44 0,.int 0 0,.int 1 0,.int 17 0,.int 1 0,.int 1 0].toArray 0,[].toArray⟩),
(58,⟨.type "re.Pattern",none,.fields [.str (Str.ofString "^\\s*=\\s*([^\\s;,]*)") 448,.int 32 500,.int 1 0,.none,.none,.ref 57,.int 0 0].toArray,[].toArray⟩),
(62,⟨.type "tuple",none,.seq [.int 14 0,.int 8 0,.int 1 0,.int 2 0,.int 2 0,.int 1 0,.int 1 0,.int 92 0,.int 0 0,.int 16 0,.int 92 0,.int 17 0,.int 0 0,.int 2 0,.int 17 0,.int 1 0,.int 1 0].toArray 0,[].toArray⟩),
(63,⟨.type "re.Pattern",none,.fields [.str (Str.ofString "\\\\(.)") 503,.int 32 523,.int 1 0,.none,.none,.ref 62,.int 0 0].toArray,[].toArray⟩),
(64,⟨.type "tuple",none,.seq [].toArray 0,[].toArray⟩),
(66,⟨.type "tuple",none,.seq [.str (Str.ofString "header_values") 528,.str (Str.ofString "result") 529,.str (Str.ofString "text") 530,.str (Str.ofString "orig_text") 531,.str (Str.ofString "pairs") 532,.str (Str.ofString "m") 533,.str (Str.ofString "name") 534,.str (Str.ofString "value") 535,.str (Str.ofString "non_junk") 536,.str (Str.ofString "nr_junk_chars") 537].toArray 0,[].toArray⟩),
(67,⟨.type "tuple",none,.seq [].toArray 0,[].toArray⟩),
(69,⟨.type "code",none,.fields [.str (Str.ofString "split_header_words") 525,.str (Str.ofString "split_header_words") 526,.str (Str.ofString "/claim/cut.py") 527,.int 11 0,.int 1 0,.int 0 0,.int 0 0,.int 3 0,.ref 64,.bool true,.int 276 0,.ref 65,.none,.ref 66,.ref 67,.ref 68,.int 538 0,.int 11 0,.str (Str.ofString "/claim/cut.py") 539].toArray,[].toArray⟩),
(70,⟨.type "function",none,.func ⟨Str.ofString "split_header_words",Str.ofString "split_header_words",Nsplit_header_words.1.1,.stmts Nsplit_header_words.1.2.1,Nsplit_header_words.1.2.2,3,[],.none,.none,.none,.str (Str.ofString "cpy313.http.cookiejar") 282,none,.ref 69,.none,0⟩,[].toArray⟩),
(74,⟨.type "tuple",none,.seq [.int 14 0,.int 4 0,.int 0 0,.int 1 0,.int 4294967295 0,.int 24 0,.int 16 0,.int 1 0,.int 4294967295 0,.int 13 0,.int 11 0,.int 9 0,.int 0 0,.int 67071226 0,.int 3355443198 0,.int 1476395007 0,.int 0 0,.int 0 0,.int 0 0,.int 0 0,.int 0 0,.int 1 0,.int 1 0].toArray 0,[].toArray⟩),
(75,⟨.type "re.Pattern",none,.fields [.str (Str.ofString "[!#$%&'*+\\-.^_`|~0-9A-Za-z]+") 542,.int 32 568,.int 0 0,.none,.none,.ref 74,.int 0 0].toArray,[].toArray⟩),
(79,⟨.type "tuple",none,.seq [.int 14 0,.int 9 0,.int 4 0,.int 1 0,.int 1 0,.int 16 0,.int 34 0,.int 16 0,.int 92 0,.int 0 0,.int 17 0,.int 0 0,.int 13 0,.int 6 0,.int 16 0,.int 34 0,.int 16 0,.int 92 0,.int 0 0,.int 17 0,.int 1 0,.int 1 0].toArray 0,[].toArray⟩),
(80,⟨.type "re.Pattern",none,.fields [.str (Str.ofString "([\\\"\\\\])") 571,.int 32 596,.int 1 0,.none,.none,.ref 79,.int 0 0].toArray,[].toArray⟩),
(81,⟨.type "tuple",none,.seq [].toArray 0,[].toArray⟩),
(83,⟨.type "tuple",none,.seq [.str (Str.ofString "lists") 601,.str (Str.ofString "headers") 602,.str (Str.ofString "pairs") 603,.str (Str.ofString "attr") 604,.str (Str.ofString "k") 605,.str (Str.ofString "v") 606].toArray 0,[].toArray⟩),
(84,⟨.type "tuple",none,.seq [].toArray 0,[].toArray⟩),
(86,⟨.type "code",none,.fields [.str (Str.ofString "join_header_words") 598,.str (Str.ofString "join_header_words") 599,.str (Str.ofString "/claim/cut.py") 600,.int 50 0,.int 1 0,.int 0 0,.int 0 0,.int 3 0,.ref 81,.bool true,.int 276 0,.ref 82,.none,.ref 83,.ref 84,.ref 85,.int 607 0,.int 50 0,.str (Str.ofString "/claim/cut.py") 608].toArray,[].toArray⟩),
(87,⟨.type "function",none,.func ⟨Str.ofString "join_header_words",Str.ofString "join_header_words",Njoin_header_words.1.1,.stmts Njoin_header_words.1.2.1,Njoin_header_words.1.2.2,3,[],.none,.none,.none,.str (Str.ofString "cpy313.http.cookiejar") 282,none,.ref 86,.none,0⟩,[].toArray⟩),
(88,⟨.type "tuple",none,.seq [].toArray 0,[].toArray⟩),
(90,⟨.type "tuple",none,.seq [.str (Str.ofString "text") 613].toArray 0,[].toArray⟩),
(91,⟨.type "tuple",none,.seq [].toArray 0,[].toArray⟩),
(93,⟨.type "code",none,.fields [.str (Str.ofString "strip_quotes") 610,.str (Str.ofString "strip_quotes") 611,.str (Str.ofString "/claim/cut.py") 612,.int 64 0,.int 1 0,.int 0 0,.int 0 0,.int 3 0,.ref 88,.bool true,.int 276 0,.ref 89,.none,.ref 90,.ref 91,.ref 92,.int 614 0,.int 64 0,.str (Str.ofString "/claim/cut.py") 615].toArray,[].toArray⟩),
(94,⟨.type "function",none,.func ⟨Str.ofString "strip_quotes",Str.ofString "strip_quotes",Nstrip_quotes.1.1,.stmts Nstrip_quotes.1.2.1,Nstrip_quotes.1.2.2,3,[],.none,.none,.none,.str (Str.ofString "cpy313.http.cookiejar") 282,none,.ref 93,.none,0⟩,[].toArray⟩),
(98,⟨.type "tuple",none,.seq [.int 14 0,.int 14 0,.int 4 0,.int 1 0,.int 1 0,.int 9 0,.int 0 0,.int 64 0,.int 0 0,.int 1342177280 0,.int 0 0,.int 0 0,.int 0 0,.int 0 0,.int 0 0,.int 17 0,.int 0 0,.int 13 0,.int 11 0,.int 9 0,.int 0 0,.int 64 0,.int 0 0,.int 1342177280 0,.int 0 0,.int 0 0,.int 0 0,.int 0 0,.int 0 0,.int 17 0,.int 1 0,.int 1 0].toArray 0,[].toArray⟩),
(99,⟨.type "re.Pattern",none,.fields [.str (Str.ofString "([&~|])") 620,.int 32 655,.int 1 0,.none,.none,.ref 98,.int 0 0].toArray,[].toArray⟩),
(100,⟨.type "tuple",none,.seq [].toArray 0,[].toArray⟩),
(102,⟨.type "tuple",none,.seq [.str (Str.ofString "pat") 660,.str (Str.ofString "STAR") 661,.str (Str.ofString "parts") 662].toArray 0,[].toArray⟩),
(103,⟨.type "tuple",none,.seq [].toArray 0,[].toArray⟩),
(105,⟨.type "code",none,.fields [.str (Str.ofString "translate") 657,.str (Str.ofString "translate") 658,.str (Str.ofString "/claim/cut.py") 659,.int 72 0,.int 1 0,.int 0 0,.int 0 0,.int 3 0,.ref 100,.bool true,.int 276 0,.ref 101,.none,.ref 102,.ref 103,.ref 104,.int 663 0,.int 72 0,.str (Str.ofString "/claim/cut.py") 664].toArray,[].toArray⟩),
(106,⟨.type "function",none,.func ⟨Str.ofString "translate",Str.ofString "translate",Ntranslate.1.1,.stmts Ntranslate.1.2.1,Ntranslate.1.2.2,3,[],.none,.none,.none,.str (Str.ofString "cpy313.fnmatch") 617,none,.ref 105,.none,0⟩,[].toArray⟩),
(108,⟨.type "dict",none,.dict [⟨40,.int 40 669,.str (Str.ofString "\\(") 673⟩,⟨41,.int 41 675,.str (Str.ofString "\\)") 679⟩,⟨91,.int 91 681,.str (Str.ofString "\\[") 685⟩,⟨93,.int 93 687,.str (Str.ofString "\\]") 691⟩,⟨123,.int 123 693,.str (Str.ofString "\\{") 697⟩,⟨125,.int 125 699,.str (Str.ofString "\\}") 703⟩,⟨63,.int 63 705,.str (Str.ofString "\\?") 709⟩,⟨42,.int 42 711,.str (Str.ofString "\\*") 715⟩,⟨43,.int 43 717,.str (Str.ofString "\\+") 721⟩,⟨45,.int 45 723,.str (Str.ofString "\\-") 727⟩,⟨124,.int 124 729,.str (Str.ofString "\\|") 733⟩,⟨94,.int 94 735,.str (Str.ofString "\\^") 739⟩,⟨36,.int 36 741,.str (Str.ofString "\\$") 745⟩,⟨92,.int 92 747,.str (Str.ofString "\\\\") 751⟩,⟨46,.int 46 753,.str (Str.ofString "\\.") 757⟩,⟨38,.int 38 759,.str (Str.ofString "\\&") 763⟩,⟨126,.int 126 765,.str (Str.ofString "\\~") 769⟩,⟨35,.int 35 771,.str (Str.ofString "\\#") 775⟩,⟨32,.int 32 777,.str (Str.ofString "\\ ") 781⟩,⟨9,.int 9 783,.str (Str.ofString "\\\x09") 787⟩,⟨10,.int 10 789,.str (Str.ofString "\\\x0a") 793⟩,⟨13,.int 13 795,.str (Str.ofString "\\\x0d") 799⟩,⟨11,.int 11 801,.str (Str.ofString "\\\x0b") 805⟩,⟨12,.int 12 807,.str (Str.ofString "\\\x0c") 811⟩].toArray 24,[].toArray⟩),
(112,⟨.type "tuple",none,.seq [].toArray 0,[].toArray⟩),
(114,⟨.type "tuple",none,.seq [.str (Str.ofString "pattern") 817].toArray 0,[].toArray⟩),
(115,⟨.type "tuple",none,.seq [].toArray 0,[].toArray⟩),
(117,⟨.type "code",none,.fields [.str (Str.ofString "escape") 814,.str (Str.ofString "escape") 815,.str (Str.ofString "/claim/cut.py") 816,.int 78 0,.int 1 0,.int 0 0,.int 0 0,.int 3 0,.ref 112,.bool true,.int 276 0,.ref 113,.none,.ref 114,.ref 115,.ref 116,.int 818 0,.int 78 0,.str (Str.ofString "/claim/cut.py") 819].toArray,[].toArray⟩),
(118,⟨.type "function",none,.func ⟨Str.ofString "escape",Str.ofString "escape",Nescape.1.1,.stmts Nescape.1.2.1,Nescape.1.2.2,3,[],.none,.none,.none,.str (Str.ofString "re") 666,none,.ref 117,.none,0⟩,[].toArray⟩),
(119,⟨.type "tuple",none,.seq [].toArray 0,[].toArray⟩),
(121,⟨.type "tuple",none,.seq [.str (Str.ofString "pat") 826,.str (Str.ofString "STAR") 827,.str (Str.ofString "QUESTION_MARK") 828,.str (Str.ofString "res") 829,.str (Str.ofString "add") 830,.str (Str.ofString "i") 831,.str (Str.ofString "n") 832,.str (Str.ofString "c") 833,.str (Str.ofString "j") 834,.str (Str.ofString "stuff") 835,.str (Str.ofString "chunks") 836,.str (Str.ofString "k") 837,.str (Str.ofString "chunk") 838].toArray 0,[].toArray⟩),
(122,⟨.type "tuple",none,.seq [].toArray 0,[].toArray⟩),
(124,⟨.type "code",none,.fields [.str (Str.ofString "_translate") 823,.str (Str.ofString "_translate") 824,.str (Str.ofString "/claim/cut.py") 825,.int 85 0,.int 3 0,.int 0 0,.int 0 0,.int 3 0,.ref 119,.bool true,.int 276 0,.ref 120,.none,.ref 121,.ref 122,.ref 123,.int 839 0,.int 85 0,.str (Str.ofString "/claim/cut.py") 840].toArray,[].toArray⟩),
(125,⟨.type "function",none,.func ⟨Str.ofString "_translate",Str.ofString "_translate",N_translate.1.1,.stmts N_translate.1.2.1,N_translate.1.2.2,3,[],.none,.none,.none,.str (Str.ofString "cpy313.fnmatch") 821,none,.ref 124,.none,0⟩,[].toArray⟩),
(126,⟨.type "tuple",none,.seq [].toArray 0,[].toArray⟩),
(128,⟨.type "tuple",none,.seq [.str (Str.ofString "inp") 845,.str (Str.ofString "STAR") 846,.str (Str.ofString "res") 847,.str (Str.ofString "add") 848,.str (Str.ofString "i") 849,.str (Str.ofString "n") 850,.str (Str.ofString "fixed") 851].toArray 0,[].toArray⟩),
(129,⟨.type "tuple",none,.seq [].toArray 0,[].toArray⟩),
(131,⟨.type "code",none,.fields [.str (Str.ofString "_join_translated_parts") 842,.str (Str.ofString "_join_translated_parts") 843,.str (Str.ofString "/claim/cut.py") 844,.int 147 0,.int 2 0,.int 0 0,.int 0 0,.int 3 0,.ref 126,.bool true,.int 276 0,.ref 127,.none,.ref 128,.ref 129,.ref 130,.int 852 0,.int 147 0,.str (Str.ofString "/claim/cut.py") 853].toArray,[].toArray⟩),
(132,⟨.type "function",none,.func ⟨Str.ofString "_join_translated_parts",Str.ofString "_join_translated_parts",N_join_translated_parts.1.1,.stmts N_join_translated_parts.1.2.1,N_join_translated_parts.1.2.2,3,[],.none,.none,.none,.str (Str.ofString "cpy313.fnmatch") 821,none,.ref 131,.none,0⟩,[].toArray⟩),
(133,⟨.type "tuple",none,.seq [.bool false].toArray 0,[].toArray⟩),
(134,⟨.type "tuple",none,.seq [].toArray 0,[].toArray⟩),
(136,⟨.type "tuple",none,.seq [.str (Str.ofString "obj") 862,.str (Str.ofString "short") 863,.str (Str.ofString "result") 864].toArray 0,[].toArray⟩),
(137,⟨.type "tuple",none,.seq [].toArray 0,[].toArray⟩),
(139,⟨.type "code",none,.fields [.str (Str.ofString "safe_repr") 859,.str (Str.ofString "safe_repr") 860,.str (Str.ofString "/claim/cut.py") 861,.int 176 0,.int 2 0,.int 0 0,.int 0 0,.int 3 0,.ref 134,.bool true,.int 276 0,.ref 135,.none,.ref 136,.ref 137,.ref 138,.int 865 0,.int 176 0,.str (Str.ofString "/claim/cut.py") 866].toArray,[].toArray⟩),
(140,⟨.type "function",none,.func ⟨Str.ofString "safe_repr",Str.ofString "safe_repr",Nsafe_repr.1.1,.stmts Nsafe_repr.1.2.1,Nsafe_repr.1.2.2,3,[],.ref 133,.none,.none,.str (Str.ofString "cpy313.unittest.util") 855,none,.ref 139,.none,0⟩,[].toArray⟩),
(141,⟨.type "tuple",none,.seq [].toArray 0,[].toArray⟩),
(143,⟨.type "tuple",none,.seq [.str (Str.ofString "expected") 871,.str (Str.ofString "actual") 872,.str (Str.ofString "missing") 873,.str (Str.ofString "item") 874].toArray 0,[].toArray⟩),
(144,⟨.type "tuple",none,.seq [].toArray 0,[].toArray⟩),
(146,⟨.type "code",none,.fields [.str (Str.ofString "unorderable_list_difference") 868,.str (Str.ofString "unorderable_list_difference") 869,.str (Str.ofString "/claim/cut.py") 870,.int 184 0,.int 2 0,.int 0 0,.int 0 0,.int 3 0,.ref 141,.bool true,.int 276 0,.ref 142,.none,.ref 143,.ref 144,.ref 145,.int 875 0,.int 184 0,.str (Str.ofString "/claim/cut.py") 876].toArray,[].toArray⟩),
(147,⟨.type "function",none,.func ⟨Str.ofString "unorderable_list_difference",Str.ofString "unorderable_list_difference",Nunorderable_list_difference.1.1,.stmts Nunorderable_list_difference.1.2.1,Nunorderable_list_difference.1.2.2,3,[],.none,.none,.none,.str (Str.ofString "cpy313.unittest.util") 855,none,.ref 146,.none,0⟩,[].toArray⟩),
(148,⟨.type "tuple",none,.seq [].toArray 0,[].toArray⟩),
(150,⟨.type "tuple",none,.seq [.str (Str.ofString "number") 883].toArray 0,[].toArray⟩),
(151,⟨.type "tuple",none,.seq [].toArray 0,[].toArray⟩),
(153,⟨.type "code",none,.fields [.str (Str.ofString "_law_sign") 880,.str (Str.ofString "_law_sign") 881,.str (Str.ofString "/claim/cut.py") 882,.int 194 0,.int 1 0,.int 0 0,.int 0 0,.int 3 0,.ref 148,.bool true,.int 276 0,.ref 149,.none,.ref 150,.ref 151,.ref 152,.int 884 0,.int 194 0,.str (Str.ofString "/claim/cut.py") 885].toArray,[].toArray⟩),
(154,⟨.type "function",none,.func ⟨Str.ofString "_law_sign",Str.ofString "_law_sign",N_law_sign.1.1,.stmts N_law_sign.1.2.1,N_law_sign.1.2.2,3,[],.none,.none,.none,.str (Str.ofString "law_in0221_01") 878,none,.ref 153,.none,0⟩,[].toArray⟩),
(155,⟨.type "tuple",none,.seq [].toArray 0,[].toArray⟩),
(157,⟨.type "tuple",none,.seq [.str (Str.ofString "sign") 890].toArray 0,[].toArray⟩),
(158,⟨.type "tuple",none,.seq [].toArray 0,[].toArray⟩),
(160,⟨.type "code",none,.fields [.str (Str.ofString "_law_outer") 887,.str (Str.ofString "_law_outer") 888,.str (Str.ofString "/claim/cut.py") 889,.int 196 0,.int 1 0,.int 0 0,.int 0 0,.int 3 0,.ref 155,.bool true,.int 276 0,.ref 156,.none,.ref 157,.ref 158,.ref 159,.int 891 0,.int 196 0,.str (Str.ofString "/claim/cut.py") 892].toArray,[].toArray⟩),
(161,⟨.type "function",none,.func ⟨Str.ofString "_law_outer",Str.ofString "_law_outer",N_law_outer.1.1,.stmts N_law_outer.1.2.1,N_law_outer.1.2.2,3,[],.none,.none,.none,.str (Str.ofString "law_in0221_01") 878,none,.ref 160,.none,0⟩,[].toArray⟩),
(162,⟨.type "tuple",none,.seq [].toArray 0,[].toArray⟩),
(164,⟨.type "tuple",none,.seq [.str (Str.ofString "sign") 897].toArray 0,[].toArray⟩),
(165,⟨.type "tuple",none,.seq [].toArray 0,[].toArray⟩),
(167,⟨.type "code",none,.fields [.str (Str.ofString "_law_inner") 894,.str (Str.ofString "_law_inner") 895,.str (Str.ofString "/claim/cut.py") 896,.int 198 0,.int 1 0,.int 0 0,.int 0 0,.int 3 0,.ref 162,.bool true,.int 276 0,.ref 163,.none,.ref 164,.ref 165,.ref 166,.int 898 0,.int 198 0,.str (Str.ofString "/claim/cut.py") 899].toArray,[].toArray⟩),
(168,⟨.type "function",none,.func ⟨Str.ofString "_law_inner",Str.ofString "_law_inner",N_law_inner.1.1,.stmts N_law_inner.1.2.1,N_law_inner.1.2.2,3,[],.none,.none,.none,.str (Str.ofString "law_in0221_01") 878,none,.ref 167,.none,0⟩,[].toArray⟩),
(169,⟨.type "tuple",none,.seq [].toArray 0,[].toArray⟩),
(171,⟨.type "tuple",none,.seq [.str (Str.ofString "number") 904,.str (Str.ofString "kind") 905,.str (Str.ofString "one") 906,.str (Str.ofString "two") 907,.str (Str.ofString "barred") 908,.str (Str.ofString "begin") 909,.str (Str.ofString "front") 910,.str (Str.ofString "first") 911].toArray 0,[].toArray⟩),
(172,⟨.type "tuple",none,.seq [].toArray 0,[].toArray⟩),
(174,⟨.type "code",none,.fields [.str (Str.ofString "_law_item") 901,.str (Str.ofString "_law_item") 902,.str (Str.ofString "/claim/cut.py") 903,.int 200 0,.int 1 0,.int 0 0,.int 0 0,.int 3 0,.ref 169,.bool true,.int 276 0,.ref 170,.none,.ref 171,.ref 172,.ref 173,.int 912 0,.int 200 0,.str (Str.ofString "/claim/cut.py") 913].toArray,[].toArray⟩),
(175,⟨.type "function",none,.func ⟨Str.ofString "_law_item",Str.ofString "_law_item",N_law_item.1.1,.stmts N_law_item.1.2.1,N_law_item.1.2.2,3,[],.none,.none,.none,.str (Str.ofString "law_in0221_01") 878,none,.ref 174,.none,0⟩,[].toArray⟩),
(176,⟨.type "tuple",none,.seq [].toArray 0,[].toArray⟩),
(178,⟨.type "tuple",none,.seq [.str (Str.ofString "items") 918,.str (Str.ofString "groups") 919,.str (Str.ofString "before") 920,.str (Str.ofString "written") 921,.str (Str.ofString "pieces") 922,.str (Str.ofString "row") 923,.str (Str.ofString "group") 924].toArray 0,[].toArray⟩),
(179,⟨.type "tuple",none,.seq [].toArray 0,[].toArray⟩),
(181,⟨.type "code",none,.fields [.str (Str.ofString "_law_pieces") 915,.str (Str.ofString "_law_pieces") 916,.str (Str.ofString "/claim/cut.py") 917,.int 227 0,.int 1 0,.int 0 0,.int 0 0,.int 3 0,.ref 176,.bool true,.int 276 0,.ref 177,.none,.ref 178,.ref 179,.ref 180,.int 925 0,.int 227 0,.str (Str.ofString "/claim/cut.py") 926].toArray,[].toArray⟩),
(182,⟨.type "function",none,.func ⟨Str.ofString "_law_pieces",Str.ofString "_law_pieces",N_law_pieces.1.1,.stmts N_law_pieces.1.2.1,N_law_pieces.1.2.2,3,[],.none,.none,.none,.str (Str.ofString "law_in0221_01") 878,none,.ref 181,.none,0⟩,[].toArray⟩),
(183,⟨.type "tuple",none,.seq [].toArray 0,[].toArray⟩),
(185,⟨.type "tuple",none,.seq [.str (Str.ofString "header") 931,.str (Str.ofString "text") 932].toArray 0,[].toArray⟩),
(186,⟨.type "tuple",none,.seq [].toArray 0,[].toArray⟩),
(188,⟨.type "code",none,.fields [.str (Str.ofString "_law_reads") 928,.str (Str.ofString "_law_reads") 929,.str (Str.ofString "/claim/cut.py") 930,.int 242 0,.int 2 0,.int 0 0,.int 0 0,.int 3 0,.ref 183,.bool true,.int 276 0,.ref 184,.none,.ref 185,.ref 186,.ref 187,.int 933 0,.int 242 0,.str (Str.ofString "/claim/cut.py") 934].toArray,[].toArray⟩),
(189,⟨.type "function",none,.func ⟨Str.ofString "_law_reads",Str.ofString "_law_reads",N_law_reads.1.1,.stmts N_law_reads.1.2.1,N_law_reads.1.2.2,3,[],.none,.none,.none,.str (Str.ofString "law_in0221_01") 878,none,.ref 188,.none,0⟩,[].toArray⟩),
(190,⟨.type "tuple",none,.seq [].toArray 0,[].toArray⟩),
(192,⟨.type "tuple",none,.seq [.str (Str.ofString "text") 939].toArray 0,[].toArray⟩),
(193,⟨.type "tuple",none,.seq [].toArray 0,[].toArray⟩),
(195,⟨.type "code",none,.fields [.str (Str.ofString "_law_in_marks") 936,.str (Str.ofString "_law_in_marks") 937,.str (Str.ofString "/claim/cut.py") 938,.int 244 0,.int 1 0,.int 0 0,.int 0 0,.int 3 0,.ref 190,.bool true,.int 276 0,.ref 191,.none,.ref 192,.ref 193,.ref 194,.int 940 0,.int 244 0,.str (Str.ofString "/claim/cut.py") 941].toArray,[].toArray⟩),
(196,⟨.type "function",none,.func ⟨Str.ofString "_law_in_marks",Str.ofString "_law_in_marks",N_law_in_marks.1.1,.stmts N_law_in_marks.1.2.1,N_law_in_marks.1.2.2,3,[],.none,.none,.none,.str (Str.ofString "law_in0221_01") 878,none,.ref 195,.none,0⟩,[].toArray⟩),
(197,⟨.type "tuple",none,.seq [].toArray 0,[].toArray⟩),
(200,⟨.type "code",none,.fields [.str (Str.ofString "_law_by_translate") 943,.str (Str.ofString "_law_by_translate") 944,.str (Str.ofString "/claim/cut.py") 945,.int 246 0,.int 1 0,.int 0 0,.int 0 0,.int 3 0,.ref 197,.bool true,.int 276 0,.ref 198,.none,.none,.none,.ref 199,.int 946 0,.int 246 0,.str (Str.ofString "/claim/cut.py") 947].toArray,[].toArray⟩),
(201,⟨.type "function",none,.func ⟨Str.ofString "_law_by_translate",Str.ofString "_law_by_translate",N_law_by_translate.1.1,.stmts N_law_by_translate.1.2.1,N_law_by_translate.1.2.2,3,[],.none,.none,.none,.str (Str.ofString "law_in0221_01") 878,none,.ref 200,.none,0⟩,[].toArray⟩),
(202,⟨.type "tuple",none,.seq [].toArray 0,[].toArray⟩),
(204,⟨.type "tuple",none,.seq [.str (Str.ofString "text") 952,.str (Str.ofString "double") 953,.str (Str.ofString "told") 954,.str (Str.ofString "inside") 955,.str (Str.ofString "given") 956,.str (Str.ofString "short") 957].toArray 0,[].toArray⟩),
(205,⟨.type "tuple",none,.seq [].toArray 0,[].toArray⟩),
(207,⟨.type "code",none,.fields [.str (Str.ofString "_law_by_safe_repr") 949,.str (Str.ofString "_law_by_safe_repr") 950,.str (Str.ofString "/claim/cut.py") 951,.int 260 0,.int 1 0,.int 0 0,.int 0 0,.int 3 0,.ref 202,.bool true,.int 276 0,.ref 203,.none,.ref 204,.ref 205,.ref 206,.int 958 0,.int 260 0,.str (Str.ofString "/claim/cut.py") 959].toArray,[].toArray⟩),
(208,⟨.type "function",none,.func ⟨Str.ofString "_law_by_safe_repr",Str.ofString "_law_by_safe_repr",N_law_by_safe_repr.1.1,.stmts N_law_by_safe_repr.1.2.1,N_law_by_safe_repr.1.2.2,3,[],.none,.none,.none,.str (Str.ofString "law_in0221_01") 878,none,.ref 207,.none,0⟩,[].toArray⟩),
(209,⟨.type "tuple",none,.seq [].toArray 0,[].toArray⟩),
(211,⟨.type "tuple",none,.seq [.str (Str.ofString "text") 964,.str (Str.ofString "given") 965].toArray 0,[].toArray⟩),
(212,⟨.type "tuple",none,.seq [].toArray 0,[].toArray⟩),
(214,⟨.type "code",none,.fields [.str (Str.ofString "_law_by_join") 961,.str (Str.ofString "_law_by_join") 962,.str (Str.ofString "/claim/cut.py") 963,.int 277 0,.int 1 0,.int 0 0,.int 0 0,.int 3 0,.ref 209,.bool true,.int 276 0,.ref 210,.none,.ref 211,.ref 212,.ref 213,.int 966 0,.int 277 0,.str (Str.ofString "/claim/cut.py") 967].toArray,[].toArray⟩),
(215,⟨.type "function",none,.func ⟨Str.ofString "_law_by_join",Str.ofString "_law_by_join",N_law_by_join.1.1,.stmts N_law_by_join.1.2.1,N_law_by_join.1.2.2,3,[],.none,.none,.none,.str (Str.ofString "law_in0221_01") 878,none,.ref 214,.none,0⟩,[].toArray⟩),
(216,⟨.type "tuple",none,.seq [].toArray 0,[].toArray⟩),
(219,⟨.type "code",none,.fields [.str (Str.ofString "_law_right") 969,.str (Str.ofString "_law_right") 970,.str (Str.ofString "/claim/cut.py") 971,.int 282 0,.int 2 0,.int 0 0,.int 0 0,.int 3 0,.ref 216,.bool true,.int 276 0,.ref 217,.none,.none,.none,.ref 218,.int 972 0,.int 282 0,.str (Str.ofString "/claim/cut.py") 973].toArray,[].toArray⟩),
(220,⟨.type "function",none,.func ⟨Str.ofString "_law_right",Str.ofString "_law_right",N_law_right.1.1,.stmts N_law_right.1.2.1,N_law_right.1.2.2,3,[],.none,.none,.none,.str (Str.ofString "law_in0221_01") 878,none,.ref 219,.none,0⟩,[].toArray⟩),
(221,⟨.type "tuple",none,.seq [].toArray 0,[].toArray⟩),
(224,⟨.type "code",none,.fields [.str (Str.ofString "law") 975,.str (Str.ofString "law") 976,.str (Str.ofString "/claim/cut.py") 977,.int 301 0,.int 1 0,.int 0 0,.int 0 0,.int 3 0,.ref 221,.bool true,.int 276 0,.ref 222,.none,.none,.none,.ref 223,.int 978 0,.int 301 0,.str (Str.ofString "/claim/cut.py") 979].toArray,[].toArray⟩),
(225,⟨.type "function",none,.func ⟨Str.ofString "law",Str.ofString "law",Nlaw.1.1,.stmts Nlaw.1.2.1,Nlaw.1.2.2,3,[],.none,.none,.none,.str (Str.ofString "law_in0221_01") 878,none,.ref 224,.none,0⟩,[].toArray⟩)]
end Mine
end
-- BX
section
namespace Mine
/-! flat quantifiers and conjunctions: one constructor, so the proof terms stay small -/
inductive Ex2 {α β : Type} (p : α → β → Prop) : Prop | intro (a : α) (b : β) (h : p a b) : Ex2 p
inductive Ex3 {α β γ : Type} (p : α → β → γ → Prop) : Prop | intro (a : α) (b : β) (c : γ) (h : p a b c) : Ex3 p
inductive Ex4 {α β γ δ : Type} (p : α → β → γ → δ → Prop) : Prop | intro (a : α) (b : β) (c : γ) (d : δ) (h : p a b c d) : Ex4 p
inductive Ex5 {α β γ δ ε : Type} (p : α → β → γ → δ → ε → Prop) : Prop | intro (a : α) (b : β) (c : γ) (d : δ) (e : ε) (h : p a b c d e) : Ex5 p
inductive Ex6 {α β γ δ ε ζ : Type} (p : α → β → γ → δ → ε → ζ → Prop) : Prop | intro (a : α) (b : β) (c : γ) (d : δ) (e : ε) (f : ζ) (h : p a b c d e f) : Ex6 p
inductive Ex7 {α β γ δ ε ζ η : Type} (p : α → β → γ → δ → ε → ζ → η → Prop) : Prop | intro (a : α) (b : β) (c : γ) (d : δ) (e : ε) (f : ζ) (g : η) (h : p a b c d e f g) : Ex7 p
inductive And3 (a b c : Prop) : Prop | intro (h1 : a) (h2 : b) (h3 : c) : And3 a b c
inductive And4 (a b c d : Prop) : Prop | intro (h1 : a) (h2 : b) (h3 : c) (h4 : d) : And4 a b c d
inductive And5 (a b c d e : Prop) : Prop | intro (h1 : a) (h2 : b) (h3 : c) (h4 : d) (h5 : e) : And5 a b c d e
inductive And6 (a b c d e f : Prop) : Prop | intro (h1 : a) (h2 : b) (h3 : c) (h4 : d) (h5 : e) (h6 : f) : And6 a b c d e f
inductive And7 (a b c d e f g : Prop) : Prop | intro (h1 : a) (h2 : b) (h3 : c) (h4 : d) (h5 : e) (h6 : f) (h7 : g) : And7 a b c d e f g
inductive And8 (a b c d e f g h : Prop) : Prop | intro (h1 : a) (h2 : b) (h3 : c) (h4 : d) (h5 : e) (h6 : f) (h7 : g) (h8 : h) : And8 a b c d e f g h
inductive And9 (a b c d e f g h i : Prop) : Prop | intro (h1 : a) (h2 : b) (h3 : c) (h4 : d) (h5 : e) (h6 : f) (h7 : g) (h8 : h) (h9 : i) : And9 a b c d e f g h i
inductive And10 (a b c d e f g h i j : Prop) : Prop | intro (h1 : a) (h2 : b) (h3 : c) (h4 : d) (h5 : e) (h6 : f) (h7 : g) (h8 : h) (h9 : i) (h10 : j) : And10 a b c d e f g h i j
end Mine
end
-- B0
section
open PySem PySem.Calls PyProof.Rows PySem.W
namespace Mine


abbrev S (l : List Nat) : Str := ⟨l.toArray⟩

noncomputable def tab (b : Addr) : Bool := b == 65 || b == 82 || b == 120

noncomputable def isDict (o : Obj) : Prop := ∃ es ep, o.data = .dict es ep
noncomputable def Sub (N : Nat) (b : Addr) (o o' : Obj) : Prop := o' = o ∨ (N ≤ b ∧ isDict o ∧ ∃ sl, o' = { o with slots := sl })
theorem Sub.rfl' {N b o} : Sub N b o o := .inl rfl
theorem Sub.trans {N b o o' o''} (x : Sub N b o o') (y : Sub N b o' o'') : Sub N b o o'' := by
  rcases x with rfl | ⟨h1, h2, sl, rfl⟩
  · exact y
  · rcases y with rfl | ⟨_, _, sl', rfl⟩
    · exact .inr ⟨h1, h2, sl, rfl⟩
    · exact .inr ⟨h1, h2, sl', rfl⟩
theorem Sub.data {N b o o'} (x : Sub N b o o') : o'.data = o.data := by
  rcases x with rfl | ⟨_, _, sl, rfl⟩ <;> rfl
theorem Sub.cls {N b o o'} (x : Sub N b o o') : o'.cls = o.cls := by
  rcases x with rfl | ⟨_, _, sl, rfl⟩ <;> rfl
theorem Sub.eq {N b o o'} (x : Sub N b o o') (h : ¬ isDict o) : o' = o := by
  rcases x with rfl | ⟨_, h2, _⟩
  · rfl
  · exact absurd h2 h

structure Kept (N : Nat) (h h' : Heap) : Prop where
  get : ∀ b o, tab b = false → h.get? b = some o → ∃ o', h'.get? b = some o' ∧ Sub N b o o'

theorem Kept.refl (N h) : Kept N h h := ⟨fun _ o _ e => ⟨o, e, .rfl'⟩⟩
theorem Kept.trans {N h h' h''} (x : Kept N h h') (y : Kept N h' h'') : Kept N h h'' :=
  ⟨fun b o ht e => by
    obtain ⟨o', e', s⟩ := x.get b o ht e
    obtain ⟨o'', e'', s'⟩ := y.get b o' ht e'
    exact ⟨o'', e'', s.trans s'⟩⟩
theorem Kept.obj {N h h'} (x : Kept N h h') {b o} (ht : tab b = false) (hc : ¬ isDict o) (e : h.get? b = some o) : h'.get? b = some o := by
  obtain ⟨o', e', s⟩ := x.get b o ht e
  rw [s.eq hc] at e'; exact e'
theorem Kept.low {N h h'} (x : Kept N h h') {b o} (ht : tab b = false) (hb : b < N) (e : h.get? b = some o) : h'.get? b = some o := by
  obtain ⟨o', e', s⟩ := x.get b o ht e
  rcases s with rfl | ⟨h1, _⟩
  · exact e'
  · exact absurd hb (Nat.not_lt.mpr h1)
theorem Kept.ns {N h h' a m} (x : Kept N h h') (ht : tab a = false) (n : h.Ns a m) : h'.Ns a m := by
  obtain ⟨o, es, ep, e, hd, r⟩ := n
  obtain ⟨o', e', s⟩ := x.get a o ht e
  exact ⟨o', es, ep, e', s.data.trans hd, r⟩
theorem Kept.of_keeps {N h h'} (k : ∀ b o, h.get? b = some o → h'.get? b = some o) : Kept N h h' :=
  ⟨fun b o _ e => ⟨o, k b o e, .rfl'⟩⟩

/-- the names of the codes that are made late, told by their line -/
noncomputable def qn (l : Nat) : Str := if l = 26 then "split_header_words.<locals>.<lambda>" else if l = 57 then "join_header_words.<locals>.<lambda>" else if l = 131 then "_translate.<locals>.<lambda>" else "_translate.<locals>.<genexpr>"
/-- one code table: the head c, the table P -/
noncomputable def TabOk (h : Heap) (c P : Addr) : Prop :=
  ∃ ps, h.IsCode c P ps ∧ h.get? P = some { cls := .none, data := .fields ps } ∧
    (∃ o, h.get? c = some o ∧ o.cls = .type "code") ∧
    ∀ pos cv, codeAmong pos ps.toList = some cv → ∃ c' o vs t, cv = .ref c' ∧ h.get? c' = some o ∧ o.cls = .type "code" ∧ o.data = .fields vs ∧ vs[1]? = some (.str (qn pos.line) t)
noncomputable def TabsOk (h : Heap) : Prop := TabOk h 86 82 ∧ TabOk h 69 65 ∧ TabOk h 124 120

theorem TabOk.step {h h' : Heap} {c P : Addr} (x : TabOk h c P)
    (k : ∀ b o, h.get? b = some o → o.cls = .type "code" → (∃ vs, o.data = .fields vs) → h'.get? b = some o) (hP : ∀ o, h.get? P = some o → h'.get? P = some o) : TabOk h' c P := by
  obtain ⟨ps, ⟨o, vs, file, tf, flags, tg, inF, text, tt, op, ho, r1, r2, r3, r4, r5, r6, hop, r7, r8, r9⟩, hp, ⟨oc, hoc, hcc⟩, hcd⟩ := x
  have hoo : o = oc := Option.some.inj (ho.symm.trans hoc)
  subst hoo
  refine ⟨ps, ⟨o, vs, file, tf, flags, tg, inF, text, tt, op, k _ _ ho hcc ⟨_, r1⟩, r1, r2, r3, r4, r5, r6, hP _ hop, r7, r8, r9⟩, hP _ hp, ⟨o, k _ _ ho hcc ⟨_, r1⟩, hcc⟩, fun pos cv e => ?_⟩
  obtain ⟨c', o', vs', t, e1, e2, e3, e4⟩ := hcd pos cv e
  exact ⟨c', o', vs', t, e1, k _ _ e2 e3 ⟨_, e4.1⟩, e3, e4⟩
theorem TabsOk.step {h h' : Heap} (x : TabsOk h) (k : ∀ b o, h.get? b = some o → o.cls = .type "code" → (∃ vs, o.data = .fields vs) → h'.get? b = some o)
    (hP : ∀ P, tab P = true → ∀ o, h.get? P = some o → h'.get? P = some o) : TabsOk h' :=
  ⟨x.1.step k (hP 82 rfl), x.2.1.step k (hP 65 rfl), x.2.2.step k (hP 120 rfl)⟩
theorem TabsOk.keeps {h h' : Heap} (x : TabsOk h) (k : ∀ b o, h.get? b = some o → h'.get? b = some o) : TabsOk h' :=
  x.step (fun b o e _ _ => k b o e) fun P _ o e => k P o e
/-- all objects but the one at x stay; x holds no code and is no table -/
theorem TabsOk.but {h h' : Heap} (x : TabsOk h) {a : Addr} {oa : Obj} (k : ∀ b o, b ≠ a → h.get? b = some o → h'.get? b = some o) (ha : h.get? a = some oa)
    (hc : oa.cls ≠ .type "code" ∨ isDict oa) (ht : tab a = false) : TabsOk h' :=
  x.step (fun b o e hcl hf => k b o (fun q => by
    subst q; rw [ha] at e; cases e
    rcases hc with hc | ⟨es, ep, hc⟩
    · exact hc hcl
    · obtain ⟨vs, hf⟩ := hf; rw [hc] at hf; cases hf) e)
    fun P hP o e => k P o (fun q => by subst q; rw [ht] at hP; cases hP) e

structure Next (N : Nat) (s s' : Shared) : Prop where
  kept : Kept N s.heap s'.heap
  tabs : TabsOk s.heap → TabsOk s'.heap
  os : s'.os = s.os
  gens : AllBare s.gens → AllBare s'.gens
  tk : s.toks ≤ s'.toks
theorem Next.refl (N s) : Next N s s := ⟨.refl .., id, rfl, id, Nat.le_refl _⟩
theorem Next.trans {N s s' s''} (x : Next N s s') (y : Next N s' s'') : Next N s s'' :=
  ⟨x.kept.trans y.kept, fun t => y.tabs (x.tabs t), y.os.trans x.os, fun g => y.gens (x.gens g), Nat.le_trans x.tk y.tk⟩
theorem Next.keeps {N} {s : Shared} {h' : Heap} {tk : Nat} (k : ∀ b o, s.heap.get? b = some o → h'.get? b = some o) (ht : s.toks ≤ tk) : Next N s { s with heap := h', toks := tk } :=
  ⟨.of_keeps k, fun t => t.keeps k, rfl, id, ht⟩
theorem Next.toks {N} {s : Shared} {tk : Nat} (ht : s.toks ≤ tk) : Next N s { s with toks := tk } := ⟨.refl .., id, rfl, id, ht⟩

/-- what the walk knows of an object that the call has made -/
inductive Cell where
  | list (xs : List Value)
  | tup (xs : List Value)
  | obj (o : Obj)
  | ns (m : Str → Option Value)
  | fld (T : String) (fs : List Value)
abbrev lobj (xs : List Value) (n : Nat) : Obj := { cls := .type "list", data := .seq xs.toArray n }
abbrev tobj (xs : List Value) (n : Nat) : Obj := { cls := .type "tuple", data := .seq xs.toArray n }
noncomputable def Cell.At (h : Heap) (a : Addr) : Cell → Prop
  | .list xs => ∃ n, h.get? a = some (lobj xs n)
  | .tup xs => ∃ n, h.get? a = some (tobj xs n)
  | .obj o => h.get? a = some o ∧ ¬ isDict o ∧ o.cls ≠ .type "code"
  | .ns m => h.Ns a m
  | .fld T fs => T ≠ "code" ∧ ∃ o, h.get? a = some o ∧ o.cls = .type T ∧ o.data = .fields fs.toArray
theorem lobj_nd {xs n} : ¬ isDict (lobj xs n) := fun ⟨_, _, e⟩ => nomatch e
theorem tobj_nd {xs n} : ¬ isDict (tobj xs n) := fun ⟨_, _, e⟩ => nomatch e
theorem Cell.At.get {h a} : ∀ {c : Cell}, c.At h a → ∃ o, h.get? a = some o ∧ (o.cls ≠ .type "code" ∨ isDict o)
  | .list _, ⟨_, e⟩ => ⟨_, e, .inl (by simp)⟩
  | .tup _, ⟨_, e⟩ => ⟨_, e, .inl (by simp)⟩
  | .obj _, ⟨e, _, g⟩ => ⟨_, e, .inl g⟩
  | .ns _, ⟨o, es, ep, e, d, _⟩ => ⟨o, e, .inr ⟨es, ep, d⟩⟩
  | .fld _ _, ⟨hT, o, e, c, _⟩ => ⟨o, e, .inl (by rw [c]; intro q; exact hT (Value.type.inj q))⟩
theorem Cell.At.move {N h h' a} (k : ∀ o, h.get? a = some o → ∃ o', h'.get? a = some o' ∧ Sub N a o o') : ∀ {c : Cell}, c.At h a → c.At h' a
  | .list _, ⟨n, e⟩ => by
    obtain ⟨o', e', sb⟩ := k _ e
    rw [sb.eq lobj_nd] at e'; exact ⟨n, e'⟩
  | .tup _, ⟨n, e⟩ => by
    obtain ⟨o', e', sb⟩ := k _ e
    rw [sb.eq tobj_nd] at e'; exact ⟨n, e'⟩
  | .obj _, ⟨e, f, g⟩ => by
    obtain ⟨o', e', sb⟩ := k _ e
    rw [sb.eq f] at e'; exact ⟨e', f, g⟩
  | .ns m, ⟨o, es, ep, e, d, r⟩ => by
    obtain ⟨o', e', sb⟩ := k _ e
    exact ⟨o', es, ep, e', sb.data.trans d, r⟩
  | .fld T fs, ⟨hT, o, e, c, d⟩ => by
    obtain ⟨o', e', sb⟩ := k _ e
    exact ⟨hT, o', e', sb.cls.trans c, sb.data.trans d⟩
theorem Cell.At.move' {h h' a} (k : ∀ o, h.get? a = some o → h'.get? a = some o) {c : Cell} (x : c.At h a) : c.At h' a :=
  x.move (N := 0) fun o e => ⟨o, k o e, .rfl'⟩

structure Cx where
  w : World
  N : Nat
  mg : Str → Option Value
  mb : Str → Option Value

structure Prog0 (C : Cx) (s : Shared) : Prop where
  hN : 226 ≤ C.N
  size : C.N ≤ s.heap.objs.size
  X : (K0 C.w.params).In s.heap
  low : ∀ b o, (K0 C.w.params).lookup b = some o → b < C.N ∧ tab b = false
  lim : s.heap.NoLimit
  g : s.heap.Ns mainGlobals C.mg
  b : s.heap.Ns builtinsNs C.mb
  bb : ∀ x : Str, x ≠ ("__name__" : Str) → C.mb x = bootBuiltins x
  tabs : TabsOk s.heap
  bm : ∃ b ob, C.mg ("__builtins__" : Str) = some (.ref b) ∧ b ≠ builtinsNs ∧ tab b = false ∧ s.heap.get? b = some ob ∧ ob.cls = .type "module" ∧ ob.dict = some builtinsNs ∧ ob.data = .plain
/-- the program's objects stand; some object of the call's own lives -/
structure Prog (C : Cx) (s : Shared) : Prop extends Prog0 C s where
  hs : ∃ b o, C.N ≤ b ∧ s.heap.get? b = some o
  tk : 0 < s.toks
theorem tab_high {N a : Nat} (hN : 226 ≤ N) (h : N ≤ a) : tab a = false := by
  unfold tab
  have h1 : a ≠ 65 := by exact fun qq => lin [_, _] (.h 1 (.n 226) (.a 0) <| .h 1 (.a 0) (.a 1) <| .e 1 (.a 1) (.n 65) <| .z) (.refl true) hN h qq
  have h2 : a ≠ 82 := by exact fun qq => lin [_, _] (.h 1 (.n 226) (.a 0) <| .h 1 (.a 0) (.a 1) <| .e 1 (.a 1) (.n 82) <| .z) (.refl true) hN h qq
  have h3 : a ≠ 120 := by exact fun qq => lin [_, _] (.h 1 (.n 226) (.a 0) <| .h 1 (.a 0) (.a 1) <| .e 1 (.a 1) (.n 120) <| .z) (.refl true) hN h qq
  simp [h1, h2, h3]
theorem Prog0.next {C} {s s' : Shared} (P : Prog0 C s) (x : Next C.N s s') (hs : ∃ b o, C.N ≤ b ∧ s'.heap.get? b = some o) (tk : 0 < s'.toks) : Prog C s' where
  hN := P.hN
  size := by
    obtain ⟨b, o, h, e⟩ := hs
    exact Nat.le_trans h (Nat.le_of_lt (Heap.lt_size e))
  hs := hs
  X := fun b o e => x.kept.low (P.low b o e).2 (P.low b o e).1 (P.X b o e)
  low := P.low
  lim := by
    obtain ⟨mc, n, e⟩ := P.lim
    exact ⟨mc, x.kept.ns rfl n, e⟩
  g := x.kept.ns rfl P.g
  b := x.kept.ns rfl P.b
  bb := P.bb
  tabs := x.tabs P.tabs
  tk := tk
  bm := by
    obtain ⟨b, ob, h1, h2, h3, h4, h5, h6, h7⟩ := P.bm
    exact ⟨b, ob, h1, h2, h3, x.kept.obj h3 (fun ⟨_, _, q⟩ => by rw [h7] at q; cases q) h4, h5, h6, h7⟩
theorem Prog.next {C} {s s' : Shared} (P : Prog C s) (x : Next C.N s s') : Prog C s' :=
  P.toProg0.next x (by
    obtain ⟨b, o, h, e⟩ := P.hs
    obtain ⟨o', e', _⟩ := x.kept.get b o (tab_high P.hN h) e
    exact ⟨b, o', h, e'⟩) (Nat.lt_of_lt_of_le P.tk x.tk)

structure Led (C : Cx) (s₀ : Shared) (L : Addr) (m : Str → Option Value) (led : List (Addr × Cell)) (s : Shared) : Prop where
  prog : Prog0 C s₀
  next : Next C.N s₀ s
  ns : s.heap.Ns L m
  above : s₀.heap.objs.size ≤ L
  tk : 0 < s.toks
  cells : ∀ p ∈ led, p.2.At s.heap p.1 ∧ p.1 ≠ L ∧ s₀.heap.objs.size ≤ p.1
  dist : led.Pairwise (fun p q => p.1 ≠ q.1)

section
variable {C : Cx} {s₀ s s' : Shared} {L : Addr} {m : Str → Option Value} {led : List (Addr × Cell)}

theorem Led.tabL (D : Led C s₀ L m led s) : tab L = false := tab_high D.prog.hN (Nat.le_trans D.prog.size D.above)
theorem Led.tabA (D : Led C s₀ L m led s) {p} (hp : p ∈ led) : tab p.1 = false := tab_high D.prog.hN (Nat.le_trans D.prog.size (D.cells p hp).2.2)

theorem Led.step (D : Led C s₀ L m led s) (x : Next C.N s s') : Led C s₀ L m led s' where
  prog := D.prog
  next := D.next.trans x
  ns := x.kept.ns D.tabL D.ns
  above := D.above
  tk := Nat.lt_of_lt_of_le D.tk x.tk
  cells := fun p hp => ⟨(D.cells p hp).1.move fun o e => x.kept.get _ o (D.tabA hp) e, (D.cells p hp).2⟩
  dist := D.dist

theorem Led.forget (D : Led C s₀ L m led s) {led'} (h : led'.Sublist led) : Led C s₀ L m led' s :=
  { D with cells := fun p hp => D.cells p (h.subset hp), dist := D.dist.sublist h }

/-- the frame's own names move, all else stays -/
theorem Led.store (D : Led C s₀ L m led s) {m' : Str → Option Value} {h' : Heap} {tk : Nat} (hn : h'.Ns L m') (hb : Heap.SameBut L s.heap h') (ht : s.toks ≤ tk) : Led C s₀ L m' led { s with heap := h', toks := tk } where
  prog := D.prog
  next := by
    have k : ∀ b o, b ≠ L → s.heap.get? b = some o → h'.get? b = some o := fun b o hne e => (hb.2 b hne).trans e
    refine ⟨⟨fun b o ht e => ?_⟩, fun t => ?_, D.next.os, D.next.gens, Nat.le_trans D.next.tk ht⟩
    · obtain ⟨o', e', sb⟩ := D.next.kept.get b o ht e
      exact ⟨o', k b o' (Nat.ne_of_lt (Nat.lt_of_lt_of_le (Heap.lt_size e) D.above)) e', sb⟩
    · obtain ⟨oL, es, ep, eL, cL, _⟩ := D.ns
      exact (D.next.tabs t).but k eL (.inr ⟨es, ep, cL⟩) D.tabL
  ns := hn
  above := D.above
  tk := Nat.lt_of_lt_of_le D.tk ht
  cells := fun p hp => ⟨(D.cells p hp).1.move' fun o e => (hb.2 p.1 (D.cells p hp).2.1).trans e, (D.cells p hp).2⟩
  dist := D.dist

/-- a new object -/
theorem Led.new (D : Led C s₀ L m led s) (c : Cell) {h' : Heap} {tk : Nat} {a : Addr} (k : ∀ b o, s.heap.get? b = some o → h'.get? b = some o)
    (ha : s.heap.objs.size ≤ a) (hc : c.At h' a) (ht : s.toks ≤ tk) : Led C s₀ L m ((a, c) :: led) { s with heap := h', toks := tk } := by
  have D' := D.step (Next.keeps (N := C.N) (tk := tk) k ht)
  have hL : L < s.heap.objs.size := D.ns.lt
  refine { D' with cells := fun p hp => ?_, dist := ?_ }
  · rcases List.mem_cons.mp hp with rfl | hp
    · exact ⟨hc, Nat.ne_of_gt (Nat.lt_of_lt_of_le hL ha), Nat.le_trans (Nat.le_trans D.above (Nat.le_of_lt hL)) ha⟩
    · exact D'.cells p hp
  · refine List.pairwise_cons.mpr ⟨fun q hq e => ?_, D.dist⟩
    obtain ⟨o, e', _⟩ := (D.cells q hq).1.get
    have hlt : q.1 < s.heap.objs.size := Heap.lt_size e'
    have hq' : q.1 = a := Eq.symm e
    rw [hq'] at hlt
    exact absurd (Nat.lt_of_lt_of_le hlt ha) (Nat.lt_irrefl _)

/-- an object of the ledger moves, all else stays -/
theorem Led.upd (D : Led C s₀ L m led s) {led' : List (Addr × Cell)} {h' : Heap} {tk : Nat} {a : Addr} {c c' : Cell} (hm : (a, c) ∈ led) (hb : Heap.SameBut a s.heap h') (hc : c'.At h' a)
    (ht : s.toks ≤ tk) (hl : ∀ p ∈ led', p = (a, c') ∨ (p.1 ≠ a ∧ p ∈ led)) (hd : led'.map (·.1) = led.map (·.1)) : Led C s₀ L m led' { s with heap := h', toks := tk } where
  prog := D.prog
  next := by
    have k : ∀ b o, b ≠ a → s.heap.get? b = some o → h'.get? b = some o := fun b o hne e => (hb.2 b hne).trans e
    refine ⟨⟨fun b o ht e => ?_⟩, fun t => ?_, D.next.os, D.next.gens, Nat.le_trans D.next.tk ht⟩
    · obtain ⟨o', e', sb⟩ := D.next.kept.get b o ht e
      exact ⟨o', k b o' (Nat.ne_of_lt (Nat.lt_of_lt_of_le (Heap.lt_size e) (D.cells _ hm).2.2)) e', sb⟩
    · obtain ⟨oa, ea, ca⟩ := (D.cells _ hm).1.get
      exact (D.next.tabs t).but k ea ca (D.tabA hm)
  ns := D.ns.sameBut hb (Ne.symm (D.cells _ hm).2.1)
  above := D.above
  tk := Nat.lt_of_lt_of_le D.tk ht
  cells := fun p hp => by
    rcases hl p hp with rfl | ⟨hne, hp'⟩
    · exact ⟨hc, (D.cells _ hm).2.1, (D.cells _ hm).2.2⟩
    · exact ⟨(D.cells p hp').1.move' fun o e => (hb.2 p.1 hne).trans e, (D.cells p hp').2⟩
  dist := by
    have h1 := List.pairwise_map.mpr D.dist
    rw [← hd] at h1
    exact List.pairwise_map.mp h1
/-- an object of the ledger moves, new objects may come -/
theorem Led.updX (D : Led C s₀ L m led s) {led' : List (Addr × Cell)} {h' : Heap} {tk : Nat} {a : Addr} {c : Cell} (hm : (a, c) ∈ led) (hb : Heap.ExtBut a s.heap h')
    (ht : s.toks ≤ tk) (hl : ∀ p ∈ led', (p.1 = a ∧ p.2.At h' a) ∨ (p.1 ≠ a ∧ p ∈ led)) (hd : (led'.map (·.1)).Sublist (led.map (·.1))) : Led C s₀ L m led' { s with heap := h', toks := tk } where
  prog := D.prog
  next := by
    have k : ∀ b o, b ≠ a → s.heap.get? b = some o → h'.get? b = some o := fun b o hne e => hb b o hne e
    refine ⟨⟨fun b o ht e => ?_⟩, fun t => ?_, D.next.os, D.next.gens, Nat.le_trans D.next.tk ht⟩
    · obtain ⟨o', e', sb⟩ := D.next.kept.get b o ht e
      exact ⟨o', k b o' (Nat.ne_of_lt (Nat.lt_of_lt_of_le (Heap.lt_size e) (D.cells _ hm).2.2)) e', sb⟩
    · obtain ⟨oa, ea, ca⟩ := (D.cells _ hm).1.get
      exact (D.next.tabs t).but k ea ca (D.tabA hm)
  ns := D.ns.extBut hb (Ne.symm (D.cells _ hm).2.1)
  above := D.above
  tk := Nat.lt_of_lt_of_le D.tk ht
  cells := fun p hp => by
    rcases hl p hp with ⟨h1, h2⟩ | ⟨hne, hp'⟩
    · rw [h1]; exact ⟨h2, (D.cells _ hm).2.1, (D.cells _ hm).2.2⟩
    · exact ⟨(D.cells p hp').1.move' fun o e => hb p.1 o hne e, (D.cells p hp').2⟩
  dist := List.pairwise_map.mp ((List.pairwise_map.mpr D.dist).sublist hd)
/-- what a callee has made comes to the caller's ledger -/
theorem Led.adopt {L' : Addr} {m' : Str → Option Value} {led' : List (Addr × Cell)} (D : Led C s₀ L m led s) (D' : Led C s L' m' led' s') : Led C s₀ L m (led' ++ led) s' := by
  have E := D.step D'.next
  have lt : ∀ p ∈ led, p.1 < s.heap.objs.size := fun p hp => by
    obtain ⟨o, e, _⟩ := (D.cells p hp).1.get
    exact Heap.lt_size e
  refine { E with cells := fun p hp => ?_, dist := List.pairwise_append.mpr ⟨D'.dist, D.dist, fun p hp q hq e => ?_⟩ }
  · rcases List.mem_append.mp hp with h | h
    · have h2 := (D'.cells p h).2.2
      exact ⟨(D'.cells p h).1, Nat.ne_of_gt (Nat.lt_of_lt_of_le D.ns.lt h2), Nat.le_trans (Nat.le_trans D.above (Nat.le_of_lt D.ns.lt)) h2⟩
    · exact E.cells p h
  · have h2 := (D'.cells p hp).2.2
    have h3 := lt q hq
    have e' : p.1 = q.1 := e
    rw [e'] at h2
    exact absurd (Nat.lt_of_lt_of_le h3 h2) (Nat.lt_irrefl _)
theorem Led.now (D : Led C s₀ L m led s) : Prog C s := D.prog.next D.next (by
  obtain ⟨o, es, ep, e, _⟩ := D.ns
  exact ⟨L, o, Nat.le_trans D.prog.size D.above, e⟩) D.tk
end
end Mine
end
-- B1
section
open PySem PySem.Calls PyProof.Rows PySem.W
namespace Mine

structure Room (A : Around) (n : Nat) : Prop where
  hh : A.handled = none
  dep : A.depth + n < recursionLimit
  un : A.units + 16 * n < cLine
theorem Room.deeper {A n} (R : Room A (n + 1)) (env : Env) : Room (A.deeper env) n := by
  obtain ⟨h, d, u⟩ := R
  refine ⟨h, ?_, ?_⟩
  · show A.depth + 1 + n < _; exact lin [_, _, _] (.l 1 (.p (.a 0) (.p (.a 1) (.n 1))) (.a 2) <| .j 1 (.p (.p (.a 0) (.n 1)) (.a 1)) (.a 2)) (.refl true) d
  · show A.units + 3 + 16 * n < _; exact lin [_, _, _] (.l 1 (.p (.a 1) (.m 16 (.p (.a 0) (.n 1)))) (.a 2) <| .j 1 (.p (.p (.a 1) (.n 3)) (.m 16 (.a 0))) (.a 2)) (.refl true) u
theorem Room.mono {A n k} (R : Room A n) (h : k ≤ n) : Room A k := by
  obtain ⟨hh, d, u⟩ := R
  exact ⟨hh, by exact lin [_, _, _, _] (.h 1 (.a 0) (.a 1) <| .l 1 (.p (.a 2) (.a 1)) (.a 3) <| .j 1 (.p (.a 2) (.a 0)) (.a 3)) (.refl true) h d, by exact lin [_, _, _, _] (.h 16 (.a 0) (.a 1) <| .l 1 (.p (.a 2) (.m 16 (.a 1))) (.a 3) <| .j 1 (.p (.a 2) (.m 16 (.a 0))) (.a 3)) (.refl true) h u⟩
theorem Room.in1 {A n} (R : Room A (n + 1)) : Room A.in1 n := by
  obtain ⟨h, d, u⟩ := R
  refine ⟨h, ?_, ?_⟩
  · show A.depth + n < _; exact lin [_, _, _] (.l 1 (.p (.a 0) (.p (.a 1) (.n 1))) (.a 2) <| .j 1 (.p (.a 0) (.a 1)) (.a 2)) (.refl true) d
  · show A.units + 1 + 16 * n < _; exact lin [_, _, _] (.l 1 (.p (.a 1) (.m 16 (.p (.a 0) (.n 1)))) (.a 2) <| .j 1 (.p (.p (.a 1) (.n 1)) (.m 16 (.a 0))) (.a 2)) (.refl true) u

abbrev fobj (fd : FuncData) : Obj := { cls := .type "function", data := .func fd }

/-- the def at a written address of the top -/
structure FnAt (a : Addr) (fd : FuncData) : Prop where
  get : ∀ P, (K0 P).lookup a = some (fobj fd)
  code : ∀ P, codeIn (K0 P) fd.code fd.qualname = true

/-- a tree walked to its end; nothing is raised -/
structure W {α : Type} (prog : Program) (C : Cx) (A : Around) (t : Sem α) (Q : α → Shared → Prop) (s : Shared) : Prop where
  out : wpAny (model prog C.w) A t Q (fun _ _ => False) s

theorem W.any {α : Type} {prog : Program} {C : Cx} {A : Around} {t : Sem α} {Q : α → Shared → Prop} {E : Value → Shared → Prop} {s : Shared} (h : W prog C A t Q s) : wpAny (model prog C.w) A t Q E s :=
  wpAny_mono h.out (fun _ _ x => x) fun _ _ x => x.elim

section
variable {α β γ : Type} {prog : Program} {C : Cx} {A : Around} {s : Shared} {env : Env}

theorem W.mono {t : Sem α} {Q Q' : α → Shared → Prop} (h : W prog C A t Q s) (k : ∀ a s, Q a s → Q' a s) : W prog C A t Q' s := ⟨wpAny_mono h.out k fun _ _ x => x⟩
theorem W.pure {a : α} {Q : α → Shared → Prop} (h : Q a s) : W prog C A (Pure.pure a) Q s := ⟨wpAny_pure h⟩
theorem W.bind {m : Sem α} {f : α → Sem β} {Q : β → Shared → Prop} (h : W prog C A m (fun a s' => W prog C A (f a) Q s') s) : W prog C A (m >>= f) Q s :=
  ⟨wpAny_bind (wpAny_mono h.out (fun _ _ x => x.out) fun _ _ x => x)⟩
theorem W.o1 {m : Sem α} {f : α → Sem β} {Q : β → Shared → Prop} (h : W prog C A m (fun a s' => W prog C A (f a) Q s') s) :
    wpAny (model prog C.w) A m (fun a s' => wpAny (model prog C.w) A (f a) Q (fun _ _ => False) s') (fun _ _ => False) s := wpAny_mono h.out (fun _ _ x => x.out) fun _ _ x => x
theorem W.o2 {m : Sem α} {f : α → Sem β} {g : α → β → Sem γ} {Q : γ → Shared → Prop} (h : W prog C A m (fun a s₁ => W prog C A (f a) (fun b s₂ => W prog C A (g a b) Q s₂) s₁) s) :
    wpAny (model prog C.w) A m (fun a s₁ => wpAny (model prog C.w) A (f a) (fun b s₂ => wpAny (model prog C.w) A (g a b) Q (fun _ _ => False) s₂) (fun _ _ => False) s₁) (fun _ _ => False) s :=
  wpAny_mono h.out (fun _ _ x => x.o1) fun _ _ x => x

theorem W.tk {t : Sem α} {Q : α → Shared → Prop} (h : W prog C A t (fun a s' => s.toks ≤ s'.toks → Q a s') s) : W prog C A t Q s :=
  ⟨wpAny_with_toks (Nat.le_refl _) (wpAny_mono h.out (fun _ _ x => x) fun _ _ x => x.elim)⟩

theorem rIf {b : Bool} {X Y : Prop} (h1 : b = true → X) (h2 : b = false → Y) : if b = true then X else Y := by
  cases b
  · exact h2 rfl
  · exact h1 rfl
theorem rIfT {b : Bool} {X Y : Prop} (h : b = true) (x : X) : if b = true then X else Y := by rw [if_pos h]; exact x
theorem rIfF {b : Bool} {X Y : Prop} (h : b = false) (y : Y) : if b = true then X else Y := by rw [if_neg (by rw [h]; decide)]; exact y
theorem W.iteOut {b : Bool} {t u : Sem α} {Q : α → Shared → Prop} (h : if b = true then W prog C A t Q s else W prog C A u Q s) :
    if b = true then wpAny (model prog C.w) A t Q (fun _ _ => False) s else wpAny (model prog C.w) A u Q (fun _ _ => False) s := by
  cases b
  · exact W.out h
  · exact W.out h

/-! statements -/
theorem x_nil {Q : Flow → Shared → Prop} (h : Q .next s) : W prog C A (execs [] env) Q s := ⟨wpAny_execs_nil h⟩
theorem x_cons {st rest} {Q : Flow → Shared → Prop} (h : W prog C A (exec st env) (fun f s' => match f with | .next => W prog C A (execs rest env) Q s' | f => Q f s') s) :
    W prog C A (execs (st :: rest) env) Q s := ⟨wpAny_execs_cons (wpAny_mono h.out (fun f s' q => by cases f <;> first | exact q.out | exact q) fun _ _ x => x)⟩
theorem x_ret {e pos} {Q : Flow → Shared → Prop} (h : W prog C A (eval e env) (fun v => Q (.ret v)) s) : W prog C A (exec (.Return (some e) pos) env) Q s := ⟨wpAny_Return_some h.out⟩
theorem x_assign {x pos' value pos} {Q : Flow → Shared → Prop} (h : W prog C A (eval value env) (fun v s₁ => W prog C A (storeName env x v) (fun _ => Q .next) s₁) s)
    (hs : swapsWith value (some (.Name x pos')) pos.line env = pure false := by rfl) : W prog C A (exec (.Assign [.Name x pos'] value pos) env) Q s := ⟨wpAny_Assign_Name h.o1 hs⟩
theorem x_aug {x pos' op value pos} {Q : Flow → Shared → Prop}
    (h : W prog C A (loadName env x) (fun old s₁ => W prog C A (eval value env) (fun v s₂ => W prog C A (inplaceOp op old v) (fun r s₃ => W prog C A (storeName env x r) (fun _ => Q .next) s₃) s₂) s₁) s) :
    W prog C A (exec (.AugAssign (.Name x pos') op value pos) env) Q s :=
  ⟨wpAny_AugAssign_Name (wpAny_mono h.out (fun _ _ x => wpAny_mono x.out (fun _ _ x => x.o1) fun _ _ x => x) fun _ _ x => x)⟩
abbrev IfQ (prog : Program) (C : Cx) (A : Around) (env : Env) (body orelse : List Stmt) (Q : Flow → Shared → Prop) : Bool → Shared → Prop := fun b s₂ => if b = true then W prog C A (execs body env) Q s₂ else W prog C A (execs orelse env) Q s₂
theorem x_if {test body orelse pos} {Q : Flow → Shared → Prop}
    (h : let Qi : Bool → Shared → Prop := IfQ prog C A env body orelse Q; W prog C A (isTrue test env (eval test env)) Qi s) :
    W prog C A (exec (.If test body orelse pos) env) Q s := ⟨wpAny_If (wpAny_mono h.out (fun _ _ x => W.iteOut x) fun _ _ x => x)⟩
theorem x_assert {test msg pos} {Q : Flow → Shared → Prop} (h : W prog C A (isTrue test env (eval test env)) (fun b s₁ => b = true ∧ Q .next s₁) s) :
    W prog C A (exec (.Assert test msg pos) env) Q s := ⟨wpAny_Assert_holds h.out⟩
theorem x_expr {e pos} {Q : Flow → Shared → Prop} (h : W prog C A (eval e env) (fun _ => Q .next) s) (hi : interactive env = false := by rfl) (hs : swapsWith e none pos.line env = pure false := by rfl) :
    W prog C A (exec (.Expr e pos) env) Q s := ⟨wpAny_Expr_any h.out hi hs⟩
theorem x_break {pos} {Q : Flow → Shared → Prop} (h : Q .brk s) : W prog C A (exec (.Break pos) env) Q s := ⟨wpAny_Break h⟩

/-! expressions -/
theorem e_ifexp {test body orelse pos} {Q : Value → Shared → Prop}
    (h : W prog C A (isTrue test env (eval test env)) (fun b s₁ => if b = true then W prog C A (eval body env) Q s₁ else W prog C A (eval orelse env) Q s₁) s) :
    W prog C A (eval (.IfExp test body orelse pos) env) Q s := ⟨wpAny_IfExp (wpAny_mono h.out (fun _ _ x => W.iteOut x) fun _ _ x => x)⟩
theorem e_bin {l op r pos} {Q : Value → Shared → Prop} (h : W prog C A (eval l env) (fun a s₁ => W prog C A (eval r env) (fun b s₂ => W prog C A (binaryOp op a b) Q s₂) s₁) s) :
    W prog C A (eval (.BinOp l op r pos) env) Q s := ⟨wpAny_BinOp h.o2⟩
theorem e_cmp {l op r pos} {Q : Value → Shared → Prop} (h : W prog C A (eval l env) (fun a s₁ => W prog C A (eval r env) (fun b s₂ => W prog C A (compareOp op a b) Q s₂) s₁) s)
    (hm : behindInMarks op r = false := by with_unfolding_all rfl) : W prog C A (eval (.Compare l [op] [r] pos) env) Q s := ⟨wpAny_Compare1 h.o2 hm⟩
inductive BoolQ (Q : Bool → Shared → Prop) (c : Value) (s : Shared) : Prop | intro (z : Bool) (e : c = .bool z) (h : Q z s) : BoolQ Q c s
theorem t_cmp {l op r pos whole} {Q : Bool → Shared → Prop}
    (h : W prog C A (eval l env) (fun a s₁ => W prog C A (eval r env) (fun b s₂ => W prog C A (compareOp op a b) (BoolQ Q) s₂) s₁) s)
    (hm : behindInMarks op r = false := by with_unfolding_all rfl) : W prog C A (isTrue (.Compare l [op] [r] pos) env whole) Q s :=
  ⟨wpAny_isTrue_Compare1 (wpAny_mono h.out (fun _ _ x => wpAny_mono x.out (fun _ _ x => wpAny_mono x.out (fun _ _ ⟨z, e, q⟩ => e ▸ wpAny_truthy_bool q) fun _ _ x => x) fun _ _ x => x) fun _ _ x => x) hm⟩
theorem t_not {x pos whole} {Q : Bool → Shared → Prop} (h : W prog C A (isTrue x env (eval x env)) (fun b s₁ => Q (!b) s₁) s) : W prog C A (isTrue (.UnaryOp .Not x pos) env whole) Q s := ⟨wpAny_isTrue_Not h.out⟩
theorem t_val {e : Expr} {whole : Sem Value} {Q : Bool → Shared → Prop} (h : W prog C A whole (fun v s₁ => W prog C A (truthy v) Q s₁) s)
    (he : isTrue e env whole = (do let v ← whole; standAt e.pos; holding [v] (truthy v)) := by rfl) : W prog C A (isTrue e env whole) Q s := ⟨wpAny_isTrue_value h.o1 he⟩
theorem t_bool {op values pos whole} {Q : Bool → Shared → Prop} (h : W prog C A (allTrue op values env) Q s) : W prog C A (isTrue (.BoolOp op values pos) env whole) Q s := ⟨wpAny_isTrue_BoolOp h.out⟩
theorem t_and0 {Q : Bool → Shared → Prop} (h : Q true s) : W prog C A (allTrue .And [] env) Q s := ⟨wpAny_allTrue_And_nil h⟩
theorem t_or0 {Q : Bool → Shared → Prop} (h : Q false s) : W prog C A (allTrue .Or [] env) Q s := ⟨wpAny_allTrue_Or_nil h⟩
theorem t_and {x rest} {Q : Bool → Shared → Prop} (h : W prog C A (isTrue x env (eval x env)) (fun b s₁ => if b = true then W prog C A (allTrue .And rest env) Q s₁ else Q false s₁) s) :
    W prog C A (allTrue .And (x :: rest) env) Q s := ⟨wpAny_allTrue_And_cons (wpAny_mono h.out (fun b s₁ q => by
      cases b
      · exact q
      · exact W.out q) fun _ _ x => x)⟩
theorem t_or {x rest} {Q : Bool → Shared → Prop} (h : W prog C A (isTrue x env (eval x env)) (fun b s₁ => if b = true then Q true s₁ else W prog C A (allTrue .Or rest env) Q s₁) s) :
    W prog C A (allTrue .Or (x :: rest) env) Q s := ⟨wpAny_allTrue_Or_cons (wpAny_mono h.out (fun b s₁ q => by
      cases b
      · exact W.out q
      · exact q) fun _ _ x => x)⟩
theorem truthy_b {b : Bool} {Q : Bool → Shared → Prop} (h : Q b s) : W prog C A (truthy (.bool b)) Q s := ⟨wpAny_truthy_bool h⟩
end

section
variable {prog : Program} {C : Cx} {A : Around} {s₀ s : Shared} {L a : Addr} {m : Str → Option Value} {led : List (Addr × Cell)} {fd : FuncData}

theorem Prog.fn (P : Prog C s) {f : Addr} (F : FnAt f fd) : s.heap.get? f = some (fobj fd) := P.X _ _ (F.get _)
theorem Prog.cd (P : Prog C s) {f : Addr} (F : FnAt f fd) : s.heap.CodeRec fd.code fd.qualname := codeRec_of P.X (F.code _)
theorem Prog.glob (P : Prog C s) {x : Str} {v : Value} (e : ∀ P, nsIn (K0 P) mainGlobals x = some (some v)) : C.mg x = some v := mg_of P.X P.g (e _)
theorem Prog.noGlob (P : Prog C s) {x : Str} (e : ∀ P, nsIn (K0 P) mainGlobals x = some none) : C.mg x = none := mg_none_of P.X P.g (e _)

/-- the call's first def is entered -/
theorem rEnter0 {f : Addr} {body : List Stmt} {vals : List Value} {binds : List (Str × Value)} {Q : Value → Shared → Prop} {n : Nat} (P : Prog0 C s) (R : Room A (n + 1)) (F : FnAt f fd) (hbl : 0 < binds.length)
    (hbody : fd.body = .stmts body) (hbind : BindsTo s fd ⟨vals, []⟩ binds)
    (h : ∀ s₁ L, Room (A.deeper (callEnv fd L f)) n → Led C s L (fun x => binds.reverse.lookup x) [] s₁ → W prog C (A.deeper (callEnv fd L f)) (execs body (callEnv fd L f)) (fun fl s' => Q (match fl with | .ret v => v | _ => .none) s') s₁)
    (hloc : (binds.all fun x => decide (fd.scope.names.lookup x.1 = some .local)) = true := by rfl)
    (hcell : (fd.scope.names.all fun x => decide (x.2 ≠ .cell)) = true := by rfl)
    (hco : fd.scope.isCoroutine = false := by rfl) (hgen : fd.scope.isGenerator = false := by rfl) (hk : fd.scope.kind = .function := by rfl) :
    W prog C A (call (.ref f) vals) Q s := by
  refine ⟨wpAny_call ?_⟩
  refine codeAny_call_def (Nat.lt_of_le_of_lt (Nat.le_add_right ..) R.dep) (P.X _ _ (F.get _)) rfl P.lim (codeRec_of P.X (F.code _)) hbody hbind (fun x hx => of_decide_eq_true (List.all_eq_true.mp hcell x hx)) (locs hloc) (fun h₀ hn hk₀ => ?_) hco hgen hk
  refine wpAny_mono (h _ s.heap.objs.size (R.deeper _) ⟨P, Next.keeps hk₀ (Nat.le_add_right ..), hn, Nat.le_refl _, Nat.lt_of_lt_of_le hbl (Nat.le_add_left ..), fun p hp => (nomatch hp), .nil⟩).out (fun fl s' q => q) fun _ _ x => x.elim
/-- a def is entered: the callee's frame over the caller's heap -/
theorem rEnter {f : Addr} {body : List Stmt} {vals : List Value} {binds : List (Str × Value)} {Q : Value → Shared → Prop} {n : Nat} (P : Prog C s) (R : Room A (n + 1)) (F : FnAt f fd)
    (hbody : fd.body = .stmts body) (hbind : BindsTo s fd ⟨vals, []⟩ binds)
    (h : ∀ s₁ L, Room (A.deeper (callEnv fd L f)) n → Led C s L (fun x => binds.reverse.lookup x) [] s₁ → W prog C (A.deeper (callEnv fd L f)) (execs body (callEnv fd L f)) (fun fl s' => Q (match fl with | .ret v => v | _ => .none) s') s₁)
    (hloc : (binds.all fun x => decide (fd.scope.names.lookup x.1 = some .local)) = true := by rfl)
    (hcell : (fd.scope.names.all fun x => decide (x.2 ≠ .cell)) = true := by rfl)
    (hco : fd.scope.isCoroutine = false := by rfl) (hgen : fd.scope.isGenerator = false := by rfl) (hk : fd.scope.kind = .function := by rfl) :
    W prog C A (call (.ref f) vals) Q s := by
  refine ⟨wpAny_call ?_⟩
  refine codeAny_call_def (Nat.lt_of_le_of_lt (Nat.le_add_right ..) R.dep) (P.fn F) rfl P.lim (P.cd F) hbody hbind (fun x hx => of_decide_eq_true (List.all_eq_true.mp hcell x hx)) (locs hloc) (fun h₀ hn hk₀ => ?_) hco hgen hk
  refine wpAny_mono (h _ s.heap.objs.size (R.deeper _) ⟨P.toProg0, Next.keeps hk₀ (Nat.le_add_right ..), hn, Nat.le_refl _, Nat.lt_of_lt_of_le P.tk (Nat.le_add_right ..), fun p hp => (nomatch hp), .nil⟩).out (fun fl s' q => q) fun _ _ x => x.elim

theorem rName {x : Str} {pos : Pos} {v : Value} {Q : Value → Shared → Prop} (D : Led C s₀ L m led s) (hv : m x = some v) (h : Q v s)
    (hk : fd.scope.kind = .function := by rfl) (hl : (callEnv fd L a).kindOf x = some .local := by rfl) (hd : (x == ("__debug__" : Str)) = false := by rfl) :
    W prog C A (eval (.Name x pos) (callEnv fd L a)) Q s := ⟨ldc hk hl D.ns hv h hd⟩
theorem rLoad {x : Str} {v : Value} {Q : Value → Shared → Prop} (D : Led C s₀ L m led s) (hv : m x = some v) (h : Q v s)
    (hk : fd.scope.kind = .function := by rfl) (hl : (callEnv fd L a).kindOf x = some .local := by rfl) :
    W prog C A (loadName (callEnv fd L a) x) Q s := ⟨wpAny_loadName_local hk hl D.ns hv h⟩
theorem rGlob {x : Str} {pos : Pos} {v : Value} {Q : Value → Shared → Prop} (D : Led C s₀ L m led s) (e : ∀ P, nsIn (K0 P) mainGlobals x = some (some v)) (h : Q v s)
    (hk : fd.scope.kind = .function := by rfl) (hl : (callEnv fd L a).kindOf x = some .globalImplicit := by rfl) (hg : fd.globals = mainGlobals := by rfl) (hd : (x == ("__debug__" : Str)) = false := by rfl) :
    W prog C A (eval (.Name x pos) (callEnv fd L a)) Q s :=
  ⟨Name_function_global hk hl (loadGlobal_global (env := callEnv fd L a) (mg := C.mg) (by show s.heap.Ns fd.globals C.mg; rw [hg]; exact D.now.g) (D.now.glob e) h) hd⟩
theorem rBuilt {x : Str} {pos : Pos} {v : Value} {Q : Value → Shared → Prop} (D : Led C s₀ L m led s) (e : ∀ P, nsIn (K0 P) mainGlobals x = some none) (hv : bootBuiltins x = some v) (hx : x ≠ ("__name__" : Str)) (h : Q v s)
    (hk : fd.scope.kind = .function := by rfl) (hl : (callEnv fd L a).kindOf x = some .globalImplicit := by rfl) (hg : fd.globals = mainGlobals := by rfl) (hb : fd.builtins = builtinsNs := by rfl) (hd : (x == ("__debug__" : Str)) = false := by rfl) :
    W prog C A (eval (.Name x pos) (callEnv fd L a)) Q s :=
  ⟨Name_function_global hk hl (loadGlobal_builtin (env := callEnv fd L a) (mg := C.mg) (mb := C.mb) (by show s.heap.Ns fd.globals C.mg; rw [hg]; exact D.now.g) (D.now.noGlob e)
    (by show s.heap.Ns fd.builtins C.mb; rw [hb]; exact D.now.b) ((D.now.bb x hx).trans hv) h) hd⟩

noncomputable def upd (m : Str → Option Value) (x : Str) (v : Value) : Str → Option Value := fun y => if y = x then some v else m y
theorem rStore {x : Str} {v : Value} {Q : Unit → Shared → Prop} (D : Led C s₀ L m led s) (h : ∀ s', Led C s₀ L (upd m x v) led s' → Q () s')
    (hl : (callEnv fd L a).kindOf x = some .local := by rfl) (hp : ((callEnv fd L a).scope.kind == .class || ((callEnv fd L a).scope.kind == .module && (callEnv fd L a).locals != (callEnv fd L a).globals)) = false := by rfl) :
    W prog C A (storeName (callEnv fd L a) x v) Q s :=
  ⟨wpAny_storeName_local (env := callEnv fd L a) hl D.ns (fun _ hn hs => h _ (D.store hn hs (Nat.le_succ _))) hp⟩

theorem Led.toks (D : Led C s₀ L m led s) (t : Nat) (ht : s.toks ≤ t) : Led C s₀ L m led { s with toks := t } := D.step (.toks ht)
theorem Led.tok1 (D : Led C s₀ L m led s) : Led C s₀ L m led { s with toks := s.toks + 1 } := D.toks _ (Nat.le_succ _)

theorem rStr {x : Str} {k : Nat} {pos : Pos} {env : Env} {Q : Value → Shared → Prop} (D : Led C s₀ L m led s) (h : ∀ t s', Led C s₀ L m led s' → Q (.str x t) s') :
    W prog C A (eval (.Constant (.str x) k pos) env) Q s := ⟨wpAny_Constant_str (h _ _ D.tok1)⟩
theorem rStrS {x : Str} {k : Nat} {pos : Pos} {env : Env} {Q : Value → Shared → Prop} (l : List Nat) (D : Led C s₀ L m led s) (h : ∀ t s', Led C s₀ L m led s' → Q (.str (S l) t) s') (e : x = S l := by rfl) :
    W prog C A (eval (.Constant (.str x) k pos) env) Q s := by
  subst e; exact rStr D h
theorem rInt {x : Int} {k : Nat} {pos : Pos} {env : Env} {Q : Value → Shared → Prop} (D : Led C s₀ L m led s) (h : ∀ t s', Led C s₀ L m led s' → Q (.int x t) s') :
    W prog C A (eval (.Constant (.int x) k pos) env) Q s := ⟨wpAny_Constant_int (h _ _ D.tok1)⟩
theorem rNone {k : Nat} {pos : Pos} {env : Env} {Q : Value → Shared → Prop} (h : Q .none s) : W prog C A (eval (.Constant .none k pos) env) Q s := ⟨wpAny_Constant_none h⟩
theorem rBoolC {b : Bool} {k : Nat} {pos : Pos} {env : Env} {Q : Value → Shared → Prop} (h : Q (.bool b) s) : W prog C A (eval (.Constant (.bool b) k pos) env) Q s := ⟨wpAny_Constant_bool h⟩

/-! texts as lists of signs -/
theorem S_append (x y : List Nat) : S x ++ S y = S (x ++ y) := by
  show Str.append _ _ = _
  simp [Str.append, S]
theorem S_len (x : List Nat) : (S x).length = x.length := by simp [Str.length]
theorem S_inj {x y : List Nat} : S x = S y ↔ x = y := by
  constructor
  · intro h; have := congrArg (fun s : Str => s.cps.toList) h; simpa using this
  · intro h; rw [h]
theorem S_beq (x y : List Nat) : (S x == S y) = decide (x = y) := by
  by_cases h : x = y
  · simp [h]
  · have : ¬ S x = S y := fun q => h (S_inj.mp q)
    simp [h]

theorem rAddS {x y : List Nat} {t u : Tok} {Q : Value → Shared → Prop} (D : Led C s₀ L m led s) (hsz : x.length + y.length ≤ sizeLine) (h : ∀ t s', Led C s₀ L m led s' → Q (.str (S (x ++ y)) t) s') :
    W prog C A (binaryOp .Add (.str (S x) t) (.str (S y) u)) Q s :=
  W.tk ⟨add_str (fun t' tk hle => by rw [S_append]; exact h _ _ (D.toks tk hle)) (by rw [S_len, S_len]; exact hsz)⟩
theorem rIAddS {x y : List Nat} {t u : Tok} {Q : Value → Shared → Prop} (D : Led C s₀ L m led s) (hsz : x.length + y.length ≤ sizeLine) (h : ∀ t s', Led C s₀ L m led s' → Q (.str (S (x ++ y)) t) s') :
    W prog C A (inplaceOp .Add (.str (S x) t) (.str (S y) u)) Q s :=
  W.tk ⟨iadd_str (fun t' tk hle => by rw [S_append]; exact h _ _ (D.toks tk hle)) (by rw [S_len, S_len]; exact hsz)⟩

theorem occ_one (l : List Nat) (c : Nat) : (!(Builtin.Str.occurrences (S l) (S [c]) 0 (S l).length 1).isEmpty) = l.contains c := by
  have := StrLaws.found_one (S l) c
  rw [show (S [c]) = (⟨#[c]⟩ : Str) from rfl, this]
  simp
theorem rInS {l : List Nat} {c : Nat} {t u : Tok} {Q : Value → Shared → Prop} (h : Q (.bool (l.contains c)) s) :
    W prog C A (compareOp .In (.str (S [c]) u) (.str (S l) t)) Q s :=
  ⟨in_str (by rw [occ_one]; exact h)⟩
theorem rNotInS {l : List Nat} {c : Nat} {t u : Tok} {Q : Value → Shared → Prop} (h : Q (.bool (!l.contains c)) s) :
    W prog C A (compareOp .NotIn (.str (S [c]) u) (.str (S l) t)) Q s :=
  ⟨notIn_str (by rw [occ_one]; exact h)⟩
theorem rEqS {x y : List Nat} {t u : Tok} {Q : Value → Shared → Prop} (h : Q (.bool (decide (x = y))) s) : W prog C A (compareOp .Eq (.str (S x) t) (.str (S y) u)) Q s :=
  ⟨eq_str (by rw [S_beq]; exact h)⟩
theorem rNeS {x y : List Nat} {t u : Tok} {Q : Value → Shared → Prop} (h : Q (.bool (!decide (x = y))) s) : W prog C A (compareOp .NotEq (.str (S x) t) (.str (S y) u)) Q s :=
  ⟨ne_str (by rw [bne, S_beq]; exact h)⟩
end
end Mine
end
-- XL
section
open PySem PySem.Calls PyProof.Rows PySem.W
namespace Mine
section
variable {prog : Program} {C : Cx} {A : Around} {s₀ s : Shared} {L a : Addr} {m : Str → Option Value} {led : List (Addr × Cell)} {fd : FuncData} {env : Env}
abbrev ConsQ (prog : Program) (C : Cx) (A : Around) (env : Env) (rest : List Stmt) (Q : Flow → Shared → Prop) : Flow → Shared → Prop := fun f s' => match f with | .next => W prog C A (execs rest env) Q s' | f => Q f s'
theorem x_consL {st rest} {Q : Flow → Shared → Prop} (h : let Qs : Flow → Shared → Prop := ConsQ prog C A env rest Q; W prog C A (exec st env) Qs s) :
    W prog C A (execs (st :: rest) env) Q s := ⟨wpAny_execs_cons (wpAny_mono h.out (fun f s' q => by cases f <;> first | exact q.out | exact q) fun _ _ x => x)⟩
end
end Mine
end
-- B2
section
open PySem PySem.Calls PyProof.Rows PySem.W
namespace Mine

section
variable {α β γ : Type} {prog : Program} {C : Cx} {A : Around} {s : Shared} {env : Env}

/-! arguments -/
theorem a_nil {pos : Pos} {Q : List Value → Shared → Prop} (h : Q [] s) : W prog C A (spliced (backTo pos (starEach [] env))) Q s := ⟨wpAny_items_nil h⟩
theorem a_cons {pos : Pos} {e : Expr} {rest : List Expr} {Q : List Value → Shared → Prop}
    (h : W prog C A (eval e env) (fun v s₁ => W prog C A (spliced (backTo pos (starEach rest env))) (fun vs s₂ => Q (v :: vs) s₂) s₁) s)
    (he : starEach (e :: rest) env = (false, eval e env) :: starEach rest env := by rfl) : W prog C A (spliced (backTo pos (starEach (e :: rest) env))) Q s := ⟨wpAny_items_cons (wpAny_mono h.out (fun _ _ x => x.out) fun _ _ x => x) he⟩
theorem args_of {f : Value} {trees : List (Bool × Sem Value)} {Q : Args → Shared → Prop} (h : W prog C A (spliced trees) (fun vs s' => Q ⟨vs, []⟩ s') s) (hp : trees.any (·.1) = false) :
    W prog C A (evalArgs f true trees []) Q s := by
  cases trees with
  | nil =>
    refine ⟨?_⟩
    unfold evalArgs
    show wpAny _ A (spliced [] >>= _) Q _ s
    exact wpAny_bind (wpAny_mono h.out (fun vs s' q => wpAny_bind (wpAny_pure (wpAny_holding (wpAny_bind (wpAny_pure (wpAny_bind (wpAny_pure (wpAny_pure q)))))))) fun _ _ x => x)
  | cons x r =>
    obtain ⟨b, t⟩ := x
    cases b with
    | true => simp at hp
    | false => exact ⟨evalArgs_plain h.out⟩

/-! a call by a name -/
theorem e_callN {x : Str} {np pos : Pos} {args : List Expr} {Q : Value → Shared → Prop}
    (h : W prog C A (eval (.Name x np) env) (fun f s₁ => W prog C A (callWith pos f [] (backTo pos (starEach args env)) []) Q s₁) s) : W prog C A (eval (.Call (.Name x np) args [] pos) env) Q s :=
  ⟨wpAny_Call_NameR h.o1⟩
theorem c_fn {pos : Pos} {a : Addr} {fd : FuncData} {trees : List (Bool × Sem Value)} {Q : Value → Shared → Prop}
    (h : W prog C A (spliced trees) (fun vs s₁ => s₁.heap.get? a = some (fobj fd) ∧ W prog C A (call (.ref a) vs) Q s₁) s) (hp : trees.any (·.1) = false := by rfl) :
    W prog C A (callWith pos (.ref a) [] trees []) Q s :=
  ⟨callWith_function (o := fobj fd) (fd := fd) (wpAny_mono (args_of (f := .ref a) (Q := fun x s₁ => s₁.heap.get? a = some (fobj fd) ∧ W prog C A (call (.ref a) ([] ++ x.pos) x.kw) Q s₁) h hp).out
    (fun _ _ q => ⟨⟨q.1, rfl⟩, q.2.out⟩) fun _ _ x => x)⟩
theorem c_bi {pos : Pos} {id : String} {first : List Value} {trees : List (Bool × Sem Value)} {Q : Value → Shared → Prop}
    (h : W prog C A (spliced trees) (fun vs s₁ => W prog C A (call (.builtin id) (first ++ vs)) Q s₁) s) (hp : trees.any (·.1) = false := by rfl) :
    W prog C A (callWith pos (.builtin id) first trees []) Q s :=
  ⟨callWith_builtin hp (wpAny_mono (args_of (f := .builtin id) (Q := fun x s₁ => W prog C A (call (.builtin id) (first ++ x.pos) x.kw) Q s₁) h hp).out (fun _ _ q => q.out) fun _ _ x => x)⟩
theorem c_ty {pos : Pos} {T : String} {trees : List (Bool × Sem Value)} {Q : Value → Shared → Prop}
    (h : W prog C A (spliced trees) (fun vs s₁ => W prog C A (call (.type T) vs) Q s₁) s) (hp : trees.any (·.1) = false := by rfl) :
    W prog C A (callWith pos (.type T) [] trees []) Q s :=
  ⟨PyProof.Rows.callWith_type hp (wpAny_mono (args_of (f := .type T) (Q := fun x s₁ => W prog C A (call (.type T) ([] ++ x.pos) x.kw) Q s₁) h hp).out (fun _ _ q => q.out) fun _ _ x => x)⟩

/-! a method -/
abbrev NoE : Value → Shared → Prop := fun _ _ => False
theorem e_m0 {o : Expr} {name : Str} {apos pos : Pos} {Q : Value → Shared → Prop} (h : W prog C A (eval o env) (fun ov s₁ => MethodOnS prog C.w A NoE name ov pos [] Q s₁) s)
    (hbase : attributeBase o name env (eval o env) = eval o env := by rfl) (hline : (apos.endLine == pos.line) = true := by rfl) :
    W prog C A (eval (.Call (.Attribute o name apos) [] [] pos) env) Q s := ⟨Call_method0 hbase hline h.out⟩
theorem e_m1 {o e : Expr} {name : Str} {apos pos : Pos} {Q : Value → Shared → Prop} (h : W prog C A (eval o env) (fun ov s₁ => MethodOnS prog C.w A NoE name ov pos [(false, eval e env)] Q s₁) s)
    (hbase : attributeBase o name env (eval o env) = eval o env := by rfl) (hs : starEach [e] env = [(false, eval e env)] := by rfl) (hline : (apos.endLine == pos.line) = true := by rfl) :
    W prog C A (eval (.Call (.Attribute o name apos) [e] [] pos) env) Q s := ⟨Call_method1 hbase hs hline h.out⟩
theorem e_m2 {o e₁ e₂ : Expr} {name : Str} {apos pos : Pos} {Q : Value → Shared → Prop}
    (h : W prog C A (eval o env) (fun ov s₁ => MethodOnS prog C.w A NoE name ov pos [(false, eval e₁ env), (false, eval e₂ env)] Q s₁) s)
    (hbase : attributeBase o name env (eval o env) = eval o env := by rfl) (hs : starEach [e₁, e₂] env = [(false, eval e₁ env), (false, eval e₂ env)] := by rfl) (hline : (apos.endLine == pos.line) = true := by rfl) :
    W prog C A (eval (.Call (.Attribute o name apos) [e₁, e₂] [] pos) env) Q s := ⟨Call_method2 hbase hs hline h.out⟩
theorem e_mS {o : Expr} {name : Str} {apos pos : Pos} {args : List Expr} {Q : Value → Shared → Prop} (h : W prog C A (eval o env) (fun ov s₁ => MethodOnS prog C.w A NoE name ov pos (backTo pos (starEach args env)) Q s₁) s)
    (hbase : attributeBase o name env (eval o env) = eval o env := by rfl)
    (hfew : ((backTo pos (starEach args env)).all (fun x => !x.1) && (backToKw pos (keywordEach [] env)).all (fun x => x.1.isSome)
      && decide (args.length + ([] : List Keyword).length + (if ([] : List Keyword).isEmpty then 0 else 1) < 30)) = true := by rfl)
    (hline : (apos.endLine == pos.line) = true := by rfl) : W prog C A (eval (.Call (.Attribute o name apos) args [] pos) env) Q s := ⟨wpAny_Call_method_lateS hbase hfew hline h.out⟩

structure Meth (T : String) (name : Str) (id : String) : Prop where
  plain : PlainAttrs T
  slot : Slot T name id
  type : typeOf (.builtin id) = pure (.type "method_descriptor")

theorem m_ref {T id : String} {name : Str} {a : Addr} {ob : Obj} {pos : Pos} {trees : List (Bool × Sem Value)} {Q : Value → Shared → Prop} (M : Meth T name id) (ho : s.heap.get? a = some ob) (hc : ob.cls = .type T) (hd : ob.dict = none)
    (h : W prog C A (spliced trees) (fun vs s₁ => W prog C A (call (.builtin id) (.ref a :: vs)) Q s₁) s) (hp : trees.any (·.1) = false := by rfl) : MethodOnS prog C.w A NoE name (.ref a) pos trees Q s :=
  ⟨T, id, M.plain, M.slot, M.type, ⟨ob, ho, hc⟩, fun _ e => by cases e; exact ⟨ob, ho, hd⟩, (c_bi (first := [.ref a]) h hp).out⟩
theorem m_str {id : String} {name : Str} {x : Str} {t : Tok} {pos : Pos} {trees : List (Bool × Sem Value)} {Q : Value → Shared → Prop} (M : Meth "str" name id)
    (h : W prog C A (spliced trees) (fun vs s₁ => W prog C A (call (.builtin id) (.str x t :: vs)) Q s₁) s) (hp : trees.any (·.1) = false := by rfl) : MethodOnS prog C.w A NoE name (.str x t) pos trees Q s :=
  ⟨"str", id, M.plain, M.slot, M.type, typeIs_str _ _ _, (fun _ e => nomatch e), (c_bi (first := [.str x t]) h hp).out⟩

theorem sp_nil {Q : List Value → Shared → Prop} (h : Q [] s) : W prog C A (spliced []) Q s := ⟨spliced_nil h⟩
theorem sp_cons {x : Sem Value} {rest : List (Bool × Sem Value)} {Q : List Value → Shared → Prop} (h : W prog C A x (fun v s₁ => W prog C A (spliced rest) (fun vs s₂ => Q (v :: vs) s₂) s₁) s) :
    W prog C A (spliced ((false, x) :: rest)) Q s := ⟨spliced_cons (wpAny_mono h.out (fun _ _ x => x.out) fun _ _ x => x)⟩

theorem e_neg {x pos} {Q : Value → Shared → Prop} (h : W prog C A (eval x env) (fun v s₁ => W prog C A (unaryOp .USub v) Q s₁) s) : W prog C A (eval (.UnaryOp .USub x pos) env) Q s := ⟨wpAny_UnaryOp h.o1⟩
end

section
variable {prog : Program} {C : Cx} {A : Around} {s₀ s : Shared} {L a : Addr} {m : Str → Option Value} {led : List (Addr × Cell)} {fd : FuncData} {env : Env}

theorem rNegI {i : Int} {t : Tok} {Q : Value → Shared → Prop} (D : Led C s₀ L m led s) (h : ∀ t s', Led C s₀ L m led s' → Q (.int (-i) t) s') : W prog C A (unaryOp .USub (.int i t)) Q s :=
  ⟨neg_int (h _ _ D.tok1)⟩
theorem e_m1i {k pos p} {n : Int} {Q : Value → Shared → Prop} (D : Led C s₀ L m led s) (h : ∀ t s', Led C s₀ L m led s' → Q (.int (-n) t) s') : W prog C A (eval (.UnaryOp .USub (.Constant (.int n) k p) pos) env) Q s :=
  e_neg (rInt D fun _ _ D => rNegI D h)

/-! names of the top -/
theorem gGlob {x : Str} {pos : Pos} {v : Value} {Q : Value → Shared → Prop} (P : Prog C s) (e : ∀ P, nsIn (K0 P) mainGlobals x = some (some v)) (h : Q v s)
    (hk : env.scope.kind = .function := by rfl) (hl : env.kindOf x = some .globalImplicit := by rfl) (hg : env.globals = mainGlobals := by rfl) (hd : (x == ("__debug__" : Str)) = false := by rfl) :
    W prog C A (eval (.Name x pos) env) Q s :=
  ⟨Name_function_global hk hl (loadGlobal_global (env := env) (mg := C.mg) (by rw [hg]; exact P.g) (P.glob e) h) hd⟩
theorem gBuilt {x : Str} {pos : Pos} {v : Value} {Q : Value → Shared → Prop} (P : Prog C s) (e : (∀ P, nsIn (K0 P) mainGlobals x = some none) ∧ bootBuiltins x = some v ∧ x ≠ ("__name__" : Str)) (h : Q v s)
    (hk : env.scope.kind = .function := by rfl) (hl : env.kindOf x = some .globalImplicit := by rfl) (hg : env.globals = mainGlobals := by rfl) (hb : env.builtins = builtinsNs := by rfl) (hd : (x == ("__debug__" : Str)) = false := by rfl) :
    W prog C A (eval (.Name x pos) env) Q s :=
  ⟨Name_function_global hk hl (loadGlobal_builtin (env := env) (mg := C.mg) (mb := C.mb) (by rw [hg]; exact P.g) (P.noGlob e.1)
    (by rw [hb]; exact P.b) ((P.bb x e.2.2).trans e.2.1) h) hd⟩

/-- a def of the top called by its name -/
theorem e_def {x : Str} {np pos : Pos} {args : List Expr} {f : Addr} {fdc : FuncData} {Q : Value → Shared → Prop} (P : Prog C s) (e : ∀ P, nsIn (K0 P) mainGlobals x = some (some (.ref f))) (F : FnAt f fdc)
    (h : W prog C A (spliced (backTo pos (starEach args env))) (fun vs s₁ => Prog C s₁ ∧ W prog C A (call (.ref f) vs) Q s₁) s) (hp : (backTo pos (starEach args env)).any (·.1) = false := by rfl)
    (hk : env.scope.kind = .function := by rfl) (hl : env.kindOf x = some .globalImplicit := by rfl) (hg : env.globals = mainGlobals := by rfl) (hd : (x == ("__debug__" : Str)) = false := by rfl) :
    W prog C A (eval (.Call (.Name x np) args [] pos) env) Q s :=
  e_callN (gGlob P e (c_fn (fd := fdc) (h.mono fun _ _ q => ⟨q.1.fn F, q.2⟩) hp) hk hl hg hd)
theorem e_bi {x : Str} {np pos : Pos} {args : List Expr} {id : String} {Q : Value → Shared → Prop} (P : Prog C s) (e : (∀ P, nsIn (K0 P) mainGlobals x = some none) ∧ bootBuiltins x = some (.builtin id) ∧ x ≠ ("__name__" : Str))
    (h : W prog C A (spliced (backTo pos (starEach args env))) (fun vs s₁ => W prog C A (call (.builtin id) vs) Q s₁) s) (hp : (backTo pos (starEach args env)).any (·.1) = false := by rfl)
    (hk : env.scope.kind = .function := by rfl) (hl : env.kindOf x = some .globalImplicit := by rfl) (hg : env.globals = mainGlobals := by rfl) (hb : env.builtins = builtinsNs := by rfl) (hd : (x == ("__debug__" : Str)) = false := by rfl) :
    W prog C A (eval (.Call (.Name x np) args [] pos) env) Q s :=
  e_callN (gBuilt P e (c_bi h hp) hk hl hg hb hd)
theorem e_ty {x : Str} {np pos : Pos} {args : List Expr} {T : String} {Q : Value → Shared → Prop} (P : Prog C s) (e : (∀ P, nsIn (K0 P) mainGlobals x = some none) ∧ bootBuiltins x = some (.type T) ∧ x ≠ ("__name__" : Str))
    (h : W prog C A (spliced (backTo pos (starEach args env))) (fun vs s₁ => W prog C A (call (.type T) vs) Q s₁) s) (hp : (backTo pos (starEach args env)).any (·.1) = false := by rfl)
    (hk : env.scope.kind = .function := by rfl) (hl : env.kindOf x = some .globalImplicit := by rfl) (hg : env.globals = mainGlobals := by rfl) (hb : env.builtins = builtinsNs := by rfl) (hd : (x == ("__debug__" : Str)) = false := by rfl) :
    W prog C A (eval (.Call (.Name x np) args [] pos) env) Q s :=
  e_callN (gBuilt P e (c_ty h hp) hk hl hg hb hd)

/-! slices and signs of texts -/
noncomputable def cut (x : List Nat) (l u : Option Int) : Str := StrLaws.sliceText (S x) l u
theorem post_two {s : Shared} {c : Prop} [Decidable c] {y z : Str} {t : Tok} {Q : Value → Shared → Prop} (hz : (if c then y else z).length ≤ sizeLine) (h : ∀ t' k, s.toks ≤ k → Q (.str (if c then y else z) t') { s with toks := k }) :
    (if c then Made.val (.str y t) else Made.str z).post Q s := by
  by_cases hc : c
  · rw [if_pos hc]; have h' := h t s.toks (Nat.le_refl _); rw [if_pos hc] at h'; exact h'
  · rw [if_neg hc]; have h' := h s.toks (s.toks + 1) (Nat.le_succ _); rw [if_neg hc] at h' hz; exact ⟨hz, h'⟩
theorem cut_to {x : List Nat} {a : Nat} (h : a ≤ x.length) : cut x none (some (a : Int)) = S (x.take a) := by
  unfold cut
  rw [StrLaws.sliceText_to ⟨by omega, by simp; exact h⟩]
  simp
theorem cut_from {x : List Nat} {a : Nat} (h : a ≤ x.length) : cut x (some (a : Int)) none = S (x.drop a) := by
  unfold cut
  rw [StrLaws.sliceText_from ⟨by omega, by simp; exact h⟩]
  simp only [Int.toNat_natCast]
  congr 2
  rw [List.take_of_length_le]
  simp
theorem cut_mid {x : List Nat} {a b : Nat} (hab : a ≤ b) (h : b ≤ x.length) : cut x (some (a : Int)) (some (b : Int)) = S ((x.drop a).take (b - a)) := by
  unfold cut
  rw [StrLaws.sliceText_nat _ hab (by simpa [Str.length] using h)]
theorem cut_neg1 {x : List Nat} (lo : Option Int) (h : 1 ≤ x.length) : cut x lo (some (-1)) = cut x lo (some ((x.length - 1 : Nat) : Int)) := by
  unfold cut
  rw [StrLaws.sliceText_neg_hi _ lo (by omega) (by simp [Str.length]; omega)]
  congr 2
  simp [Str.length]
  omega
inductive SliceOn (C : Cx) (o vl vu : Value) (Q : Value → Shared → Prop) (s : Shared) : Prop
  | intro (s₀ : Shared) (L : Addr) (m : Str → Option Value) (led : List (Addr × Cell)) (x : List Nat) (t : Tok) (l u : Option (Int × Tok)) (D : Led C s₀ L m led s) (ho : o = .str (S x) t) (hl : vl = partValue l) (hu : vu = partValue u)
    (hz : x.length ≤ sizeLine) (k : ∀ t' s', Led C s₀ L m led s' → Q (.str (cut x (l.map (·.1)) (u.map (·.1))) t') s') : SliceOn C o vl vu Q s
theorem e_sliceS {value : Expr} {lower upper : Option Expr} {p pos : Pos} {Q : Value → Shared → Prop}
    (h : W prog C A (eval value env) (fun o s₁ => W prog C A (evalPart lower env) (fun vl s₂ => W prog C A (evalPart upper env) (fun vu s₃ => SliceOn C o vl vu Q s₃) s₂) s₁) s)
    (ht' : ∀ o r, letTemporaryGo value o r = pure () := by intro _ _; rfl) :
    W prog C A (eval (.Subscript value (.Slice lower upper none p) pos) env) Q s := by
  refine ⟨wpAny_Subscript_str_slice (wpAny_mono h.out (fun o s₁ q₁ => wpAny_mono q₁.out (fun vl s₂ q₂ => wpAny_mono q₂.out (fun vu s₃ q₃ => ?_) fun _ _ x => x) fun _ _ x => x) fun _ _ x => x) ht'⟩
  obtain ⟨s₀, L, m, led, x, t, l, u, D, rfl, rfl, rfl, hx, hQ⟩ := q₃
  refine ⟨S x, t, l, u, rfl, rfl, rfl, post_two ?_ fun t' k hk => ?_⟩
  · show (Txt.slice (S x) (l.map (·.1)) (u.map (·.1))).length ≤ sizeLine
    exact Nat.le_trans (Txt.slice_le _ _ _) (by rw [S_len]; exact hx)
  · exact hQ t' _ (D.step (Next.keeps (fun _ _ e => Heap.get?_push_of_some _ e) hk))
theorem p_none {Q : Value → Shared → Prop} (h : Q .none s) : W prog C A (evalPart none env) Q s := ⟨by rw [evalPart_none]; exact wpAny_pure h⟩
theorem p_some {e : Expr} {Q : Value → Shared → Prop} (h : W prog C A (eval e env) Q s) : W prog C A (evalPart (some e) env) Q s := h
section
variable {x : List Nat} {t tu tl : Tok} {i j : Nat} {Q : Value → Shared → Prop}
theorem sl_to (D : Led C s₀ L m led s) (hx : x.length ≤ sizeLine) (hi : i ≤ x.length) (h : ∀ t' s', Led C s₀ L m led s' → Q (.str (S (x.take i)) t') s') :
    SliceOn C (.str (S x) t) .none (.int (i : Int) tu) Q s :=
  ⟨_, _, _, _, x, t, none, some ((i : Int), tu), D, rfl, rfl, rfl, hx, fun t' s' D => by
    show Q (.str (cut x none (some (i : Int))) t') s'
    rw [cut_to hi]; exact h _ _ D⟩
theorem sl_from (D : Led C s₀ L m led s) (hx : x.length ≤ sizeLine) (hi : i ≤ x.length) (h : ∀ t' s', Led C s₀ L m led s' → Q (.str (S (x.drop i)) t') s') :
    SliceOn C (.str (S x) t) (.int (i : Int) tu) .none Q s :=
  ⟨_, _, _, _, x, t, some ((i : Int), tu), none, D, rfl, rfl, rfl, hx, fun t' s' D => by
    show Q (.str (cut x (some (i : Int)) none) t') s'
    rw [cut_from hi]; exact h _ _ D⟩
theorem sl_mid (D : Led C s₀ L m led s) (hx : x.length ≤ sizeLine) (hij : i ≤ j) (hj : j ≤ x.length) (h : ∀ t' s', Led C s₀ L m led s' → Q (.str (S ((x.drop i).take (j - i))) t') s') :
    SliceOn C (.str (S x) t) (.int (i : Int) tl) (.int (j : Int) tu) Q s :=
  ⟨_, _, _, _, x, t, some ((i : Int), tl), some ((j : Int), tu), D, rfl, rfl, rfl, hx, fun t' s' D => by
    show Q (.str (cut x (some (i : Int)) (some (j : Int))) t') s'
    rw [cut_mid hij hj]; exact h _ _ D⟩
theorem sl_to_m1 (D : Led C s₀ L m led s) (hx : x.length ≤ sizeLine) (h1 : 1 ≤ x.length) (h : ∀ t' s', Led C s₀ L m led s' → Q (.str (S (x.take (x.length - 1))) t') s') :
    SliceOn C (.str (S x) t) .none (.int (-1) tu) Q s :=
  ⟨_, _, _, _, x, t, none, some (-1, tu), D, rfl, rfl, rfl, hx, fun t' s' D => by
    show Q (.str (cut x none (some (-1))) t') s'
    rw [cut_neg1 _ h1, cut_to (by exact subB _ _)]; exact h _ _ D⟩
theorem sl_mid_m1 (D : Led C s₀ L m led s) (hx : x.length ≤ sizeLine) (h1 : i + 1 ≤ x.length) (h : ∀ t' s', Led C s₀ L m led s' → Q (.str (S ((x.drop i).take (x.length - 1 - i))) t') s') :
    SliceOn C (.str (S x) t) (.int (i : Int) tl) (.int (-1) tu) Q s :=
  ⟨_, _, _, _, x, t, some ((i : Int), tl), some (-1, tu), D, rfl, rfl, rfl, hx, fun t' s' D => by
    show Q (.str (cut x (some (i : Int)) (some (-1))) t') s'
    rw [cut_neg1 _ (by exact lin [_, _] (.h 1 (.p (.a 0) (.n 1)) (.a 1) <| .g 1 (.n 1) (.a 1)) (.refl true) h1), cut_mid (by exact lin [_, _, _] (.h 1 (.p (.a 0) (.n 1)) (.a 1) <| .h 1 (.a 1) (.p (.a 2) (.n 1)) <| .g 1 (.a 0) (.a 2)) (.refl true) h1 (subA _ _)) (by exact subB _ _)]; exact h _ _ D⟩
end
theorem rItemS {x : List Nat} {i c : Nat} {t u : Tok} {Q : Value → Shared → Prop} (D : Led C s₀ L m led s) (hc : x[i]? = some c) (hi : i < 2 ^ 62) (h : ∀ t s', Led C s₀ L m led s' → Q (.str (S [c]) t) s') :
    W prog C A (getItem (.str (S x) t) (.int (i : Int) u)) Q s := by
  refine ⟨getItem_str (c := c) ?_ ?_ (h _ _ D.tok1)⟩
  · simp only [Bool.or_eq_false_iff, decide_eq_false_iff_not]; omega
  · exact StrLaws.at_nonneg (by omega) (by simpa using hc)

/-! the ledger by places -/
theorem Led.nth (D : Led C s₀ L m led s) (i : Nat) {b : Addr} {c : Cell} (h : led[i]? = some (b, c)) : c.At s.heap b := (D.cells _ (List.mem_of_getElem? h)).1
theorem Led.setAt (D : Led C s₀ L m led s) (i : Nat) {b : Addr} {c c' : Cell} (h : led[i]? = some (b, c)) {h' : Heap} {tk : Nat} (hb : Heap.SameBut b s.heap h') (hc : c'.At h' b) (ht : s.toks ≤ tk) :
    Led C s₀ L m (led.set i (b, c')) { s with heap := h', toks := tk } := by
  have hi : i < led.length := (List.getElem?_eq_some_iff.mp h).1
  have he : led[i] = (b, c) := (List.getElem?_eq_some_iff.mp h).2
  refine D.upd (List.mem_of_getElem? h) hb hc ht (fun p hp => ?_) ?_
  · obtain ⟨j, hj, rfl⟩ := List.mem_iff_getElem.mp hp
    have hj' : j < led.length := by simpa using hj
    by_cases hij : i = j
    · subst hij; left; simp
    · right
      rw [List.getElem_set_ne hij]
      refine ⟨fun q => ?_, List.getElem_mem hj'⟩
      have hp := List.pairwise_iff_getElem.mp D.dist
      rcases Nat.lt_or_gt_of_ne hij with hl | hl
      · exact hp i j hi hj' hl (by rw [he]; exact q.symm)
      · exact hp j i hj' hi hl (by rw [he]; exact q)
  · apply List.ext_getElem
    · simp
    · intro j h1 h2
      have hj' : j < led.length := by simpa using h2
      simp only [List.getElem_map]
      by_cases hij : i = j
      · subst hij; simp [he]
      · rw [List.getElem_set_ne hij]
theorem Prog0.tabFree (P : Prog0 C s) {b : Addr} {o : Obj} (e : s.heap.get? b = some o) (hc : o.cls ≠ .none) : tab b = false := by
  cases ht : tab b with
  | false => rfl
  | true =>
    exfalso
    unfold tab at ht
    simp only [Bool.or_eq_true, beq_iff_eq] at ht
    obtain ⟨⟨_, _, e1, _⟩, ⟨_, _, e2, _⟩, ⟨_, _, e3, _⟩⟩ := P.tabs
    rcases ht with (rfl | rfl) | rfl
    · rw [e] at e2; cases e2; exact hc rfl
    · rw [e] at e1; cases e1; exact hc rfl
    · rw [e] at e3; cases e3; exact hc rfl
/-- what the caller's heap holds stands in the callee's -/
theorem Led.arg (D : Led C s₀ L m led s) {b : Addr} {c : Cell} (h : c.At s₀.heap b) (hc : ∀ o, s₀.heap.get? b = some o → o.cls ≠ .none) : c.At s.heap b := by
  obtain ⟨o, e, _⟩ := h.get
  exact h.move fun o' e' => D.next.kept.get b o' (D.prog.tabFree e (hc o e)) e'
theorem Led.argL (D : Led C s₀ L m led s) {b : Addr} {xs : List Value} (h : (Cell.list xs).At s₀.heap b) : (Cell.list xs).At s.heap b :=
  D.arg h fun o e => by obtain ⟨n, q⟩ := h; rw [q] at e; cases e; simp
theorem Led.argT (D : Led C s₀ L m led s) {b : Addr} {xs : List Value} (h : (Cell.tup xs).At s₀.heap b) : (Cell.tup xs).At s.heap b :=
  D.arg h fun o e => by obtain ⟨n, q⟩ := h; rw [q] at e; cases e; simp
theorem Led.argO (D : Led C s₀ L m led s) {b : Addr} {o : Obj} (h : (Cell.obj o).At s₀.heap b) (hc : o.cls ≠ .none) : (Cell.obj o).At s.heap b :=
  D.arg h fun o' e => by rw [h.1] at e; cases e; exact hc

/-! items -/
theorem e_item {value slice pos} {Q : Value → Shared → Prop} (h : W prog C A (eval value env) (fun o s₁ => W prog C A (eval slice env) (fun i s₂ => ItemOn (model prog C.w) A NoE o i Q s₂) s₁) s)
    (hs : ∀ o i, subscripted slice false o i = operate [o, i] (getItem o i) := by intro _ _; rfl) (ht : ∀ o r, letTemporaryGo value o r = pure () := by intro _ _; rfl) :
    W prog C A (eval (.Subscript value slice pos) env) Q s := by
  refine ⟨?_⟩
  rw [arm_eval_Subscript]
  refine wpAny_bind (wpAny_mono h.out (fun o s₁ h₁ => wpAny_bind (wpAny_holding (wpAny_mono h₁.out (fun i s₂ h₂ => wpAny_bind (wpAny_standAt ?_)) fun _ _ x => x))) fun _ _ x => x)
  obtain ⟨T, id, hl, hT, hg⟩ := h₂
  have fin : wpAny (model prog C.w) A (operate [o, i] (getItem o i)) (fun r s₃ => wpAny (model prog C.w) A (letTemporaryGo value o r >>= fun _ => pure r) Q NoE s₃) NoE s₂ :=
    wpAny_operating (wpAny_mono hg (fun r s₃ h₃ => wpAny_bind (wpAny_of_eq (ht o r) (wpAny_pure h₃))) fun _ _ x => x)
  rw [← hs] at fin
  refine wpAny_bind ?_
  rw [getitemInPython_of_ne hT.not_modules]
  refine wpAny_bind (wpAny_specialOf hT hl ?_)
  exact wpAny_pure (wpAny_bind fin)
theorem e_itemS {value slice pos} {Q : Value → Shared → Prop} (h : W prog C A (eval value env) (fun o s₁ => (∃ x t, o = .str x t) ∧ W prog C A (eval slice env) (fun i s₂ => ItemOn (model prog C.w) A NoE o i Q s₂) s₁) s)
    (hs : ∀ o i, subscripted slice false o i = operate [o, i] (getItem o i) := by intro _ _; rfl) :
    W prog C A (eval (.Subscript value slice pos) env) Q s := by
  refine ⟨?_⟩
  rw [arm_eval_Subscript]
  refine wpAny_bind (wpAny_mono h.out (fun o s₁ h₁ => wpAny_bind (wpAny_holding (wpAny_mono h₁.2.out (fun i s₂ h₂ => wpAny_bind (wpAny_standAt ?_)) fun _ _ x => x))) fun _ _ x => x)
  obtain ⟨T, id, hl, hT, hg⟩ := h₂
  obtain ⟨⟨x, t, rfl⟩, _⟩ := h₁
  have ht : ∀ r, letTemporaryGo value (.str x t) r = pure () := by
    intro r; unfold letTemporaryGo; split <;> first | rfl | (rename_i q; cases q) | (rename_i q _; cases q)
  have fin : wpAny (model prog C.w) A (operate [.str x t, i] (getItem (.str x t) i)) (fun r s₃ => wpAny (model prog C.w) A (letTemporaryGo value (.str x t) r >>= fun _ => pure r) Q NoE s₃) NoE s₂ :=
    wpAny_operating (wpAny_mono hg (fun r s₃ h₃ => wpAny_bind (wpAny_of_eq (ht r) (wpAny_pure h₃))) fun _ _ x => x)
  rw [← hs] at fin
  refine wpAny_bind ?_
  rw [getitemInPython_of_ne hT.not_modules]
  refine wpAny_bind (wpAny_specialOf hT hl ?_)
  exact wpAny_pure (wpAny_bind fin)
theorem i_str {x : List Nat} {i c : Nat} {t u : Tok} {Q : Value → Shared → Prop} (D : Led C s₀ L m led s) (hc : x[i]? = some c) (hi : i < 2 ^ 62) (h : ∀ t s', Led C s₀ L m led s' → Q (.str (S [c]) t) s') :
    ItemOn (model prog C.w) A NoE (.str (S x) t) (.int (i : Int) u) Q s := ⟨"str", _, F.slot_str_getitem.lookup, typeIs_str _ _ _, (rItemS D hc hi h).out⟩
theorem i_list {l : Addr} {xs : List Value} {i : Nat} {x : Value} {u : Tok} {Q : Value → Shared → Prop} (hl : (Cell.list xs).At s.heap l) (hx : xs[i]? = some x) (hi : i < 2 ^ 62) (h : Q x s) :
    ItemOn (model prog C.w) A NoE (.ref l) (.int (i : Int) u) Q s := by
  obtain ⟨n, hn⟩ := hl
  have hL : s.heap.IsList l xs.toArray := ⟨_, hn, rfl, n, rfl⟩
  exact ⟨"list", _, list_getitem_lookup, hL.typeIs, wpAny_getItem_list hL (by omega) (by omega) (by simpa using hx) h⟩
theorem i_list_last {l : Addr} {xs : List Value} {x : Value} {u : Tok} {Q : Value → Shared → Prop} (hl : (Cell.list xs).At s.heap l) (hx : xs.getLast? = some x) (h : Q x s) :
    ItemOn (model prog C.w) A NoE (.ref l) (.int (-1) u) Q s := by
  obtain ⟨n, hn⟩ := hl
  have hL : s.heap.IsList l xs.toArray := ⟨_, hn, rfl, n, rfl⟩
  have hne : xs ≠ [] := by intro q; rw [q] at hx; cases hx
  have hpos : 0 < xs.length := List.length_pos_iff.mpr hne
  refine ⟨"list", _, list_getitem_lookup, hL.typeIs, wpAny_getItem_list_neg hL (by omega) (by simp; omega) (by omega) ?_ h⟩
  rw [List.getLast?_eq_getElem?] at hx
  have : ((-1 : Int) + (xs.toArray.size : Int)).toNat = xs.length - 1 := by simp; omega
  rw [this]; simpa using hx

/-! new lists and tuples -/
inductive ListQ (C : Cx) (Q : Value → Shared → Prop) (vs : List Value) (s₁ : Shared) : Prop
  | intro (s₀ : Shared) (L : Addr) (m : Str → Option Value) (led : List (Addr × Cell)) (D : Led C s₀ L m led s₁) (hz : vs.length ≤ sizeLine) (k : ∀ b s', Led C s₀ L m ((b, .list vs) :: led) s' → Q (.ref b) s') : ListQ C Q vs s₁
inductive TupQ (C : Cx) (Q : Value → Shared → Prop) (vs : List Value) (s₁ : Shared) : Prop
  | intro (s₀ : Shared) (L : Addr) (m : Str → Option Value) (led : List (Addr × Cell)) (D : Led C s₀ L m led s₁) (hz : vs.length ≤ sizeLine) (k : ∀ b s', Led C s₀ L m ((b, .tup vs) :: led) s' → Q (.ref b) s') : TupQ C Q vs s₁
theorem e_list {elts pos} {Q : Value → Shared → Prop} (h : W prog C A (spliced (backTo pos (starEach elts env))) (ListQ C Q) s) : W prog C A (eval (.List elts pos) env) Q s :=
  ⟨wpAny_List (wpAny_mono h.out (fun vs s₁ ⟨_, _, _, _, D, hz, hq⟩ => ⟨hz, hq _ _ (D.new (.list vs) (tk := s₁.toks) (fun _ _ e => Heap.get?_push_of_some _ e) (Nat.le_refl _) ⟨0, Heap.get?_push_size _ rfl⟩ (Nat.le_refl _))⟩) fun _ _ x => x)⟩
theorem e_tup {elts k pos} {Q : Value → Shared → Prop} (h : W prog C A (spliced (backTo pos (starEach elts env))) (TupQ C Q) s) : W prog C A (eval (.Tuple elts k pos) env) Q s :=
  ⟨wpAny_Tuple (wpAny_mono h.out (fun vs s₁ ⟨_, _, _, _, D, hz, hq⟩ => ⟨hz, hq _ _ (D.new (.tup vs) (tk := s₁.toks) (fun _ _ e => Heap.get?_push_of_some _ e) (Nat.le_refl _) ⟨0, Heap.get?_push_size _ rfl⟩ (Nat.le_refl _))⟩) fun _ _ x => x)⟩
end
end Mine
end
-- B3
section
open PySem PySem.Calls PyProof.Rows PySem.W
namespace Mine

section
variable {prog : Program} {C : Cx} {A : Around} {s₀ s : Shared} {L a : Addr} {m : Str → Option Value} {led : List (Addr × Cell)} {fd : FuncData} {env : Env}

/-! ints that are naturals -/
theorem rIntN {x : Int} {k : Nat} {pos : Pos} {Q : Value → Shared → Prop} (n : Nat) (D : Led C s₀ L m led s) (h : ∀ t s', Led C s₀ L m led s' → Q (.int (n : Int) t) s') (e : x = (n : Int) := by rfl) :
    W prog C A (eval (.Constant (.int x) k pos) env) Q s := by subst e; exact rInt D h
theorem rAddN {i j : Nat} {t u : Tok} {Q : Value → Shared → Prop} (D : Led C s₀ L m led s) (h : ∀ t s', Led C s₀ L m led s' → Q (.int ((i + j : Nat) : Int) t) s') :
    W prog C A (binaryOp .Add (.int (i : Int) t) (.int (j : Int) u)) Q s := ⟨P.add_int (by rw [← Int.natCast_add]; exact h _ _ D.tok1)⟩
theorem rIAddN {i j : Nat} {t u : Tok} {Q : Value → Shared → Prop} (D : Led C s₀ L m led s) (h : ∀ t s', Led C s₀ L m led s' → Q (.int ((i + j : Nat) : Int) t) s') :
    W prog C A (inplaceOp .Add (.int (i : Int) t) (.int (j : Int) u)) Q s := ⟨P.iadd_int (by rw [← Int.natCast_add]; exact h _ _ D.tok1)⟩
theorem rSubN {i j : Nat} {t u : Tok} {Q : Value → Shared → Prop} (D : Led C s₀ L m led s) (hij : j ≤ i) (h : ∀ t s', Led C s₀ L m led s' → Q (.int ((i - j : Nat) : Int) t) s') :
    W prog C A (binaryOp .Sub (.int (i : Int) t) (.int (j : Int) u)) Q s := ⟨P.sub_int (by rw [← Int.ofNat_sub hij]; exact h _ _ D.tok1)⟩
theorem rModN {i j : Nat} {t u : Tok} {Q : Value → Shared → Prop} (D : Led C s₀ L m led s) (hj : j ≠ 0) (h : ∀ t s', Led C s₀ L m led s' → Q (.int ((i % j : Nat) : Int) t) s') :
    W prog C A (binaryOp .Mod (.int (i : Int) t) (.int (j : Int) u)) Q s := ⟨PyProof.Rows.mod_int (by omega) (by
      have e : ((i : Int).fmod (j : Int)) = ((i % j : Nat) : Int) := by
        rw [Int.fmod_eq_emod_of_nonneg _ (by omega)]; rfl
      rw [e]; exact h _ _ D.tok1)⟩
theorem rDivN {i j : Nat} {t u : Tok} {Q : Value → Shared → Prop} (D : Led C s₀ L m led s) (hj : j ≠ 0) (hi : i < 2 ^ 29) (hj' : j < 2 ^ 29) (h : ∀ t s', Led C s₀ L m led s' → Q (.int ((i / j : Nat) : Int) t) s') :
    W prog C A (binaryOp .FloorDiv (.int (i : Int) t) (.int (j : Int) u)) Q s := ⟨floordiv_int (by omega) (by
      have e : ((i : Int).fdiv (j : Int)) = ((i / j : Nat) : Int) := by
        rw [Int.fdiv_eq_ediv_of_nonneg _ (by omega)]; rfl
      rw [e]; exact h _ _ D.tok1) (Or.inl (PyProof.noPylong_small (by omega)))⟩
theorem rEqN {i j : Nat} {t u : Tok} {Q : Value → Shared → Prop} (h : Q (.bool (decide (i = j))) s) : W prog C A (compareOp .Eq (.int (i : Int) t) (.int (j : Int) u)) Q s := ⟨P.eq_int (by
  have e : (((i : Int) == (j : Int))) = decide (i = j) := by
    rw [Bool.eq_iff_iff, beq_iff_eq, decide_eq_true_eq]; exact Int.ofNat_inj
  rw [e]; exact h)⟩
theorem rLtN {i j : Nat} {t u : Tok} {Q : Value → Shared → Prop} (h : Q (.bool (decide (i < j))) s) : W prog C A (compareOp .Lt (.int (i : Int) t) (.int (j : Int) u)) Q s := ⟨P.lt_int (by
  have e : decide ((i : Int) < (j : Int)) = decide (i < j) := by
    rw [Bool.eq_iff_iff]; simp
  rw [e]; exact h)⟩
theorem rGeN {i j : Nat} {t u : Tok} {Q : Value → Shared → Prop} (h : Q (.bool (decide (j ≤ i))) s) : W prog C A (compareOp .GtE (.int (i : Int) t) (.int (j : Int) u)) Q s := ⟨P.ge_int (by
  have e : decide ((i : Int) ≥ (j : Int)) = decide (j ≤ i) := by
    rw [Bool.eq_iff_iff]; simp
  rw [e]; exact h)⟩
theorem rGtN {i j : Nat} {t u : Tok} {Q : Value → Shared → Prop} (h : Q (.bool (decide (j < i))) s) : W prog C A (compareOp .Gt (.int (i : Int) t) (.int (j : Int) u)) Q s := ⟨P.gt_int (by
  have e : decide ((i : Int) > (j : Int)) = decide (j < i) := by
    rw [Bool.eq_iff_iff]; simp
  rw [e]; exact h)⟩
/-- i < 0 for a natural; k < 0 for an int -/
theorem rLtI {i j : Int} {t u : Tok} {Q : Value → Shared → Prop} (h : Q (.bool (decide (i < j))) s) : W prog C A (compareOp .Lt (.int i t) (.int j u)) Q s := ⟨P.lt_int h⟩
theorem rLeC {c d : Nat} {t u : Tok} {Q : Value → Shared → Prop} (h : Q (.bool (decide (c ≤ d))) s) : W prog C A (compareOp .LtE (.str (S [c]) t) (.str (S [d]) u)) Q s := ⟨P.le_str (by
  have e : (!decide (([d] : List Nat) < [c])) = decide (c ≤ d) := by
    rw [StrLaws.lt_cons_cons, StrLaws.lt_nil_nil, Bool.and_false, Bool.or_false, Bool.eq_iff_iff]
    simp
  show Q (.bool (!decide (([d] : List Nat) < [c]))) s
  rw [e]; exact h)⟩
theorem rGtC {c d : Nat} {t u : Tok} {Q : Value → Shared → Prop} (h : Q (.bool (decide (d < c))) s) : W prog C A (compareOp .Gt (.str (S [c]) t) (.str (S [d]) u)) Q s := ⟨P.gt_str (by
  have e : (decide (([d] : List Nat) < [c])) = decide (d < c) := by
    rw [StrLaws.lt_cons_cons, StrLaws.lt_nil_nil, Bool.and_false, Bool.or_false]
  show Q (.bool (decide (([d] : List Nat) < [c]))) s
  rw [e]; exact h)⟩
theorem tr_str {x : List Nat} {t : Tok} {Q : Bool → Shared → Prop} (D : Led C s₀ L m led s) (hx : x.length ≤ sizeLine) (h : ∀ s', Led C s₀ L m led s' → Q (decide (x ≠ [])) s') : W prog C A (truthy (.str (S x) t)) Q s := ⟨P.truthy_str (by
  rw [S_len]; have := sizeLine_eq; omega) (by
  have e : (((S x).length : Int) != 0) = decide (x ≠ []) := by
    rw [S_len]; cases x <;> simp; omega
  rw [e]; exact h _ (D.toks _ (by show s.toks ≤ s.toks + 1 + 1; exact lin [_] (.g 1 (.a 0) (.p (.p (.a 0) (.n 1)) (.n 1))) (.refl true))))⟩

/-! methods of texts -/
theorem starts_eq (x y : List Nat) : Txt.startswith (S x) (S y) = decide (x.take y.length = y) := by
  unfold Txt.startswith
  rw [StrLaws.subAt_eq, S_len, S_len]
  rw [Bool.eq_iff_iff]
  simp only [Bool.and_eq_true, decide_eq_true_eq, beq_iff_eq, List.drop_zero, Nat.zero_add]
  constructor
  · exact fun h => h.2
  · intro h
    refine ⟨?_, h⟩
    have := congrArg List.length h
    simp at this; omega
theorem ends_eq (x y : List Nat) : Txt.endswith (S x) (S y) = (decide (y.length ≤ x.length) && decide (x.drop (x.length - y.length) = y)) := by
  unfold Txt.endswith
  rw [StrLaws.subAt_eq, S_len, S_len, Nat.zero_add]
  by_cases h : y.length ≤ x.length
  · rw [decide_eq_true h, Bool.true_and, Bool.true_and]
    have e : List.take y.length (List.drop (x.length - y.length) x) = List.drop (x.length - y.length) x := List.take_of_length_le (by simp; exact lin [_, _, _] (.h 1 (.a 0) (.p (.a 2) (.a 1)) <| .g 1 (.a 0) (.p (.a 1) (.a 2))) (.refl true) (subA _ _))
    rw [show (S x).cps.toList = x from by simp, e, show (S y).cps.toList = y from by simp]
    rw [Bool.eq_iff_iff]; simp
  · rw [decide_eq_false h]; simp
theorem m_starts {x : List Nat} {t : Tok} {pos : Pos} {tr : Sem Value} {Q : Value → Shared → Prop} (h : W prog C A tr (fun v s₁ => ∃ y u, v = .str (S y) u ∧ Q (.bool (decide (x.take y.length = y))) s₁) s) :
    MethodOnS prog C.w A NoE "startswith" (.str (S x) t) pos [(false, tr)] Q s := SB.startswith (wpAny_mono h.out (fun _ s₁ ⟨y, u, hv, q⟩ => ⟨S y, u, hv, by rw [starts_eq]; exact q⟩) fun _ _ x => x)
theorem m_ends {x : List Nat} {t : Tok} {pos : Pos} {tr : Sem Value} {Q : Value → Shared → Prop} (h : W prog C A tr (fun v s₁ => ∃ y u, v = .str (S y) u ∧ Q (.bool (decide (y.length ≤ x.length) && decide (x.drop (x.length - y.length) = y))) s₁) s) :
    MethodOnS prog C.w A NoE "endswith" (.str (S x) t) pos [(false, tr)] Q s := SB.endswith (wpAny_mono h.out (fun _ s₁ ⟨y, u, hv, q⟩ => ⟨S y, u, hv, by rw [ends_eq]; exact q⟩) fun _ _ x => x)
end
end Mine
end
-- N1
section
open PySem PySem.Calls PyProof.Rows PySem.W
namespace Mine
noncomputable abbrev GN (x : Str) (a : Addr) : Prop := ∀ P, nsIn (K0 P) mainGlobals x = some (some (.ref a))
noncomputable abbrev BN (x : Str) (v : Value) : Prop := (∀ P, nsIn (K0 P) mainGlobals x = some none) ∧ bootBuiltins x = some v ∧ x ≠ ("__name__" : Str)
theorem g_sign : GN (Str.ofString "_law_sign") 154 := fun _ => rfl
theorem g_outer : GN (Str.ofString "_law_outer") 161 := fun _ => rfl
theorem g_inner : GN (Str.ofString "_law_inner") 168 := fun _ => rfl
theorem g_strip : GN (Str.ofString "strip_quotes") 94 := fun _ => rfl
theorem g_marks : GN (Str.ofString "_law_in_marks") 196 := fun _ => rfl
theorem g_escape : GN (Str.ofString "escape") 118 := fun _ => rfl
theorem g_unmatched : GN (Str.ofString "unmatched") 43 := fun _ => rfl
theorem g_split : GN (Str.ofString "split_header_words") 70 := fun _ => rfl
theorem g_join : GN (Str.ofString "join_header_words") 87 := fun _ => rfl
theorem g_translate : GN (Str.ofString "translate") 106 := fun _ => rfl
theorem g_translate1 : GN (Str.ofString "_translate") 125 := fun _ => rfl
theorem g_jtp : GN (Str.ofString "_join_translated_parts") 132 := fun _ => rfl
theorem g_repr : GN (Str.ofString "safe_repr") 140 := fun _ => rfl
theorem g_uld : GN (Str.ofString "unorderable_list_difference") 147 := fun _ => rfl
theorem g_item : GN (Str.ofString "_law_item") 175 := fun _ => rfl
theorem g_pieces : GN (Str.ofString "_law_pieces") 182 := fun _ => rfl
theorem g_reads : GN (Str.ofString "_law_reads") 189 := fun _ => rfl
theorem g_byT : GN (Str.ofString "_law_by_translate") 201 := fun _ => rfl
theorem g_byR : GN (Str.ofString "_law_by_safe_repr") 208 := fun _ => rfl
theorem g_byJ : GN (Str.ofString "_law_by_join") 215 := fun _ => rfl
theorem g_right : GN (Str.ofString "_law_right") 220 := fun _ => rfl
theorem g_tokre : GN (Str.ofString "HEADER_TOKEN_RE") 48 := fun _ => rfl
theorem g_qvre : GN (Str.ofString "HEADER_QUOTED_VALUE_RE") 53 := fun _ => rfl
theorem g_escre : GN (Str.ofString "HEADER_ESCAPE_RE") 63 := fun _ => rfl
theorem g_jtokre : GN (Str.ofString "HEADER_JOIN_TOKEN_RE") 75 := fun _ => rfl
theorem g_jescre : GN (Str.ofString "HEADER_JOIN_ESCAPE_RE") 80 := fun _ => rfl
theorem g_twin1 : GN (Str.ofString "_twin_re_1") 99 := fun _ => rfl
theorem g_map : GN (Str.ofString "_special_chars_map") 108 := fun _ => rfl
theorem b_len : BN (Str.ofString "len") (.builtin "len") := ⟨fun _ => rfl, by boot_fast, by decide⟩
theorem b_isinstance : BN (Str.ofString "isinstance") (.builtin "isinstance") := ⟨fun _ => rfl, by boot_fast, by decide⟩
theorem b_repr : BN (Str.ofString "repr") (.builtin "repr") := ⟨fun _ => rfl, by boot_fast, by decide⟩
theorem b_str : BN (Str.ofString "str") (.type "str") := ⟨fun _ => rfl, by boot_fast, by decide⟩
theorem b_list : BN (Str.ofString "list") (.type "list") := ⟨fun _ => rfl, by boot_fast, by decide⟩
theorem b_object : BN (Str.ofString "object") (.type "object") := ⟨fun _ => rfl, by boot_fast, by decide⟩
theorem b_range : BN (Str.ofString "range") (.type "range") := ⟨fun _ => rfl, by boot_fast, by decide⟩
theorem b_enumerate : BN (Str.ofString "enumerate") (.type "enumerate") := ⟨fun _ => rfl, by boot_fast, by decide⟩
theorem b_VE : BN (Str.ofString "ValueError") (.type "ValueError") := ⟨fun _ => rfl, by boot_fast, by decide⟩
theorem b_Ex : BN (Str.ofString "Exception") (.type "Exception") := ⟨fun _ => rfl, by boot_fast, by decide⟩

noncomputable def F43 : { fd : FuncData // FnAt 43 fd } := ⟨_, fun _ => rfl, fun _ => rfl⟩
noncomputable def F70 : { fd : FuncData // FnAt 70 fd } := ⟨_, fun _ => rfl, fun _ => rfl⟩
noncomputable def F87 : { fd : FuncData // FnAt 87 fd } := ⟨_, fun _ => rfl, fun _ => rfl⟩
noncomputable def F94 : { fd : FuncData // FnAt 94 fd } := ⟨_, fun _ => rfl, fun _ => rfl⟩
noncomputable def F106 : { fd : FuncData // FnAt 106 fd } := ⟨_, fun _ => rfl, fun _ => rfl⟩
noncomputable def F118 : { fd : FuncData // FnAt 118 fd } := ⟨_, fun _ => rfl, fun _ => rfl⟩
noncomputable def F125 : { fd : FuncData // FnAt 125 fd } := ⟨_, fun _ => rfl, fun _ => rfl⟩
noncomputable def F132 : { fd : FuncData // FnAt 132 fd } := ⟨_, fun _ => rfl, fun _ => rfl⟩
noncomputable def F140 : { fd : FuncData // FnAt 140 fd } := ⟨_, fun _ => rfl, fun _ => rfl⟩
noncomputable def F147 : { fd : FuncData // FnAt 147 fd } := ⟨_, fun _ => rfl, fun _ => rfl⟩
noncomputable def F154 : { fd : FuncData // FnAt 154 fd } := ⟨_, fun _ => rfl, fun _ => rfl⟩
noncomputable def F161 : { fd : FuncData // FnAt 161 fd } := ⟨_, fun _ => rfl, fun _ => rfl⟩
noncomputable def F168 : { fd : FuncData // FnAt 168 fd } := ⟨_, fun _ => rfl, fun _ => rfl⟩
noncomputable def F175 : { fd : FuncData // FnAt 175 fd } := ⟨_, fun _ => rfl, fun _ => rfl⟩
noncomputable def F182 : { fd : FuncData // FnAt 182 fd } := ⟨_, fun _ => rfl, fun _ => rfl⟩
noncomputable def F189 : { fd : FuncData // FnAt 189 fd } := ⟨_, fun _ => rfl, fun _ => rfl⟩
noncomputable def F196 : { fd : FuncData // FnAt 196 fd } := ⟨_, fun _ => rfl, fun _ => rfl⟩
noncomputable def F201 : { fd : FuncData // FnAt 201 fd } := ⟨_, fun _ => rfl, fun _ => rfl⟩
noncomputable def F208 : { fd : FuncData // FnAt 208 fd } := ⟨_, fun _ => rfl, fun _ => rfl⟩
noncomputable def F215 : { fd : FuncData // FnAt 215 fd } := ⟨_, fun _ => rfl, fun _ => rfl⟩
noncomputable def F220 : { fd : FuncData // FnAt 220 fd } := ⟨_, fun _ => rfl, fun _ => rfl⟩
noncomputable def F225 : { fd : FuncData // FnAt 225 fd } := ⟨_, fun _ => rfl, fun _ => rfl⟩
end Mine
end
-- F1
section
open PySem PySem.Calls PyProof.Rows PySem.W
namespace Mine

/-! replace of one sign -/
noncomputable def repl (c : Nat) (z : List Nat) (x : List Nat) : List Nat := x.flatMap fun d => if d = c then z else [d]
theorem repl_free (c : Nat) (z : List Nat) : ∀ x : List Nat, c ∉ x → repl c z x = x
  | [], _ => rfl
  | k :: r, h => by
    have h1 : ¬ k = c := fun e => h (e ▸ List.mem_cons_self ..)
    have h2 : c ∉ r := fun m => h (List.mem_cons_of_mem _ m)
    show (if k = c then z else [k]) ++ repl c z r = k :: r
    rw [if_neg h1, repl_free c z r h2]; rfl
theorem repl_app (c : Nat) (z a b : List Nat) : repl c z (a ++ b) = repl c z a ++ repl c z b := by simp [repl]
theorem repl_join (c : Nat) (z : List Nat) : ∀ parts : List Str, (∀ p ∈ parts, c ∉ p.cps.toList) → repl c z (Str.join ⟨#[c]⟩ parts).cps.toList = (Str.join (S z) parts).cps.toList
  | [], _ => rfl
  | [p], h => repl_free c z _ (h p (List.mem_singleton.mpr rfl))
  | p :: q :: r, h => by
    have ih := repl_join c z (q :: r) fun a ha => h a (List.mem_cons_of_mem _ ha)
    show repl c z (p ++ ⟨#[c]⟩ ++ Str.join ⟨#[c]⟩ (q :: r)).cps.toList = (p ++ S z ++ Str.join (S z) (q :: r)).cps.toList
    simp only [Str.cps_append, Array.toList_append]
    rw [repl_app, repl_app, ih, repl_free c z _ (h p (List.mem_cons_self ..))]
    simp [repl]
theorem replace_eq (x z : List Nat) (c : Nat) : Txt.replace (S x) (S [c]) (S z) = S (repl c z x) := by
  have h := StrLaws.replace_one (S x) (S z) c
  rw [show (S [c]) = (⟨#[c]⟩ : Str) from rfl, h]
  have h2 := repl_join c z (Txt.split (S x) ⟨#[c]⟩) (StrLaws.split_free (S x) c)
  rw [StrLaws.join_split] at h2
  apply Str.ext'
  rw [← Array.toList_inj]
  rw [← h2]
theorem repl_len (c : Nat) (z x : List Nat) : (repl c z x).length ≤ x.length * (z.length + 1) := by
  induction x with
  | nil => simp [repl]
  | cons d r ih =>
    show ((if d = c then z else [d]) ++ repl c z r).length ≤ _
    rw [List.length_append, List.length_cons, Nat.add_mul, Nat.one_mul]
    split
    · exact lin [_, _, _] (.h 1 (.a 0) (.a 1) <| .g 1 (.p (.a 2) (.a 0)) (.p (.a 1) (.p (.a 2) (.n 1)))) (.refl true) ih
    · simp; exact lin [_, _, _] (.h 1 (.a 0) (.a 1) <| .g 1 (.p (.n 1) (.a 0)) (.p (.a 1) (.p (.a 2) (.n 1)))) (.refl true) ih

section
variable {prog : Program} {C : Cx} {A : Around} {s₀ s : Shared} {L a : Addr} {m : Str → Option Value} {led : List (Addr × Cell)} {fd : FuncData} {env : Env}

theorem M_replace : Meth "str" "replace" "str.replace" := ⟨F.plainAttrs_str, F.slot_str_replace, F.type_str_replace⟩
theorem m_replC {x : List Nat} {t : Tok} {pos p1 p2 : Pos} {y z' : Str} {k1 k2 : Nat} {c : Nat} {z : List Nat} {Q : Value → Shared → Prop} (D : Led C s₀ L m led s) (hx : x.length ≤ 1000000) (hz : z.length ≤ 10)
    (h : ∀ t s', Led C s₀ L m led s' → Q (.str (S (repl c z x)) t) s') (hy : y = S [c] := by rfl) (hz' : z' = S z := by rfl) (hne : ([c] : List Nat) ≠ z := by decide) :
    MethodOnS prog C.w A NoE "replace" (.str (S x) t) pos [(false, eval (.Constant (.str y) k1 p1) env), (false, eval (.Constant (.str z') k2 p2) env)] Q s := by
  subst hy hz'
  refine m_str M_replace (sp_cons ⟨wpAny_Constant_str ?_⟩)
  refine (sp_cons ⟨wpAny_Constant_str ?_⟩)
  refine sp_nil (W.tk ⟨SC.replace (Nat.ne_of_gt D.now.tk) (Nat.succ_ne_zero _) (Nat.ne_of_lt (Nat.lt_succ_self _)) ?_ ?_ fun t' k hk => ?_⟩)
  · rw [S_beq]; exact decide_eq_false hne
  · rw [S_len, S_len]
    have : (x.length + 1) * z.length ≤ (x.length + 1) * 10 := Nat.mul_le_mul_left _ hz
    exact lin [_, _] (.h 11 (.a 0) (.n 1000000) <| .h 1 (.a 1) (.r (.p (.a 0) (.n 1)) 10) <| .g 1 (.p (.a 0) (.a 1)) (.n 16777216)) (.refl true) hx this
  · rw [replace_eq]
    exact h _ _ (D.toks _ (Nat.le_trans (by show s.toks ≤ s.toks + 1 + 1; exact lin [_] (.g 1 (.a 0) (.p (.p (.a 0) (.n 1)) (.n 1))) (.refl true)) hk))

/-! the small defs -/
noncomputable def signs : List Nat := "'\"\\-^&~|!]*?[ .,;=aZ7(){}+$#/_<%".toList.map Char.toNat
noncomputable def sign (n : Nat) : Nat := signs.getD (n % 32) 0
theorem sign_at (n : Nat) : signs[n % 32]? = some (sign n) := by
  have h : n % 32 < signs.length := by show n % 32 < 32; omega
  rw [List.getElem?_eq_getElem h]
  unfold sign
  rw [List.getD_eq_getElem?_getD, List.getElem?_eq_getElem h]; rfl
theorem sign_spec {Q : Value → Shared → Prop} {n : Nat} {t : Tok} (P : Prog C s) (R : Room A 1) (h : ∀ t s', Next C.N s s' → Q (.str (S [sign n]) t) s') : W prog C A (call (.ref 154) [.int (n : Int) t]) Q s := by
  refine rEnter (binds := [(Str.ofString "number", .int (n : Int) t)]) P R F154.2 rfl (.of_eq rfl) fun s₁ L R D => ?_
  refine x_consL ?_
  intro Qs
  refine (x_ret (e_itemS ?_))
  refine rStrS signs D fun t₁ s₂ D => ⟨⟨_, _, rfl⟩, ?_⟩
  refine e_bin (rName D rfl (rIntN 32 D fun t₂ s₃ D => rModN D (by decide) fun t₃ s₄ D => ?_))
  exact i_str D (sign_at n) (by omega) fun t s' D => h _ _ D.next

noncomputable def specials : List Nat := "()[]{}?*+-|^$\\.&~# ".toList.map Char.toNat
noncomputable def outer (c : Nat) : List Nat := if specials.contains c then [92, c] else [c]
theorem outer_spec {Q : Value → Shared → Prop} {c : Nat} {t : Tok} (P : Prog C s) (R : Room A 1) (h : ∀ t s', Next C.N s s' → Q (.str (S (outer c)) t) s') :
    W prog C A (call (.ref 161) [.str (S [c]) t]) Q s := by
  refine rEnter (binds := [(Str.ofString "sign", .str (S [c]) t)]) P R F161.2 rfl (.of_eq rfl) fun s₁ L R D => ?_
  refine x_consL ?_
  intro Qs
  refine (x_ret (e_ifexp (t_cmp ?_)))
  refine rName D rfl (rStrS specials D fun t₁ s₂ D => rInS ⟨_, rfl, rIf (fun hb => ?_) (fun hb => ?_)⟩)
  · refine e_bin (rStrS [92] D fun t₁ s₂ D => rName D rfl (rAddS D (by simp [sizeLine]) fun t s' D => ?_))
    have e : outer c = [92] ++ [c] := by unfold outer; rw [hb]; rfl
    rw [← e]
    exact h _ _ D.next
  · refine rName D rfl ?_
    have e : outer c = [c] := by unfold outer; rw [hb]; rfl
    rw [← e]
    exact h _ _ D.next

noncomputable def inners : List Nat := "\\-&~|".toList.map Char.toNat
noncomputable def inner (c : Nat) : List Nat := if inners.contains c then [92, c] else [c]
theorem inner_spec {Q : Value → Shared → Prop} {c : Nat} {t : Tok} (P : Prog C s) (R : Room A 1) (h : ∀ t s', Next C.N s s' → Q (.str (S (inner c)) t) s') :
    W prog C A (call (.ref 168) [.str (S [c]) t]) Q s := by
  refine rEnter (binds := [(Str.ofString "sign", .str (S [c]) t)]) P R F168.2 rfl (.of_eq rfl) fun s₁ L R D => ?_
  refine x_consL ?_
  intro Qs
  refine (x_ret (e_ifexp (t_cmp ?_)))
  refine rName D rfl (rStrS inners D fun t₁ s₂ D => rInS ⟨_, rfl, rIf (fun hb => ?_) (fun hb => ?_)⟩)
  · refine e_bin (rStrS [92] D fun t₁ s₂ D => rName D rfl (rAddS D (by simp [sizeLine]) fun t s' D => ?_))
    have e : inner c = [92] ++ [c] := by unfold inner; rw [hb]; rfl
    rw [← e]
    exact h _ _ D.next
  · refine rName D rfl ?_
    have e : inner c = [c] := by unfold inner; rw [hb]; rfl
    rw [← e]
    exact h _ _ D.next

noncomputable def unquote (x : List Nat) : List Nat :=
  let y := if x.take 1 = [34] then x.drop 1 else x
  if 1 ≤ y.length ∧ y.drop (y.length - 1) = [34] then y.take (y.length - 1) else y
theorem strip_spec {Q : Value → Shared → Prop} {x : List Nat} {t : Tok} (P : Prog C s) (R : Room A 1) (hx : x.length ≤ sizeLine) (h : ∀ t s', Next C.N s s' → Q (.str (S (unquote x)) t) s') :
    W prog C A (call (.ref 94) [.str (S x) t]) Q s := by
  refine rEnter (binds := [(Str.ofString "text", .str (S x) t)]) P R F94.2 rfl (.of_eq rfl) fun s₁ L R D => ?_
  have key : ∀ (y : List Nat) (t : Tok) (m : Str → Option Value) (s₁ : Shared), m (Str.ofString "text") = some (.str (S y) t) → y.length ≤ sizeLine → (∀ t s', Next C.N s s' → Q (.str (S (if 1 ≤ y.length ∧ y.drop (y.length - 1) = [34] then y.take (y.length - 1) else y)) t) s') →
      Led C s L m [] s₁ → W prog C (A.deeper (callEnv F94.1 L 94)) (execs ((match F94.1.body with | .stmts b => b | _ => []).drop 1) (callEnv F94.1 L 94)) (fun fl s' => Q (match fl with | .ret v => v | _ => .none) s') s₁ := by
    intro y t m s₁ hm hy h D
    refine x_consL ?_
    intro Qs
    refine x_if ?_
    intro Qi
    refine (t_val (e_m1 (rName D hm (m_ends (rStrS [34] D fun t₁ s₂ D => ⟨_, _, rfl, truthy_b (rIf (fun hb => ?_) (fun hb => ?_))⟩)))))
    · simp only [Bool.and_eq_true, decide_eq_true_eq, List.length_singleton] at hb
      refine x_consL ?_
      intro Qs
      refine (x_assign (e_sliceS (rName D hm (p_none (p_some (e_m1i D fun t s' D => ?_))))))
      refine sl_to_m1 D hy hb.1 fun t s' D => rStore D fun s' D => ?_
      refine x_nil (x_consL ?_)
      intro Qs
      refine (x_ret (rName D rfl ?_))
      rw [if_pos hb] at h
      exact h _ _ D.next
    · refine x_nil (x_consL ?_)
      intro Qs
      refine (x_ret (rName D hm ?_))
      rw [if_neg (by
        intro q
        rw [Bool.and_eq_false_iff] at hb
        rcases hb with hb | hb
        · exact absurd q.1 (of_decide_eq_false hb)
        · exact absurd q.2 (of_decide_eq_false hb))] at h
      exact h _ _ D.next
  refine x_consL ?_
  intro Qs
  refine x_if ?_
  intro Qi
  refine (t_val (e_m1 (rName D rfl (m_starts (rStrS [34] D fun t₁ s₂ D => ⟨_, _, rfl, truthy_b (rIf (fun hb => ?_) (fun hb => ?_))⟩)))))
  · have hb' : x.take 1 = [34] := of_decide_eq_true hb
    have h1 : 1 ≤ x.length := by cases x <;> simp at hb' ⊢
    refine x_consL ?_
    intro Qs
    refine (x_assign (e_sliceS (rName D rfl (p_some (rIntN 1 D fun t s' D => p_none (sl_from D hx h1 fun t s' D => rStore D fun s' D => x_nil ?_))))))
    refine key (x.drop 1) _ _ _ rfl (by simp; exact lin [_, _] (.h 1 (.a 0) (.a 1) <| .g 1 (.a 0) (.p (.a 1) (.n 1))) (.refl true) hx) ?_ D
    unfold unquote at h
    rw [if_pos hb'] at h
    exact h
  · have hb' : ¬ x.take 1 = [34] := of_decide_eq_false hb
    refine x_nil (key x _ _ _ rfl hx ?_ D)
    unfold unquote at h
    rw [if_neg hb'] at h
    exact h

noncomputable def marked (x : List Nat) : List Nat := [107, 61, 34] ++ repl 34 [92, 34] x ++ [34]
theorem marks_spec {Q : Value → Shared → Prop} {x : List Nat} {t : Tok} (P : Prog C s) (R : Room A 1) (hx : x.length ≤ 1000000) (h : ∀ t s', Next C.N s s' → Q (.str (S (marked x)) t) s') :
    W prog C A (call (.ref 196) [.str (S x) t]) Q s := by
  refine rEnter (binds := [(Str.ofString "text", .str (S x) t)]) P R F196.2 rfl (.of_eq rfl) fun s₁ L R D => ?_
  have hl := repl_len 34 [92, 34] x
  refine x_consL ?_
  intro Qs
  refine (x_ret (e_bin (e_bin ?_)))
  refine rStrS [107, 61, 34] D fun t s' D => ?_
  refine e_m2 (rName D rfl (m_replC (c := 34) (z := [92, 34]) D hx (by decide) fun t s' D => ?_))
  refine rAddS D (by simp [sizeLine] at hl ⊢; exact lin [_, _] (.h 3 (.a 0) (.n 1000000) <| .h 1 (.a 1) (.r (.a 0) 3) <| .g 1 (.p (.n 3) (.a 1)) (.n 16777216)) (.refl true) hx hl) fun t s' D => ?_
  refine rStrS [34] D fun t s' D => ?_
  refine rAddS D (by simp [sizeLine] at hl ⊢; exact lin [_, _] (.h 3 (.a 0) (.n 1000000) <| .h 1 (.a 1) (.r (.a 0) 3) <| .g 1 (.a 1) (.n 16777212)) (.refl true) hx hl) fun t s' D => ?_
  exact h _ _ D.next
end
end Mine
end
-- F2
section
open PySem PySem.Calls PyProof.Rows PySem.W
namespace Mine
noncomputable def Es108 : { es : List DictEntry × Nat // ∀ P, (K0 P).lookup 108 = some { cls := .type "dict", data := .dict es.1.toArray es.2 } } := ⟨(_, _), fun _ => rfl⟩
noncomputable def mapAt (c : Nat) : Option Value := findBy Value.isInt Es108.1.1.toArray (c : Int)
noncomputable def mapB (c : Nat) : Bool := match mapAt c with | some (.str x _) => decide (x = S [92, c]) && specials.contains c | some _ => false | none => !specials.contains c
theorem mapB_ok : ∀ c < 127, 32 ≤ c → mapB c = true := by decide +kernel
theorem map_ok (c : Nat) (h2 : c < 127) (h1 : 32 ≤ c) : match mapAt c with | some (.str x _) => x = S [92, c] ∧ specials.contains c = true | some _ => False | none => specials.contains c = false := by
  have h := mapB_ok c h2 h1
  unfold mapB at h
  split at h
  · simpa using h
  · cases h
  · simpa using h
noncomputable def keyB (e : DictEntry) : Bool := match e.key with | .int k _ => decide (e.hash = hashInt k) | _ => false
theorem keys_ok : IntKeys Es108.1.1.toArray := by
  have : ∀ e ∈ Es108.1.1, keyB e = true := by decide +kernel
  intro e he
  have h := this e (by simpa using he)
  unfold keyB at h
  split at h
  · rename_i k t hk; exact ⟨k, t, hk, of_decide_eq_true h⟩
  · cases h

section
variable {prog : Program} {C : Cx} {A : Around} {s₀ s : Shared} {L a : Addr} {m : Str → Option Value} {led : List (Addr × Cell)} {fd : FuncData} {env : Env}

theorem Prog.map (P : Prog C s) : s.heap.IntMap 108 fun k => findBy Value.isInt Es108.1.1.toArray k :=
  ⟨_, _, _, P.X _ _ (Es108.2 _), rfl, rfl, keys_ok, fun _ => rfl⟩

open Builtin.Str in
noncomputable def mapped (c : Nat) : Mapped := if specials.contains c = true then .text (S [92, c]) else .keep
open Builtin.Str in
theorem tl_spec {c : Nat} {Q : Mapped → Shared → Prop} (P : Prog C s) (R : Room A 1) (h1 : 32 ≤ c) (h2 : c < 127) (h : ∀ s', Next C.N s s' → Q (mapped c) s') : W prog C A (tableLookup (.ref 108) c) Q s := by
  have hm := map_ok c h2 h1
  unfold mapAt at hm
  unfold tableLookup
  refine W.tk ⟨wpAny_bind (wpAny_attempt ?_)⟩
  have P1 : Prog C { s with toks := s.toks + 1 } := P.next (.toks (Nat.le_succ _))
  refine wpAny_bind (wpAny_mkInt ?_)
  cases hf : findBy Value.isInt Es108.1.1.toArray (c : Int) with
  | some v =>
    rw [hf] at hm
    cases v with
    | str x t =>
      obtain ⟨rfl, hs⟩ := hm
      refine wpAny_getItem_intMap P1.map hf ?_
      refine wpAny_bind (m := asInt? _) (wpAny_pure ?_)
      refine wpAny_bind (m := asStr? _) (wpAny_pure (wpAny_pure fun hle => ?_))
      have := h _ (Next.toks (N := C.N) hle)
      unfold mapped at this
      rw [if_pos hs] at this
      exact this
    | _ => exact hm.elim
  | none =>
    rw [hf] at hm
    refine wpAny_getItem_missing_of (knd := intKind prog C.w) (k := (c : Int)) (intKind_is ..) (by decide) R.hh (P1.map.mapOf fun o e => ?_) hf fun h' e x => ?_
    · rw [P1.X _ _ (Es108.2 _)] at e; cases e; exact ⟨rfl, rfl⟩
    · obtain ⟨ob, t, e1, e2, e3⟩ := x.there
      refine wpAny_bind (wpAny_isInstance (T := "KeyError") (b := true) ⟨ob, e1, e2⟩ ?_ ?_)
      · rw [isSubtype_type]; kernel_rfl
      · refine wpAny_bind (wpAny_rule (wpAny_pure fun hle => ?_))
        have := h _ (Next.keeps (N := C.N) (h' := h') x.keeps hle)
        unfold mapped at this
        rw [if_neg (by rw [hm]; decide)] at this
        exact this

theorem M_translate : Meth "str" "translate" "str.translate" := ⟨F.plainAttrs_str, F.slot_str_translate, F.type_str_translate⟩
theorem translate1_spec {c : Nat} {t : Tok} {Q : Value → Shared → Prop} (P : Prog C s) (R : Room A 2) (h1 : 32 ≤ c) (h2 : c < 127) (h : ∀ t s', Next C.N s s' → Q (.str (S (outer c)) t) s') :
    W prog C A (call (.builtin "str.translate") [.str (S [c]) t, .ref 108]) Q s := by
  refine ⟨wpAny_call_entry F.slot_str_translate (typeIs_str _ _ _) F.entry_str_translate ?_ (F.args_str_translate_2 _ _)⟩
  unfold Builtin.«str.translate»
  refine wpAny_bind (m := Builtin.Str.strOneArg "translate" _) (wpAny_pure ?_)
  dsimp only
  rw [if_neg (by simp [S_len])]
  have hall : (S [c]).cps.all (fun x => decide (x < 128)) = true := by simp; exact lin [_] (.l 1 (.a 0) (.n 127) <| .j 1 (.a 0) (.n 128)) (.refl true) h2
  rw [hall, List.forIn_toArray, List.forIn_cons]
  have R1 : Room A.in1 1 := R.in1
  dsimp only
  rw [if_neg (show ¬ Builtin.Str.tooLong 0 = true by decide), if_pos rfl]
  dsimp only [List.lookup_nil]
  refine wpAny_bind (wpAny_bind (wpAny_bind ?_))
  refine (tl_spec P R1 h1 h2 fun s₁ n₁ => ?_).any
  have P1 : Prog C s₁ := P.next n₁
  unfold mapped
  by_cases hs : specials.contains c = true
  · rw [if_pos hs]
    dsimp only
    have e2 : ((S [92, c]).length == 1) = false := by simp [S_len]
    rw [e2, Bool.false_and]
    simp only [Bool.false_eq_true, if_false]
    refine wpAny_bind (wpAny_pure (wpAny_bind (wpAny_rule (wpAny_bind ?_))))
    refine (tl_spec P1 R1 h1 h2 fun s₂ n₂ => ?_).any
    unfold mapped
    rw [if_pos hs]
    dsimp only
    refine wpAny_pure ?_
    dsimp only
    rw [List.forIn_nil]
    refine wpAny_pure ?_
    dsimp only
    rw [if_neg (by simp [S_len]; decide)]
    simp only [List.reverse_cons, List.reverse_nil, List.nil_append, List.foldl_cons, List.foldl_nil, Array.empty_append]
    refine wpAny_bind (wpAny_mkStr (wpAny_pure ⟨_, rfl, ?_⟩) (by simp [S_len, sizeLine]))
    have := h s₂.toks _ ((n₁.trans n₂).trans (.toks (Nat.le_succ _)))
    unfold outer at this
    rw [if_pos hs] at this
    exact this
  · rw [if_neg hs]
    dsimp only
    refine wpAny_bind (wpAny_pure ?_)
    refine wpAny_pure ?_
    dsimp only
    rw [List.forIn_nil]
    refine wpAny_pure ?_
    dsimp only
    rw [if_neg (by decide)]
    simp only [List.reverse_cons, List.reverse_nil, List.nil_append, List.foldl_cons, List.foldl_nil, Array.empty_append]
    refine wpAny_bind (wpAny_mkStr (wpAny_pure ⟨_, rfl, ?_⟩) (by simp [sizeLine, Str.length]))
    have := h s₁.toks _ (n₁.trans (.toks (Nat.le_succ _)))
    unfold outer at this
    rw [if_neg hs] at this
    exact this

theorem escape_spec {c : Nat} {t : Tok} {Q : Value → Shared → Prop} (P : Prog C s) (R : Room A 4) (h1 : 32 ≤ c) (h2 : c < 127) (h : ∀ t s', Next C.N s s' → Q (.str (S (outer c)) t) s') :
    W prog C A (call (.ref 118) [.str (S [c]) t]) Q s := by
  refine rEnter (n := 3) (binds := [(Str.ofString "pattern", .str (S [c]) t)]) P R F118.2 rfl (.of_eq rfl) fun s₁ L R D => ?_
  refine x_consL ?_
  intro Qs
  refine x_if ?_
  intro Qi
  refine (t_val (e_bi D.now b_isinstance (a_cons (rName D rfl (a_cons (gBuilt D.now b_str (a_nil ?_)))))))
  refine ⟨call_isinstance_yes (Tx := "str") (typeIs_str _ _ _) (by rfl) (by rw [isSubtype_type]; kernel_rfl) (truthy_b (rIfT rfl ?_))⟩
  refine x_consL ?_
  intro Qs
  refine (x_ret (e_m1 (rName D rfl (m_str M_translate (sp_cons (gGlob D.now g_map (sp_nil ?_)))))))
  exact translate1_spec D.now (R.mono (by decide)) h1 h2 fun t s' nx => h _ _ (D.next.trans nx)
end
end Mine
end
-- B4
section
open PySem PySem.Calls PyProof.Rows PySem.W
namespace Mine

section
variable {prog : Program} {C : Cx} {A : Around} {s₀ s : Shared} {L a : Addr} {m : Str → Option Value} {led : List (Addr × Cell)} {fd : FuncData} {env : Env}

/-! the ledger by places, with new objects -/
theorem Led.setX (D : Led C s₀ L m led s) (i : Nat) {b : Addr} {c c' : Cell} (h : led[i]? = some (b, c)) {h' : Heap} {tk : Nat} (hb : Heap.ExtBut b s.heap h') (hc : c'.At h' b) (ht : s.toks ≤ tk) :
    Led C s₀ L m (led.set i (b, c')) { s with heap := h', toks := tk } := by
  have hi : i < led.length := (List.getElem?_eq_some_iff.mp h).1
  have he : led[i] = (b, c) := (List.getElem?_eq_some_iff.mp h).2
  have hp := List.pairwise_iff_getElem.mp D.dist
  refine D.updX (List.mem_of_getElem? h) hb ht (fun p hp' => ?_) ?_
  · obtain ⟨j, hj, rfl⟩ := List.mem_iff_getElem.mp hp'
    have hj' : j < led.length := by simpa using hj
    by_cases hij : i = j
    · subst hij; left; simp; exact hc
    · right
      rw [List.getElem_set_ne hij]
      refine ⟨fun q => ?_, List.getElem_mem hj'⟩
      rcases Nat.lt_or_gt_of_ne hij with hl | hl
      · exact hp i j hi hj' hl (by rw [he]; exact q.symm)
      · exact hp j i hj' hi hl (by rw [he]; exact q)
  · rw [show (led.set i (b, c')).map (·.1) = led.map (·.1) from ?_]
    · exact List.Sublist.refl _
    apply List.ext_getElem
    · simp
    · intro j h1 h2
      have hj' : j < led.length := by simpa using h2
      simp only [List.getElem_map]
      by_cases hij : i = j
      · subst hij; simp [he]
      · rw [List.getElem_set_ne hij]
theorem Led.dropX (D : Led C s₀ L m led s) (i : Nat) {b : Addr} {c : Cell} (h : led[i]? = some (b, c)) {h' : Heap} {tk : Nat} (hb : Heap.ExtBut b s.heap h') (ht : s.toks ≤ tk) :
    Led C s₀ L m (led.eraseIdx i) { s with heap := h', toks := tk } := by
  have hi : i < led.length := (List.getElem?_eq_some_iff.mp h).1
  have he : led[i] = (b, c) := (List.getElem?_eq_some_iff.mp h).2
  have hp := List.pairwise_iff_getElem.mp D.dist
  refine D.updX (List.mem_of_getElem? h) hb ht (fun p hp' => ?_) ?_
  · obtain ⟨j, hj, rfl⟩ := List.mem_iff_getElem.mp hp'
    right
    rw [List.getElem_eraseIdx]
    split
    · rename_i hlt
      have hj' : j < led.length := by exact lin [_, _, _] (.l 1 (.a 0) (.a 1) <| .l 1 (.a 2) (.a 0) <| .j 1 (.a 2) (.a 1)) (.refl true) hi hlt
      exact ⟨fun q => hp j i hj' hi hlt (by rw [he]; exact q), List.getElem_mem hj'⟩
    · rename_i hge
      have hj' : j + 1 < led.length := by rw [List.length_eraseIdx] at hj; simp [hi] at hj; exact lin [_, _, _] (.l 1 (.a 0) (.a 1) <| .e 1 (.p (.a 1) (.n 1)) (.a 2) <| .j 1 (.p (.a 0) (.n 1)) (.a 2)) (.refl true) hj (subC (by exact lin [_, _] (.l 1 (.a 0) (.a 1) <| .g 1 (.n 1) (.a 1)) (.refl true) hi))
      exact ⟨fun q => hp i (j + 1) hi hj' (by exact lin [_, _] (.o 1 (.a 0) (.a 1) <| .j 1 (.a 1) (.p (.a 0) (.n 1))) (.refl true) hge) (by rw [he]; exact q.symm), List.getElem_mem hj'⟩
  · exact (List.eraseIdx_sublist ..).map _
theorem Led.ne (D : Led C s₀ L m led s) {i j : Nat} {b b' : Addr} {c c' : Cell} (hi : led[i]? = some (b, c)) (hj : led[j]? = some (b', c')) (hij : i ≠ j) : b ≠ b' := by
  have hp := List.pairwise_iff_getElem.mp D.dist
  obtain ⟨hi1, hi2⟩ := List.getElem?_eq_some_iff.mp hi
  obtain ⟨hj1, hj2⟩ := List.getElem?_eq_some_iff.mp hj
  rcases Nat.lt_or_gt_of_ne hij with hl | hl
  · have := hp i j hi1 hj1 hl
    rw [hi2, hj2] at this; exact this
  · have := hp j i hj1 hi1 hl
    rw [hi2, hj2] at this; exact fun q => this q.symm
theorem Led.ext (D : Led C s₀ L m led s) {h' : Heap} {tk : Nat} (hb : Heap.ExtBut s.heap.objs.size s.heap h') (ht : s.toks ≤ tk) : Led C s₀ L m led { s with heap := h', toks := tk } :=
  D.step (Next.keeps (fun b o e => hb b o (Nat.ne_of_lt (Heap.lt_size e)) e) ht)

/-! lists -/
theorem Cell.At.isList {h : Heap} {b : Addr} {xs : List Value} (x : (Cell.list xs).At h b) : h.IsList b xs.toArray := let ⟨n, e⟩ := x; ⟨_, e, rfl, n, rfl⟩
theorem Cell.At.isTuple {h : Heap} {b : Addr} {xs : List Value} (x : (Cell.tup xs).At h b) : h.IsTuple b xs.toArray := let ⟨n, e⟩ := x; ⟨_, e, rfl, n, rfl⟩
theorem Cell.upList {h : Heap} {b : Addr} {xs ys : List Value} {f : Array Value → Array Value} (x : (Cell.list xs).At h b) (hf : f xs.toArray = ys.toArray) : (Cell.list ys).At (h.update b (Obj.mapSeq f)) b := by
  obtain ⟨n, e⟩ := x
  have := IsL.update (n := n) (items := xs.toArray) e f
  rw [hf] at this
  exact ⟨_, this⟩

inductive AppQ (C : Cx) (Q : Value → Shared → Prop) (b : Addr) (v : Value) (s₁ : Shared) : Prop
  | intro (s₀ : Shared) (L : Addr) (m : Str → Option Value) (led : List (Addr × Cell)) (i : Nat) (xs : List Value) (D : Led C s₀ L m led s₁) (hi : led[i]? = some (b, .list xs)) (hz : xs.length ≤ sizeLine) (k : ∀ s', Led C s₀ L m (led.set i (b, .list (xs ++ [v]))) s' → Q .none s') : AppQ C Q b v s₁
theorem m_append {b : Addr} {pos : Pos} {tr : Sem Value} {Q : Value → Shared → Prop} (hb : ∃ xs, (Cell.list xs).At s.heap b)
    (h : W prog C A tr (AppQ C Q b) s) :
    MethodOnS prog C.w A NoE "append" (.ref b) pos [(false, tr)] Q s := by
  obtain ⟨xs, n, hb⟩ := hb
  refine ⟨"list", "list.append", F.plainAttrs_list, F.slot_list_append, F.type_list_append, ⟨_, hb, rfl⟩, fun _ e => by cases e; exact ⟨_, hb, rfl⟩, ?_⟩
  refine P.append_list (wpAny_mono h.out (fun v s₁ ⟨s₀, L, m, led, i, xs, D, hi, hz, hq⟩ => ?_) fun _ _ x => x)
  obtain ⟨n, hn⟩ := D.nth i hi
  refine ⟨xs.toArray, n, by simpa using hz, hn, hq _ ?_⟩
  exact D.setAt i hi (Heap.SameBut.update ..) (Cell.upList ⟨n, hn⟩ (by simp)) (Nat.le_refl _)
theorem rAppend {b : Addr} {v : Value} {xs : List Value} {Q : Value → Shared → Prop} (D : Led C s₀ L m led s) (i : Nat) (hi : led[i]? = some (b, .list xs)) (hz : xs.length ≤ sizeLine)
    (hq : ∀ s', Led C s₀ L m (led.set i (b, .list (xs ++ [v]))) s' → Q .none s') : W prog C A (call (.builtin "list.append") [.ref b, v]) Q s := by
  have hb := D.nth i hi
  refine ⟨wpAny_list_append_plain (items := xs.toArray) hb (fun h' hp hs => hq _ ?_) (by simpa using hz)⟩
  exact D.setAt i hi hs (by obtain ⟨n, hp⟩ := hp; exact ⟨n, by simpa using hp⟩) (Nat.le_refl _)
theorem rLenL {b : Addr} {xs : List Value} {Q : Value → Shared → Prop} (D : Led C s₀ L m led s) (hb : (Cell.list xs).At s.heap b) (hz : xs.length ≤ sizeLine) (h : ∀ t s', Led C s₀ L m led s' → Q (.int (xs.length : Nat) t) s') :
    W prog C A (call (.builtin "len") [.ref b]) Q s :=
  ⟨call_len_list hb.isList (by have := sizeLine_eq; simp; omega) (by
    have := h (s.toks + 1) _ (D.toks (s.toks + 1 + 1) (by exact lin [_] (.g 1 (.a 0) (.p (.p (.a 0) (.n 1)) (.n 1))) (.refl true)))
    simpa using this)⟩
theorem rLenS {x : List Nat} {t : Tok} {Q : Value → Shared → Prop} (D : Led C s₀ L m led s) (hz : x.length ≤ sizeLine) (h : ∀ t s', Led C s₀ L m led s' → Q (.int (x.length : Nat) t) s') :
    W prog C A (call (.builtin "len") [.str (S x) t]) Q s :=
  ⟨PySem.P.len_str (by have := sizeLine_eq; rw [S_len]; omega) (by
    have := h (s.toks + 1) _ (D.toks (s.toks + 1 + 1) (by exact lin [_] (.g 1 (.a 0) (.p (.p (.a 0) (.n 1)) (.n 1))) (.refl true)))
    rw [S_len]; exact this)⟩
theorem rAddL {b b' : Addr} {xs ys : List Value} {Q : Value → Shared → Prop} (D : Led C s₀ L m led s) (hb : (Cell.list xs).At s.heap b) (hb' : (Cell.list ys).At s.heap b') (hz : xs.length + ys.length ≤ sizeLine)
    (h : ∀ c s', Led C s₀ L m ((c, .list (xs ++ ys)) :: led) s' → Q (.ref c) s') : W prog C A (binaryOp .Add (.ref b) (.ref b')) Q s := by
  obtain ⟨n, e⟩ := hb
  obtain ⟨n', e'⟩ := hb'
  refine ⟨P.add_list e e' (h _ _ ?_) (by simpa using hz)⟩
  refine D.new (.list (xs ++ ys)) (tk := s.toks) (fun _ _ e => Heap.get?_push_of_some _ e) (Nat.le_refl _) ⟨0, ?_⟩ (Nat.le_refl _)
  rw [Heap.get?_push_size _ rfl]
  simp
/-! loops -/
inductive Less (n : Nat) (I : Nat → Shared → Prop) (s : Shared) : Prop | intro (m : Nat) (h : m < n) (hI : I m s) : Less n I s
/-- what holds behind a turn of a loop -/
abbrev TurnQ (n : Nat) (I : Nat → Shared → Prop) (Q : Flow → Shared → Prop) : Flow → Shared → Prop := fun f s₃ => match f with
  | .next | .cont => Less n I s₃
  | .brk => Q .next s₃
  | .ret v => Q (.ret v) s₃
abbrev WhileQ (prog : Program) (C : Cx) (A : Around) (env : Env) (body : List Stmt) (Qb Q : Flow → Shared → Prop) : Bool → Shared → Prop := fun b s₂ => if b = true then W prog C A (execs body env) Qb s₂ else Q .next s₂
theorem x_while {test : Expr} {body : List Stmt} {pos : Pos} {Q : Flow → Shared → Prop} (I : Nat → Shared → Prop) (n : Nat) (h0 : I n s)
    (turn : ∀ n s, let Qb : Flow → Shared → Prop := TurnQ n I Q; let Qi : Bool → Shared → Prop := WhileQ prog C A env body Qb Q; I n s → W prog C A (isTrue test env (eval test env)) Qi s) : W prog C A (exec (.While test body [] pos) env) Q s := by
  refine ⟨wpAny_While (codeAny_mono (R := fun r s' => ∃ f, r = .ok f ∧ Q f s') (codeAny_whileLoop I (fun n s hI => ?_) n h0) fun r s' ⟨f, e, q⟩ => by subst e; exact q)⟩
  refine (W.mono (turn n s hI) fun b s₂ h₂ => ?_).any
  cases b
  · exact wpAny_execs_nil ⟨_, rfl, h₂⟩
  · refine (W.mono h₂ fun f s₃ h₃ => ?_).any
    cases f
    · exact let ⟨m, a, b⟩ := h₃; ⟨m, a, b⟩
    · exact ⟨_, rfl, h₃⟩
    · exact let ⟨m, a, b⟩ := h₃; ⟨m, a, b⟩
    · exact ⟨_, rfl, h₃⟩

/-- a loop over an iterator -/
structure Loop (prog : Program) (C : Cx) (A : Around) (target : Expr) (it : Value) (body : List Stmt) (env : Env) (Q : Flow → Shared → Prop) (s : Shared) : Prop where
  out : codeAny (model prog C.w) A (.forLoop target it body [] env) (fun r s' => ∃ f, r = .ok f ∧ Q f s') s
theorem x_for {target iter : Expr} {body : List Stmt} {pos : Pos} {Q : Flow → Shared → Prop} (h : W prog C A (eval iter env) (fun x s₁ => W prog C A (pyIter x) (fun it s₂ => Loop prog C A target it body env Q s₂) s₁) s)
    (hs : ∀ x, foldedSetIterable iter env x = pure x := by intro _; rfl) : W prog C A (exec (.For target iter body [] pos) env) Q s :=
  ⟨wpAny_For (wpAny_mono h.out (fun _ _ x => wpAny_mono x.out (fun _ _ x => codeAny_mono x.out fun r s' ⟨f, e, q⟩ => by subst e; exact q) fun _ _ x => x) fun _ _ x => x) hs⟩
theorem loopT {target : Expr} {it : Value} {body : List Stmt} {Q : Flow → Shared → Prop} (I : Nat → Shared → Prop) (n : Nat) (h0 : I n s)
    (turn : ∀ n s, let Qb : Flow → Shared → Prop := TurnQ n I Q; I n s → W prog C A (pyNext it) (fun r s₁ => match r with
      | none => Q .next s₁
      | some v => W prog C A (letOwnedTupleGo target it v) (fun _ s₁' => W prog C A (assign target env v) (fun _ s₂ => W prog C A (execs body env) Qb s₂) s₁') s₁) s) : Loop prog C A target it body env Q s := by
  refine ⟨codeAny_forLoop_any I (fun n s hI => ?_) n h0⟩
  refine (W.mono (turn n s hI) fun r s₁ h₁ => ?_).any
  cases r with
  | none => exact wpAny_execs_nil ⟨_, rfl, h₁⟩
  | some v =>
    refine (W.mono h₁ fun _ s₁' h₁' => (W.mono h₁' fun _ s₂ h₂ => (W.mono h₂ fun f s₃ h₃ => ?_).any).any).any
    cases f
    · exact let ⟨m, a, b⟩ := h₃; ⟨m, a, b⟩
    · exact ⟨_, rfl, h₃⟩
    · exact let ⟨m, a, b⟩ := h₃; ⟨m, a, b⟩
    · exact ⟨_, rfl, h₃⟩
theorem loopN {x : Str} {px : Pos} {it : Value} {body : List Stmt} {Q : Flow → Shared → Prop} (I : Nat → Shared → Prop) (n : Nat) (h0 : I n s)
    (turn : ∀ n s, let Qb : Flow → Shared → Prop := TurnQ n I Q; I n s → W prog C A (pyNext it) (fun r s₁ => match r with
      | none => Q .next s₁
      | some v => W prog C A (storeName env x v) (fun _ s₂ => W prog C A (execs body env) Qb s₂) s₁) s) : Loop prog C A (.Name x px) it body env Q s := by
  refine loopT I n h0 fun n s hI => (turn n s hI).mono fun r s₁ h₁ => ?_
  cases r with
  | none => exact h₁
  | some v => exact ⟨wpAny_pure (a := ()) ⟨wpAny_assign_Name h₁.out⟩⟩

/-! iterators -/
theorem n_list {it l : Addr} {k : Nat} {xs : List Value} {v : Value} {Q : Option Value → Shared → Prop} (D : Led C s₀ L m led s) (i : Nat) (hi : led[i]? = some (it, .fld "list_iterator" [.ref l, .int (k : Int) 0])) (hl : (Cell.list xs).At s.heap l)
    (hx : xs[k]? = some v) (h : ∀ s', Led C s₀ L m (led.set i (it, .fld "list_iterator" [.ref l, .int ((k + 1 : Nat) : Int) 0])) s' → (Cell.list xs).At s'.heap l → Q (some v) s') : W prog C A (pyNext (.ref it)) Q s := by
  obtain ⟨_, o, ho, hc, hd⟩ := D.nth i hi
  have hne : l ≠ it := by
    rintro rfl
    obtain ⟨n, e⟩ := hl
    rw [ho] at e; cases e; simp at hc
  refine ⟨wpAny_pyNext_list_item ⟨o, ho, hc, hd⟩ hl.isList (by simpa using hx) fun h' hit' hs' => h _ ?_ ?_⟩
  · obtain ⟨o', ho', hc', hd'⟩ := hit'
    exact D.setAt i hi hs' ⟨by simp, o', ho', hc', hd'⟩ (Nat.le_refl _)
  · exact hl.move' fun o e => (hs'.2 l hne).trans e
theorem n_list_end {it l : Addr} {k : Nat} {xs : List Value} {Q : Option Value → Shared → Prop} (D : Led C s₀ L m led s) (i : Nat) (hi : led[i]? = some (it, .fld "list_iterator" [.ref l, .int (k : Int) 0])) (hl : (Cell.list xs).At s.heap l)
    (hx : xs[k]? = none) (hh : A.handled = none) (h : ∀ s', Led C s₀ L m (led.eraseIdx i) s' → (Cell.list xs).At s'.heap l → Q none s') : W prog C A (pyNext (.ref it)) Q s := by
  obtain ⟨_, o, ho, hc, hd⟩ := D.nth i hi
  have hne : l ≠ it := by
    rintro rfl
    obtain ⟨n, e⟩ := hl
    rw [ho] at e; cases e; simp at hc
  refine ⟨wpAny_pyNext_list_end hh ⟨o, ho, hc, hd⟩ hl.isList (by simpa using hx) fun h' he' => h _ (D.dropX i hi he' (Nat.le_refl _)) ?_⟩
  exact hl.move' fun o e => he' l o hne e
theorem it_list {l : Addr} {xs : List Value} {Q : Value → Shared → Prop} (D : Led C s₀ L m led s) (hl : (Cell.list xs).At s.heap l)
    (h : ∀ it s', Led C s₀ L m ((it, .fld "list_iterator" [.ref l, .int ((0 : Nat) : Int) 0]) :: led) s' → (Cell.list xs).At s'.heap l → Q (.ref it) s') : W prog C A (pyIter (.ref l)) Q s :=
  ⟨wpAny_pyIter_list hl.isList (h _ _ (D.new (.fld "list_iterator" [.ref l, .int ((0 : Nat) : Int) 0]) (tk := s.toks) (fun _ _ e => Heap.get?_push_of_some _ e) (Nat.le_refl _) ⟨by simp, _, Heap.get?_push_size _ rfl, rfl, rfl⟩ (Nat.le_refl _))
    (hl.move' fun _ e => Heap.get?_push_of_some _ e))⟩
theorem it_listit {it l : Addr} {k : Nat} {i : Nat} {Q : Value → Shared → Prop} (D : Led C s₀ L m led s) (hi : led[i]? = some (it, .fld "list_iterator" [.ref l, .int (k : Int) 0])) (h : Q (.ref it) s) : W prog C A (pyIter (.ref it)) Q s := by
  obtain ⟨_, o, ho, hc, hd⟩ := D.nth i hi
  exact ⟨wpAny_pyIter_listiter ⟨o, ho, hc, hd⟩ h⟩
theorem it_str {x : List Nat} {t : Tok} {Q : Value → Shared → Prop} (D : Led C s₀ L m led s) (ha : ∀ c ∈ x, c < 128)
    (h : ∀ it s', Led C s₀ L m ((it, .fld "str_ascii_iterator" [.str (S x) t, .int ((0 : Nat) : Int) 0]) :: led) s' → Q (.ref it) s') : W prog C A (pyIter (.str (S x) t)) Q s :=
  ⟨wpAny_pyIter_ascii (by simpa using ha) (h _ _ (D.new (.fld "str_ascii_iterator" [.str (S x) t, .int ((0 : Nat) : Int) 0]) (tk := s.toks) (fun _ _ e => Heap.get?_push_of_some _ e) (Nat.le_refl _) ⟨by simp, _, Heap.get?_push_size _ rfl, rfl, rfl⟩ (Nat.le_refl _)))⟩
theorem it_strit {it : Addr} {x : List Nat} {t : Tok} {k i : Nat} {Q : Value → Shared → Prop} (D : Led C s₀ L m led s) (hi : led[i]? = some (it, .fld "str_ascii_iterator" [.str (S x) t, .int (k : Int) 0])) (h : Q (.ref it) s) : W prog C A (pyIter (.ref it)) Q s := by
  obtain ⟨_, o, ho, hc, hd⟩ := D.nth i hi
  exact ⟨wpAny_pyIter_striter_ascii ⟨o, ho, hc, hd⟩ h⟩
theorem n_str {it : Addr} {x : List Nat} {t : Tok} {k c : Nat} {Q : Option Value → Shared → Prop} (D : Led C s₀ L m led s) (i : Nat) (hi : led[i]? = some (it, .fld "str_ascii_iterator" [.str (S x) t, .int (k : Int) 0]))
    (hx : x[k]? = some c) (h : ∀ u s', Led C s₀ L m (led.set i (it, .fld "str_ascii_iterator" [.str (S x) t, .int ((k + 1 : Nat) : Int) 0])) s' → Q (some (.str (S [c]) u)) s') : W prog C A (pyNext (.ref it)) Q s := by
  obtain ⟨_, o, ho, hc, hd⟩ := D.nth i hi
  refine ⟨wpAny_pyNext_ascii_item ⟨o, ho, hc, hd⟩ (by simpa using hx) fun h' hit' hs' => h _ _ ?_⟩
  obtain ⟨o', ho', hc', hd'⟩ := hit'
  exact D.setAt i hi hs' ⟨by simp, o', ho', hc', hd'⟩ (Nat.le_succ _)
theorem n_str_end {it : Addr} {x : List Nat} {t : Tok} {k : Nat} {Q : Option Value → Shared → Prop} (D : Led C s₀ L m led s) (i : Nat) (hi : led[i]? = some (it, .fld "str_ascii_iterator" [.str (S x) t, .int (k : Int) 0]))
    (hx : x[k]? = none) (hh : A.handled = none) (h : ∀ s', Led C s₀ L m (led.eraseIdx i) s' → Q none s') : W prog C A (pyNext (.ref it)) Q s := by
  obtain ⟨_, o, ho, hc, hd⟩ := D.nth i hi
  exact ⟨wpAny_pyNext_ascii_end hh ⟨o, ho, hc, hd⟩ (by simpa using hx) fun h' he' => h _ (D.dropX i hi he' (Nat.le_refl _))⟩

/-! two targets -/
theorem t_two {t1 t2 : Expr} {k : Nat} {pos : Pos} {b : Addr} {x y : Value} {Q : Unit → Shared → Prop} (D : Led C s₀ L m led s) (hb : (Cell.tup [x, y]).At s.heap b) (hh : A.handled = none)
    (h : ∀ s', Led C s₀ L m led s' → W prog C A (assign t1 env x) (fun _ s₁ => W prog C A (assign t2 env y) Q s₁) s')
    (he : assignEach [t1, t2] env = [(false, assign t1 env), (false, assign t2 env)] := by rfl) : W prog C A (assign (.Tuple [t1, t2] k pos) env (.ref b)) Q s := by
  refine ⟨wpAny_assign_Tuple hh hb.isTuple (by rw [he]; rfl) (by rw [he]; rfl) fun h' hx => ?_⟩
  rw [he]
  refine assignInOrder_cons (wpAny_mono (h _ (D.ext hx (Nat.le_refl _))).out (fun _ s₁ h₁ => ?_) fun _ _ x => x)
  exact assignInOrder_cons (wpAny_mono h₁.out (fun _ s₂ h₂ => assignInOrder_nil h₂) fun _ _ x => x)
theorem as_name {x : Str} {pos : Pos} {v : Value} {Q : Unit → Shared → Prop} (h : W prog C A (storeName env x v) Q s) : W prog C A (assign (.Name x pos) env v) Q s := ⟨wpAny_assign_Name h.out⟩
end
end Mine
end
-- B5
section
open PySem PySem.Calls PyProof.Rows PySem.W
namespace Mine

section
variable {prog : Program} {C : Cx} {A : Around} {s₀ s : Shared} {L a : Addr} {m : Str → Option Value} {led : List (Addr × Cell)} {fd : FuncData} {env : Env}

theorem trL {b : Addr} {xs : List Value} {Q : Bool → Shared → Prop} (D : Led C s₀ L m led s) (hb : (Cell.list xs).At s.heap b) (hz : xs.length ≤ sizeLine) (h : ∀ s', Led C s₀ L m led s' → Q (decide (xs ≠ [])) s') :
    W prog C A (truthy (.ref b)) Q s :=
  ⟨wpAny_truthy_list hb.isList (by have := sizeLine_eq; simp; omega) (by
    have e : (!xs.toArray.isEmpty) = decide (xs ≠ []) := by cases xs <;> simp
    rw [e]
    exact h _ (D.toks _ (by exact lin [_] (.g 1 (.a 0) (.p (.p (.a 0) (.n 1)) (.n 1))) (.refl true))))⟩

/-! lists of texts -/
noncomputable def Strs (vs : List Value) (xs : List (List Nat)) : Prop := StrsAre vs (xs.map S)
theorem Strs.nil : Strs [] [] := StrsAre.nil
theorem Strs.cons {vs xs} (x : List Nat) (t : Tok) (h : Strs vs xs) : Strs (.str (S x) t :: vs) (x :: xs) := StrsAre.cons _ _ h
theorem Strs.append : ∀ {vs ws : List Value} {xs ys}, Strs vs xs → Strs ws ys → Strs (vs ++ ws) (xs ++ ys) := by
  intro vs ws xs ys h1 h2
  unfold Strs at h1
  generalize hx : xs.map S = zs at h1
  induction h1 generalizing xs with
  | nil => cases xs with
    | nil => exact h2
    | cons => simp at hx
  | cons y t _ ih => cases xs with
    | nil => simp at hx
    | cons x xs =>
      simp at hx
      obtain ⟨rfl, hx⟩ := hx
      exact (ih hx).cons x t
theorem Strs.snoc {vs xs} (h : Strs vs xs) (x : List Nat) (t : Tok) : Strs (vs ++ [.str (S x) t]) (xs ++ [x]) := h.append (Strs.nil.cons x t)
theorem Strs.length {vs xs} (h : Strs vs xs) : vs.length = xs.length := by
  unfold Strs at h
  generalize hx : xs.map S = zs at h
  induction h generalizing xs with
  | nil => cases xs with
    | nil => rfl
    | cons => simp at hx
  | cons y t _ ih => cases xs with
    | nil => simp at hx
    | cons x xs =>
      simp at hx
      simp [ih hx.2]
theorem Strs.get {vs xs} (h : Strs vs xs) : ∀ {i : Nat} {x : List Nat}, xs[i]? = some x → ∃ t, vs[i]? = some (.str (S x) t) := by
  unfold Strs at h
  generalize hx : xs.map S = zs at h
  induction h generalizing xs with
  | nil => cases xs with
    | nil => intro i x h; simp at h
    | cons => simp at hx
  | cons y t _ ih => cases xs with
    | nil => simp at hx
    | cons z xs =>
      simp at hx
      obtain ⟨rfl, hx⟩ := hx
      intro i x h
      cases i with
      | zero => simp at h; subst h; exact ⟨t, rfl⟩
      | succ i => simp at h; simpa using ih hx h

noncomputable def joinL (sep : List Nat) : List (List Nat) → List Nat
  | [] => []
  | [x] => x
  | x :: y :: r => x ++ sep ++ joinL sep (y :: r)
theorem join_S' (sep : List Nat) : ∀ xs : List (List Nat), Str.join (S sep) (xs.map S) = S (joinL sep xs)
  | [] => rfl
  | [x] => rfl
  | x :: y :: r => by
    have ih := join_S' sep (y :: r)
    show S x ++ S sep ++ Str.join (S sep) ((y :: r).map S) = _
    rw [ih, S_append, S_append]; rfl
theorem join_S (sep : List Nat) (xs : List (List Nat)) : Txt.join (S sep) (xs.map S) = S (joinL sep xs) := (beq_iff_eq.mp (join_plain_closes (S sep) (xs.map S))).trans (join_S' sep xs)
theorem joinL_nil : ∀ xs : List (List Nat), joinL [] xs = xs.flatten
  | [] => rfl
  | [x] => by simp [joinL]
  | x :: y :: r => by rw [joinL, joinL_nil (y :: r)]; simp
theorem rJoin {b : Addr} {vs : List Value} {xs : List (List Nat)} {sep : List Nat} {t : Tok} {Q : Value → Shared → Prop} (D : Led C s₀ L m led s) (hb : (Cell.list vs).At s.heap b) (hs : Strs vs xs)
    (hz : (xs.map (·.length)).sum + xs.length * sep.length ≤ 16777216) (h : ∀ t s', Led C s₀ L m led s' → Q (.str (S (joinL sep xs)) t) s') : W prog C A (call (.builtin "str.join") [.str (S sep) t, .ref b]) Q s := by
  refine W.tk ⟨PyProof.Rows.join_list hb.isList (ys := xs.map S) hs ?_ fun t' k hk => ?_⟩
  · rw [List.map_map, List.length_map, S_len]
    have e : (List.map ((fun x => Str.length x) ∘ S) xs) = xs.map (·.length) := List.map_congr_left fun x _ => S_len x
    rw [show (List.map ((·.length) ∘ S) xs) = xs.map (·.length) from e]
    exact hz
  · rw [join_S]; exact h _ _ (D.toks _ hk)
theorem M_join : Meth "str" "join" "str.join" := ⟨F.plainAttrs_str, F.slot_str_join, F.type_str_join⟩

/-! f-strings -/
inductive FvQ (C : Cx) (Q : Value → Shared → Prop) (v : Value) (s₁ : Shared) : Prop
  | intro (s₀ : Shared) (L : Addr) (m : Str → Option Value) (led : List (Addr × Cell)) (x : List Nat) (t : Tok) (D : Led C s₀ L m led s₁) (hv : v = .str (S x) t) (hz : x.length ≤ sizeLine) (k : ∀ t s', Led C s₀ L m led s' → Q (.str (S x) t) s') : FvQ C Q v s₁
theorem e_fv {value : Expr} {pos : Pos} {Q : Value → Shared → Prop}
    (h : W prog C A (eval value env) (FvQ C Q) s) :
    W prog C A (eval (.FormattedValue value (-1) none pos) env) Q s :=
  ⟨wpAny_FormattedValue_plain (wpAny_mono h.out (fun v s₁ ⟨s₀, L, m, led, x, t, D, e, hz, q⟩ => by
    subst e
    exact wpAny_formatField_str (q _ _ D) (q _ _ D.tok1) (by rw [S_len]; exact hz)) fun _ _ x => x)⟩
inductive F3c (C : Cx) (Q : Value → Shared → Prop) (x y : List Nat) (c : Value) (s₃ : Shared) : Prop
  | intro (z : List Nat) (v : Tok) (s₀ : Shared) (L : Addr) (m : Str → Option Value) (led : List (Addr × Cell)) (hc : c = .str (S z) v) (D : Led C s₀ L m led s₃) (hz : x.length + y.length + z.length ≤ sizeLine) (k : ∀ t s', Led C s₀ L m led s' → Q (.str (S (x ++ y ++ z)) t) s') : F3c C Q x y c s₃
inductive F3b (prog : Program) (C : Cx) (A : Around) (env : Env) (v3 : Expr) (Q : Value → Shared → Prop) (x : List Nat) (b : Value) (s₂ : Shared) : Prop
  | intro (y : List Nat) (u : Tok) (hb : b = .str (S y) u) (hz : x.length + y.length ≤ sizeLine) (h : W prog C A (eval v3 env) (F3c C Q x y) s₂) : F3b prog C A env v3 Q x b s₂
inductive F3a (prog : Program) (C : Cx) (A : Around) (env : Env) (v2 v3 : Expr) (Q : Value → Shared → Prop) (a : Value) (s₁ : Shared) : Prop
  | intro (x : List Nat) (t : Tok) (ha : a = .str (S x) t) (hz : x.length ≤ sizeLine) (h : W prog C A (eval v2 env) (F3b prog C A env v3 Q x) s₁) : F3a prog C A env v2 v3 Q a s₁
theorem e_f3 {v1 v2 v3 : Expr} {pos : Pos} {Q : Value → Shared → Prop}
    (h : W prog C A (eval v1 env) (F3a prog C A env v2 v3 Q) s)
    (he : evalEach [v1, v2, v3] env = [eval v1 env, eval v2 env, eval v3 env] := by rfl) : W prog C A (eval (.JoinedStr [v1, v2, v3] pos) env) Q s := by
  refine ⟨wpAny_JoinedStr ?_⟩
  rw [he]
  have key : ∀ y : List Nat, Str.empty ++ S y = S y := fun y => by
    show S [] ++ S y = S y
    rw [S_append]; rfl
  refine wpAny_mono h.out (fun a s₁ ⟨x, t, ea, hx, ha⟩ => ⟨S x, t, ea, by rw [key, S_len]; exact hx, ?_⟩) fun _ _ x => x
  rw [key]
  refine wpAny_mono ha.out (fun b s₂ ⟨y, u, eb, hy, hb⟩ => ⟨S y, u, eb, by rw [S_append, S_len, List.length_append]; exact hy, ?_⟩) fun _ _ x => x
  rw [S_append]
  refine wpAny_mono hb.out (fun c s₃ ⟨z, v, s₀, L, m, led, ec, D, hz, q⟩ => ⟨S z, v, ec, by rw [S_append, S_len, List.length_append, List.length_append]; exact hz, ?_⟩) fun _ _ x => x
  rw [S_append]
  exact ⟨by rw [S_len, List.length_append, List.length_append]; exact hz, q _ _ D.tok1⟩

/-! slices of lists -/
inductive SliceL (C : Cx) (Q : Value → Shared → Prop) (o vl vu : Value) (s₃ : Shared) : Prop
  | intro (s₀ : Shared) (L : Addr) (m : Str → Option Value) (led : List (Addr × Cell)) (b : Addr) (xs ys : List Value) (lo hi : Option Int) (D : Led C s₀ L m led s₃) (ho : o = .ref b) (hb : (Cell.list xs).At s₃.heap b) (hz : xs.length ≤ sizeLine)
    (pl : IsPart vl lo) (pu : IsPart vu hi) (hy : slicePick xs.toArray lo hi none = ys.toArray) (k : ∀ c s', Led C s₀ L m ((c, .list ys) :: led) s' → Q (.ref c) s') : SliceL C Q o vl vu s₃
theorem e_sliceL {value : Expr} {lower upper : Option Expr} {p pos : Pos} {Q : Value → Shared → Prop}
    (h : W prog C A (eval value env) (fun o s₁ => W prog C A (evalPart lower env) (fun vl s₂ => W prog C A (evalPart upper env) (SliceL C Q o vl) s₂) s₁) s)
    (ht' : ∀ o r, letTemporaryGo value o r = pure () := by intro _ _; rfl) : W prog C A (eval (.Subscript value (.Slice lower upper none p) pos) env) Q s := by
  refine ⟨wpAny_Subscript_list_slice (wpAny_mono h.out (fun o s₁ q₁ => wpAny_mono q₁.out (fun vl s₂ q₂ => wpAny_mono q₂.out (fun vu s₃ q₃ => ?_) fun _ _ x => x) fun _ _ x => x) fun _ _ x => x) ht'⟩
  obtain ⟨s₀, L, m, led, b, xs, ys, lo, hi, D, rfl, hb, hz, pl, pu, hy, hQ⟩ := q₃
  refine ⟨b, xs.toArray, lo, hi, rfl, hb.isList, by simpa using hz, pl, pu, hQ _ _ ?_⟩
  rw [hy]
  have D1 := D.step (Next.keeps (N := C.N) (h' := s₃.heap.push { cls := .type "slice", data := .fields #[vl, vu, .none] }) (tk := s₃.toks) (fun _ _ e => Heap.get?_push_of_some _ e) (Nat.le_refl _))
  refine D1.new (.list ys) (tk := s₃.toks) (fun _ _ e => Heap.get?_push_of_some _ e) ?_ ⟨0, ?_⟩ (Nat.le_refl _)
  · show (s₃.heap.push _).objs.size ≤ _
    rw [Heap.size_push]; exact Nat.le_refl _
  · have := Heap.get?_push_size (o := lobj ys 0) (s₃.heap.push { cls := .type "slice", data := .fields #[vl, vu, .none] }) rfl
    rw [Heap.size_push] at this; exact this

/-! comprehensions -/
structure CLoop (prog : Program) (C : Cx) (A : Around) (e : Expr) (it acc : Value) (env : Env) (Fin : Shared → Prop) (s : Shared) : Prop where
  out : codeAny (model prog C.w) A (.compLoop e 0 it acc env) (fun r s' => r = .ok .next ∧ Fin s') s
inductive CFin (C : Cx) (s₀ : Shared) (L : Addr) (m : Str → Option Value) (cl : Addr) (Q : Shared → Prop) (s : Shared) : Prop
  | intro (led : List (Addr × Cell)) (i : Nat) (ns : Str → Option Value) (D : Led C s₀ L m led s) (hi : led[i]? = some (cl, .ns ns)) (k : ∀ s', Led C s₀ L m (led.eraseIdx i) s' → Q s') : CFin C s₀ L m cl Q s
theorem e_comp {elt target iter : Expr} {ifs : List Expr} {scope : Scope} {pos : Pos} {Q : Value → Shared → Prop}
    (h : W prog C A (eval iter env) (fun x s₁ => W prog C A (pyIter x) (fun it s₂ => ∃ s₀ L m led, Led C s₀ L m led s₂ ∧
      ∀ acc cl s', Led C s₀ L m ((cl, .ns fun _ => none) :: (acc, .list []) :: led) s' →
        (∀ Q : Value → Shared → Prop, Q it s' → W prog C A (pyIter it) Q s') ∧
        CLoop prog C A (.ListComp elt [⟨target, iter, ifs, 0⟩] scope pos) it (.ref acc) (compEnv scope cl env) (CFin C s₀ L m cl (Q (.ref acc))) s') s₁) s)
    (hfree : (scope.names.all fun x => decide (x.2 ≠ .free)) = true := by rfl) (hcell : (scope.names.all fun x => decide (x.2 ≠ .cell)) = true := by rfl) (hkind : scope.kind = .function := by rfl)
    (hnames : (scope.names.all fun x => decide (x.2 = .local → scope.names.lookup x.1 = some .local)) = true := by rfl)
    (hs : ∀ x, foldedSetIterable iter env x = pure x := by intro _; rfl) : W prog C A (eval (.ListComp elt [⟨target, iter, ifs, 0⟩] scope pos) env) Q s := by
  refine ⟨wpAny_ListComp (fun x hx => of_decide_eq_true (List.all_eq_true.mp hfree x hx)) hkind (fun x hx => of_decide_eq_true (List.all_eq_true.mp hnames x hx)) (wpAny_mono h.out (fun x s₁ h₁ => wpAny_mono h₁.out (fun it s₂ h₂ => ?_) fun _ _ x => x) fun _ _ x => x) hs⟩
  obtain ⟨s₀, L, m, led, D, hq⟩ := h₂
  refine wpAny_newList ?_ (by simp)
  refine wpAny_newFunctionEnv (fun x hx => of_decide_eq_true (List.all_eq_true.mp hcell x hx)) (by simp) (fun h' hn hs' => ?_) hkind
  have D1 := D.new (.list []) (tk := s₂.toks) (h' := s₂.heap.push { cls := .type "list", data := .seq ([] : List Value).toArray }) (fun _ _ e => Heap.get?_push_of_some _ e) (Nat.le_refl _) ⟨0, Heap.get?_push_size _ rfl⟩ (Nat.le_refl _)
  have D2 := D1.new (.ns fun _ => none) (tk := s₂.toks + ([] : List (Str × Value)).length) (h' := h') (fun b o e => by
      have e2 := Heap.get?_push_of_some { cls := .type (if (some env).isSome then "dict" else "frame"), data := .dict #[] } e
      exact (hs'.2 b (Nat.ne_of_lt (Heap.lt_size e))).trans e2) (Nat.le_refl _) hn (Nat.le_refl _)
  obtain ⟨k2, k1⟩ := hq _ _ _ D2
  have k3 := codeAny_compStart_list k1.out (k2 _ k1.out).any
  refine codeAny_mono k3 fun r s₅ h₅ => ?_
  obtain ⟨e, led', i, ns, D5, hi, hfin⟩ := h₅
  subst e
  exact ⟨ns, D5.nth i hi, fun h₆ hb => hfin _ (D5.dropX i hi hb.extBut (Nat.le_refl _))⟩
theorem cloop {elt target iter : Expr} {scope : Scope} {pos : Pos} {it acc : Value} {Fin : Shared → Prop} (I : Nat → Shared → Prop) (n : Nat) (h0 : I n s)
    (turn : ∀ n s, I n s → W prog C A (pyNext it) (fun r s₁ => match r with
      | none => Fin s₁
      | some v => W prog C A (letOwnedTupleGo target it v) (fun _ s₁' => W prog C A (assign target env v) (fun _ s₂ => W prog C A (eval elt env) (fun x s₃ => W prog C A (call (.builtin "list.append") [acc, x]) (fun _ s₄ => Less n I s₄) s₃) s₂) s₁') s₁) s) :
    CLoop prog C A (.ListComp elt [⟨target, iter, [], 0⟩] scope pos) it acc env Fin s := by
  refine ⟨codeAny_loop rfl I (fun n s hI => ?_) n h0⟩
  show wpAny _ _ ((compTurn (.ListComp elt [⟨target, iter, [], 0⟩] scope pos) 0 it acc env).onRaise (fun x => do noteFrame x env; theTreesLotGoes x)) _ _ s
  refine wpAny_noted ?_
  rw [compTurn_list1]
  refine wpAny_bind (wpAny_standAt (wpAny_bind ?_))
  refine (W.mono (turn n s hI) fun r s₁ h₁ => ?_).any
  cases r with
  | none => exact wpAny_pure ⟨rfl, h₁⟩
  | some v =>
    refine wpAny_bind (W.mono h₁ fun _ s₁' h₁' => wpAny_bind (W.mono h₁' fun _ s₂ h₂ => wpAny_bind (wpAny_bind (W.mono h₂ fun x s₃ h₃ => wpAny_bind (W.mono h₃ fun _ s₄ h₄ => ?_).any).any)).any).any
    exact wpAny_pure (wpAny_pure ⟨rfl, let ⟨m, a, b⟩ := h₄; ⟨m, a, b⟩⟩)
theorem cloopN {x : Str} {px : Pos} {elt iter : Expr} {scope : Scope} {pos : Pos} {it acc : Value} {Fin : Shared → Prop} (I : Nat → Shared → Prop) (n : Nat) (h0 : I n s)
    (turn : ∀ n s, I n s → W prog C A (pyNext it) (fun r s₁ => match r with
      | none => Fin s₁
      | some v => W prog C A (storeName env x v) (fun _ s₂ => W prog C A (eval elt env) (fun x s₃ => W prog C A (call (.builtin "list.append") [acc, x]) (fun _ s₄ => Less n I s₄) s₃) s₂) s₁) s) :
    CLoop prog C A (.ListComp elt [⟨.Name x px, iter, [], 0⟩] scope pos) it acc env Fin s := by
  refine cloop I n h0 fun n s hI => (turn n s hI).mono fun r s₁ h₁ => ?_
  cases r with
  | none => exact h₁
  | some v => exact ⟨wpAny_pure (a := ()) ⟨wpAny_assign_Name h₁.out⟩⟩
/-- names of a comprehension's own frame -/
theorem cStore {scope : Scope} {cl : Addr} {x : Str} {v : Value} {ns : Str → Option Value} {Q : Unit → Shared → Prop} (D : Led C s₀ L m led s) (i : Nat) (hi : led[i]? = some (cl, .ns ns))
    (h : ∀ s', Led C s₀ L m (led.set i (cl, .ns (upd ns x v))) s' → Q () s') (hl : (compEnv scope cl env).kindOf x = some .local := by rfl)
    (hp : ((compEnv scope cl env).scope.kind == .class || ((compEnv scope cl env).scope.kind == .module && (compEnv scope cl env).locals != (compEnv scope cl env).globals)) = false := by rfl) :
    W prog C A (storeName (compEnv scope cl env) x v) Q s :=
  ⟨wpAny_storeName_local (env := compEnv scope cl env) hl (D.nth i hi) (fun h' hn hs => h _ (D.setAt i hi hs hn (Nat.le_succ _))) hp⟩
theorem cName {scope : Scope} {cl : Addr} {x : Str} {pos : Pos} {v : Value} {ns : Str → Option Value} {Q : Value → Shared → Prop} (D : Led C s₀ L m led s) (i : Nat) (hi : led[i]? = some (cl, .ns ns)) (hv : ns x = some v) (h : Q v s)
    (hk : scope.kind = .function := by rfl) (hl : (compEnv scope cl env).kindOf x = some .local := by rfl) (hd : (x == ("__debug__" : Str)) = false := by rfl) :
    W prog C A (eval (.Name x pos) (compEnv scope cl env)) Q s := ⟨wpAny_Name (wpAny_loadName_local (env := compEnv scope cl env) hk hl (D.nth i hi) hv h) hd⟩

/-! is -/
theorem rIs {x y : Value} {Q : Value → Shared → Prop} (hp : plainIs x y = true) (h : Q (.bool (x == y)) s) : W prog C A (compareOp .Is x y) Q s := ⟨wpAny_is_plain hp h⟩
theorem rIsNot {x y : Value} {Q : Value → Shared → Prop} (hp : plainIs x y = true) (h : Q (.bool (!(x == y))) s) : W prog C A (compareOp .IsNot x y) Q s := ⟨wpAny_isNot_plain hp h⟩
end
end Mine
end
-- R1
section
open PySem PySem.Sre
namespace Mine

/-- k steps of the machine lead from m to m'; what was seen on the way does not count -/
noncomputable def Go (k : Nat) (m m' : M) : Prop := ∀ sn, ∃ sn', ∀ n, M.runFor (n + k) { m with seen := sn } = M.runFor n { m' with seen := sn' }
theorem Go.refl (m : M) : Go 0 m m := fun sn => ⟨sn, fun _ => rfl⟩
theorem Go.trans {k l : Nat} {m m' m'' : M} (x : Go k m m') (y : Go l m' m'') : Go (l + k) m m'' := fun sn => by
  obtain ⟨sn', h⟩ := x sn
  obtain ⟨sn'', h'⟩ := y sn'
  exact ⟨sn'', fun n => by rw [← Nat.add_assoc, h, h']⟩
theorem Go.cast {k l : Nat} {m m' : M} (x : Go k m m') (h : k = l) : Go l m m' := h ▸ x
theorem Go.one {m m' : M} (ho : m.outcome = none) (h : ∀ sn, ∃ sn', M.step { m with seen := sn } = { m' with seen := sn' }) : Go 1 m m' := fun sn => by
  obtain ⟨sn', h⟩ := h sn
  refine ⟨sn', fun n => ?_⟩
  show (if ({ m with seen := sn } : M).outcome.isSome then _ else M.runFor n (M.step { m with seen := sn })) = _
  rw [if_neg (by simp [ho]), h]

/-- ready to execute the word at pc -/
structure At (m : M) (op : Op) : Prop where
  o : m.outcome = none
  a : m.answer = none
  pc : m.pc < m.code.size
  op : ops[m.code.getD m.pc 0]? = some op

theorem go_exec {m : M} {op : Op} {m' : M} (h : At m op) (he : ∀ sn, ∃ sn', M.exec { m with seen := sn } = { m' with seen := sn' }) : Go 1 m m' := by
  refine Go.one h.o fun sn => ?_
  obtain ⟨sn', e⟩ := he sn
  refine ⟨sn', ?_⟩
  obtain ⟨ho, ha, hpc, hop⟩ := h
  obtain ⟨code, text, lim, start, lastStart, whole, must, pc, pos, handed, outermost, marks, lastmark, lastindex, loops, inner, frames, weight, answer, seen, outcome⟩ := m
  dsimp only at ho ha hpc hop
  subst ho ha
  show (if pc < code.size then M.exec _ else _) = _
  rw [if_pos hpc]
  exact e

theorem word_zero (m : M) (sn : Seen) : ({ m with seen := sn } : M).word 0 = m.code.getD m.pc 0 := by simp [M.word]
theorem word_k (m : M) (sn : Seen) (k : Nat) : ({ m with seen := sn } : M).word k = m.code.getD (m.pc + k) 0 := by simp [M.word]

noncomputable def Acc (code : Array Nat) (i c : Nat) (b : Bool) : Prop := ∀ sn, ∃ sn', accepts code i c sn = .ok (b, sn')

theorem go_lit {m : M} (h : At m .LITERAL) (hl : m.pos < m.lim) (hc : m.text.getD m.pos 0 = m.code.getD (m.pc + 1) 0) : Go 1 m { m with pc := m.pc + 2, pos := m.pos + 1 } := by
  refine go_exec h fun sn => ?_
  unfold M.exec
  rw [word_zero, h.op]
  refine ⟨sn.add (m.code.getD m.pc 0), ?_⟩
  dsimp only
  rw [if_neg (Nat.not_le.mpr hl)]
  unfold accepts itemWidth
  simp only [h.op, hc, beq_self_eq_true]
/-- one sign taken by a set, an any, .. -/
theorem go_in {m : M} {op : Op} (h : At m op) (hop : op = .IN ∨ op = .ANY ∨ op = .LITERAL) (hl : m.pos < m.lim) (hc : Acc m.code m.pc (m.text.getD m.pos 0) true) : Go 1 m { m with pc := m.pc + itemWidth m.code m.pc, pos := m.pos + 1 } := by
  refine go_exec h fun sn => ?_
  unfold M.exec
  rw [word_zero, h.op]
  obtain ⟨sn', e⟩ := hc (sn.add (m.code.getD m.pc 0))
  refine ⟨sn', ?_⟩
  rcases hop with rfl | rfl | rfl <;>
  · dsimp only
    rw [if_neg (Nat.not_le.mpr hl), e]
theorem go_in_no {m : M} {op : Op} (h : At m op) (hop : op = .IN ∨ op = .ANY ∨ op = .LITERAL) (hc : m.pos < m.lim → Acc m.code m.pc (m.text.getD m.pos 0) false) : Go 1 m { m with answer := some false } := by
  refine go_exec h fun sn => ?_
  unfold M.exec
  rw [word_zero, h.op]
  by_cases hl : m.pos < m.lim
  · obtain ⟨sn', e⟩ := hc hl (sn.add (m.code.getD m.pc 0))
    refine ⟨sn', ?_⟩
    rcases hop with rfl | rfl | rfl <;>
    · dsimp only
      rw [if_neg (Nat.not_le.mpr hl), e]
      rfl
  · refine ⟨sn.add (m.code.getD m.pc 0), ?_⟩
    rcases hop with rfl | rfl | rfl <;>
    · dsimp only
      rw [if_pos (Nat.not_lt.mp hl)]
      rfl
theorem go_at0 {m : M} (h : At m .AT) (hw : m.code.getD (m.pc + 1) 0 = 0) (hp : m.pos = 0) : Go 1 m { m with pc := m.pc + 2 } := by
  refine go_exec h fun sn => ?_
  unfold M.exec
  rw [word_zero, h.op]
  refine ⟨(sn.add (m.code.getD m.pc 0)).add (43 + 0), ?_⟩
  dsimp only
  rw [show (M.word { m with seen := sn.add (m.code.getD m.pc 0) } 1) = 0 from hw]
  unfold M.isAt
  simp only [hp, beq_self_eq_true, if_true]
theorem go_mark {m : M} {i : Nat} (h : At m .MARK) (hw : m.code.getD (m.pc + 1) 0 = i) (hi : (i : Int) ≤ m.lastmark + 1) :
    Go 1 m { m with marks := m.marks.setIfInBounds i (some m.pos), lastmark := max m.lastmark i, lastindex := if i % 2 == 1 then (i / 2 + 1 : Nat) else m.lastindex, pc := m.pc + 2 } := by
  refine go_exec h fun sn => ?_
  unfold M.exec
  rw [word_zero, h.op]
  refine ⟨sn.add (m.code.getD m.pc 0), ?_⟩
  dsimp only
  rw [show (M.word { m with seen := sn.add (m.code.getD m.pc 0) } 1) = i from hw]
  unfold M.mark
  dsimp only
  rw [if_pos hi]
theorem go_success {m : M} (h : At m .SUCCESS) (hs : (m.outermost && ((m.wholeText && m.pos != m.lim) || (m.mustAdvance && m.pos == m.start))) = false) : Go 1 m { m with handed := m.pos, answer := some true } := by
  refine go_exec h fun sn => ?_
  unfold M.exec
  rw [word_zero, h.op]
  refine ⟨sn.add (m.code.getD m.pc 0), ?_⟩
  dsimp only
  rw [if_neg (by rw [hs]; decide)]
  rfl
theorem go_success_no {m : M} (h : At m .SUCCESS) (hs : (m.outermost && ((m.wholeText && m.pos != m.lim) || (m.mustAdvance && m.pos == m.start))) = true) : Go 1 m { m with answer := some false } := by
  refine go_exec h fun sn => ?_
  unfold M.exec
  rw [word_zero, h.op]
  refine ⟨sn.add (m.code.getD m.pc 0), ?_⟩
  dsimp only
  rw [if_pos hs]
  rfl
/-- a run of signs -/
noncomputable def Runs (code text : Array Nat) (i n p : Nat) (k : Nat) : Prop := ∀ found sn, ∃ sn', Sre.run code text i n p found sn = .ok (found + k, sn')
theorem Runs.zero {code text i p} : Runs code text i 0 p 0 := fun found sn => ⟨sn, by simp [Sre.run]⟩
theorem Runs.stop {code text i n p} (h : Acc code i (text.getD p 0) false) : Runs code text i (n + 1) p 0 := fun found sn => by
  obtain ⟨sn', e⟩ := h sn
  refine ⟨sn', ?_⟩
  rw [Sre.run, e]; rfl
theorem Runs.more {code text i n p k} (h : Acc code i (text.getD p 0) true) (r : Runs code text i n (p + 1) k) : Runs code text i (n + 1) p (k + 1) := fun found sn => by
  obtain ⟨sn', e⟩ := h sn
  obtain ⟨sn'', e'⟩ := r (found + 1) sn'
  refine ⟨sn'', ?_⟩
  rw [Sre.run, e]
  show Sre.run code text i n (p + 1) (found + 1) sn' = _
  rw [e', Nat.add_assoc, Nat.add_comm 1 k]
theorem go_repone {m : M} {k : Nat} (h : At m .REPEAT_ONE) (hleast : m.code.getD (m.pc + 2) 0 ≤ k) (hroom : m.pos ≤ m.lim) (hk : k ≤ m.lim - m.pos) (hmost : m.code.getD (m.pc + 3) 0 = maxRepeat) (hbig : m.lim < maxRepeat)
    (hr : Runs m.code m.text (m.pc + 4) (m.lim - m.pos) m.pos k) (hw : m.weight + 1 + (m.keep m.inner.isSome).marks.size ≤ 16777216) :
    Go 1 m { m with pos := m.pos + k, frames := { wait := .giveBack, pc := m.pc, pos := m.pos + k, outermost := m.outermost, count := (k : Int), kept := m.keep m.inner.isSome } :: m.frames,
                    weight := m.weight + 1 + (m.keep m.inner.isSome).marks.size, pc := m.pc + 1 + m.code.getD (m.pc + 1) 0, handed := m.pos + k } := by
  refine go_exec h fun sn => ?_
  unfold M.exec
  rw [word_zero, h.op]
  obtain ⟨sn', e⟩ := hr 0 ((sn.add (m.code.getD m.pc 0)).add (m.code.getD (m.pc + 4) 0))
  refine ⟨sn', ?_⟩
  dsimp only
  rw [if_neg (by
    show ¬ ((m.code.getD (m.pc + 2) 0 : Nat) : Int) > (m.lim : Int) - m.pos
    omega)]
  have e1 : min (m.code.getD (m.pc + 3) 0) ((m.lim : Int) - (m.pos : Int)).toNat = m.lim - m.pos := by
    rw [hmost]; omega
  show (match Sre.run m.code m.text (m.pc + 4) (min (m.code.getD (m.pc + 3) 0) ((m.lim : Int) - (m.pos : Int)).toNat) m.pos 0 ((sn.add (m.code.getD m.pc 0)).add (m.code.getD (m.pc + 4) 0)) with
    | .error why => _
    | .ok (n, seen) => _) = _
  rw [e1, e]
  dsimp only
  rw [if_neg (by
    show ¬ 0 + k < m.code.getD (m.pc + 2) 0
    exact fun qq => lin [_, _] (.h 1 (.a 0) (.a 1) <| .l 1 (.p (.n 0) (.a 1)) (.a 0) <| .z) (.refl true) hleast qq), Nat.zero_add]
  unfold M.afterRun M.attempt
  rw [if_neg (by
    show ¬ m.weight + 1 + (m.keep m.inner.isSome).marks.size > 16777216
    exact fun qq => lin [_, _] (.h 1 (.p (.p (.a 0) (.n 1)) (.a 1)) (.n 16777216) <| .l 1 (.n 16777216) (.p (.p (.a 0) (.n 1)) (.a 1)) <| .z) (.refl true) hw qq)]
  rfl
theorem go_repone_few {m : M} {k : Nat} (h : At m .REPEAT_ONE) (hleast : k < m.code.getD (m.pc + 2) 0) (hroom : m.pos ≤ m.lim) (hmost : m.code.getD (m.pc + 3) 0 = maxRepeat) (hbig : m.lim < maxRepeat)
    (hr : Runs m.code m.text (m.pc + 4) (m.lim - m.pos) m.pos k) : Go 1 m { m with answer := some false } := by
  refine go_exec h fun sn => ?_
  unfold M.exec
  rw [word_zero, h.op]
  obtain ⟨sn', e⟩ := hr 0 ((sn.add (m.code.getD m.pc 0)).add (m.code.getD (m.pc + 4) 0))
  dsimp only
  by_cases hc : ((m.code.getD (m.pc + 2) 0 : Nat) : Int) > (m.lim : Int) - m.pos
  · refine ⟨sn.add (m.code.getD m.pc 0), ?_⟩
    exact if_pos hc
  refine ⟨sn', ?_⟩
  refine (if_neg hc).trans ?_
  have e1 : min (m.code.getD (m.pc + 3) 0) ((m.lim : Int) - (m.pos : Int)).toNat = m.lim - m.pos := by
    rw [hmost]; omega
  show (match Sre.run m.code m.text (m.pc + 4) (min (m.code.getD (m.pc + 3) 0) ((m.lim : Int) - (m.pos : Int)).toNat) m.pos 0 ((sn.add (m.code.getD m.pc 0)).add (m.code.getD (m.pc + 4) 0)) with
    | .error why => _
    | .ok (n, seen) => _) = _
  rw [e1, e]
  dsimp only
  rw [if_pos (by
    show 0 + k < m.code.getD (m.pc + 2) 0
    exact lin [_, _] (.l 1 (.a 0) (.a 1) <| .j 1 (.p (.n 0) (.a 0)) (.a 1)) (.refl true) hleast)]
  rfl
/-! a loop is opened, a round begun -/
theorem go_repeat {m : M} (h : At m .REPEAT) (hw : m.weight + 1 ≤ 16777216) :
    Go 1 m { m with loops := m.loops.push { pc := m.pc, outer := m.inner }, inner := some m.loops.size, handed := m.pos, pc := m.pc + 1 + m.code.getD (m.pc + 1) 0,
                    frames := { wait := .closeLoop, pc := m.pc, pos := m.pos, outermost := m.outermost, loop := m.loops.size } :: m.frames, weight := m.weight + 1 } := by
  refine go_exec h fun sn => ?_
  unfold M.exec
  rw [word_zero, h.op]
  refine ⟨sn.add (m.code.getD m.pc 0), ?_⟩
  dsimp only
  unfold M.attempt
  rw [if_neg (by
    show ¬ m.weight + 1 + 0 > 16777216
    exact fun qq => lin [_] (.h 1 (.p (.a 0) (.n 1)) (.n 16777216) <| .l 1 (.n 16777216) (.p (.p (.a 0) (.n 1)) (.n 0)) <| .z) (.refl true) hw qq)]
  rfl
/-- the machine's one loop -/
structure InLoop (m : M) (l : Sre.Loop) : Prop where
  inner : m.inner = some 0
  loops : m.loops = #[l]
  least : m.code.getD (l.pc + 2) 0 = 0
  most : m.code.getD (l.pc + 3) 0 = maxRepeat
  count : -1 ≤ l.count
theorem go_round {m : M} {l : Sre.Loop} (h : At m .MAX_UNTIL) (hl : InLoop m l) (hb : l.began ≠ some m.pos) (hw : m.weight + 1 + (m.keep true).marks.size ≤ 16777216) :
    Go 1 m { m with loops := #[{ l with count := l.count + 1, began := some m.pos }], pc := l.pc + 4, handed := m.pos,
                    frames := { wait := .maxMore, pc := m.pc + 1, pos := m.pos, outermost := m.outermost, loop := 0, count := l.count + 1, kept := m.keep true, began := l.began } :: m.frames,
                    weight := m.weight + 1 + (m.keep true).marks.size } := by
  refine go_exec h fun sn => ?_
  obtain ⟨hi, hls, hle, hmo, hc⟩ := hl
  have hop := h.op
  obtain ⟨code, text, lim, start, lastStart, whole, must, pc, pos, handed, outermost, marks, lastmark, lastindex, loops, inner, frames, weight, answer, seen, outcome⟩ := m
  dsimp only at hi hls hle hmo hc hb hw hop
  subst hi hls
  unfold M.exec
  rw [word_zero, hop]
  refine ⟨sn.add (code.getD pc 0), ?_⟩
  dsimp only
  unfold M.until_
  dsimp only
  rw [show (M.loopAt _ 0) = l from rfl, hle, hmo]
  rw [if_neg (by omega), if_neg (by decide)]
  rw [if_pos (by
    simp only [beq_self_eq_true, Bool.or_true, Bool.true_and, bne_iff_ne]
    exact hb)]
  unfold M.round M.attempt
  rw [if_neg (by
    exact Nat.not_lt.mpr hw)]
  rfl
end Mine
end
-- R2
section
open PySem PySem.Sre
namespace Mine

theorem go_pop {m m' : M} {f : Sre.Frame} {rest : List Sre.Frame} {b : Bool} (ho : m.outcome = none) (ha : m.answer = some b) (hf : m.frames = f :: rest)
    (hr : ∀ sn, ∃ sn', M.resume { m with seen := sn, answer := none, frames := rest, weight := m.weight - (1 + f.kept.marks.size), pc := f.pc, pos := f.pos, outermost := f.outermost } f b = { m' with seen := sn' }) : Go 1 m m' := by
  refine Go.one ho fun sn => ?_
  obtain ⟨sn', e⟩ := hr sn
  refine ⟨sn', ?_⟩
  obtain ⟨code, text, lim, start, lastStart, whole, must, pc, pos, handed, outermost, marks, lastmark, lastindex, loops, inner, frames, weight, answer, seen, outcome⟩ := m
  dsimp only at ho ha hf e
  subst ho ha hf
  exact e
theorem go_end {m : M} {b : Bool} (ho : m.outcome = none) (ha : m.answer = some b) (hf : m.frames = []) : Go 1 m { m with outcome := some (if b then .matched else .failed) } := by
  refine Go.one ho fun sn => ⟨sn, ?_⟩
  obtain ⟨code, text, lim, start, lastStart, whole, must, pc, pos, handed, outermost, marks, lastmark, lastindex, loops, inner, frames, weight, answer, seen, outcome⟩ := m
  dsimp only at ho ha hf
  subst ho ha hf
  rfl

/-- what is told of a match -/
structure Told (m m' : M) : Prop where
  marks : m'.marks = m.marks
  lastmark : m'.lastmark = m.lastmark
  lastindex : m'.lastindex = m.lastindex
  start : m'.start = m.start
  handed : m'.handed = m.handed
noncomputable def yesWait : Wait → Bool
  | .nextStart | .giveBack | .maxMore | .maxTail | .closeLoop => true
  | _ => false
theorem go_yes : ∀ (fs : List Sre.Frame) (m : M), m.outcome = none → m.answer = some true → m.frames = fs → (∀ f ∈ fs, yesWait f.wait = true) →
    ∃ m', Go (fs.length + 1) m m' ∧ m'.outcome = some .matched ∧ Told m m'
  | [], m, ho, ha, hf, _ => ⟨_, go_end ho ha hf, rfl, ⟨rfl, rfl, rfl, rfl, rfl⟩⟩
  | f :: rest, m, ho, ha, hf, hw => by
    have key : ∃ m₁, Go 1 m m₁ ∧ m₁.outcome = none ∧ m₁.answer = some true ∧ m₁.frames = rest ∧ Told m m₁ := by
      have hy := hw f (List.mem_cons_self ..)
      cases hwt : f.wait with
      | nextStart | giveBack =>
        refine ⟨{ m with frames := rest, weight := m.weight - (1 + f.kept.marks.size), pc := f.pc, pos := f.pos, outermost := f.outermost, answer := some true }, go_pop ho ha hf fun sn => ⟨sn, ?_⟩, ho, rfl, rfl, ⟨rfl, rfl, rfl, rfl, rfl⟩⟩
        unfold M.resume
        rw [hwt]; rfl
      | maxMore =>
        refine ⟨{ m with frames := rest, weight := m.weight - (1 + f.kept.marks.size), pc := f.pc, pos := f.pos, outermost := f.outermost, loops := m.loops.modify f.loop fun l => { l with began := f.began }, answer := some true }, go_pop ho ha hf fun sn => ⟨sn, ?_⟩, ho, rfl, rfl, ⟨rfl, rfl, rfl, rfl, rfl⟩⟩
        unfold M.resume
        rw [hwt]; rfl
      | maxTail =>
        refine ⟨{ m with frames := rest, weight := m.weight - (1 + f.kept.marks.size), pc := f.pc, pos := f.pos, outermost := f.outermost, inner := some f.loop, answer := some true }, go_pop ho ha hf fun sn => ⟨sn, ?_⟩, ho, rfl, rfl, ⟨rfl, rfl, rfl, rfl, rfl⟩⟩
        unfold M.resume
        rw [hwt]; rfl
      | closeLoop =>
        refine ⟨{ m with frames := rest, weight := m.weight - (1 + f.kept.marks.size), pc := f.pc, pos := f.pos, outermost := f.outermost, inner := (m.loopAt f.loop).outer, loops := m.loops.pop, answer := some true }, go_pop ho ha hf fun sn => ⟨sn, ?_⟩, ho, rfl, rfl, ⟨rfl, rfl, rfl, rfl, rfl⟩⟩
        unfold M.resume
        rw [hwt]; rfl
      | _ => rw [hwt] at hy; cases hy
    obtain ⟨m₁, g₁, ho₁, ha₁, hf₁, t₁⟩ := key
    obtain ⟨m₂, g₂, ho₂, t₂⟩ := go_yes rest m₁ ho₁ ha₁ hf₁ fun f hf => hw f (List.mem_cons_of_mem _ hf)
    exact ⟨m₂, g₁.trans g₂, ho₂, ⟨t₂.marks.trans t₁.marks, t₂.lastmark.trans t₁.lastmark, t₂.lastindex.trans t₁.lastindex, t₂.start.trans t₁.start, t₂.handed.trans t₁.handed⟩⟩

/-- the last round fails at its first sign: the loop is left -/
theorem go_more_no {m : M} {f : Sre.Frame} {rest : List Sre.Frame} {l : Sre.Loop} (ho : m.outcome = none) (ha : m.answer = some false) (hf : m.frames = f :: rest) (hw : f.wait = .maxMore) (hl : f.loop = 0) (hk : f.kept.whole = true)
    (hls : m.loops = #[l]) (hwt : m.weight - (1 + f.kept.marks.size) + 1 ≤ 16777216) :
    Go 1 m { m with answer := none, pc := f.pc, pos := f.pos, handed := f.pos, outermost := f.outermost, lastmark := f.kept.lastmark, lastindex := f.kept.lastindex, marks := f.kept.marks ++ m.marks.extract f.kept.marks.size m.marks.size,
                    loops := #[{ l with count := f.count - 1, began := f.began }], inner := l.outer, weight := m.weight - (1 + f.kept.marks.size) + 1,
                    frames := { wait := .maxTail, pc := f.pc, pos := f.pos, outermost := f.outermost, loop := 0, count := f.count, kept := { lastmark := f.kept.lastmark, lastindex := f.kept.lastindex, whole := false, marks := #[] } } :: rest } := by
  refine go_pop ho ha hf fun sn => ⟨sn, ?_⟩
  obtain ⟨code, text, lim, start, lastStart, whole, must, pc, pos, handed, outermost, marks, lastmark, lastindex, loops, inner, frames, weight, answer, seen, outcome⟩ := m
  obtain ⟨fw, fpc, fpos, fout, fcount, ⟨klm, kli, kw, kms⟩, floop, fbegan⟩ := f
  dsimp only at ho ha hf hw hl hk hls hwt
  subst ho ha hf hw hl hk hls
  unfold M.resume
  dsimp only
  rw [if_neg (by decide)]
  unfold M.afterLoop M.attempt
  refine (if_neg ?_).trans ?_
  · show ¬ weight - (1 + kms.size) + 1 + 0 > 16777216
    exact fun qq => lin [_] (.h 1 (.p (.a 0) (.n 1)) (.n 16777216) <| .l 1 (.n 16777216) (.p (.p (.a 0) (.n 1)) (.n 0)) <| .z) (.refl true) hwt qq
  · rfl
/-- a failed start: the next one -/
theorem go_next_no {m : M} {f : Sre.Frame} {rest : List Sre.Frame} (ho : m.outcome = none) (ha : m.answer = some false) (hf : m.frames = f :: rest) (hw : f.wait = .nextStart) (hlast : m.lastStart ≤ f.pos) :
    Go 1 m { m with frames := rest, weight := m.weight - (1 + f.kept.marks.size), pc := f.pc, pos := f.pos, outermost := f.outermost, answer := some false } := by
  refine go_pop ho ha hf fun sn => ⟨sn, ?_⟩
  unfold M.resume
  rw [hw]
  dsimp only
  rw [if_neg (by decide), if_neg (Nat.not_lt.mpr hlast)]
  rfl
theorem go_next {m : M} {f : Sre.Frame} {rest : List Sre.Frame} (ho : m.outcome = none) (ha : m.answer = some false) (hf : m.frames = f :: rest) (hw : f.wait = .nextStart) (hk : f.kept.marks = #[]) (hlast : f.pos < m.lastStart) (hfs : m.hasFirstSet = false)
    (hwt : m.weight - 1 + 1 ≤ 16777216) :
    Go 1 m { m with mustAdvance := false, frames := { wait := .nextStart, pc := f.pc, pos := f.pos + 1, outermost := false } :: rest, weight := m.weight - 1 + 1, pc := f.pc, pos := f.pos + 1, handed := f.pos + 1, start := f.pos + 1, outermost := false, lastmark := -1, lastindex := -1, answer := none } := by
  refine go_pop ho ha hf fun sn => ⟨sn, ?_⟩
  obtain ⟨code, text, lim, start, lastStart, whole, must, pc, pos, handed, outermost, marks, lastmark, lastindex, loops, inner, frames, weight, answer, seen, outcome⟩ := m
  obtain ⟨fw, fpc, fpos, fout, fcount, ⟨klm, kli, kw, kms⟩, floop, fbegan⟩ := f
  dsimp only at ho ha hf hw hk hlast hfs hwt
  subst ho ha hf hw hk
  unfold M.resume
  dsimp only
  rw [if_neg (by decide), if_pos hlast]
  unfold M.attemptFrom
  refine (if_pos (by
    exact congrArg (!·) hfs)).trans ?_
  unfold M.attemptAt M.attempt
  refine (if_neg ?_).trans ?_
  · show ¬ weight - (1 + 0) + 1 + 0 > 16777216
    exact fun qq => lin [_] (.h 1 (.p (.a 0) (.n 1)) (.n 16777216) <| .l 1 (.n 16777216) (.p (.p (.a 0) (.n 1)) (.n 0)) <| .z) (.refl true) hwt qq
  · rfl
theorem go_give_no {m : M} {f : Sre.Frame} {rest : List Sre.Frame} (ho : m.outcome = none) (ha : m.answer = some false) (hf : m.frames = f :: rest) (hw : f.wait = .giveBack) (hk : f.kept.whole = false) (hc : f.count - 1 < m.code.getD (f.pc + 2) 0) :
    Go 1 m { m with frames := rest, weight := m.weight - (1 + f.kept.marks.size), pc := f.pc, pos := f.pos, outermost := f.outermost, answer := some false, lastmark := f.kept.lastmark, lastindex := f.kept.lastindex } := by
  refine go_pop ho ha hf fun sn => ⟨sn, ?_⟩
  unfold M.resume
  rw [hw]
  dsimp only
  rw [if_neg (by decide)]
  refine (if_pos hc).trans ?_
  unfold M.putBack
  rw [hk]; rfl
theorem go_give {m : M} {f : Sre.Frame} {rest : List Sre.Frame} (ho : m.outcome = none) (ha : m.answer = some false) (hf : m.frames = f :: rest) (hw : f.wait = .giveBack) (hk : f.kept = { lastmark := m.lastmark, lastindex := m.lastindex }) (hc : ¬ f.count - 1 < m.code.getD (f.pc + 2) 0)
    (hwt : m.weight - 1 + 1 ≤ 16777216) :
    Go 1 m { m with frames := { f with pos := f.pos - 1, count := f.count - 1, loop := 0, began := none } :: rest, weight := m.weight - 1 + 1, pc := f.pc + 1 + m.code.getD (f.pc + 1) 0, pos := f.pos - 1, handed := f.pos - 1, outermost := f.outermost, answer := none } := by
  refine go_pop ho ha hf fun sn => ⟨sn, ?_⟩
  obtain ⟨code, text, lim, start, lastStart, whole, must, pc, pos, handed, outermost, marks, lastmark, lastindex, loops, inner, frames, weight, answer, seen, outcome⟩ := m
  obtain ⟨fw, fpc, fpos, fout, fcount, fk, floop, fbegan⟩ := f
  dsimp only at ho ha hf hw hk hc hwt
  subst ho ha hf hw hk
  unfold M.resume
  dsimp only
  rw [if_neg (by decide)]
  refine (if_neg hc).trans ?_
  unfold M.afterRun M.attempt
  refine (if_neg ?_).trans ?_
  · show ¬ weight - (1 + 0) + 1 + 0 > 16777216
    exact fun qq => lin [_] (.h 1 (.p (.a 0) (.n 1)) (.n 16777216) <| .l 1 (.n 16777216) (.p (.p (.a 0) (.n 1)) (.n 0)) <| .z) (.refl true) hwt qq
  · rfl
end Mine
end
-- R3
section
open PySem PySem.Sre
namespace Mine

noncomputable def InS (d : Nat) (code : Array Nat) (i : Nat) (yes : Bool) (c : Nat) (b : Bool) : Prop := ∀ f sn, ∃ sn', inSet code c (f + d) i yes sn = .ok (b, sn')
theorem InS.fail {code i yes c} (h : ops[code.getD i 0]? = some .FAILURE) : InS 1 code i yes c (!yes) := fun f sn => by
  refine ⟨sn.add (code.getD i 0), ?_⟩
  rw [inSet]
  simp only [Nat.add_zero, h]
theorem InS.neg {d code i yes c b} (h : ops[code.getD i 0]? = some .NEGATE) (r : InS d code (i + 1) (!yes) c b) : InS (d + 1) code i yes c b := fun f sn => by
  obtain ⟨sn', e⟩ := r f (sn.add (code.getD i 0))
  refine ⟨sn', ?_⟩
  rw [← Nat.add_assoc, inSet]
  simp only [Nat.add_zero, h, e]
theorem InS.lit_eq {code i yes c} (h : ops[code.getD i 0]? = some .LITERAL) (hc : c = code.getD (i + 1) 0) : InS 1 code i yes c yes := fun f sn => by
  refine ⟨sn.add (code.getD i 0), ?_⟩
  rw [inSet]
  simp only [Nat.add_zero, h]
  rw [if_pos (by simpa using hc)]
theorem InS.lit_ne {d code i yes c b} (h : ops[code.getD i 0]? = some .LITERAL) (hc : c ≠ code.getD (i + 1) 0) (r : InS d code (i + 2) yes c b) : InS (d + 1) code i yes c b := fun f sn => by
  obtain ⟨sn', e⟩ := r f (sn.add (code.getD i 0))
  refine ⟨sn', ?_⟩
  rw [← Nat.add_assoc, inSet]
  simp only [Nat.add_zero, h]
  rw [if_neg (by simpa using hc), e]
theorem InS.set_yes {code i yes c} (h : ops[code.getD i 0]? = some .CHARSET) (hc : (decide (c < 256) && (code.getD (i + (1 + c / 32)) 0).testBit (c % 32)) = true) : InS 1 code i yes c yes := fun f sn => by
  refine ⟨sn.add (code.getD i 0), ?_⟩
  rw [inSet]
  simp only [Nat.add_zero, h]
  rw [if_pos hc]
theorem InS.set_no {d code i yes c b} (h : ops[code.getD i 0]? = some .CHARSET) (hc : (decide (c < 256) && (code.getD (i + (1 + c / 32)) 0).testBit (c % 32)) = false) (r : InS d code (i + 9) yes c b) : InS (d + 1) code i yes c b := fun f sn => by
  obtain ⟨sn', e⟩ := r f (sn.add (code.getD i 0))
  refine ⟨sn', ?_⟩
  rw [← Nat.add_assoc, inSet]
  simp only [Nat.add_zero, h]
  rw [if_neg (by rw [hc]; decide), e]
theorem Acc.of_in {d code i c b} (h : ops[code.getD i 0]? = some .IN) (hd : d ≤ code.size) (r : InS d code (i + 2) true c b) : Acc code i c b := fun sn => by
  obtain ⟨sn', e⟩ := r (code.size - d) sn
  refine ⟨sn', ?_⟩
  unfold accepts
  simp only [h]
  rw [Nat.sub_add_cancel hd] at e
  exact e
theorem Acc.lit {code i c} (h : ops[code.getD i 0]? = some .LITERAL) : Acc code i c (c == code.getD (i + 1) 0) := fun sn => ⟨sn, by
  unfold accepts
  simp only [h]⟩
theorem Acc.any {code i c} (h : ops[code.getD i 0]? = some .ANY) : Acc code i c (c != 10) := fun sn => ⟨sn, by
  unfold accepts
  simp only [h]⟩

noncomputable def codeT : Array Nat := #[14, 4, 0, 1, 4294967295, 6, 0, 24, 9, 0, 4294967295, 13, 4, 8, 12, 0, 1, 17, 0, 24, 19, 1, 4294967295, 13, 14, 21, 9, 0, 671092736, 0, 0, 0, 0, 0, 0, 8, 12, 0, 1, 17, 1, 1]
noncomputable def codeQ : Array Nat := #[14, 4, 0, 3, 4294967295, 6, 0, 24, 9, 0, 4294967295, 13, 4, 8, 12, 0, 1, 16, 61, 24, 9, 0, 4294967295, 13, 4, 8, 12, 0, 1, 16, 34, 17, 0, 24, 12, 0, 4294967295, 13, 7, 21, 16, 34, 16, 92, 0, 1, 23, 19, 0, 4294967295, 16, 92, 2, 24, 12, 0, 4294967295, 13, 7, 21, 16, 34, 16, 92, 0, 1, 18, 17, 1, 16, 34, 1]
noncomputable def codeE : Array Nat := #[14, 8, 1, 2, 2, 1, 1, 92, 0, 16, 92, 17, 0, 2, 17, 1, 1]
noncomputable def codeF : Array Nat := #[14, 4, 0, 1, 4294967295, 24, 16, 1, 4294967295, 13, 11, 9, 0, 67071226, 3355443198, 1476395007, 0, 0, 0, 0, 0, 1, 1]
noncomputable def codeJ : Array Nat := #[14, 9, 4, 1, 1, 16, 34, 16, 92, 0, 17, 0, 13, 6, 16, 34, 16, 92, 0, 17, 1, 1]
noncomputable def codeW : Array Nat := #[14, 14, 4, 1, 1, 9, 0, 64, 0, 1342177280, 0, 0, 0, 0, 0, 17, 0, 13, 11, 9, 0, 64, 0, 1342177280, 0, 0, 0, 0, 0, 17, 1, 1]

theorem accQ_plain {c : Nat} (h1 : c ≠ 34) (h2 : c ≠ 92) : Acc codeQ 37 c true := .of_in (d := 4) rfl (by decide) (.neg rfl (.lit_ne rfl h1 (.lit_ne rfl h2 (.fail rfl))))
theorem accQ_stop {c : Nat} (h : c = 34 ∨ c = 92) : Acc codeQ 37 c false := by
  rcases h with rfl | rfl
  · exact .of_in (d := 2) rfl (by decide) (.neg rfl (.lit_eq rfl rfl))
  · exact .of_in (d := 3) rfl (by decide) (.neg rfl (.lit_ne rfl (by decide) (.lit_eq rfl rfl)))
theorem accQ_plain' {c : Nat} (h1 : c ≠ 34) (h2 : c ≠ 92) : Acc codeQ 57 c true := .of_in (d := 4) rfl (by decide) (.neg rfl (.lit_ne rfl h1 (.lit_ne rfl h2 (.fail rfl))))
theorem accQ_stop' {c : Nat} (h : c = 34 ∨ c = 92) : Acc codeQ 57 c false := by
  rcases h with rfl | rfl
  · exact .of_in (d := 2) rfl (by decide) (.neg rfl (.lit_eq rfl rfl))
  · exact .of_in (d := 3) rfl (by decide) (.neg rfl (.lit_ne rfl (by decide) (.lit_eq rfl rfl)))
theorem space61 : Unicode.isSpace 61 = false := by decide +kernel
theorem space34 : Unicode.isSpace 34 = false := by decide +kernel
theorem space107 : Unicode.isSpace 107 = false := by decide +kernel
theorem InS.space_no {d code i yes c b} (h : ops[code.getD i 0]? = some .CATEGORY) (hw : code.getD (i + 1) 0 = 12) (hs : Unicode.isSpace c = false) (r : InS d code (i + 2) yes c b) : InS (d + 1) code i yes c b := fun f sn => by
  obtain ⟨sn', e⟩ := r f ((sn.add (code.getD i 0)).add (55 + 12))
  refine ⟨sn', ?_⟩
  rw [← Nat.add_assoc, inSet]
  simp only [Nat.add_zero, h, hw]
  have hc : category 12 c = .ok false := by
    unfold category
    simp [hs, Except.map]
  rw [hc]
  exact e
theorem accSpace {code : Array Nat} {i c : Nat} (h : ops[code.getD i 0]? = some .IN) (h2 : ops[code.getD (i + 2) 0]? = some .CATEGORY) (h3 : code.getD (i + 3) 0 = 12) (h4 : ops[code.getD (i + 4) 0]? = some .FAILURE) (hd : 2 ≤ code.size) (hs : Unicode.isSpace c = false) : Acc code i c false :=
  .of_in (d := 2) h hd (.space_no h2 h3 hs (.fail h4))

/-- text read at the place p is x -/
noncomputable def TextAt (text : Array Nat) (p : Nat) (x : List Nat) : Prop := ∀ i c, x[i]? = some c → text.getD (p + i) 0 = c
theorem TextAt.head {text p c x} (h : TextAt text p (c :: x)) : text.getD p 0 = c := h 0 c rfl
theorem TextAt.tail {text p c x} (h : TextAt text p (c :: x)) : TextAt text (p + 1) x := fun i d e => by
  have := h (i + 1) d (by simpa using e)
  rw [← this]; congr 1; exact Nat.le_antisymm (lin [_, _] (.g 1 (.p (.p (.a 0) (.n 1)) (.a 1)) (.p (.a 0) (.p (.a 1) (.n 1)))) (.refl true)) (lin [_, _] (.g 1 (.p (.a 0) (.p (.a 1) (.n 1))) (.p (.p (.a 0) (.n 1)) (.a 1))) (.refl true))
theorem TextAt.drop {text p x} : ∀ {y}, TextAt text p (x ++ y) → TextAt text (p + x.length) y := fun {y} h i d e => by
  have := h (x.length + i) d (by rw [List.getElem?_append_right (by exact lin [_, _] (.g 1 (.a 0) (.p (.a 0) (.a 1))) (.refl true))]; simpa using e)
  rw [← this]; congr 1; exact Nat.le_antisymm (lin [_, _, _] (.g 1 (.p (.p (.a 0) (.a 1)) (.a 2)) (.p (.a 0) (.p (.a 1) (.a 2)))) (.refl true)) (lin [_, _, _] (.g 1 (.p (.a 0) (.p (.a 1) (.a 2))) (.p (.p (.a 0) (.a 1)) (.a 2))) (.refl true))
theorem TextAt.of (x : List Nat) : TextAt x.toArray 0 x := fun i c e => by
  obtain ⟨hi, rfl⟩ := List.getElem?_eq_some_iff.mp e
  simp [hi]
theorem runsQ {text : Array Nat} {i : Nat} (hp : ∀ c, c ≠ 34 → c ≠ 92 → Acc codeQ i c true) (hs : ∀ c, c = 34 ∨ c = 92 → Acc codeQ i c false) : ∀ (x : List Nat) (p n e : Nat), TextAt text p (x ++ [e]) → (∀ c ∈ x, c ≠ 34 ∧ c ≠ 92) → (e = 34 ∨ e = 92) → x.length < n →
    Runs codeQ text i n p x.length
  | [], p, n + 1, e, ht, _, he, _ => .stop (by rw [ht.head]; exact hs e he)
  | c :: x, p, n + 1, e, ht, hx, he, hn => by
    have hc := hx c (List.mem_cons_self ..)
    refine .more (by rw [ht.head]; exact hp c hc.1 hc.2) (runsQ hp hs x (p + 1) n e ht.tail (fun d hd => hx d (List.mem_cons_of_mem _ hd)) he ?_)
    simp at hn; exact hn
  | [], _, 0, _, _, _, _, h => absurd h (Nat.not_lt_zero _)
  | _ :: _, _, 0, _, _, _, _, h => absurd h (Nat.not_lt_zero _)
end Mine
end
-- R4
section
open PySem PySem.Sre
namespace Mine

theorem Go.finish {k : Nat} {m m₁ : M} {fs : List Sre.Frame} (g : Go k m m₁) (ho : m₁.outcome = none) (ha : m₁.answer = some true) (hf : m₁.frames = fs) (hw : ∀ f ∈ fs, yesWait f.wait = true) :
    ∃ m', Go (fs.length + 1 + k) m m' ∧ m'.outcome = some .matched ∧ Told m₁ m' := by
  obtain ⟨m', g', ho', t⟩ := go_yes fs m₁ ho ha hf hw
  exact ⟨m', g.trans g', ho', t⟩
noncomputable def qst (text : Array Nat) (lim last pc p h : Nat) (marks : Array (Option Nat)) (lm li : Int) (ls : Array Sre.Loop) (inner : Option Nat) (fs : List Sre.Frame) (w : Nat) : M :=
  { code := codeQ, text, lim, start := 0, lastStart := last, pc, pos := p, handed := h, marks, lastmark := lm, lastindex := li, loops := ls, inner, frames := fs, weight := w }
noncomputable abbrev ust (text : Array Nat) (lim last p h : Nat) (cnt : Int) (bg : Option Nat) (fs : List Sre.Frame) (w : Nat) : M :=
  qst text lim last 66 p h #[some 2, none] 0 (-1) #[{ pc := 46, count := cnt, began := bg, outer := none }] (some 0) fs w

noncomputable def flatR (rs : List (Nat × List Nat)) : List Nat := rs.flatMap fun x => 92 :: x.1 :: x.2
noncomputable def okR (rs : List (Nat × List Nat)) : Prop := ∀ x ∈ rs, x.1 ≠ 10 ∧ ∀ c ∈ x.2, c ≠ 34 ∧ c ≠ 92

theorem q_round {text : Array Nat} {lim last p h : Nat} {cnt : Int} {bg : Option Nat} {fs : List Sre.Frame} {w c e : Nat} {r : List Nat} (hc : -1 ≤ cnt) (hb : bg ≠ some p) (hw : w + 4 ≤ 16777216)
    (ht : TextAt text p (92 :: c :: (r ++ [e]))) (h10 : c ≠ 10) (hr : ∀ d ∈ r, d ≠ 34 ∧ d ≠ 92) (he : e = 34 ∨ e = 92) (hl : p + 2 + r.length < lim) (hbig : lim < maxRepeat) :
    ∃ f1 f2 h', Go 4 (ust text lim last p h cnt bg fs w) (ust text lim last (p + 2 + r.length) h' (cnt + 1) (some p) (f1 :: f2 :: fs) (w + 4)) ∧ yesWait f1.wait = true ∧ yesWait f2.wait = true := by
  have g1 := go_round (m := ust text lim last p h cnt bg fs w) (l := { pc := 46, count := cnt, began := bg, outer := none }) ⟨rfl, rfl, Nat.le_of_ble_eq_true rfl, rfl⟩ ⟨rfl, rfl, rfl, rfl, hc⟩ hb (by show w + 1 + 1 ≤ _; exact lin [_] (.h 1 (.p (.a 0) (.n 4)) (.n 16777216) <| .g 1 (.p (.p (.a 0) (.n 1)) (.n 1)) (.n 16777216)) (.refl true) hw)
  have g2 := g1.trans (go_lit ⟨rfl, rfl, Nat.le_of_ble_eq_true rfl, rfl⟩ (by show p < lim; exact lin [_, _, _] (.l 1 (.p (.p (.a 0) (.n 2)) (.a 1)) (.a 2) <| .j 1 (.a 0) (.a 2)) (.refl true) hl) ht.head)
  have g3 := g2.trans (go_in (op := .ANY) ⟨rfl, rfl, Nat.le_of_ble_eq_true rfl, rfl⟩ (.inr (.inl rfl)) (by show p + 1 < lim; exact lin [_, _, _] (.l 1 (.p (.p (.a 0) (.n 2)) (.a 1)) (.a 2) <| .j 1 (.p (.a 0) (.n 1)) (.a 2)) (.refl true) hl) (by
    show Acc codeQ 52 (text.getD (p + 1) 0) true
    rw [ht.tail.head]
    have := Acc.any (code := codeQ) (i := 52) (c := c) rfl
    rwa [show (c != 10) = true by simpa using h10] at this))
  have g4 := g3.trans (go_repone (k := r.length) ⟨rfl, rfl, Nat.le_of_ble_eq_true rfl, rfl⟩ (Nat.zero_le _) (by show p + 1 + 1 ≤ lim; exact lin [_, _, _] (.l 1 (.p (.p (.a 0) (.n 2)) (.a 1)) (.a 2) <| .g 1 (.p (.p (.a 0) (.n 1)) (.n 1)) (.a 2)) (.refl true) hl) (by show r.length ≤ lim - (p + 1 + 1); exact lin [_, _, _, _] (.l 1 (.p (.p (.a 0) (.n 2)) (.a 1)) (.a 2) <| .h 1 (.a 2) (.p (.a 3) (.p (.p (.a 0) (.n 1)) (.n 1))) <| .g 1 (.a 1) (.a 3)) (.refl true) hl (subA _ _)) rfl hbig
    (runsQ (fun c a b => accQ_plain' a b) (fun c a => accQ_stop' a) r (p + 1 + 1) _ e ht.tail.tail hr he (by show r.length < lim - (p + 1 + 1); exact lin [_, _, _, _] (.l 1 (.p (.p (.a 0) (.n 2)) (.a 1)) (.a 2) <| .h 1 (.a 2) (.p (.a 3) (.p (.p (.a 0) (.n 1)) (.n 1))) <| .j 1 (.a 1) (.a 3)) (.refl true) hl (subA _ _))) (by show w + 1 + 1 + 1 + 1 ≤ _; exact lin [_] (.h 1 (.p (.a 0) (.n 4)) (.n 16777216) <| .g 1 (.p (.p (.p (.p (.a 0) (.n 1)) (.n 1)) (.n 1)) (.n 1)) (.n 16777216)) (.refl true) hw))
  exact ⟨_, _, _, g4, rfl, rfl⟩

theorem q_rounds {text : Array Nat} {lim last : Nat} (hbig : lim < maxRepeat) : ∀ (rs : List (Nat × List Nat)) (p h : Nat) (cnt : Int) (bg : Option Nat) (fs : List Sre.Frame) (w : Nat), -1 ≤ cnt → (∀ b, bg = some b → b < p) → w + 4 * rs.length ≤ 16777216 →
    TextAt text p (flatR rs ++ [34]) → okR rs → p + (flatR rs).length < lim → (∀ f ∈ fs, yesWait f.wait = true) →
    ∃ fs' h' cnt' bg', Go (4 * rs.length) (ust text lim last p h cnt bg fs w) (ust text lim last (p + (flatR rs).length) h' cnt' bg' fs' (w + 4 * rs.length)) ∧ (∀ f ∈ fs', yesWait f.wait = true) ∧ -1 ≤ cnt' ∧ (∀ b, bg' = some b → b < p + (flatR rs).length) ∧ fs'.length = fs.length + 2 * rs.length
  | [], p, h, cnt, bg, fs, w, hc, hb, hw, ht, ho, hl, hf => ⟨fs, h, cnt, bg, Go.refl _, hf, hc, hb, rfl⟩
  | (c, r) :: rs, p, h, cnt, bg, fs, w, hc, hb, hw, ht, ho, hl, hf => by
    have hox := ho (c, r) (List.mem_cons_self ..)
    have efl : flatR ((c, r) :: rs) = 92 :: c :: (r ++ flatR rs) := rfl
    have elen : (flatR ((c, r) :: rs)).length = 2 + r.length + (flatR rs).length := by rw [efl]; simp; exact Nat.le_antisymm (lin [_, _] (.g 1 (.p (.p (.p (.a 0) (.a 1)) (.n 1)) (.n 1)) (.p (.p (.n 2) (.a 0)) (.a 1))) (.refl true)) (lin [_, _] (.g 1 (.p (.p (.n 2) (.a 0)) (.a 1)) (.p (.p (.p (.a 0) (.a 1)) (.n 1)) (.n 1))) (.refl true))
    rw [efl] at ht
    -- the sign behind this round
    obtain ⟨e, y, he, hy⟩ : ∃ e y, (e = 34 ∨ e = 92) ∧ flatR rs ++ [34] = e :: y := by
      cases rs with
      | nil => exact ⟨34, [], .inl rfl, rfl⟩
      | cons x rs => exact ⟨92, _, .inr rfl, rfl⟩
    have ht1 : TextAt text p (92 :: c :: (r ++ [e])) := by
      intro i d hd
      refine ht i d ?_
      have e1 : (92 :: c :: (r ++ flatR rs)) ++ [34] = (92 :: c :: (r ++ [e])) ++ y := by simp [hy]
      rw [e1, List.getElem?_append_left (List.getElem?_eq_some_iff.mp hd).1]; exact hd
    have ht2 : TextAt text (p + 2 + r.length) (flatR rs ++ [34]) := by
      have := TextAt.drop (x := 92 :: c :: r) (y := flatR rs ++ [34]) (text := text) (p := p) (by simpa using ht)
      rw [show p + (92 :: c :: r).length = p + 2 + r.length by simp; exact Nat.le_antisymm (lin [_, _] (.g 1 (.p (.a 0) (.p (.p (.a 1) (.n 1)) (.n 1))) (.p (.p (.a 0) (.n 2)) (.a 1))) (.refl true)) (lin [_, _] (.g 1 (.p (.p (.a 0) (.n 2)) (.a 1)) (.p (.a 0) (.p (.p (.a 1) (.n 1)) (.n 1)))) (.refl true))] at this
      exact this
    obtain ⟨f1, f2, h', g, y1, y2⟩ := q_round (last := last) (h := h) (fs := fs) (w := w) (e := e) hc (fun q => Nat.lt_irrefl _ (hb p q)) (by simp at hw; exact lin [_, _] (.h 1 (.p (.a 0) (.m 4 (.p (.a 1) (.n 1)))) (.n 16777216) <| .g 1 (.p (.a 0) (.n 4)) (.n 16777216)) (.refl true) hw) ht1 hox.1 hox.2 he (by rw [elen] at hl; exact lin [_, _, _, _] (.l 1 (.p (.a 0) (.p (.p (.n 2) (.a 1)) (.a 2))) (.a 3) <| .j 1 (.p (.p (.a 0) (.n 2)) (.a 1)) (.a 3)) (.refl true) hl) hbig
    obtain ⟨fs', h'', cnt', bg', g2, yf, hc', hb', hlen⟩ := q_rounds hbig rs (p + 2 + r.length) h' (cnt + 1) (some p) (f1 :: f2 :: fs) (w + 4) (by omega) (fun b q => by cases q; exact lin [_, _] (.j 1 (.a 0) (.p (.p (.a 0) (.n 2)) (.a 1))) (.refl true)) (by simp at hw; exact lin [_, _] (.h 1 (.p (.a 0) (.m 4 (.p (.a 1) (.n 1)))) (.n 16777216) <| .g 1 (.p (.p (.a 0) (.n 4)) (.m 4 (.a 1))) (.n 16777216)) (.refl true) hw) ht2 (fun x hx => ho x (List.mem_cons_of_mem _ hx)) (by rw [elen] at hl; exact lin [_, _, _, _] (.l 1 (.p (.a 0) (.p (.p (.n 2) (.a 1)) (.a 2))) (.a 3) <| .j 1 (.p (.p (.p (.a 0) (.n 2)) (.a 1)) (.a 2)) (.a 3)) (.refl true) hl)
      (fun f hf' => by
        rcases List.mem_cons.mp hf' with rfl | hf'
        · exact y1
        rcases List.mem_cons.mp hf' with rfl | hf'
        · exact y2
        exact hf f hf')
    refine ⟨fs', h'', cnt', bg', ?_, yf, hc', ?_, ?_⟩
    · have e3 : p + (flatR ((c, r) :: rs)).length = p + 2 + r.length + (flatR rs).length := by rw [elen]; exact Nat.le_antisymm (lin [_, _, _] (.g 1 (.p (.a 0) (.p (.p (.n 2) (.a 1)) (.a 2))) (.p (.p (.p (.a 0) (.n 2)) (.a 1)) (.a 2))) (.refl true)) (lin [_, _, _] (.g 1 (.p (.p (.p (.a 0) (.n 2)) (.a 1)) (.a 2)) (.p (.a 0) (.p (.p (.n 2) (.a 1)) (.a 2)))) (.refl true))
      have e4 : w + 4 * ((c, r) :: rs).length = w + 4 + 4 * rs.length := by simp; exact Nat.le_antisymm (lin [_, _] (.g 1 (.p (.a 0) (.m 4 (.p (.a 1) (.n 1)))) (.p (.p (.a 0) (.n 4)) (.m 4 (.a 1)))) (.refl true)) (lin [_, _] (.g 1 (.p (.p (.a 0) (.n 4)) (.m 4 (.a 1))) (.p (.a 0) (.m 4 (.p (.a 1) (.n 1))))) (.refl true))
      rw [e3, e4]
      exact (g.trans g2).cast (by simp; exact Nat.le_antisymm (lin [_] (.g 1 (.p (.m 4 (.a 0)) (.n 4)) (.m 4 (.p (.a 0) (.n 1)))) (.refl true)) (lin [_] (.g 1 (.m 4 (.p (.a 0) (.n 1))) (.p (.m 4 (.a 0)) (.n 4))) (.refl true)))
    · rw [elen]; intro b q; have := hb' b q; exact lin [_, _, _, _] (.l 1 (.a 0) (.p (.p (.p (.a 1) (.n 2)) (.a 2)) (.a 3)) <| .j 1 (.a 0) (.p (.a 1) (.p (.p (.n 2) (.a 2)) (.a 3)))) (.refl true) this
    · rw [hlen]; simp; exact Nat.le_antisymm (lin [_, _] (.g 1 (.p (.p (.p (.a 1) (.n 1)) (.n 1)) (.m 2 (.a 0))) (.p (.a 1) (.m 2 (.p (.a 0) (.n 1))))) (.refl true)) (lin [_, _] (.g 1 (.p (.a 1) (.m 2 (.p (.a 0) (.n 1)))) (.p (.p (.p (.a 1) (.n 1)) (.n 1)) (.m 2 (.a 0)))) (.refl true))

theorem q_end {text : Array Nat} {lim last p h : Nat} {cnt : Int} {bg : Option Nat} {fs : List Sre.Frame} {w : Nat} (hc : -1 ≤ cnt) (hb : bg ≠ some p) (hw : w + 2 ≤ 16777216) (ht : text.getD p 0 = 34) (hl : p < lim) (hf : ∀ f ∈ fs, yesWait f.wait = true) :
    ∃ m', Go (fs.length + 8) (ust text lim last p h cnt bg fs w) m' ∧ m'.outcome = some .matched ∧ m'.start = 0 ∧ m'.handed = p + 1 ∧ m'.marks = #[some 2, some p] ∧ m'.lastmark = 1 ∧ m'.lastindex = 1 := by
  have g1 := go_round (m := ust text lim last p h cnt bg fs w) (l := { pc := 46, count := cnt, began := bg, outer := none }) ⟨rfl, rfl, Nat.le_of_ble_eq_true rfl, rfl⟩ ⟨rfl, rfl, rfl, rfl, hc⟩ hb (by show w + 1 + 1 ≤ _; exact lin [_] (.h 1 (.p (.a 0) (.n 2)) (.n 16777216) <| .g 1 (.p (.p (.a 0) (.n 1)) (.n 1)) (.n 16777216)) (.refl true) hw)
  have g2 := g1.trans (go_in_no (op := .LITERAL) ⟨rfl, rfl, Nat.le_of_ble_eq_true rfl, rfl⟩ (.inr (.inr rfl)) (fun _ => by
    show Acc codeQ 50 (text.getD p 0) false
    rw [ht]
    exact Acc.lit (code := codeQ) (i := 50) (c := 34) rfl))
  have g3 := g2.trans (go_more_no (l := { pc := 46, count := cnt + 1, began := some p, outer := none }) rfl rfl rfl rfl rfl rfl rfl (by show w + 1 + 1 - (1 + 1) + 1 ≤ _; exact lin [_, _] (.h 1 (.p (.a 0) (.n 2)) (.n 16777216) <| .e 1 (.p (.a 1) (.p (.n 1) (.n 1))) (.p (.p (.a 0) (.n 1)) (.n 1)) <| .g 1 (.p (.a 1) (.n 1)) (.n 16777216)) (.refl true) hw (subC (by exact lin [_] (.g 1 (.p (.n 1) (.n 1)) (.p (.p (.a 0) (.n 1)) (.n 1))) (.refl true)))))
  have g4 := g3.trans (go_mark (i := 1) ⟨rfl, rfl, Nat.le_of_ble_eq_true rfl, rfl⟩ rfl (show (1 : Int) ≤ 0 + 1 by decide))
  have g5 := g4.trans (go_lit ⟨rfl, rfl, Nat.le_of_ble_eq_true rfl, rfl⟩ hl ht)
  have g6 := g5.trans (go_success ⟨rfl, rfl, Nat.le_of_ble_eq_true rfl, rfl⟩ rfl)
  obtain ⟨m', g, ho, t⟩ := g6.finish (fs := { wait := .maxTail, pc := 67, pos := p, outermost := true, loop := 0, count := cnt + 1, kept := { lastmark := 0, lastindex := -1, whole := false, marks := #[] } } :: fs) rfl rfl rfl (fun f hf' => by
    rcases List.mem_cons.mp hf' with rfl | hf'
    · rfl
    · exact hf f hf')
  exact ⟨m', g.cast (by simp), ho, t.start, t.handed, t.marks, t.lastmark, t.lastindex⟩

theorem lit_list (n : Nat) : (n : Int).toNat = n := rfl
/-- the text =".." is found whole -/
theorem q_search {pre : List Nat} {rs : List (Nat × List Nat)} (hp : ∀ c ∈ pre, c ≠ 34 ∧ c ≠ 92) (ho : okR rs) (hsz : pre.length + (flatR rs).length ≤ 1000000) :
    ∃ k m', k ≤ 100000000 ∧ Go k (Sre.forSearch codeQ ([61, 34] ++ (pre ++ flatR rs) ++ [34]).toArray 1 0 (pre.length + (flatR rs).length + 3) false) m' ∧ m'.outcome = some .matched ∧ m'.start = 0 ∧ m'.handed = pre.length + (flatR rs).length + 3 ∧
      m'.marks = #[some 2, some (pre.length + (flatR rs).length + 2)] ∧ m'.lastmark = 1 ∧ m'.lastindex = 1 := by
  generalize hx : ([61, 34] ++ (pre ++ flatR rs) ++ [34]) = x
  have ht : TextAt x.toArray 0 (61 :: 34 :: (pre ++ (flatR rs ++ [34]))) := by
    have := TextAt.of x
    rw [← hx] at this ⊢
    simpa using this
  generalize hlim : pre.length + (flatR rs).length + 3 = lim
  have hbig : lim < maxRepeat := by rw [← hlim]; show _ < 4294967295; exact lin [_, _] (.h 1 (.p (.a 0) (.a 1)) (.n 1000000) <| .j 1 (.p (.p (.a 0) (.a 1)) (.n 3)) (.n 4294967295)) (.refl true) hsz
  have hrs : 2 * rs.length ≤ (flatR rs).length := by
    clear hx ht hlim hp ho hsz
    induction rs with
    | nil => simp
    | cons x rs ih =>
      have : flatR (x :: rs) = 92 :: x.1 :: (x.2 ++ flatR rs) := rfl
      rw [this]; simp; exact lin [_, _, _] (.h 1 (.m 2 (.a 0)) (.a 1) <| .g 1 (.m 2 (.p (.a 0) (.n 1))) (.p (.p (.p (.a 2) (.a 1)) (.n 1)) (.n 1))) (.refl true) ih
  -- the first state
  have e0 : Sre.forSearch codeQ x.toArray 1 0 lim false = { qst x.toArray lim (max 0 (lim - 2)) 5 0 0 #[none, none] (-1) (-1) #[] none [{ wait := .nextStart, pc := 5, pos := 0, outermost := true }] 1 with seen := ({} : Seen).add 14 } := by
    unfold Sre.forSearch
    dsimp only
    rw [show (Sre.header codeQ).1 = 3 from rfl]
    rw [if_neg (by simp; exact lin [_, _, _] (.e 1 (.p (.p (.a 0) (.a 1)) (.n 3)) (.a 2) <| .g 1 (.n 3) (.a 2)) (.refl true) hlim)]
    rfl
  generalize hlast : max 0 (lim - 2) = last at e0
  have g1 := go_at0 (m := qst x.toArray lim last 5 0 0 #[none, none] (-1) (-1) #[] none [{ wait := .nextStart, pc := 5, pos := 0, outermost := true }] 1) ⟨rfl, rfl, Nat.le_of_ble_eq_true rfl, rfl⟩ rfl rfl
  have l1 : 0 < lim := by exact lin [_, _, _] (.e 1 (.p (.p (.a 0) (.a 1)) (.n 3)) (.a 2) <| .j 1 (.n 0) (.a 2)) (.refl true) hlim
  have g2 := g1.trans (go_repone (k := 0) ⟨rfl, rfl, Nat.le_of_ble_eq_true rfl, rfl⟩ (Nat.zero_le _) (Nat.zero_le _) (Nat.zero_le _) rfl hbig (by
    show Runs codeQ x.toArray 11 (lim - 0) 0 0
    obtain ⟨n, hn⟩ : ∃ n, lim - 0 = n + 1 := ⟨lim - 1, by exact Nat.le_antisymm (lin [_, _, _] (.h 1 (.a 0) (.a 1) <| .h 1 (.a 1) (.p (.a 2) (.n 1)) <| .g 1 (.a 0) (.p (.a 2) (.n 1))) (.refl true) (subB _ _) (subA _ _)) (lin [_, _, _] (.h 1 (.a 0) (.p (.a 1) (.n 0)) <| .e 1 (.p (.a 2) (.n 1)) (.a 0) <| .g 1 (.p (.a 2) (.n 1)) (.a 1)) (.refl true) (subA _ _) (subC (by exact lin [_, _, _] (.e 1 (.p (.p (.a 0) (.a 1)) (.n 3)) (.a 2) <| .g 1 (.n 1) (.a 2)) (.refl true) hlim)))⟩
    rw [hn]
    exact .stop (by rw [ht.head]; exact accSpace rfl rfl rfl rfl (by decide) space61)) (by show 1 + 1 + 0 ≤ _; exact lin [] (.g 1 (.p (.p (.n 1) (.n 1)) (.n 0)) (.n 16777216)) (.refl true)))
  have g3 := g2.trans (go_lit ⟨rfl, rfl, Nat.le_of_ble_eq_true rfl, rfl⟩ l1 ht.head)
  have g4 := g3.trans (go_repone (k := 0) ⟨rfl, rfl, Nat.le_of_ble_eq_true rfl, rfl⟩ (Nat.zero_le _) (by show 1 ≤ lim; exact lin [_, _, _] (.e 1 (.p (.p (.a 0) (.a 1)) (.n 3)) (.a 2) <| .g 1 (.n 1) (.a 2)) (.refl true) hlim) (Nat.zero_le _) rfl hbig (by
    show Runs codeQ x.toArray 23 (lim - 1) 1 0
    obtain ⟨n, hn⟩ : ∃ n, lim - 1 = n + 1 := ⟨lim - 2, by exact Nat.le_antisymm (lin [_, _, _] (.h 1 (.a 0) (.p (.a 1) (.n 2)) <| .e 1 (.p (.a 2) (.n 1)) (.a 0) <| .g 1 (.a 2) (.p (.a 1) (.n 1))) (.refl true) (subA _ _) (subC (by exact lin [_, _, _] (.e 1 (.p (.p (.a 0) (.a 1)) (.n 3)) (.a 2) <| .g 1 (.n 1) (.a 2)) (.refl true) hlim))) (lin [_, _, _] (.h 1 (.a 0) (.p (.a 1) (.n 1)) <| .e 1 (.p (.a 2) (.n 2)) (.a 0) <| .g 1 (.p (.a 2) (.n 1)) (.a 1)) (.refl true) (subA _ _) (subC (by exact lin [_, _, _] (.e 1 (.p (.p (.a 0) (.a 1)) (.n 3)) (.a 2) <| .g 1 (.n 2) (.a 2)) (.refl true) hlim)))⟩
    rw [hn]
    exact .stop (by rw [ht.tail.head]; exact accSpace rfl rfl rfl rfl (by decide) space34)) (by show 1 + 1 + 0 + 1 + 0 ≤ _; exact lin [] (.g 1 (.p (.p (.p (.p (.n 1) (.n 1)) (.n 0)) (.n 1)) (.n 0)) (.n 16777216)) (.refl true)))
  have g5 := g4.trans (go_lit ⟨rfl, rfl, Nat.le_of_ble_eq_true rfl, rfl⟩ (by show 1 < lim; exact lin [_, _, _] (.e 1 (.p (.p (.a 0) (.a 1)) (.n 3)) (.a 2) <| .j 1 (.n 1) (.a 2)) (.refl true) hlim) ht.tail.head)
  have g6 := g5.trans (go_mark (i := 0) ⟨rfl, rfl, Nat.le_of_ble_eq_true rfl, rfl⟩ rfl (show (0 : Int) ≤ -1 + 1 by decide))
  -- the first run
  obtain ⟨e, y, he, hy⟩ : ∃ e y, (e = 34 ∨ e = 92) ∧ flatR rs ++ [34] = e :: y := by
    cases rs with
    | nil => exact ⟨34, [], .inl rfl, rfl⟩
    | cons x rs => exact ⟨92, _, .inr rfl, rfl⟩
  have ht2 : TextAt x.toArray 2 (pre ++ (flatR rs ++ [34])) := ht.tail.tail
  have ht3 : TextAt x.toArray 2 (pre ++ [e]) := by
    intro i d hd
    refine ht2 i d ?_
    rw [hy, show pre ++ e :: y = (pre ++ [e]) ++ y by simp, List.getElem?_append_left (List.getElem?_eq_some_iff.mp hd).1]
    exact hd
  have g7 := g6.trans (go_repone (k := pre.length) ⟨rfl, rfl, Nat.le_of_ble_eq_true rfl, rfl⟩ (Nat.zero_le _) (by show 2 ≤ lim; exact lin [_, _, _] (.e 1 (.p (.p (.a 0) (.a 1)) (.n 3)) (.a 2) <| .g 1 (.n 2) (.a 2)) (.refl true) hlim) (by show pre.length ≤ lim - 2; exact lin [_, _, _, _] (.e 1 (.p (.p (.a 0) (.a 1)) (.n 3)) (.a 2) <| .h 1 (.a 2) (.p (.a 3) (.n 2)) <| .g 1 (.a 0) (.a 3)) (.refl true) hlim (subA _ _)) rfl hbig
    (runsQ (fun c a b => accQ_plain a b) (fun c a => accQ_stop a) pre 2 _ e ht3 hp he (by show pre.length < lim - 2; exact lin [_, _, _, _] (.e 1 (.p (.p (.a 0) (.a 1)) (.n 3)) (.a 2) <| .h 1 (.a 2) (.p (.a 3) (.n 2)) <| .j 1 (.a 0) (.a 3)) (.refl true) hlim (subA _ _))) (by show 1 + 1 + 0 + 1 + 0 + 1 + 0 ≤ _; exact lin [] (.g 1 (.p (.p (.p (.p (.p (.p (.n 1) (.n 1)) (.n 0)) (.n 1)) (.n 0)) (.n 1)) (.n 0)) (.n 16777216)) (.refl true)))
  have g8 := g7.trans (go_repeat ⟨rfl, rfl, Nat.le_of_ble_eq_true rfl, rfl⟩ (by show 1 + 1 + 0 + 1 + 0 + 1 + 0 + 1 ≤ _; exact lin [] (.g 1 (.p (.p (.p (.p (.p (.p (.p (.n 1) (.n 1)) (.n 0)) (.n 1)) (.n 0)) (.n 1)) (.n 0)) (.n 1)) (.n 16777216)) (.refl true)))
  obtain ⟨fs, h', cnt, bg, g9, hf, hc, hb, hlen⟩ := q_rounds (text := x.toArray) (lim := lim) (last := last) hbig rs (2 + pre.length) (2 + pre.length) (-1) none
    ([{ wait := .closeLoop, pc := 46, pos := 2 + pre.length, outermost := true, loop := 0 }, { wait := .giveBack, pc := 33, pos := 2 + pre.length, outermost := true, count := pre.length, kept := { lastmark := 0, lastindex := -1 } },
      { wait := .giveBack, pc := 19, pos := 1, outermost := true, count := 0, kept := { lastmark := -1, lastindex := -1 } }, { wait := .giveBack, pc := 7, pos := 0, outermost := true, count := 0, kept := { lastmark := -1, lastindex := -1 } }, { wait := .nextStart, pc := 5, pos := 0, outermost := true }] : List Sre.Frame) 5
    (by omega) (fun b q => nomatch q) (by exact lin [_, _, _] (.h 2 (.p (.a 0) (.a 1)) (.n 1000000) <| .h 2 (.m 2 (.a 2)) (.a 1) <| .g 1 (.p (.n 5) (.m 4 (.a 2))) (.n 16777216)) (.refl true) hsz hrs) ht2.drop ho (by exact lin [_, _, _] (.e 1 (.p (.p (.a 0) (.a 1)) (.n 3)) (.a 2) <| .j 1 (.p (.p (.n 2) (.a 0)) (.a 1)) (.a 2)) (.refl true) hlim) (by intro f hf'; simp at hf'; rcases hf' with rfl | rfl | rfl | rfl | rfl <;> rfl)
  have g10 := g8.trans g9
  have ht4 : x.toArray.getD (2 + pre.length + (flatR rs).length) 0 = 34 := by
    have := (ht2.drop).drop (x := flatR rs) (y := [34])
    exact this.head
  obtain ⟨m', g11, h1, h2, h3, h4, h5, h6⟩ := q_end (text := x.toArray) (lim := lim) (last := last) (p := 2 + pre.length + (flatR rs).length) (h := h') (cnt := cnt) (bg := bg) (fs := fs) (w := 5 + 4 * rs.length) hc (fun q => Nat.lt_irrefl _ (hb _ q)) (by exact lin [_, _, _] (.h 2 (.p (.a 0) (.a 1)) (.n 1000000) <| .h 2 (.m 2 (.a 2)) (.a 1) <| .g 1 (.p (.p (.n 5) (.m 4 (.a 2))) (.n 2)) (.n 16777216)) (.refl true) hsz hrs) ht4 (by exact lin [_, _, _] (.e 1 (.p (.p (.a 0) (.a 1)) (.n 3)) (.a 2) <| .j 1 (.p (.p (.n 2) (.a 0)) (.a 1)) (.a 2)) (.refl true) hlim) hf
  have g := g10.trans g11
  refine ⟨_, m', ?_, (by rw [e0]; exact fun sn => g sn), h1, h2, by rw [h3]; exact Nat.le_antisymm (lin [_, _, _] (.e 1 (.p (.p (.a 0) (.a 1)) (.n 3)) (.a 2) <| .g 1 (.p (.p (.p (.n 2) (.a 0)) (.a 1)) (.n 1)) (.a 2)) (.refl true) hlim) (lin [_, _, _] (.f 1 (.p (.p (.a 0) (.a 1)) (.n 3)) (.a 2) <| .g 1 (.a 2) (.p (.p (.p (.n 2) (.a 0)) (.a 1)) (.n 1))) (.refl true) hlim), by rw [h4, show 2 + pre.length + (flatR rs).length = pre.length + (flatR rs).length + 2 by exact Nat.le_antisymm (lin [_, _] (.g 1 (.p (.p (.n 2) (.a 0)) (.a 1)) (.p (.p (.a 0) (.a 1)) (.n 2))) (.refl true)) (lin [_, _] (.g 1 (.p (.p (.a 0) (.a 1)) (.n 2)) (.p (.p (.n 2) (.a 0)) (.a 1))) (.refl true))], h5, h6⟩
  rw [hlen]; simp; exact lin [_, _, _] (.h 3 (.p (.a 0) (.a 1)) (.n 1000000) <| .h 3 (.m 2 (.a 2)) (.a 1) <| .g 1 (.p (.p (.p (.n 5) (.m 2 (.a 2))) (.n 8)) (.p (.m 4 (.a 2)) (.n 8))) (.n 100000000)) (.refl true) hsz hrs
end Mine
end
-- R5
section
open PySem PySem.Sre
namespace Mine

/-- what a search from the place s gives: start, end, begin and end of the group -/
noncomputable def Finds (code : Array Nat) (x : List Nat) (s : Nat) (r : Option (Nat × Nat × Nat × Nat)) : Prop :=
  ∃ k m', k ≤ 100000000 ∧ Go k (Sre.forSearch code x.toArray 1 s x.length false) m' ∧ match r with
    | none => m'.outcome = some .failed
    | some (j, e, b, b') => m'.outcome = some .matched ∧ m'.start = j ∧ m'.handed = e ∧ m'.marks = #[some b, some b'] ∧ m'.lastmark = 1 ∧ m'.lastindex = 1

theorem Finds.of {code : Array Nat} {x : List Nat} {s : Nat} {r : Option (Nat × Nat × Nat × Nat)} {k : Nat} {sn : Seen} {m₀ m' : M} (e0 : Sre.forSearch code x.toArray 1 s x.length false = { m₀ with seen := sn }) (g : Go k m₀ m') (hk : k ≤ 100000000)
    (h : match r with
      | none => m'.outcome = some .failed
      | some (j, e, b, b') => m'.outcome = some .matched ∧ m'.start = j ∧ m'.handed = e ∧ m'.marks = #[some b, some b'] ∧ m'.lastmark = 1 ∧ m'.lastindex = 1) : Finds code x s r :=
  ⟨k, m', hk, by rw [e0]; exact fun sn => g sn, h⟩
theorem q_finds {pre : List Nat} {rs : List (Nat × List Nat)} (hp : ∀ c ∈ pre, c ≠ 34 ∧ c ≠ 92) (ho : okR rs) (hsz : pre.length + (flatR rs).length ≤ 1000000) :
    Finds codeQ ([61, 34] ++ (pre ++ flatR rs) ++ [34]) 0 (some (0, pre.length + (flatR rs).length + 3, 2, pre.length + (flatR rs).length + 2)) := by
  obtain ⟨k, m', h1, h2, h3⟩ := q_search hp ho hsz
  have e : ([61, 34] ++ (pre ++ flatR rs) ++ [34]).length = pre.length + (flatR rs).length + 3 := by simp; exact Nat.le_antisymm (lin [_, _] (.g 1 (.p (.a 0) (.p (.a 1) (.n 1))) (.p (.p (.a 0) (.a 1)) (.n 1))) (.refl true)) (lin [_, _] (.g 1 (.p (.p (.a 0) (.a 1)) (.n 1)) (.p (.a 0) (.p (.a 1) (.n 1)))) (.refl true))
  exact ⟨k, m', h1, by rw [e]; exact h2, h3⟩

/-- the machine behind a start at p -/
noncomputable def mst (code text : Array Nat) (lim last s pc p h : Nat) (marks : Array (Option Nat)) (lm li : Int) (out : Bool) (fs : List Sre.Frame) (w : Nat) : M :=
  { code, text, lim, start := s, lastStart := last, pc, pos := p, handed := h, marks, lastmark := lm, lastindex := li, outermost := out, frames := fs, weight := w }

/-! the name: k= -/
theorem t_finds {y : List Nat} (hsz : y.length ≤ 2000000) : Finds codeT (107 :: 61 :: y) 0 (some (0, 1, 0, 1)) := by
  generalize hx : (107 :: 61 :: y) = x
  have ht : TextAt x.toArray 0 (107 :: 61 :: y) := by rw [← hx]; exact TextAt.of _
  have hl : x.length = y.length + 2 := by rw [← hx]; rfl
  generalize hlim : x.length = lim at hl
  have hbig : lim < maxRepeat := by rw [hl]; show _ < 4294967295; exact lin [_] (.h 1 (.a 0) (.n 2000000) <| .j 1 (.p (.a 0) (.n 2)) (.n 4294967295)) (.refl true) hsz
  have e0 : Sre.forSearch codeT x.toArray 1 0 lim false = { mst codeT x.toArray lim lim 0 5 0 0 #[none, none] (-1) (-1) true [{ wait := .nextStart, pc := 5, pos := 0, outermost := true }] 1 with seen := ({} : Seen).add 14 } := by
    unfold Sre.forSearch
    dsimp only
    rw [show (Sre.header codeT).1 = 1 from rfl]
    rw [if_neg (by simp; exact fun qq => lin [_, _] (.f 1 (.a 0) (.p (.a 1) (.n 2)) <| .e 1 (.a 0) (.n 0) <| .z) (.refl true) hl qq)]
    rfl
  have g1 := go_at0 (m := mst codeT x.toArray lim lim 0 5 0 0 #[none, none] (-1) (-1) true [{ wait := .nextStart, pc := 5, pos := 0, outermost := true }] 1) ⟨rfl, rfl, Nat.le_of_ble_eq_true rfl, rfl⟩ rfl rfl
  have g2 := g1.trans (go_repone (k := 0) ⟨rfl, rfl, Nat.le_of_ble_eq_true rfl, rfl⟩ (Nat.zero_le _) (Nat.zero_le _) (Nat.zero_le _) rfl hbig (by
    show Runs codeT x.toArray 11 (lim - 0) 0 0
    obtain ⟨n, hn⟩ : ∃ n, lim - 0 = n + 1 := ⟨lim - 1, by exact Nat.le_antisymm (lin [_, _, _] (.h 1 (.a 0) (.a 1) <| .h 1 (.a 1) (.p (.a 2) (.n 1)) <| .g 1 (.a 0) (.p (.a 2) (.n 1))) (.refl true) (subB _ _) (subA _ _)) (lin [_, _, _] (.h 1 (.a 0) (.p (.a 1) (.n 0)) <| .e 1 (.p (.a 2) (.n 1)) (.a 0) <| .g 1 (.p (.a 2) (.n 1)) (.a 1)) (.refl true) (subA _ _) (subC (by exact lin [_, _] (.f 1 (.a 0) (.p (.a 1) (.n 2)) <| .g 1 (.n 1) (.a 0)) (.refl true) hl)))⟩
    rw [hn]
    exact .stop (by rw [ht.head]; exact accSpace rfl rfl rfl rfl (by decide) space107)) (by show 1 + 1 + 0 ≤ _; exact lin [] (.g 1 (.p (.p (.n 1) (.n 1)) (.n 0)) (.n 16777216)) (.refl true)))
  have g3 := g2.trans (go_mark (i := 0) ⟨rfl, rfl, Nat.le_of_ble_eq_true rfl, rfl⟩ rfl (show (0 : Int) ≤ -1 + 1 by decide))
  have a1 : Acc codeT 23 107 true := .of_in (d := 4) rfl (by decide) (.neg rfl (.set_no rfl (by decide) (.space_no rfl rfl space107 (.fail rfl))))
  have a2 : Acc codeT 23 61 false := .of_in (d := 2) rfl (by decide) (.neg rfl (.set_yes rfl (by decide)))
  have g4 := g3.trans (go_repone (k := 1) ⟨rfl, rfl, Nat.le_of_ble_eq_true rfl, rfl⟩ (Nat.le_refl _) (Nat.zero_le _) (by show 1 ≤ lim - 0; exact lin [_, _, _] (.f 1 (.a 0) (.p (.a 1) (.n 2)) <| .h 1 (.a 0) (.p (.a 2) (.n 0)) <| .g 1 (.n 1) (.a 2)) (.refl true) hl (subA _ _)) rfl hbig (by
    show Runs codeT x.toArray 23 (lim - 0) 0 1
    obtain ⟨n, hn⟩ : ∃ n, lim - 0 = n + 1 + 1 := ⟨lim - 2, by exact Nat.le_antisymm (lin [_, _, _] (.h 1 (.a 0) (.a 1) <| .h 1 (.a 1) (.p (.a 2) (.n 2)) <| .g 1 (.a 0) (.p (.p (.a 2) (.n 1)) (.n 1))) (.refl true) (subB _ _) (subA _ _)) (lin [_, _, _] (.h 1 (.a 0) (.p (.a 1) (.n 0)) <| .e 1 (.p (.a 2) (.n 2)) (.a 0) <| .g 1 (.p (.p (.a 2) (.n 1)) (.n 1)) (.a 1)) (.refl true) (subA _ _) (subC (by exact lin [_, _] (.f 1 (.a 0) (.p (.a 1) (.n 2)) <| .g 1 (.n 2) (.a 0)) (.refl true) hl)))⟩
    rw [hn]
    exact .more (by rw [ht.head]; exact a1) (.stop (by rw [ht.tail.head]; exact a2))) (by show 1 + 1 + 0 + 1 + 0 ≤ _; exact lin [] (.g 1 (.p (.p (.p (.p (.n 1) (.n 1)) (.n 0)) (.n 1)) (.n 0)) (.n 16777216)) (.refl true)))
  have g5 := g4.trans (go_mark (i := 1) ⟨rfl, rfl, Nat.le_of_ble_eq_true rfl, rfl⟩ rfl (show (1 : Int) ≤ 0 + 1 by decide))
  have g6 := g5.trans (go_success ⟨rfl, rfl, Nat.le_of_ble_eq_true rfl, rfl⟩ rfl)
  obtain ⟨m', g, ho, t⟩ := g6.finish (fs := [_, _, _]) rfl rfl rfl (by intro f hf'; simp at hf'; rcases hf' with rfl | rfl | rfl <;> rfl)
  subst hlim
  exact .of e0 g (Nat.le_of_ble_eq_true rfl) ⟨ho, t.start, t.handed, t.marks, t.lastmark, t.lastindex⟩

/-! one sign behind a backslash -/
theorem lit_no {m : M} {c : Nat} (h : At m .LITERAL) (ht : m.text.getD m.pos 0 = c) (hc : c ≠ m.code.getD (m.pc + 1) 0) : Go 1 m { m with answer := some false } :=
  go_in_no h (.inr (.inr rfl)) fun _ => by
    rw [ht]
    have := Acc.lit (code := m.code) (i := m.pc) (c := c) h.op
    rwa [show (c == m.code.getD (m.pc + 1) 0) = false by simpa using hc] at this
theorem e_start {x : List Nat} {lim s : Nat} (hs : s ≤ lim) (h2 : ¬ lim - s < 2) : Sre.forSearch codeE x.toArray 1 s lim false = { mst codeE x.toArray lim lim s 9 s s #[none, none] (-1) (-1) true [{ wait := .nextStart, pc := 9, pos := s, outermost := true }] 1 with seen := ({} : Seen).add 14 } := by
  unfold Sre.forSearch
  dsimp only
  rw [show (Sre.header codeE).1 = 2 from rfl]
  rw [if_neg (by simp; omega)]
  rfl
theorem e_skip {text : Array Nat} {lim : Nat} : ∀ (pre : List Nat) (s h : Nat) (fo out : Bool), TextAt text s pre → (∀ c ∈ pre, c ≠ 92) → s + pre.length ≤ lim →
    ∃ fo' out', Go (2 * pre.length) (mst codeE text lim lim s 9 s h #[none, none] (-1) (-1) out [{ wait := .nextStart, pc := 9, pos := s, outermost := fo }] 1)
      (mst codeE text lim lim (s + pre.length) 9 (s + pre.length) (if pre = [] then h else s + pre.length) #[none, none] (-1) (-1) out' [{ wait := .nextStart, pc := 9, pos := s + pre.length, outermost := fo' }] 1)
  | [], s, h, fo, out, _, _, _ => ⟨fo, out, Go.refl _⟩
  | c :: pre, s, h, fo, out, ht, hp, hl => by
    have hc := hp c (List.mem_cons_self ..)
    have hl' : s + (pre.length + 1) ≤ lim := hl
    have g1 := lit_no (m := mst codeE text lim lim s 9 s h #[none, none] (-1) (-1) out [{ wait := .nextStart, pc := 9, pos := s, outermost := fo }] 1) (c := c) ⟨rfl, rfl, Nat.le_of_ble_eq_true rfl, rfl⟩ ht.head hc
    have g2 := g1.trans (go_next rfl rfl rfl rfl rfl (show s < lim by exact lin [_, _, _] (.h 1 (.p (.a 0) (.p (.a 1) (.n 1))) (.a 2) <| .j 1 (.a 0) (.a 2)) (.refl true) hl') rfl (by show 1 - 1 + 1 ≤ _; exact lin [_] (.h 1 (.a 0) (.n 1) <| .g 1 (.p (.a 0) (.n 1)) (.n 16777216)) (.refl true) (subB _ _)))
    obtain ⟨fo', out', g3⟩ := e_skip (lim := lim) pre (s + 1) (s + 1) false false ht.tail (fun d hd => hp d (List.mem_cons_of_mem _ hd)) (by exact lin [_, _, _] (.h 1 (.p (.a 0) (.p (.a 1) (.n 1))) (.a 2) <| .g 1 (.p (.p (.a 0) (.n 1)) (.a 1)) (.a 2)) (.refl true) hl')
    refine ⟨fo', out', ?_⟩
    have e1 : s + (c :: pre).length = s + 1 + pre.length := by show s + (pre.length + 1) = _; exact Nat.le_antisymm (lin [_, _] (.g 1 (.p (.a 0) (.p (.a 1) (.n 1))) (.p (.p (.a 0) (.n 1)) (.a 1))) (.refl true)) (lin [_, _] (.g 1 (.p (.p (.a 0) (.n 1)) (.a 1)) (.p (.a 0) (.p (.a 1) (.n 1)))) (.refl true))
    have e2 : (if pre = [] then s + 1 else s + 1 + pre.length) = (if c :: pre = [] then h else s + 1 + pre.length) := by
      cases pre <;> simp
    rw [e1, ← e2]
    exact (g2.trans g3).cast (by show 2 * pre.length + (1 + 1) = 2 * (pre.length + 1); exact Nat.le_antisymm (lin [_] (.g 1 (.p (.m 2 (.a 0)) (.p (.n 1) (.n 1))) (.m 2 (.p (.a 0) (.n 1)))) (.refl true)) (lin [_] (.g 1 (.m 2 (.p (.a 0) (.n 1))) (.p (.m 2 (.a 0)) (.p (.n 1) (.n 1)))) (.refl true)))
theorem e_finds {a pre y : List Nat} {c : Nat} (hp : ∀ d ∈ pre, d ≠ 92) (hc : c ≠ 10) (hsz : (a ++ pre ++ 92 :: c :: y).length ≤ 2000000) :
    Finds codeE (a ++ pre ++ 92 :: c :: y) a.length (some (a.length + pre.length, a.length + pre.length + 2, a.length + pre.length + 1, a.length + pre.length + 2)) := by
  generalize hx : (a ++ pre ++ 92 :: c :: y) = x at hsz
  have ht : TextAt x.toArray a.length (pre ++ 92 :: c :: y) := by
    have := TextAt.of x
    rw [← hx] at this ⊢
    rw [List.append_assoc] at this ⊢
    have := this.drop
    rwa [Nat.zero_add] at this
  have hl : x.length = a.length + pre.length + y.length + 2 := by rw [← hx]; simp; exact Nat.le_antisymm (lin [_, _, _] (.g 1 (.p (.a 0) (.p (.a 1) (.p (.p (.a 2) (.n 1)) (.n 1)))) (.p (.p (.p (.a 0) (.a 1)) (.a 2)) (.n 2))) (.refl true)) (lin [_, _, _] (.g 1 (.p (.p (.p (.a 0) (.a 1)) (.a 2)) (.n 2)) (.p (.a 0) (.p (.a 1) (.p (.p (.a 2) (.n 1)) (.n 1))))) (.refl true))
  generalize hlim : x.length = lim at hl hsz
  have ht1 : TextAt x.toArray a.length pre := fun i d e => ht i d (by rw [List.getElem?_append_left (List.getElem?_eq_some_iff.mp e).1]; exact e)
  have ht2 : TextAt x.toArray (a.length + pre.length) (92 :: c :: y) := ht.drop
  obtain ⟨fo, out, g0⟩ := e_skip (lim := lim) pre a.length a.length true true ht1 hp (by exact lin [_, _, _, _] (.f 1 (.a 0) (.p (.p (.p (.a 1) (.a 2)) (.a 3)) (.n 2)) <| .g 1 (.p (.a 1) (.a 2)) (.a 0)) (.refl true) hl)
  have g1 := g0.trans (go_lit ⟨rfl, rfl, Nat.le_of_ble_eq_true rfl, rfl⟩ (by show a.length + pre.length < lim; exact lin [_, _, _, _] (.f 1 (.a 0) (.p (.p (.p (.a 1) (.a 2)) (.a 3)) (.n 2)) <| .j 1 (.p (.a 1) (.a 2)) (.a 0)) (.refl true) hl) ht2.head)
  have g2 := g1.trans (go_mark (i := 0) ⟨rfl, rfl, Nat.le_of_ble_eq_true rfl, rfl⟩ rfl (show (0 : Int) ≤ -1 + 1 by decide))
  have g3 := g2.trans (go_in (op := .ANY) ⟨rfl, rfl, Nat.le_of_ble_eq_true rfl, rfl⟩ (.inr (.inl rfl)) (by show a.length + pre.length + 1 < lim; exact lin [_, _, _, _] (.f 1 (.a 0) (.p (.p (.p (.a 1) (.a 2)) (.a 3)) (.n 2)) <| .j 1 (.p (.p (.a 1) (.a 2)) (.n 1)) (.a 0)) (.refl true) hl) (by
    show Acc codeE 13 (x.toArray.getD (a.length + pre.length + 1) 0) true
    rw [ht2.tail.head]
    have := Acc.any (code := codeE) (i := 13) (c := c) rfl
    rwa [show (c != 10) = true by simpa using hc] at this))
  have g4 := g3.trans (go_mark (i := 1) ⟨rfl, rfl, Nat.le_of_ble_eq_true rfl, rfl⟩ rfl (show (1 : Int) ≤ 0 + 1 by decide))
  have g5 := g4.trans (go_success ⟨rfl, rfl, Nat.le_of_ble_eq_true rfl, rfl⟩ (by show (out && ((false && _) || (false && _))) = false; cases out <;> rfl))
  obtain ⟨m', g, ho, t⟩ := g5.finish (fs := [_]) rfl rfl rfl (by intro f hf'; simp at hf'; rcases hf' with rfl; rfl)
  subst hlim
  exact .of (e_start (by exact lin [_, _, _, _] (.f 1 (.a 0) (.p (.p (.p (.a 1) (.a 2)) (.a 3)) (.n 2)) <| .g 1 (.a 1) (.a 0)) (.refl true) hl) (by exact fun qq => lin [_, _, _, _, _] (.f 1 (.a 0) (.p (.p (.p (.a 1) (.a 2)) (.a 3)) (.n 2)) <| .h 1 (.a 0) (.p (.a 4) (.a 1)) <| .l 1 (.a 4) (.n 2) <| .z) (.refl true) hl (subA _ _) qq)) g (by simp; exact lin [_, _, _, _] (.f 2 (.a 0) (.p (.p (.p (.a 1) (.a 2)) (.a 3)) (.n 2)) <| .h 2 (.a 0) (.n 2000000) <| .g 1 (.p (.n 2) (.p (.n 1) (.p (.n 1) (.p (.n 1) (.p (.n 1) (.p (.n 1) (.m 2 (.a 2)))))))) (.n 100000000)) (.refl true) hl hsz) ⟨ho, t.start, t.handed, t.marks, t.lastmark, t.lastindex⟩
theorem e_fails {a pre : List Nat} (hp : ∀ d ∈ pre, d ≠ 92) (hsz : (a ++ pre).length ≤ 2000000) : Finds codeE (a ++ pre) a.length none := by
  have ht : TextAt (a ++ pre).toArray a.length pre := by
    have := (TextAt.of (a ++ pre)).drop
    rwa [Nat.zero_add] at this
  have hl : (a ++ pre).length = a.length + pre.length := by simp
  generalize hlim : (a ++ pre).length = lim at hl hsz
  by_cases h2 : lim - a.length < 2
  · have e0 : ∃ m, Sre.forSearch codeE (a ++ pre).toArray 1 a.length lim false = m ∧ m.outcome = none ∧ m.answer = some false ∧ m.frames = [] := by
      refine ⟨_, rfl, ?_⟩
      unfold Sre.forSearch
      dsimp only
      rw [show (Sre.header codeE).1 = 2 from rfl]
      rw [if_pos (by simp; omega)]
      exact ⟨rfl, rfl, rfl⟩
    obtain ⟨m, em, ho, ha, hf⟩ := e0
    exact ⟨1, _, by exact lin [] (.g 1 (.n 1) (.n 100000000)) (.refl true), by rw [hlim, em]; exact go_end ho ha hf, rfl⟩
  · obtain ⟨fo, out, g0⟩ := e_skip (lim := lim) pre a.length a.length true true ht hp (by exact lin [_, _, _] (.f 1 (.a 0) (.p (.a 1) (.a 2)) <| .g 1 (.p (.a 1) (.a 2)) (.a 0)) (.refl true) hl)
    have g1 := g0.trans (go_in_no (op := .LITERAL) ⟨rfl, rfl, Nat.le_of_ble_eq_true rfl, rfl⟩ (.inr (.inr rfl)) (fun q => by
      have q' : a.length + pre.length < lim := q
      omega))
    have g2 := g1.trans (go_next_no rfl rfl rfl rfl (by show lim ≤ a.length + pre.length; exact lin [_, _, _] (.e 1 (.a 0) (.p (.a 1) (.a 2)) <| .g 1 (.a 0) (.p (.a 1) (.a 2))) (.refl true) hl))
    have g3 := g2.trans (go_end rfl rfl rfl)
    subst hlim
    exact .of (e_start (by exact lin [_, _, _] (.f 1 (.a 0) (.p (.a 1) (.a 2)) <| .g 1 (.a 1) (.a 0)) (.refl true) hl) h2) g3 (by exact lin [_, _, _] (.f 2 (.a 0) (.p (.a 1) (.a 2)) <| .h 2 (.a 0) (.n 2000000) <| .g 1 (.p (.n 1) (.p (.n 1) (.p (.n 1) (.m 2 (.a 2))))) (.n 100000000)) (.refl true) hl hsz) rfl
end Mine
end
-- R6
section
open PySem PySem.Sre
namespace Mine

/-! a set ahead: the sign that a search may begin at -/
theorem admits {m : M} {hit : Nat → Bool} {d : Nat} (hd : d ≤ m.code.size) (hy : ∀ c, c < 128 → InS d m.code 5 true c (hit c)) : ∀ (pre : List Nat) (s fuel : Nat) (sn : Seen), TextAt m.text s pre → (∀ c ∈ pre, hit c = false ∧ c < 128) → s + pre.length ≤ m.lim → pre.length < fuel →
    ∃ sn', M.admitted m fuel s sn = M.admitted m (fuel - pre.length) (s + pre.length) sn'
  | [], s, fuel, sn, _, _, _, _ => ⟨sn, rfl⟩
  | c :: pre, s, fuel + 1, sn, ht, hp, hl, hf => by
    have hc := hp c (List.mem_cons_self ..)
    obtain ⟨sn1, e1⟩ := hy c hc.2 (m.code.size - d) sn
    rw [Nat.sub_add_cancel hd] at e1
    obtain ⟨sn2, e2⟩ := admits hd hy pre (s + 1) fuel sn1 ht.tail (fun d hd => hp d (List.mem_cons_of_mem _ hd)) (by simp at hl; exact lin [_, _, _] (.h 1 (.p (.a 0) (.p (.a 1) (.n 1))) (.a 2) <| .g 1 (.p (.p (.a 0) (.n 1)) (.a 1)) (.a 2)) (.refl true) hl) (by simp at hf; exact hf)
    refine ⟨sn2, ?_⟩
    rw [M.admitted, if_neg (by simp at hl; exact fun qq => lin [_, _, _] (.h 1 (.p (.a 0) (.p (.a 1) (.n 1))) (.a 2) <| .h 1 (.a 2) (.a 0) <| .z) (.refl true) hl qq), ht.head, e1, hc.1]
    dsimp only
    rw [e2]
    congr 1
    · simp
    · simp; exact Nat.le_antisymm (lin [_, _] (.g 1 (.p (.p (.a 0) (.n 1)) (.a 1)) (.p (.a 0) (.p (.a 1) (.n 1)))) (.refl true)) (lin [_, _] (.g 1 (.p (.a 0) (.p (.a 1) (.n 1))) (.p (.p (.a 0) (.n 1)) (.a 1))) (.refl true))
theorem admit_hit {m : M} {hit : Nat → Bool} {d : Nat} (hd : d ≤ m.code.size) (hy : ∀ c, c < 128 → InS d m.code 5 true c (hit c)) {pre : List Nat} {c s fuel : Nat} {sn : Seen} (ht : TextAt m.text s (pre ++ [c])) (hp : ∀ c ∈ pre, hit c = false ∧ c < 128) (hc : hit c = true) (h128 : c < 128)
    (hl : s + pre.length < m.lim) (hf : pre.length < fuel) : ∃ sn', M.admitted m fuel s sn = .ok (some (s + pre.length), sn') := by
  obtain ⟨sn1, e1⟩ := admits hd hy pre s fuel sn (fun i d e => ht i d (by rw [List.getElem?_append_left (List.getElem?_eq_some_iff.mp e).1]; exact e)) hp (by exact lin [_, _, _] (.l 1 (.p (.a 0) (.a 1)) (.a 2) <| .g 1 (.p (.a 0) (.a 1)) (.a 2)) (.refl true) hl) hf
  obtain ⟨f, hf'⟩ : ∃ f, fuel - pre.length = f + 1 := ⟨fuel - pre.length - 1, by exact Nat.le_antisymm (subA _ _) (lin [_, _] (.e 1 (.p (.a 0) (.n 1)) (.a 1) <| .g 1 (.p (.a 0) (.n 1)) (.a 1)) (.refl true) (subC (by exact lin [_, _, _] (.l 1 (.a 0) (.a 1) <| .h 1 (.a 1) (.p (.a 2) (.a 0)) <| .g 1 (.n 1) (.a 2)) (.refl true) hf (subA _ _))))⟩
  obtain ⟨sn2, e2⟩ := hy c h128 (m.code.size - d) sn1
  rw [Nat.sub_add_cancel hd] at e2
  refine ⟨sn2, ?_⟩
  rw [e1, hf', M.admitted, if_neg (by exact fun qq => lin [_, _, _] (.l 1 (.p (.a 0) (.a 1)) (.a 2) <| .h 1 (.a 2) (.p (.a 0) (.a 1)) <| .z) (.refl true) hl qq), ht.drop.head, e2, hc]
theorem admit_none {m : M} {hit : Nat → Bool} {d : Nat} (hd : d ≤ m.code.size) (hy : ∀ c, c < 128 → InS d m.code 5 true c (hit c)) {pre : List Nat} {s fuel : Nat} {sn : Seen} (ht : TextAt m.text s pre) (hp : ∀ c ∈ pre, hit c = false ∧ c < 128)
    (hl : s + pre.length = m.lim) (hf : pre.length < fuel) : ∃ sn', M.admitted m fuel s sn = .ok (none, sn') := by
  obtain ⟨sn1, e1⟩ := admits hd hy pre s fuel sn ht hp (by exact lin [_, _, _] (.e 1 (.p (.a 0) (.a 1)) (.a 2) <| .g 1 (.p (.a 0) (.a 1)) (.a 2)) (.refl true) hl) hf
  obtain ⟨f, hf'⟩ : ∃ f, fuel - pre.length = f + 1 := ⟨fuel - pre.length - 1, by exact Nat.le_antisymm (subA _ _) (lin [_, _] (.e 1 (.p (.a 0) (.n 1)) (.a 1) <| .g 1 (.p (.a 0) (.n 1)) (.a 1)) (.refl true) (subC (by exact lin [_, _, _] (.l 1 (.a 0) (.a 1) <| .h 1 (.a 1) (.p (.a 2) (.a 0)) <| .g 1 (.n 1) (.a 2)) (.refl true) hf (subA _ _))))⟩
  refine ⟨sn1, ?_⟩
  rw [e1, hf', M.admitted, if_pos (by exact lin [_, _, _] (.f 1 (.p (.a 0) (.a 1)) (.a 2) <| .g 1 (.a 2) (.p (.a 0) (.a 1))) (.refl true) hl)]

/-- a code that finds one sign of a set -/
structure OneSet (code : Array Nat) (hit : Nat → Bool) (d b : Nat) : Prop where
  few : ∀ (text : Array Nat) (lim s : Nat), s ≤ lim → lim - s < 1 → ∃ m, Sre.forSearch code text 1 s lim false = m ∧ m.outcome = none ∧ m.answer = some false ∧ m.frames = []
  many : ∀ (text : Array Nat) (lim s : Nat), s ≤ lim → ¬ lim - s < 1 → ∃ sn, Sre.forSearch code text 1 s lim false = M.attemptFrom { (mst code text lim lim s b s s #[none, none] (-1) (-1) true [] 0) with seen := sn } s true
  first : ∀ m : M, m.code = code → m.hasFirstSet = true
  sz : d ≤ code.size
  set : ∀ c, c < 128 → InS d code 5 true c (hit c)
  a0 : b < code.size ∧ ops[code.getD b 0]? = some .MARK ∧ code.getD (b + 1) 0 = 0
  a1 : b + 2 < code.size ∧ ops[code.getD (b + 2) 0]? = some .IN
  acc : ∀ c, c < 128 → hit c = true → Acc code (b + 2) c true
  a2 : ∃ e, b + 2 + itemWidth code (b + 2) = e ∧ e + 2 < code.size ∧ ops[code.getD e 0]? = some .MARK ∧ code.getD (e + 1) 0 = 1 ∧ ops[code.getD (e + 2) 0]? = some .SUCCESS
theorem OneSet.fails {code : Array Nat} {hit : Nat → Bool} {d b : Nat} (O : OneSet code hit d b) {a pre : List Nat} (hp : ∀ c ∈ pre, hit c = false ∧ c < 128) : Finds code (a ++ pre) a.length none := by
  have ht : TextAt (a ++ pre).toArray a.length pre := by
    have := (TextAt.of (a ++ pre)).drop
    rwa [Nat.zero_add] at this
  have hl : (a ++ pre).length = a.length + pre.length := by simp
  by_cases h : (a ++ pre).length - a.length < 1
  · obtain ⟨m, em, ho, ha, hf⟩ := O.few (a ++ pre).toArray (a ++ pre).length a.length (by exact lin [_, _, _] (.f 1 (.a 0) (.p (.a 1) (.a 2)) <| .g 1 (.a 1) (.a 0)) (.refl true) hl) h
    exact ⟨1, _, by exact lin [] (.g 1 (.n 1) (.n 100000000)) (.refl true), by rw [em]; exact go_end ho ha hf, rfl⟩
  · obtain ⟨sn, em⟩ := O.many (a ++ pre).toArray (a ++ pre).length a.length (by exact lin [_, _, _] (.f 1 (.a 0) (.p (.a 1) (.a 2)) <| .g 1 (.a 1) (.a 0)) (.refl true) hl) h
    unfold M.attemptFrom at em
    rw [if_neg (by rw [O.first _ rfl]; decide)] at em
    obtain ⟨sn', e'⟩ := admit_none (m := { (mst code (a ++ pre).toArray (a ++ pre).length (a ++ pre).length a.length b a.length a.length #[none, none] (-1) (-1) true [] 0) with seen := sn }) (sn := sn) O.sz O.set ht hp hl.symm (fuel := (a ++ pre).length + 1 - a.length) (by exact lin [_, _, _, _] (.f 1 (.a 0) (.p (.a 1) (.a 2)) <| .h 1 (.p (.a 0) (.n 1)) (.p (.a 3) (.a 1)) <| .j 1 (.a 2) (.a 3)) (.refl true) hl (subA _ _))
    have e2 := em.trans (show _ = M.say { (mst code (a ++ pre).toArray (a ++ pre).length (a ++ pre).length a.length b a.length a.length #[none, none] (-1) (-1) true [] 0) with seen := sn' } false by
      show (match M.admitted _ ((a ++ pre).length + 1 - a.length) a.length sn with
        | .ok (some s, seen) => _
        | .ok (none, seen) => _
        | .error why => _) = _
      rw [e'])
    refine .of (m₀ := { mst code (a ++ pre).toArray (a ++ pre).length (a ++ pre).length a.length b a.length a.length #[none, none] (-1) (-1) true [] 0 with answer := some false }) e2 (go_end rfl rfl rfl) (by exact lin [] (.g 1 (.n 1) (.n 100000000)) (.refl true)) rfl
theorem OneSet.finds {code : Array Nat} {hit : Nat → Bool} {d b : Nat} (O : OneSet code hit d b) {a pre y : List Nat} {c : Nat} (hp : ∀ c ∈ pre, hit c = false ∧ c < 128) (hc : hit c = true) (h128 : c < 128) :
    Finds code (a ++ pre ++ c :: y) a.length (some (a.length + pre.length, a.length + pre.length + 1, a.length + pre.length, a.length + pre.length + 1)) := by
  generalize hx : (a ++ pre ++ c :: y) = x
  have ht : TextAt x.toArray a.length (pre ++ c :: y) := by
    have := TextAt.of x
    rw [← hx] at this ⊢
    rw [List.append_assoc] at this ⊢
    have := this.drop
    rwa [Nat.zero_add] at this
  have hl : x.length = a.length + pre.length + y.length + 1 := by rw [← hx]; simp; exact Nat.le_antisymm (lin [_, _, _] (.g 1 (.p (.a 0) (.p (.a 1) (.p (.a 2) (.n 1)))) (.p (.p (.p (.a 0) (.a 1)) (.a 2)) (.n 1))) (.refl true)) (lin [_, _, _] (.g 1 (.p (.p (.p (.a 0) (.a 1)) (.a 2)) (.n 1)) (.p (.a 0) (.p (.a 1) (.p (.a 2) (.n 1))))) (.refl true))
  have ht1 : TextAt x.toArray a.length (pre ++ [c]) := fun i e he => ht i e (by
    rw [show pre ++ c :: y = (pre ++ [c]) ++ y by simp, List.getElem?_append_left (List.getElem?_eq_some_iff.mp he).1]; exact he)
  obtain ⟨sn, em⟩ := O.many x.toArray x.length a.length (by exact lin [_, _, _, _] (.f 1 (.a 0) (.p (.p (.p (.a 1) (.a 2)) (.a 3)) (.n 1)) <| .g 1 (.a 1) (.a 0)) (.refl true) hl) (by exact fun qq => lin [_, _, _, _, _] (.f 1 (.a 0) (.p (.p (.p (.a 1) (.a 2)) (.a 3)) (.n 1)) <| .h 1 (.a 0) (.p (.a 4) (.a 1)) <| .l 1 (.a 4) (.n 1) <| .z) (.refl true) hl (subA _ _) qq)
  unfold M.attemptFrom at em
  rw [if_neg (by rw [O.first _ rfl]; decide)] at em
  obtain ⟨sn', e'⟩ := admit_hit (m := { (mst code x.toArray x.length x.length a.length b a.length a.length #[none, none] (-1) (-1) true [] 0) with seen := sn }) (sn := sn) O.sz O.set ht1 hp hc h128 (by show _ < x.length; exact lin [_, _, _, _] (.f 1 (.a 0) (.p (.p (.p (.a 1) (.a 2)) (.a 3)) (.n 1)) <| .j 1 (.p (.a 1) (.a 2)) (.a 0)) (.refl true) hl) (fuel := x.length + 1 - a.length) (by exact lin [_, _, _, _, _] (.f 1 (.a 0) (.p (.p (.p (.a 1) (.a 2)) (.a 3)) (.n 1)) <| .h 1 (.p (.a 0) (.n 1)) (.p (.a 4) (.a 1)) <| .j 1 (.a 2) (.a 4)) (.refl true) hl (subA _ _))
  have e2 := em.trans (show _ = { (mst code x.toArray x.length x.length (a.length + pre.length) b (a.length + pre.length) (a.length + pre.length) #[none, none] (-1) (-1) true [{ wait := .nextStart, pc := b, pos := a.length + pre.length, outermost := true }] 1) with seen := sn' } by
    show (match M.admitted _ (x.length + 1 - a.length) a.length sn with
      | .ok (some s, seen) => _
      | .ok (none, seen) => _
      | .error why => _) = _
    rw [e']
    rfl)
  obtain ⟨b1, b2, b3⟩ := O.a0
  obtain ⟨c1, c2⟩ := O.a1
  obtain ⟨e, d1, d2, d3, d4, d5⟩ := O.a2
  have hch : x.toArray.getD (a.length + pre.length) 0 = c := (ht.drop).head
  have g1 := go_mark (m := mst code x.toArray x.length x.length (a.length + pre.length) b (a.length + pre.length) (a.length + pre.length) #[none, none] (-1) (-1) true [{ wait := .nextStart, pc := b, pos := a.length + pre.length, outermost := true }] 1) (i := 0) ⟨rfl, rfl, b1, b2⟩ b3 (show (0 : Int) ≤ -1 + 1 by decide)
  have g2 := g1.trans (go_in (op := .IN) ⟨rfl, rfl, c1, c2⟩ (.inl rfl) (by show a.length + pre.length < x.length; exact lin [_, _, _, _] (.f 1 (.a 0) (.p (.p (.p (.a 1) (.a 2)) (.a 3)) (.n 1)) <| .j 1 (.p (.a 1) (.a 2)) (.a 0)) (.refl true) hl) (by
    show Acc code (b + 2) (x.toArray.getD (a.length + pre.length) 0) true
    rw [hch]; exact O.acc c h128 hc))
  have g3 := g2.trans (go_mark (i := 1) ⟨rfl, rfl, by show b + 2 + itemWidth code (b + 2) < code.size; exact lin [_, _, _, _] (.e 1 (.p (.p (.a 0) (.n 2)) (.a 1)) (.a 2) <| .l 1 (.p (.a 2) (.n 2)) (.a 3) <| .j 1 (.p (.p (.a 0) (.n 2)) (.a 1)) (.a 3)) (.refl true) d1 d2, by show ops[code.getD (b + 2 + itemWidth code (b + 2)) 0]? = _; rw [d1]; exact d3⟩ (by show code.getD (b + 2 + itemWidth code (b + 2) + 1) 0 = 1; rw [d1]; exact d4) (show (1 : Int) ≤ 0 + 1 by decide))
  have g4 := g3.trans (go_success ⟨rfl, rfl, by show b + 2 + itemWidth code (b + 2) + 2 < code.size; exact lin [_, _, _, _] (.e 1 (.p (.p (.a 0) (.n 2)) (.a 1)) (.a 2) <| .l 1 (.p (.a 2) (.n 2)) (.a 3) <| .j 1 (.p (.p (.p (.a 0) (.n 2)) (.a 1)) (.n 2)) (.a 3)) (.refl true) d1 d2, by show ops[code.getD (b + 2 + itemWidth code (b + 2) + 2) 0]? = _; rw [d1]; exact d5⟩ rfl)
  obtain ⟨m', g, ho, t⟩ := g4.finish (fs := [_]) rfl rfl rfl (by intro f hf'; simp at hf'; rcases hf' with rfl; rfl)
  exact .of e2 g (Nat.le_of_ble_eq_true rfl) ⟨ho, t.start, t.handed, t.marks, t.lastmark, t.lastindex⟩

noncomputable def hitJ (c : Nat) : Bool := c == 34 || c == 92
noncomputable def hitW (c : Nat) : Bool := c == 38 || c == 124 || c == 126
theorem oneJ : OneSet codeJ hitJ 3 10 where
  few := fun text lim s hs h => by
    refine ⟨_, rfl, ?_⟩
    unfold Sre.forSearch
    dsimp only
    rw [show (Sre.header codeJ).1 = 1 from rfl, if_pos (by simp; omega)]
    exact ⟨rfl, rfl, rfl⟩
  many := fun text lim s hs h => by
    unfold Sre.forSearch
    dsimp only
    rw [show (Sre.header codeJ).1 = 1 from rfl, if_neg (by simp; omega)]
    exact ⟨_, rfl⟩
  first := fun m h => by unfold M.hasFirstSet; rw [h]; rfl
  sz := by decide
  set := fun c _ => by
    by_cases h1 : c = 34
    · subst h1; exact fun f sn => (InS.lit_eq (code := codeJ) (i := 5) rfl rfl) (f + 2) sn
    by_cases h2 : c = 92
    · subst h2; exact fun f sn => (InS.lit_ne (code := codeJ) (i := 5) rfl (by decide) (.lit_eq rfl rfl)) (f + 1) sn
    have e : hitJ c = false := by simp [hitJ, h1, h2]
    rw [e]
    exact .lit_ne rfl h1 (.lit_ne rfl h2 (.fail rfl))
  a0 := ⟨by decide, rfl, rfl⟩
  a1 := ⟨by decide, rfl⟩
  acc := fun c _ h => by
    have h' : c = 34 ∨ c = 92 := by simpa [hitJ] using h
    rcases h' with rfl | rfl
    · exact .of_in (d := 1) rfl (by decide) (.lit_eq rfl rfl)
    · exact .of_in (d := 2) rfl (by decide) (.lit_ne rfl (by decide) (.lit_eq rfl rfl))
  a2 := ⟨19, rfl, by decide, rfl, rfl, rfl⟩
theorem bitsW : ∀ c < 128, (decide (c < 256) && (codeW.getD (5 + (1 + c / 32)) 0).testBit (c % 32)) = hitW c := by decide +kernel
theorem bitsW' : ∀ c < 128, (decide (c < 256) && (codeW.getD (19 + (1 + c / 32)) 0).testBit (c % 32)) = hitW c := by decide +kernel
theorem oneW : OneSet codeW hitW 2 15 where
  few := fun text lim s hs h => by
    refine ⟨_, rfl, ?_⟩
    unfold Sre.forSearch
    dsimp only
    rw [show (Sre.header codeW).1 = 1 from rfl, if_pos (by simp; omega)]
    exact ⟨rfl, rfl, rfl⟩
  many := fun text lim s hs h => by
    unfold Sre.forSearch
    dsimp only
    rw [show (Sre.header codeW).1 = 1 from rfl, if_neg (by simp; omega)]
    exact ⟨_, rfl⟩
  first := fun m h => by unfold M.hasFirstSet; rw [h]; rfl
  sz := by decide
  set := fun c hc => by
    have hb := bitsW c hc
    cases h : hitW c with
    | true => exact fun f sn => (InS.set_yes (code := codeW) (i := 5) rfl (hb.trans h)) (f + 1) sn
    | false => exact .set_no rfl (hb.trans h) (.fail rfl)
  a0 := ⟨by decide, rfl, rfl⟩
  a1 := ⟨by decide, rfl⟩
  acc := fun c hc h => .of_in (d := 1) rfl (by decide) (.set_yes rfl ((bitsW' c hc).trans h))
  a2 := ⟨29, rfl, by decide, rfl, rfl, rfl⟩
end Mine
end
-- R7
section
open PySem PySem.Sre
namespace Mine

noncomputable def isTok (c : Nat) : Bool := decide (c < 256) && (codeF.getD (11 + (1 + c / 32)) 0).testBit (c % 32)
theorem accF (c : Nat) : Acc codeF 9 c (isTok c) := by
  cases h : isTok c with
  | true => exact .of_in (d := 1) rfl (by decide) (.set_yes rfl h)
  | false => exact .of_in (d := 2) rfl (by decide) (.set_no rfl h (.fail rfl))
noncomputable def fst (text : Array Nat) (lim pc p h : Nat) (fs : List Sre.Frame) (w : Nat) (ans : Option Bool) : M :=
  { code := codeF, text, lim, start := 0, wholeText := true, pc, pos := p, handed := h, marks := #[], frames := fs, weight := w, answer := ans }
theorem runsF {text : Array Nat} : ∀ (pre : List Nat) (p n c : Nat), TextAt text p (pre ++ [c]) → (∀ d ∈ pre, isTok d = true) → isTok c = false → pre.length < n → Runs codeF text 9 n p pre.length
  | [], p, n + 1, c, ht, _, hc, _ => .stop (by rw [ht.head]; have := accF c; rwa [hc] at this)
  | d :: pre, p, n + 1, c, ht, hp, hc, hn => by
    refine .more (by rw [ht.head]; have := accF d; rwa [hp d (List.mem_cons_self ..)] at this) (runsF pre (p + 1) n c ht.tail (fun e he => hp e (List.mem_cons_of_mem _ he)) hc ?_)
    have : pre.length + 1 < n + 1 := hn
    exact lin [_, _] (.l 1 (.p (.a 0) (.n 1)) (.p (.a 1) (.n 1)) <| .j 1 (.a 0) (.a 1)) (.refl true) this
  | [], _, 0, _, _, _, _, h => absurd h (Nat.not_lt_zero _)
  | _ :: _, _, 0, _, _, _, _, h => absurd h (Nat.not_lt_zero _)
theorem f_downs {text : Array Nat} {lim : Nat} : ∀ (j p h : Nat), p < lim → j + 1 ≤ p → ∃ m', Go (2 * j + 3) (fst text lim 22 p h [{ wait := .giveBack, pc := 5, pos := p, outermost := true, count := ((j + 1 : Nat) : Int) }] 1 none) m' ∧ m'.outcome = some .failed := by
  intro j
  induction j with
  | zero =>
    intro p h hp hj
    have g1 := go_success_no (m := fst text lim 22 p h [{ wait := .giveBack, pc := 5, pos := p, outermost := true, count := ((0 + 1 : Nat) : Int) }] 1 none) ⟨rfl, rfl, Nat.le_of_ble_eq_true rfl, rfl⟩ (by
      show (true && ((true && p != lim) || (false && _))) = true
      have : (p != lim) = true := by simp; exact fun qq => lin [_, _] (.l 1 (.a 0) (.a 1) <| .f 1 (.a 0) (.a 1) <| .z) (.refl true) hp qq
      rw [this]; rfl)
    have g2 := g1.trans (go_give_no rfl rfl rfl rfl rfl (show ((0 + 1 : Nat) : Int) - 1 < ((1 : Nat) : Int) by decide))
    have g3 := g2.trans (go_end rfl rfl rfl)
    exact ⟨_, g3, rfl⟩
  | succ j ih =>
    intro p h hp hj
    have g1 := go_success_no (m := fst text lim 22 p h [{ wait := .giveBack, pc := 5, pos := p, outermost := true, count := ((j + 1 + 1 : Nat) : Int) }] 1 none) ⟨rfl, rfl, Nat.le_of_ble_eq_true rfl, rfl⟩ (by
      show (true && ((true && p != lim) || (false && _))) = true
      have : (p != lim) = true := by simp; exact fun qq => lin [_, _] (.l 1 (.a 0) (.a 1) <| .f 1 (.a 0) (.a 1) <| .z) (.refl true) hp qq
      rw [this]; rfl)
    have g2 := g1.trans (go_give rfl rfl rfl rfl rfl (by
      show ¬ (((j + 1 + 1 : Nat) : Int) - 1 < ((1 : Nat) : Int))
      omega) (by show 1 - 1 + 1 ≤ _; exact lin [_] (.h 1 (.a 0) (.n 1) <| .g 1 (.p (.a 0) (.n 1)) (.n 16777216)) (.refl true) (subB _ _)))
    obtain ⟨m', g3, ho⟩ := ih (p - 1) (p - 1) (by exact lin [_, _, _] (.l 1 (.a 0) (.a 1) <| .h 1 (.a 2) (.a 0) <| .j 1 (.a 2) (.a 1)) (.refl true) hp (subB _ _)) (by exact lin [_, _, _] (.h 1 (.p (.p (.a 0) (.n 1)) (.n 1)) (.a 1) <| .h 1 (.a 1) (.p (.a 2) (.n 1)) <| .g 1 (.p (.a 0) (.n 1)) (.a 2)) (.refl true) hj (subA _ _))
    have e : ((j + 1 + 1 : Nat) : Int) - 1 = ((j + 1 : Nat) : Int) := by omega
    refine ⟨m', (g2.trans (?_ : Go (2 * j + 3) _ m')).cast (by exact Nat.le_antisymm (lin [_] (.g 1 (.p (.p (.m 2 (.a 0)) (.n 3)) (.p (.n 1) (.n 1))) (.p (.m 2 (.p (.a 0) (.n 1))) (.n 3))) (.refl true)) (lin [_] (.g 1 (.p (.m 2 (.p (.a 0) (.n 1))) (.n 3)) (.p (.p (.m 2 (.a 0)) (.n 3)) (.p (.n 1) (.n 1)))) (.refl true))), ho⟩
    have g4 : Go (2 * j + 3) (fst text lim 22 (p - 1) (p - 1) [{ wait := .giveBack, pc := 5, pos := p - 1, outermost := true, count := ((j + 1 + 1 : Nat) : Int) - 1 }] 1 none) m' := by rw [e]; exact g3
    exact g4
noncomputable def FullNo (x : List Nat) : Prop := ∃ k m', k ≤ 100000000 ∧ Go k (Sre.forMatch codeF x.toArray 0 0 x.length true false) m' ∧ m'.outcome = some .failed
theorem FullNo.of {x : List Nat} {k : Nat} {sn : Seen} {m₀ m' : M} (e0 : Sre.forMatch codeF x.toArray 0 0 x.length true false = { m₀ with seen := sn }) (g : Go k m₀ m') (hk : k ≤ 100000000) (ho : m'.outcome = some .failed) : FullNo x :=
  ⟨k, m', hk, by rw [e0]; exact fun sn => g sn, ho⟩
theorem f_fails {pre y : List Nat} {c : Nat} (hp : ∀ d ∈ pre, isTok d = true) (hc : isTok c = false) (hsz : (pre ++ c :: y).length ≤ 2000000) :
    FullNo (pre ++ c :: y) := by
  generalize hx : (pre ++ c :: y) = x at hsz
  have ht : TextAt x.toArray 0 (pre ++ [c]) := by
    intro i d e
    refine TextAt.of x i d ?_
    rw [← hx, show pre ++ c :: y = (pre ++ [c]) ++ y by simp, List.getElem?_append_left (List.getElem?_eq_some_iff.mp e).1]; exact e
  have hl : x.length = pre.length + y.length + 1 := by rw [← hx]; simp; exact Nat.le_antisymm (lin [_, _] (.g 1 (.p (.a 0) (.p (.a 1) (.n 1))) (.p (.p (.a 0) (.a 1)) (.n 1))) (.refl true)) (lin [_, _] (.g 1 (.p (.p (.a 0) (.a 1)) (.n 1)) (.p (.a 0) (.p (.a 1) (.n 1)))) (.refl true))
  generalize hlim : x.length = lim at hl hsz
  have hbig : lim < maxRepeat := by show _ < 4294967295; exact lin [_] (.h 1 (.a 0) (.n 2000000) <| .j 1 (.a 0) (.n 4294967295)) (.refl true) hsz
  have e0 : Sre.forMatch codeF x.toArray 0 0 lim true false = { fst x.toArray lim 5 0 0 [] 0 none with seen := ({} : Seen).add 14 } := by
    unfold Sre.forMatch
    dsimp only
    rw [show (Sre.header codeF).1 = 1 from rfl]
    rw [if_neg (by simp; exact fun qq => lin [_, _, _] (.f 1 (.a 0) (.p (.p (.a 1) (.a 2)) (.n 1)) <| .e 1 (.a 0) (.n 0) <| .z) (.refl true) hl qq)]
    rfl
  have hr := runsF (text := x.toArray) pre 0 lim c ht hp hc (by exact lin [_, _, _] (.f 1 (.a 0) (.p (.p (.a 1) (.a 2)) (.n 1)) <| .j 1 (.a 1) (.a 0)) (.refl true) hl)
  by_cases h0 : pre.length = 0
  · have g1 := go_repone_few (m := fst x.toArray lim 5 0 0 [] 0 none) (k := pre.length) ⟨rfl, rfl, Nat.le_of_ble_eq_true rfl, rfl⟩ (by show pre.length < 1; exact lin [_] (.e 1 (.a 0) (.n 0) <| .j 1 (.a 0) (.n 1)) (.refl true) h0) (Nat.zero_le _) rfl hbig hr
    have g2 := g1.trans (go_end rfl rfl rfl)
    subst hlim
    exact .of e0 g2 (by exact lin [] (.g 1 (.p (.n 1) (.n 1)) (.n 100000000)) (.refl true)) rfl
  · have g1 := go_repone (m := fst x.toArray lim 5 0 0 [] 0 none) (k := pre.length) ⟨rfl, rfl, Nat.le_of_ble_eq_true rfl, rfl⟩ (by show 1 ≤ pre.length; exact lin [_] (.l 1 (.n 0) (.a 0) <| .g 1 (.n 1) (.a 0)) (.refl true) (Nat.lt_of_le_of_ne (by exact lin [_] (.g 1 (.n 0) (.a 0)) (.refl true)) (Ne.symm h0))) (Nat.zero_le _) (by show pre.length ≤ lim - 0; exact lin [_, _, _, _] (.f 1 (.a 0) (.p (.p (.a 1) (.a 2)) (.n 1)) <| .h 1 (.a 0) (.p (.a 3) (.n 0)) <| .g 1 (.a 1) (.a 3)) (.refl true) hl (subA _ _)) rfl hbig hr (by show 0 + 1 + 0 ≤ _; exact lin [] (.g 1 (.p (.p (.n 0) (.n 1)) (.n 0)) (.n 16777216)) (.refl true))
    obtain ⟨m', g2, ho⟩ := f_downs (text := x.toArray) (lim := lim) (pre.length - 1) pre.length pre.length (by exact lin [_, _, _] (.f 1 (.a 0) (.p (.p (.a 1) (.a 2)) (.n 1)) <| .j 1 (.a 1) (.a 0)) (.refl true) hl) (by exact lin [_, _] (.e 1 (.p (.a 0) (.n 1)) (.a 1) <| .g 1 (.p (.a 0) (.n 1)) (.a 1)) (.refl true) (subC (by exact lin [_] (.l 1 (.n 0) (.a 0) <| .g 1 (.n 1) (.a 0)) (.refl true) (Nat.lt_of_le_of_ne (by exact lin [_] (.g 1 (.n 0) (.a 0)) (.refl true)) (Ne.symm h0)))))
    have e1 : pre.length - 1 + 1 = pre.length := by exact subC (by exact lin [_] (.l 1 (.n 0) (.a 0) <| .g 1 (.n 1) (.a 0)) (.refl true) (Nat.lt_of_le_of_ne (by exact lin [_] (.g 1 (.n 0) (.a 0)) (.refl true)) (Ne.symm h0)))
    rw [e1] at g2
    have g3 : Go (2 * (pre.length - 1) + 3) (fst x.toArray lim 22 (0 + pre.length) (0 + pre.length) [{ wait := .giveBack, pc := 5, pos := 0 + pre.length, outermost := true, count := (pre.length : Int) }] 1 none) m' := by rw [Nat.zero_add]; exact g2
    have g4 := g1.trans g3
    subst hlim
    exact .of e0 g4 (by exact lin [_, _, _, _] (.e 2 (.p (.a 0) (.n 1)) (.a 1) <| .f 2 (.a 2) (.p (.p (.a 1) (.a 3)) (.n 1)) <| .h 2 (.a 2) (.n 2000000) <| .g 1 (.p (.p (.m 2 (.a 0)) (.n 3)) (.n 1)) (.n 100000000)) (.refl true) e1 hl hsz) ho
end Mine
end
-- R8
section
open PySem PySem.Calls PyProof.Rows PySem.W
namespace Mine
namespace FR
theorem owner_Pattern : Manifest.owners.lookup (String.ofList ['n', 'r', 'e', 't', 't', 'a', 'P', '.', 'e', 'r'].reverse) = some Manifest.sig_re_Pattern := by kernel_rfl
theorem owner_Match : Manifest.owners.lookup (String.ofList ['h', 'c', 't', 'a', 'M', '.', 'e', 'r'].reverse) = some Manifest.sig_re_Match := by kernel_rfl
theorem plain_Pattern : PlainAttrs "re.Pattern" := ⟨⟨"object.__getattribute__", by rw [typeLookup_type, builtinLookup_eq_fast]; kernel_rfl, by decide +kernel⟩, by rw [typeLookup_type, builtinLookup_eq_fast]; kernel_rfl⟩
theorem plain_Match : PlainAttrs "re.Match" := ⟨⟨"object.__getattribute__", by rw [typeLookup_type, builtinLookup_eq_fast]; kernel_rfl, by decide +kernel⟩, by rw [typeLookup_type, builtinLookup_eq_fast]; kernel_rfl⟩
theorem slot_search : Slot "re.Pattern" "search" "re.Pattern.search" :=
  .of (owner := "re.Pattern") (n := "search") (by rw [typeLookup_type, builtinLookup_eq_fast]; kernel_rfl) (by decide +kernel) (by decide +kernel) (by decide +kernel)
    (by first | exact .inl (by decide +kernel) | exact .inr (by decide +kernel)) (by rw [isSubtype_type]; kernel_rfl)
theorem type_search : typeOf (.builtin "re.Pattern.search") = pure (.type "method_descriptor") := by show builtinType _ = _; rw [builtinType_eq_fast]; kernel_rfl
theorem entry_search : entryFor table "re.Pattern.search" = some Builtin.«re.Pattern.search» := entryFor_of_tree (by kernel_rfl)
theorem args_search (a b : Value) : argsOk "re.Pattern.search" ⟨[a, b], []⟩ := by
  unfold argsOk; rw [signature?_of (id := "re.Pattern.search") (n := ['h', 'c', 'r', 'a', 'e', 's']) (o := ['n', 'r', 'e', 't', 't', 'a', 'P', '.', 'e', 'r']) (by kernel_rfl) owner_Pattern]; kernel_rfl
theorem slot_fullmatch : Slot "re.Pattern" "fullmatch" "re.Pattern.fullmatch" :=
  .of (owner := "re.Pattern") (n := "fullmatch") (by rw [typeLookup_type, builtinLookup_eq_fast]; kernel_rfl) (by decide +kernel) (by decide +kernel) (by decide +kernel)
    (by first | exact .inl (by decide +kernel) | exact .inr (by decide +kernel)) (by rw [isSubtype_type]; kernel_rfl)
theorem type_fullmatch : typeOf (.builtin "re.Pattern.fullmatch") = pure (.type "method_descriptor") := by show builtinType _ = _; rw [builtinType_eq_fast]; kernel_rfl
theorem entry_fullmatch : entryFor table "re.Pattern.fullmatch" = some Builtin.«re.Pattern.fullmatch» := entryFor_of_tree (by kernel_rfl)
theorem args_fullmatch (a b : Value) : argsOk "re.Pattern.fullmatch" ⟨[a, b], []⟩ := by
  unfold argsOk; rw [signature?_of (id := "re.Pattern.fullmatch") (n := ['h', 'c', 't', 'a', 'm', 'l', 'l', 'u', 'f']) (o := ['n', 'r', 'e', 't', 't', 'a', 'P', '.', 'e', 'r']) (by kernel_rfl) owner_Pattern]; kernel_rfl
theorem slot_sub : Slot "re.Pattern" "sub" "re.Pattern.sub" :=
  .of (owner := "re.Pattern") (n := "sub") (by rw [typeLookup_type, builtinLookup_eq_fast]; kernel_rfl) (by decide +kernel) (by decide +kernel) (by decide +kernel)
    (by first | exact .inl (by decide +kernel) | exact .inr (by decide +kernel)) (by rw [isSubtype_type]; kernel_rfl)
theorem type_sub : typeOf (.builtin "re.Pattern.sub") = pure (.type "method_descriptor") := by show builtinType _ = _; rw [builtinType_eq_fast]; kernel_rfl
theorem entry_sub : entryFor table "re.Pattern.sub" = some Builtin.«re.Pattern.sub» := entryFor_of_tree (by kernel_rfl)
theorem entry_loop : entryFor table "re.Pattern.sub.loop" = some Builtin.«re.Pattern.sub.loop» := entryFor_of_tree (by kernel_rfl)
theorem args_sub (a b c : Value) : argsOk "re.Pattern.sub" ⟨[a, b, c], []⟩ := by
  unfold argsOk; rw [signature?_of (id := "re.Pattern.sub") (n := ['b', 'u', 's']) (o := ['n', 'r', 'e', 't', 't', 'a', 'P', '.', 'e', 'r']) (by kernel_rfl) owner_Pattern]; kernel_rfl
theorem slot_group : Slot "re.Match" "group" "re.Match.group" :=
  .of (owner := "re.Match") (n := "group") (by rw [typeLookup_type, builtinLookup_eq_fast]; kernel_rfl) (by decide +kernel) (by decide +kernel) (by decide +kernel)
    (by first | exact .inl (by decide +kernel) | exact .inr (by decide +kernel)) (by rw [isSubtype_type]; kernel_rfl)
theorem type_group : typeOf (.builtin "re.Match.group") = pure (.type "method_descriptor") := by show builtinType _ = _; rw [builtinType_eq_fast]; kernel_rfl
theorem entry_group : entryFor table "re.Match.group" = some Builtin.«re.Match.group» := entryFor_of_tree (by kernel_rfl)
theorem args_group (a b : Value) : argsOk "re.Match.group" ⟨[a, b], []⟩ := by
  unfold argsOk; rw [signature?_of (id := "re.Match.group") (n := ['p', 'u', 'o', 'r', 'g']) (o := ['h', 'c', 't', 'a', 'M', '.', 'e', 'r']) (by kernel_rfl) owner_Match]; kernel_rfl
theorem slot_span : Slot "re.Match" "span" "re.Match.span" :=
  .of (owner := "re.Match") (n := "span") (by rw [typeLookup_type, builtinLookup_eq_fast]; kernel_rfl) (by decide +kernel) (by decide +kernel) (by decide +kernel)
    (by first | exact .inl (by decide +kernel) | exact .inr (by decide +kernel)) (by rw [isSubtype_type]; kernel_rfl)
theorem type_span : typeOf (.builtin "re.Match.span") = pure (.type "method_descriptor") := by show builtinType _ = _; rw [builtinType_eq_fast]; kernel_rfl
theorem entry_span : entryFor table "re.Match.span" = some Builtin.«re.Match.span» := entryFor_of_tree (by kernel_rfl)
theorem args_span (a b : Value) : argsOk "re.Match.span" ⟨[a, b], []⟩ := by
  unfold argsOk; rw [signature?_of (id := "re.Match.span") (n := ['n', 'a', 'p', 's']) (o := ['h', 'c', 't', 'a', 'M', '.', 'e', 'r']) (by kernel_rfl) owner_Match]; kernel_rfl
end FR
theorem M_search : Meth "re.Pattern" "search" "re.Pattern.search" := ⟨FR.plain_Pattern, FR.slot_search, FR.type_search⟩
theorem M_fullmatch : Meth "re.Pattern" "fullmatch" "re.Pattern.fullmatch" := ⟨FR.plain_Pattern, FR.slot_fullmatch, FR.type_fullmatch⟩
theorem M_sub : Meth "re.Pattern" "sub" "re.Pattern.sub" := ⟨FR.plain_Pattern, FR.slot_sub, FR.type_sub⟩
theorem M_group : Meth "re.Match" "group" "re.Match.group" := ⟨FR.plain_Match, FR.slot_group, FR.type_group⟩
theorem M_span : Meth "re.Match" "span" "re.Match.span" := ⟨FR.plain_Match, FR.slot_span, FR.type_span⟩
end Mine
end
-- R9
section
open PySem PySem.Calls PyProof.Rows PySem.W
namespace Mine
open Builtin.Re

theorem runFor_some : ∀ (n : Nat) (m : Sre.M), m.outcome.isSome = true → Sre.M.runFor n m = m
  | 0, _, _ => rfl
  | n + 1, m, h => by rw [Sre.M.runFor, if_pos h]
theorem runFor_add : ∀ (a b : Nat) (m : Sre.M), Sre.M.runFor (a + b) m = Sre.M.runFor b (Sre.M.runFor a m)
  | 0, b, m => by rw [Nat.zero_add]; rfl
  | a + 1, b, m => by
    rw [Nat.add_right_comm, Sre.M.runFor, Sre.M.runFor]
    split
    · rename_i h; rw [runFor_some b m h]
    · exact runFor_add a b _

section
variable {prog : Program} {C : Cx} {A : Around} {s₀ s : Shared} {L a : Addr} {m : Str → Option Value} {led : List (Addr × Cell)} {fd : FuncData} {env : Env}

theorem w_drive {F : Sre.M} (hF : F.outcome.isSome = true) {Q : Sre.M → Shared → Prop} (h : Q F s) : ∀ (T k : Nat) (m : Sre.M), (∀ n, Sre.M.runFor (n + k) m = F) → k ≤ 4 * T → 0 < T → W prog C A (reDrive T m) Q s
  | 0, _, _, _, _, h0 => absurd h0 (Nat.lt_irrefl 0)
  | T + 1, k, m, hk, hle, _ => by
    rw [reDrive]
    by_cases ho : (Sre.M.runFor reTurnSteps m).outcome.isSome = true
    · rw [if_pos ho]
      have e : Sre.M.runFor reTurnSteps m = F := by
        rw [← hk 4, Nat.add_comm 4 k, Nat.add_comm k 4, runFor_add]
        exact (runFor_some k _ ho).symm
      rw [e]; exact W.pure h
    · rw [if_neg ho]
      refine ⟨wpAny_bind (wpAny_rule ?_)⟩
      have h4 : 4 ≤ k := by
        refine Nat.le_of_not_lt fun q => ho ?_
        have := hk (4 - k)
        rw [Nat.sub_add_cancel (Nat.le_of_lt q)] at this
        show (Sre.M.runFor 4 m).outcome.isSome = true
        rw [this]; exact hF
      refine (w_drive hF h T (k - 4) (Sre.M.runFor 4 m) (fun n => ?_) (by exact lin [_, _, _] (.h 1 (.a 0) (.m 4 (.p (.a 1) (.n 1))) <| .e 1 (.p (.a 2) (.n 4)) (.a 0) <| .g 1 (.a 2) (.m 4 (.a 1))) (.refl true) hle (subC (by exact h4))) (by
        refine Nat.pos_of_ne_zero fun q => ho ?_
        subst q
        have e4 : k = 4 := by exact Nat.le_antisymm (lin [_] (.h 1 (.a 0) (.m 4 (.p (.n 0) (.n 1))) <| .g 1 (.a 0) (.n 4)) (.refl true) hle) (h4)
        have := hk 0
        rw [e4, Nat.zero_add] at this
        show (Sre.M.runFor 4 m).outcome.isSome = true
        rw [this]; exact hF)).out
      rw [← runFor_add, show 4 + (n + (k - 4)) = n + k by exact Nat.le_antisymm (lin [_, _, _] (.e 1 (.p (.a 0) (.n 4)) (.a 1) <| .g 1 (.p (.n 4) (.p (.a 2) (.a 0))) (.p (.a 2) (.a 1))) (.refl true) (subC (by exact h4))) (lin [_, _, _] (.h 1 (.a 0) (.p (.a 1) (.n 4)) <| .g 1 (.p (.a 2) (.a 0)) (.p (.n 4) (.p (.a 2) (.a 1)))) (.refl true) (subA _ _))]
      exact hk n
theorem w_run {m m' : Sre.M} {k : Nat} {Q : Option Sre.M → Shared → Prop} (hk : k ≤ 100000000) (g : Go k m m') (ho : m'.outcome = some .matched ∧ (∀ sn, Q (some { m' with seen := sn }) s) ∨ m'.outcome = some .failed ∧ Q none s) : W prog C A (reRunToEnd m) Q s := by
  obtain ⟨sn', hg⟩ := g m.seen
  have hs : m'.outcome.isSome = true := by rcases ho with h | h <;> rw [h.1] <;> rfl
  have hF : ∀ n, Sre.M.runFor (n + k) m = { m' with seen := sn' } := fun n => (hg n).trans (runFor_some n _ hs)
  unfold reRunToEnd
  refine ⟨wpAny_bind (w_drive (F := { m' with seen := sn' }) hs (?_ : wpAny _ A _ Q (fun _ _ => False) s) (2 ^ 64) k m hF (by exact lin [_] (.h 1 (.a 0) (.n 100000000) <| .g 1 (.a 0) (.m 4 (.n 18446744073709551616))) (.refl true) hk) (by decide)).out⟩
  refine wpAny_bind (wpAny_forIn_list _ (fun _ _ s' => s' = s) _ (fun i rest b s' hs' => ?_) (fun b s' hs' => ?_) _ _ rfl)
  · subst hs'
    refine wpAny_ite ?_
    split
    · exact wpAny_bind (wpAny_rule (wpAny_pure rfl))
    · exact wpAny_pure rfl
  · subst hs'
    rcases ho with ⟨h1, h2⟩ | ⟨h1, h2⟩
    · simp only [h1]
      exact wpAny_pure (by have := h2 sn'; rw [h1] at this; exact this)
    · simp only [h1]
      exact wpAny_pure h2

/-! the pattern objects -/
noncomputable def PatAt (h : Heap) (a : Addr) (code : Array Nat) (groups : Nat) : Prop := ∃ pt tk fl tf c items n, h.get? a = some { cls := .type "re.Pattern", data := .fields #[.str pt tk, .int fl tf, .int (groups : Int) 0, .none, .none, .ref c, .int 0 0] } ∧
  h.get? c = some { cls := .type "tuple", data := .seq items n } ∧ (items.map reRawOf).map (·.toNat) = code
theorem Prog.patT (P : Prog C s) : PatAt s.heap 48 codeT 1 := ⟨_, _, _, _, _, _, _, P.X _ _ (by rfl), P.X _ _ (by rfl), by decide +kernel⟩
theorem Prog.patQ (P : Prog C s) : PatAt s.heap 53 codeQ 1 := ⟨_, _, _, _, _, _, _, P.X _ _ (by rfl), P.X _ _ (by rfl), by decide +kernel⟩
theorem Prog.patE (P : Prog C s) : PatAt s.heap 63 codeE 1 := ⟨_, _, _, _, _, _, _, P.X _ _ (by rfl), P.X _ _ (by rfl), by decide +kernel⟩
theorem Prog.patF (P : Prog C s) : PatAt s.heap 75 codeF 0 := ⟨_, _, _, _, _, _, _, P.X _ _ (by rfl), P.X _ _ (by rfl), by decide +kernel⟩
theorem Prog.patJ (P : Prog C s) : PatAt s.heap 80 codeJ 1 := ⟨_, _, _, _, _, _, _, P.X _ _ (by rfl), P.X _ _ (by rfl), by decide +kernel⟩
theorem Prog.patW (P : Prog C s) : PatAt s.heap 99 codeW 1 := ⟨_, _, _, _, _, _, _, P.X _ _ (by rfl), P.X _ _ (by rfl), by decide +kernel⟩

theorem named_search (v : Value) : reNamed "re.Pattern.search" "search" ["string", "pos", "endpos"] 1 [v] [] = pure [some v, none, none] := rfl
theorem named_fullmatch (v : Value) : reNamed "re.Pattern.fullmatch" "fullmatch" ["string", "pos", "endpos"] 1 [v] [] = pure [some v, none, none] := rfl
theorem named_sub (v u : Value) : reNamed "re.Pattern.sub" "sub" ["repl", "string", "count"] 2 [v, u] [] = pure [some v, some u, none] := rfl
theorem noColl (v : Value) : reNoCollectionInside v 0 = pure () := rfl

theorem w_target {id f : String} {a : Addr} {code : Array Nat} {groups : Nat} {x : List Nat} {t : Tok} {Q : ReTarget → Shared → Prop} (hn : reNamed id f ["string", "pos", "endpos"] 1 [.str (S x) t] [] = pure [some (.str (S x) t), none, none]) (hp : PatAt s.heap a code groups) (hx : x.length < 2 ^ 62)
    (h : Q { pattern := .ref a, string := .str (S x) t, code, text := x.toArray, kind := 0, groups, pos := 0, lim := x.length } s) : W prog C A (reTarget id f ⟨[.ref a, .str (S x) t], []⟩) Q s := by
  obtain ⟨pt, tk, fl, tf, c, items, n, e1, e2, e3⟩ := hp
  unfold reTarget
  dsimp only
  rw [hn]
  refine ⟨wpAny_bind (wpAny_pure ?_)⟩
  dsimp only
  refine wpAny_bind (wpAny_pure (wpAny_bind (wpAny_pure (wpAny_bind (wpAny_fieldsOf e1 rfl ?_)))))
  refine wpAny_bind (m := reTextOf (.str (S x) t)) (wpAny_pure (a := ((S x).cps, 0)) ?_)
  dsimp only
  refine wpAny_bind (m := reRawItems (.ref c)) (wpAny_bind (wpAny_seqItems e2 rfl (wpAny_pure ?_)))
  refine wpAny_pure ?_
  have e4 : min (2 ^ 63 - 1 : Int).toNat x.toArray.size = x.length := by
    rw [List.size_toArray, Nat.min_eq_right]
    omega
  show Q { pattern := .ref a, string := .str (S x) t, code := (items.map reRawOf).map (·.toNat), text := x.toArray, kind := 0, groups := reRawNat (.int (groups : Int) 0), pos := min (0 : Int).toNat x.toArray.size, lim := min (2 ^ 63 - 1 : Int).toNat x.toArray.size } s
  rw [e3, e4, show min (0 : Int).toNat x.toArray.size = 0 from Nat.zero_min _]
  exact h

/-! a match -/
noncomputable def spanVals (j e b b' : Nat) : List Value := [.int (j : Int) 0, .int (e : Int) 0, .int (b : Int) 0, .int (b' : Int) 0]
noncomputable abbrev matchObj (string pattern : Value) (lim : Nat) (tp : Addr) : Obj := { cls := .type "re.Match", data := .fields #[string, pattern, .int 0 0, .int (lim : Int) 0, .int 1 0, .ref tp] }
noncomputable abbrev matchCell (string pattern : Value) (lim : Nat) (tp : Addr) : Cell := .obj (matchObj string pattern lim tp)
theorem match_fld {h : Heap} {a : Addr} {string pattern : Value} {lim : Nat} {tp : Addr} (x : (matchCell string pattern lim tp).At h a) :
    ∃ o, h.get? a = some o ∧ o.cls = .type "re.Match" ∧ o.data = .fields #[string, pattern, .int 0 0, .int (lim : Int) 0, .int 1 0, .ref tp] := ⟨_, x.1, rfl, rfl⟩
theorem match_at {h : Heap} {a : Addr} {string pattern : Value} {lim : Nat} {tp : Addr} (e : h.get? a = some (matchObj string pattern lim tp)) : (matchCell string pattern lim tp).At h a := ⟨e, (fun ⟨_, _, q⟩ => nomatch q), by simp⟩

theorem w_newMatch {string pattern : Value} {lim j e b b' : Nat} {mm : Sre.M} {Q : Value → Shared → Prop} (D : Led C s₀ L m led s) (h1 : mm.start = j) (h2 : mm.handed = e) (h3 : mm.marks = #[some b, some b']) (h4 : mm.lastmark = 1) (h5 : mm.lastindex = 1) (hb : b ≤ b')
    (h : ∀ mt tp s', Led C s₀ L m ((mt, matchCell string pattern lim tp) :: (tp, .tup (spanVals j e b b')) :: led) s' → Q (.ref mt) s') : W prog C A (reNewMatch pattern string 1 0 lim mm) Q s := by
  unfold reNewMatch
  rw [h1, h2, h3, h4, h5]
  refine ⟨?_⟩
  show wpAny _ A (if (([0] : List Nat).any fun g => _) = true then _ else _) _ _ s
  rw [if_neg (by
    show ¬ ((((2 * 0 + 1 : Nat) : Int) ≤ 1) && decide (b' < b) || false) = true
    have : decide (b' < b) = false := decide_eq_false (by exact fun qq => lin [_, _] (.h 1 (.a 0) (.a 1) <| .l 1 (.a 1) (.a 0) <| .z) (.refl true) hb qq)
    rw [this]; decide)]
  refine wpAny_bind (wpAny_newTuple ?_ (by show 4 ≤ _; decide))
  refine wpAny_newObj_type ?_ (by show 6 ≤ _; decide)
  have D1 := D.new (.tup (spanVals j e b b')) (tk := s.toks) (h' := s.heap.push { cls := .type "tuple", data := .seq (spanVals j e b b').toArray }) (fun _ _ e => Heap.get?_push_of_some _ e) (Nat.le_refl _) ⟨0, Heap.get?_push_size _ rfl⟩ (Nat.le_refl _)
  refine h _ _ _ (D1.new (matchCell string pattern lim s.heap.objs.size) (tk := s.toks) (fun _ _ e => Heap.get?_push_of_some _ e) (Nat.le_refl _) (match_at (Heap.get?_push_size _ rfl)) (Nat.le_refl _))

theorem r_search {a : Addr} {code : Array Nat} {x : List Nat} {t : Tok} {j e b b' : Nat} {Q : Value → Shared → Prop} (D : Led C s₀ L m led s) (hp : PatAt s.heap a code 1) (hx : x.length < 2 ^ 62) (hf : Finds code x 0 (some (j, e, b, b'))) (hb : b ≤ b')
    (h : ∀ mt tp s', Led C s₀ L m ((mt, matchCell (.str (S x) t) (.ref a) x.length tp) :: (tp, .tup (spanVals j e b b')) :: led) s' → Q (.ref mt) s') : W prog C A (call (.builtin "re.Pattern.search") [.ref a, .str (S x) t]) Q s := by
  have hT : s.TypeIs (.ref a) "re.Pattern" := by obtain ⟨pt, tk, fl, tf, c, items, n, e1, _⟩ := hp; exact ⟨_, e1, rfl⟩
  refine ⟨wpAny_call_entry FR.slot_search hT FR.entry_search ?_ (FR.args_search _ _)⟩
  unfold Builtin.«re.Pattern.search»
  refine wpAny_bind (w_target (named_search _) hp hx ?_).out
  unfold reAnswer
  obtain ⟨k, m', hk, g, ho, h1, h2, h3, h4, h5⟩ := hf
  refine wpAny_bind (w_run hk g (.inl ⟨ho, fun sn => ?_⟩)).out
  dsimp only
  refine wpAny_bind (w_newMatch (mm := { m' with seen := sn }) D h1 h2 h3 h4 h5 hb fun mt tp s' D => wpAny_pure ⟨_, rfl, h mt tp s' D⟩).out
theorem r_full_no {a : Addr} {x : List Nat} {t : Tok} {Q : Value → Shared → Prop} (hp : PatAt s.heap a codeF 0) (hx : x.length < 2 ^ 62) (hf : FullNo x)
    (h : Q .none s) : W prog C A (call (.builtin "re.Pattern.fullmatch") [.ref a, .str (S x) t]) Q s := by
  have hT : s.TypeIs (.ref a) "re.Pattern" := by obtain ⟨pt, tk, fl, tf, c, items, n, e1, _⟩ := hp; exact ⟨_, e1, rfl⟩
  refine ⟨wpAny_call_entry FR.slot_fullmatch hT FR.entry_fullmatch ?_ (FR.args_fullmatch _ _)⟩
  unfold Builtin.«re.Pattern.fullmatch»
  refine wpAny_bind (w_target (named_fullmatch _) hp hx ?_).out
  unfold reAnswer
  obtain ⟨k, m', hk, g, ho⟩ := hf
  refine wpAny_bind (w_run hk g (.inr ⟨ho, ?_⟩)).out
  exact wpAny_pure ⟨_, rfl, h⟩
end
end Mine
end
-- R10
section
open PySem PySem.Calls PyProof.Rows PySem.W
namespace Mine
open Builtin.Re
section
variable {prog : Program} {C : Cx} {A : Around} {s₀ s : Shared} {L a : Addr} {m : Str → Option Value} {led : List (Addr × Cell)} {fd : FuncData} {env : Env}

theorem rawSpans (j e b b' : Nat) : (spanVals j e b b').toArray.map reRawOf = #[(j : Int), (e : Int), (b : Int), (b' : Int)] := by simp [spanVals, reRawOf]
theorem w_found {mt tp : Addr} {string pattern : Value} {lim j e b b' : Nat} {Q : ReFound → Shared → Prop} (hm : (matchCell string pattern lim tp).At s.heap mt) (ht : (Cell.tup (spanVals j e b b')).At s.heap tp)
    (h : Q ⟨#[string, pattern, .int 0 0, .int (lim : Int) 0, .int 1 0, .ref tp], #[(j : Int), (e : Int), (b : Int), (b' : Int)]⟩ s) : W prog C A (reFound (.ref mt)) Q s := by
  obtain ⟨o, ho, hc, hd⟩ := match_fld hm
  obtain ⟨n, hn⟩ := ht
  unfold reFound
  refine ⟨wpAny_bind (wpAny_fieldsOf ho hd ?_)⟩
  refine wpAny_bind (m := reRawItems (.ref tp)) (wpAny_bind (wpAny_seqItems hn rfl (wpAny_pure ?_)))
  refine wpAny_pure ?_
  show Q ⟨_, (spanVals j e b b').toArray.map reRawOf⟩ s
  rw [rawSpans]
  exact h
theorem r_group1 {mt tp : Addr} {x : List Nat} {t u : Tok} {pattern : Value} {lim j e b b' : Nat} {Q : Value → Shared → Prop} (D : Led C s₀ L m led s) (hm : (matchCell (.str (S x) t) pattern lim tp).At s.heap mt) (ht : (Cell.tup (spanVals j e b b')).At s.heap tp) (hx : x.length ≤ sizeLine)
    (h : ∀ t s', Led C s₀ L m led s' → Q (.str (S ((x.take b').drop b)) t) s') : W prog C A (call (.builtin "re.Match.group") [.ref mt, .int 1 u]) Q s := by
  have hT : s.TypeIs (.ref mt) "re.Match" := by obtain ⟨o, ho, hc, _⟩ := match_fld hm; exact ⟨_, ho, hc⟩
  refine ⟨wpAny_call_entry FR.slot_group hT FR.entry_group ?_ (FR.args_group _ _)⟩
  unfold Builtin.«re.Match.group»
  refine wpAny_bind (m := noKeywords _ _) (wpAny_pure ?_)
  refine wpAny_bind (w_found hm ht ?_).out
  dsimp only
  refine wpAny_bind (m := reGroupNumber _ _) (wpAny_pure (a := 1) ?_)
  refine wpAny_bind (m := reGroupText _ _ _) ?_
  show wpAny _ _ (if (decide ((b : Int) < 0) || decide ((b' : Int) < 0)) = true then pure Value.none else (do let (text, kind) ← reTextOf (.str (S x) t); reSlice text kind (b : Int).toNat (b' : Int).toNat)) _ _ s
  rw [if_neg (by simp)]
  refine wpAny_bind (wpAny_pure (a := ((S x).cps, 0)) ?_)
  have e : ((S x).cps.extract (b : Int).toNat (b' : Int).toNat) = ((x.take b').drop b).toArray := by
    apply Array.ext'
    simp [List.drop_take]
  show wpAny _ _ (mkStr ⟨(S x).cps.extract (b : Int).toNat (b' : Int).toNat⟩) _ _ s
  rw [e]
  refine wpAny_mkStr (wpAny_pure ⟨_, rfl, h _ _ D.tok1⟩) ?_
  rw [S_len]; simp; omega
theorem r_span0 {mt tp : Addr} {x : List Nat} {t u : Tok} {pattern : Value} {lim j e b b' : Nat} {Q : Value → Shared → Prop} (D : Led C s₀ L m led s) (hm : (matchCell (.str (S x) t) pattern lim tp).At s.heap mt) (ht : (Cell.tup (spanVals j e b b')).At s.heap tp)
    (h : ∀ c t1 t2 s', Led C s₀ L m ((c, .tup [.int (j : Int) t1, .int (e : Int) t2]) :: led) s' → Q (.ref c) s') : W prog C A (call (.builtin "re.Match.span") [.ref mt, .int 0 u]) Q s := by
  have hT : s.TypeIs (.ref mt) "re.Match" := by obtain ⟨o, ho, hc, _⟩ := match_fld hm; exact ⟨_, ho, hc⟩
  refine ⟨wpAny_call_entry FR.slot_span hT FR.entry_span ?_ (FR.args_span _ _)⟩
  unfold Builtin.«re.Match.span»
  refine wpAny_bind (m := reOneGroup _ _ _) ?_
  unfold reOneGroup
  refine wpAny_bind (m := selfAndSome _ _ _ _ _) (wpAny_pure (a := (Value.ref mt, [Value.int 0 u])) ?_)
  refine wpAny_bind (w_found hm ht ?_).out
  refine wpAny_bind (m := reGroupNumber _ _) (wpAny_pure (a := 0) ?_)
  refine wpAny_pure ?_
  refine wpAny_bind (wpAny_mkInt (wpAny_bind (wpAny_mkInt (wpAny_bind (wpAny_newTuple ?_ (by show 2 ≤ _; decide))))))
  refine wpAny_pure ⟨_, rfl, h _ _ _ _ ((D.toks (s.toks + 1 + 1) (by exact lin [_] (.g 1 (.a 0) (.p (.p (.a 0) (.n 1)) (.n 1))) (.refl true))).new (.tup [.int (j : Int) s.toks, .int (e : Int) (s.toks + 1)]) (tk := s.toks + 1 + 1) (fun _ _ e => Heap.get?_push_of_some _ e) (Nat.le_refl _) ⟨0, Heap.get?_push_size _ rfl⟩ (Nat.le_refl _))⟩
end
end Mine
end
-- R11
section
open PySem PySem.Calls PyProof.Rows PySem.W
namespace Mine
namespace FR
theorem type_string : typeOf (.builtin "re.Match.string") = pure (.type "member_descriptor") := by show builtinType _ = _; rw [builtinType_eq_fast]; kernel_rfl
theorem lk_string : typeLookup (.type "re.Match") "string" = pure (some (.builtin "re.Match.string")) := by rw [typeLookup_type, builtinLookup_eq_fast]; kernel_rfl
theorem slot_ga : Slot "re.Match" "__getattribute__" "object.__getattribute__" :=
  .of (owner := "object") (n := "__getattribute__") (by rw [typeLookup_type, builtinLookup_eq_fast]; kernel_rfl) (by decide +kernel) (by decide +kernel) (by decide +kernel)
    (by first | exact .inl (by decide +kernel) | exact .inr (by decide +kernel)) (by rw [isSubtype_type]; kernel_rfl)
theorem entry_ga : entryFor table "object.__getattribute__" = some Builtin.«object.__getattribute__» := entryFor_of_tree (by kernel_rfl)
theorem args_ga (a b : Value) : argsOk "object.__getattribute__" ⟨[a, b], []⟩ := by unfold argsOk; kernel_rfl
theorem slot_md_get : Slot "member_descriptor" "__get__" "member_descriptor.__get__" :=
  .of (owner := "member_descriptor") (n := "__get__") (by rw [typeLookup_type, builtinLookup_eq_fast]; kernel_rfl) (by decide +kernel) (by decide +kernel) (by decide +kernel)
    (by first | exact .inl (by decide +kernel) | exact .inr (by decide +kernel)) (by rw [isSubtype_type]; kernel_rfl)
theorem slot_md_set : Slot "member_descriptor" "__set__" "member_descriptor.__set__" :=
  .of (owner := "member_descriptor") (n := "__set__") (by rw [typeLookup_type, builtinLookup_eq_fast]; kernel_rfl) (by decide +kernel) (by decide +kernel) (by decide +kernel)
    (by first | exact .inl (by decide +kernel) | exact .inr (by decide +kernel)) (by rw [isSubtype_type]; kernel_rfl)
theorem entry_md_get : entryFor table "member_descriptor.__get__" = some Builtin.«member_descriptor.__get__» := entryFor_of_tree (by kernel_rfl)
theorem args_md_get (a b c : Value) : argsOk "member_descriptor.__get__" ⟨[a, b, c], []⟩ := by unfold argsOk; kernel_rfl
theorem entry_string : entryFor table "re.Match.string" = some Builtin.«re.Match.string» := entryFor_of_tree (by kernel_rfl)
theorem owner_string : (".".intercalate ("re.Match.string".cutAt '.').dropLast) = "re.Match" := by decide +kernel
theorem sub_string : isSubtype (.type "re.Match") (.type (".".intercalate ("re.Match.string".cutAt '.').dropLast)) = pure true := by
  rw [owner_string, isSubtype_type]; kernel_rfl
end FR

section
variable {prog : Program} {w : World} {A : Around} {E : Value → Shared → Prop} {h : Heap} {g : Array GenState} {d : Drawn} {t : Nat} {os : OsState} {a : Addr} {o : Obj} {fs : Array Value} {v : Value}

theorem string_get {R : Result → Shared → Prop} (hx : h.get? a = some o) (hc : o.cls = .type "re.Match") (hd : o.data = .fields fs) (h0 : fs[0]? = some v) (hq : R (.ok (.ret v)) ⟨h, g, d, t, os⟩) :
    codeAny (model prog w) A (.call (.builtin "member_descriptor.__get__") ⟨[.builtin "re.Match.string", .ref a, .type "re.Match"], []⟩) R ⟨h, g, d, t, os⟩ := by
  have hT : (⟨h, g, d, t, os⟩ : Shared).TypeIs (.ref a) "re.Match" := ⟨_, hx, hc⟩
  have hT5 : (⟨h, g, d, t, os⟩ : Shared).TypeIs (.builtin "re.Match.string") "member_descriptor" := FR.type_string
  have f8 := FR.sub_string
  refine codeAny_call_builtin FR.slot_md_get.plain FR.entry_md_get (FR.slot_md_get.check _ _ _ _ _ _ _ _ hT5 (FR.args_md_get _ _ _) ?_)
  repeat (any_goals (first | assumption | wp_step))
  refine ⟨Code.quiet_builtin _ (by decide +kernel), codeAny_builtin FR.entry_string ?_⟩
  show wpAny _ _ (field (.ref a) 0 >>= _) _ _ _
  exact wpAny_bind (wpAny_field hx hd h0 (wpAny_pure hq))
theorem string_entry {tk : Tok} {Q : Fin → Shared → Prop} (hx : h.get? a = some o) (hc : o.cls = .type "re.Match") (hd : o.data = .fields fs) (h0 : fs[0]? = some v) (hq : Q (.done (.ret v)) ⟨h, g, d, t, os⟩) :
    wpAny (model prog w) A (Builtin.«object.__getattribute__» ⟨[.ref a, .str "string" tk], []⟩) Q E ⟨h, g, d, t, os⟩ := by
  have hT : (⟨h, g, d, t, os⟩ : Shared).TypeIs (.ref a) "re.Match" := ⟨_, hx, hc⟩
  have hT5 : (⟨h, g, d, t, os⟩ : Shared).TypeIs (.builtin "re.Match.string") "member_descriptor" := FR.type_string
  have f4 := FR.lk_string
  have f5 := FR.type_string
  have f6 := FR.slot_md_get.lookup
  have f7 := FR.slot_md_set.lookup
  repeat (any_goals (first | assumption | wp_step))
  refine string_get hx hc hd h0 ?_
  repeat (any_goals (first | assumption | wp_step))
theorem match_getattr_none : typeLookup (.type "re.Match") "__getattr__" = pure none := by rw [typeLookup_type, builtinLookup_eq_fast]; kernel_rfl
theorem string_attr {y : Str} {u : Tok} {Q : Value → Shared → Prop} (hx : h.get? a = some o) (hc : o.cls = .type "re.Match") (hd : o.data = .fields fs) (h0 : fs[0]? = some (.str y u)) (hq : Q (.str y u) ⟨h, g, d, t + 1, os⟩) :
    wpAny (model prog w) A (getAttr (.ref a) "string" true) Q E ⟨h, g, d, t, os⟩ := by
  obtain ⟨c, dct, dat, sl⟩ := o
  simp only at hc hd
  subst hc hd
  have hT : ∀ tk', (⟨h, g, d, tk', os⟩ : Shared).TypeIs (.ref a) "re.Match" := fun _ => ⟨_, hx, rfl⟩
  have f3 := FR.slot_ga.lookup
  have f4 := FR.slot_ga.bind (.ref a)
  have f5 := match_getattr_none
  unfold getAttr getAttrBy
  repeat (any_goals (first | assumption | exact hT _ | wp_step))
  refine codeAny_call_builtin FR.slot_ga.plain FR.entry_ga (FR.slot_ga.check _ _ _ _ _ _ _ _ (hT _) (FR.args_ga _ _) (string_entry hx rfl rfl h0 ?_))
  show wpAny _ _ (handedOut (.str y u)) _ _ _
  exact wpAny_pure hq

/-! append, bound to its list -/
theorem lk_append : typeLookup (.type "list") "append" = pure (some (.builtin "list.append")) := F.slot_list_append.lookup
theorem slot_mtd_get : Slot "method_descriptor" "__get__" "method_descriptor.__get__" :=
  .of (owner := "method_descriptor") (n := "__get__") (by rw [typeLookup_type, builtinLookup_eq_fast]; kernel_rfl) (by decide +kernel) (by decide +kernel) (by decide +kernel)
    (by first | exact .inl (by decide +kernel) | exact .inr (by decide +kernel)) (by rw [isSubtype_type]; kernel_rfl)
theorem mtd_no_set : typeLookup (.type "method_descriptor") "__set__" = pure none := by rw [typeLookup_type, builtinLookup_eq_fast]; kernel_rfl
theorem mtd_no_del : typeLookup (.type "method_descriptor") "__delete__" = pure none := by rw [typeLookup_type, builtinLookup_eq_fast]; kernel_rfl
theorem entry_mtd_get : entryFor table "method_descriptor.__get__" = some Builtin.«method_descriptor.__get__» := entryFor_of_tree (by kernel_rfl)
theorem args_mtd_get (a b c : Value) : argsOk "method_descriptor.__get__" ⟨[a, b, c], []⟩ := by unfold argsOk; kernel_rfl
theorem entry_list_ga' : entryFor table "list.__getattribute__" = some Builtin.«object.__getattribute__» :=
  entryFor_alias (id' := "object.__getattribute__") (by kernel_rfl) (by first | rfl | decide +kernel) (by decide +kernel) (by kernel_rfl)
theorem owner_append : (".".intercalate ("list.append".cutAt '.').dropLast) = "list" := by decide +kernel
theorem sub_append : isSubtype (.type "list") (.type (".".intercalate ("list.append".cutAt '.').dropLast)) = pure true := by
  rw [owner_append, isSubtype_type]; kernel_rfl
theorem sub_list_list : isSubtype (.type "list") (.type "list") = pure true := by rw [isSubtype_type]; kernel_rfl
noncomputable def boundObj (a : Addr) : Obj := { cls := .type "builtin_function_or_method", data := .fields #[.builtin "list.append", .ref a] }
theorem append_get {xs : Array Value} {n : Nat} {R : Result → Shared → Prop} (hx : h.get? a = some { cls := .type "list", data := .seq xs n }) (hq : R (.ok (.ret (.ref h.objs.size))) ⟨h.push (boundObj a), g, d, t, os⟩) :
    codeAny (model prog w) A (.call (.builtin "method_descriptor.__get__") ⟨[.builtin "list.append", .ref a, .type "list"], []⟩) R ⟨h, g, d, t, os⟩ := by
  have hT : (⟨h, g, d, t, os⟩ : Shared).TypeIs (.ref a) "list" := ⟨_, hx, rfl⟩
  have hT5 : (⟨h, g, d, t, os⟩ : Shared).TypeIs (.builtin "list.append") "method_descriptor" := F.type_list_append
  have f8 := sub_append
  have f9 := sub_list_list
  refine codeAny_call_builtin slot_mtd_get.plain entry_mtd_get (slot_mtd_get.check _ _ _ _ _ _ _ _ hT5 (args_mtd_get _ _ _) ?_)
  repeat (any_goals (first | assumption | wp_step))
theorem append_entry {xs : Array Value} {n : Nat} {tk : Tok} {Q : Fin → Shared → Prop} (hx : h.get? a = some { cls := .type "list", data := .seq xs n }) (hq : Q (.done (.ret (.ref h.objs.size))) ⟨h.push (boundObj a), g, d, t, os⟩) :
    wpAny (model prog w) A (Builtin.«object.__getattribute__» ⟨[.ref a, .str "append" tk], []⟩) Q E ⟨h, g, d, t, os⟩ := by
  have hT : (⟨h, g, d, t, os⟩ : Shared).TypeIs (.ref a) "list" := ⟨_, hx, rfl⟩
  have hT5 : (⟨h, g, d, t, os⟩ : Shared).TypeIs (.builtin "list.append") "method_descriptor" := F.type_list_append
  have f4 := lk_append
  have f5 := F.type_list_append
  have f6 := slot_mtd_get.lookup
  have f7 := mtd_no_set
  have f8 := mtd_no_del
  repeat (any_goals (first | assumption | wp_step))
  refine append_get hx ?_
  repeat (any_goals (first | assumption | wp_step))
theorem append_attr {xs : Array Value} {n : Nat} {Q : Value → Shared → Prop} (hx : h.get? a = some { cls := .type "list", data := .seq xs n }) (hq : Q (.ref h.objs.size) ⟨h.push (boundObj a), g, d, t + 1, os⟩) :
    wpAny (model prog w) A (getAttr (.ref a) "append" true) Q E ⟨h, g, d, t, os⟩ := by
  have hT : ∀ tk', (⟨h, g, d, tk', os⟩ : Shared).TypeIs (.ref a) "list" := fun _ => ⟨_, hx, rfl⟩
  have f3 := F.slot_list_getattribute.lookup
  have f4 := F.slot_list_getattribute.bind (.ref a)
  have f5 := list_getattr_none
  unfold getAttr getAttrBy
  repeat (any_goals (first | assumption | exact hT _ | wp_step))
  refine codeAny_call_builtin F.slot_list_getattribute.plain entry_list_ga' (F.slot_list_getattribute.check _ _ _ _ _ _ _ _ (hT _) (F.args_list_getattribute_2 _ _) (append_entry hx ?_))
  show wpAny _ _ (handedOut (.ref h.objs.size)) _ _ _
  exact wpAny_pure hq
end
end Mine
end
-- R12
section
open PySem PySem.Calls PyProof.Rows PySem.W
namespace Mine
section
variable {prog : Program} {C : Cx} {A : Around} {s₀ s : Shared} {L a : Addr} {m : Str → Option Value} {led : List (Addr × Cell)} {fd : FuncData} {env : Env}

inductive StrOfQ (C : Cx) (Q : Value → Shared → Prop) (o : Value) (s₁ : Shared) : Prop
  | intro (s₀ : Shared) (L : Addr) (m : Str → Option Value) (led : List (Addr × Cell)) (mt : Addr) (x : List Nat) (t : Tok) (p : Value) (lim : Nat) (tp : Addr) (D : Led C s₀ L m led s₁) (ho : o = .ref mt) (hm : (matchCell (.str (S x) t) p lim tp).At s₁.heap mt) (k : ∀ s', Led C s₀ L m led s' → Q (.str (S x) t) s') : StrOfQ C Q o s₁
theorem e_string {value : Expr} {pos : Pos} {Q : Value → Shared → Prop}
    (h : W prog C A (eval value env) (StrOfQ C Q) s)
    (he : eval (.Attribute value (Str.ofString "string") pos) env = (do
      let o ← eval value env
      standAt pos.atName
      let r ← holding [o] (getAttr o (Str.ofString "string") true)
      letTemporaryGo value o r
      pure r) := by with_unfolding_all rfl) : W prog C A (eval (.Attribute value (Str.ofString "string") pos) env) Q s :=
  ⟨Attribute_any_ (wpAny_mono h.out (fun o s₁ ⟨s₀, L, m, led, mt, x, t, p, lim, tp, D, e, hm, q⟩ => by
    subst e
    obtain ⟨ob, ho, hc, hd⟩ := match_fld hm
    obtain ⟨hp, g, d, tk, os⟩ := s₁
    exact string_attr ho hc hd rfl (q _ D.tok1)) fun _ _ x => x) he⟩
inductive BoundQ (C : Cx) (Q : Value → Shared → Prop) (o : Value) (s₁ : Shared) : Prop
  | intro (s₀ : Shared) (L : Addr) (m : Str → Option Value) (led : List (Addr × Cell)) (b : Addr) (xs : List Value) (D : Led C s₀ L m led s₁) (ho : o = .ref b) (hb : (Cell.list xs).At s₁.heap b) (k : ∀ f s', Led C s₀ L m ((f, .obj (boundObj b)) :: led) s' → Q (.ref f) s') : BoundQ C Q o s₁
theorem e_bound {value : Expr} {pos : Pos} {Q : Value → Shared → Prop}
    (h : W prog C A (eval value env) (BoundQ C Q) s)
    (he : eval (.Attribute value (Str.ofString "append") pos) env = (do
      let o ← eval value env
      standAt pos.atName
      let r ← holding [o] (getAttr o (Str.ofString "append") true)
      letTemporaryGo value o r
      pure r) := by with_unfolding_all rfl) : W prog C A (eval (.Attribute value (Str.ofString "append") pos) env) Q s :=
  ⟨Attribute_any_ (wpAny_mono h.out (fun o s₁ ⟨s₀, L, m, led, b, xs, D, e, hm, q⟩ => by
    subst e
    obtain ⟨n, hn⟩ := hm
    have D1 := D.new (.obj (boundObj b)) (tk := s₁.toks + 1) (fun _ _ e => Heap.get?_push_of_some _ e) (Nat.le_refl _) ⟨Heap.get?_push_size _ rfl, (fun ⟨_, _, e⟩ => nomatch e), by simp [boundObj]⟩ (Nat.le_succ _)
    obtain ⟨hp, g, d, tk, os⟩ := s₁
    exact append_attr hn (q _ _ D1)) fun _ _ x => x) he⟩

theorem bound_check {b : Addr} {xs : List Value} {v : Value} {Q : Unit → Shared → Prop} (hb : (Cell.list xs).At s.heap b) (h : Q () s) : W prog C A (checkBoundCall "list.append" ⟨[.ref b, v], []⟩) Q s := by
  have hT : s.TypeIs (.ref b) "list" := by obtain ⟨n, e⟩ := hb; exact ⟨_, e, rfl⟩
  refine ⟨?_⟩
  unfold checkBoundCall
  have e1 := signature?_of (id := "list.append") (n := ['d', 'n', 'e', 'p', 'p', 'a']) (o := ['t', 's', 'i', 'l']) (by kernel_rfl) F.owner_list
  have e2 : builtinKind "list.append" = some .method := by kernel_rfl
  have e3 : Manifest.varargsMethods.contains "list.append" = false := by decide +kernel
  have e4 : isSubtype (.type "list") (.type "module") = pure false := by rw [isSubtype_type]; kernel_rfl
  rw [e1]
  repeat (any_goals (first | assumption | wp_step))
  obtain ⟨n, hn⟩ := hb
  refine wpAny_loadPart' hn ?_
  refine wpAny_pure ?_
  refine wpAny_bind (wpAny_typeOf hT ?_)
  exact wpAny_of_eq (a := ()) (by kernel_rfl) h
inductive AddQ (C : Cx) (Q : Value → Shared → Prop) (f : Addr) (v : Value) (s₁ : Shared) : Prop
  | intro (s₀ : Shared) (L : Addr) (m : Str → Option Value) (led : List (Addr × Cell)) (i j : Nat) (b : Addr) (xs : List Value) (D : Led C s₀ L m led s₁) (hi : led[i]? = some (b, .list xs)) (hj : led[j]? = some (f, Cell.obj (boundObj b))) (hz : xs.length ≤ sizeLine) (k : ∀ s', Led C s₀ L m (led.set i (b, .list (xs ++ [v]))) s' → Q .none s') : AddQ C Q f v s₁
theorem c_bound {f : Addr} {pos : Pos} {tr : Sem Value} {Q : Value → Shared → Prop}
    (h : W prog C A tr (AddQ C Q f) s) :
    W prog C A (callWith pos (.ref f) [] [(false, tr)] []) Q s := by
  refine ⟨?_⟩
  unfold callWith
  refine wpAny_bind (wpAny_holding (wpAny_mono (args_of (f := .ref f) (Q := fun x s₁ => x.kw = [] ∧ ∃ v, x.pos = [v] ∧ AddQ C Q f v s₁)
    (sp_cons (h.mono fun v s₁ q => sp_nil ⟨rfl, v, rfl, q⟩)) rfl).out (fun x s₁ hx => wpAny_bind (wpAny_standAt ?_)) fun _ _ x => x))
  obtain ⟨hk, v, hv, s₀, L, m, led, i, j, b, xs, D, hi, hj, hz, hq⟩ := hx
  obtain ⟨hf, _, _⟩ := D.nth j hj
  have hb := D.nth i hi
  refine wpAny_bind (m := keeperOf (.ref f)) ?_
  unfold keeperOf
  refine wpAny_bind (wpAny_load hf ?_)
  refine wpAny_pure ?_
  rw [hk, hv]
  have tail : ∀ {t : Sem Value}, wpAny (model prog C.w) A t Q NoE s₁ → wpAny (model prog C.w) A (t >>= fun r => holding [r] point >>= fun _ => pure r) Q NoE s₁ :=
    fun ht => wpAny_bind (wpAny_mono ht (fun r s₂ hr => wpAny_bind (wpAny_holding (wpAny_point (wpAny_pure hr)))) fun _ _ x => x)
  refine tail ?_
  show wpAny _ _ (call (.ref f) [v]) _ _ _
  refine wpAny_call (codeAny_of_tree ?_)
  show wpAny _ A.in1 (callAny (.ref f) ⟨[v], []⟩) _ _ _
  unfold callAny
  refine wpAny_bind (wpAny_load hf ?_)
  show wpAny _ _ (do checkBoundCall "list.append" ⟨[.ref b, v], []⟩; return ← again (.builtin "list.append" ⟨[.ref b, v], []⟩)) _ _ _
  refine wpAny_bind (bound_check hb ?_).any
  refine wpAny_bind (wpAny_pure ?_)
  refine wpAny_pure ⟨Code.quiet_builtin _ (by decide +kernel), codeAny_builtin entry_list_append ?_⟩
  show wpAny _ _ (updateSeq b (·.push v) >>= fun _ => ret .none) _ _ _
  obtain ⟨n, hn⟩ := hb
  refine wpAny_bind (wpAny_updateSeq hn rfl (wpAny_pure ?_) (by simpa using hz) (by simp; exact hz))
  exact hq _ (D.setAt i hi (Heap.SameBut.update ..) (Cell.upList ⟨n, hn⟩ (by simp)) (Nat.le_refl _))
end
end Mine
end
-- L1
section
open PySem PySem.Calls PyProof.Rows PySem.W
namespace Mine

theorem codeAmong_app {pos : Pos} {a b : Nat} {v cv : Value} (l : List Value) (h : TriplesOk l) (e : codeAmong pos (l ++ [rawInt a, rawInt b, v]) = some cv) : codeAmong pos l = some cv ∨ (cv = v ∧ a = pos.line) := by
  fun_induction TriplesOk l with
  | case1 =>
    right
    simp [codeAmong, rawInt] at e
    exact ⟨e.2.symm, by omega⟩
  | case2 x t y u z rest ih =>
    simp only [List.cons_append, codeAmong] at e ⊢
    split at e
    · rename_i hc; left; rw [if_pos hc]; exact e
    · rename_i hc
      rw [if_neg hc]
      exact ih h e
  | case3 => exact h.elim
theorem g_name : ∀ P, nsIn (K0 P) mainGlobals (Str.ofString "__name__") = some (some (.str (Str.ofString "law_in0221_01") 878)) := fun _ => rfl

noncomputable def CodeAt (h : Heap) (cv : Value) (l : Nat) : Prop := ∃ c' o vs t, cv = .ref c' ∧ h.get? c' = some o ∧ o.cls = .type "code" ∧ o.data = .fields vs ∧ vs[1]? = some (.str (qn l) t)
theorem CodeAt.rec {h : Heap} {cv : Value} {l : Nat} (x : CodeAt h cv l) : h.CodeRec cv (qn l) := let ⟨c', o, vs, t, e, g, _, r⟩ := x; ⟨c', o, vs, t, e, g, r⟩

section
variable {prog : Program} {C : Cx} {A : Around} {s₀ s : Shared} {L a : Addr} {m : Str → Option Value} {led : List (Addr × Cell)} {fd : FuncData} {env : Env}

/-- a table of codes got one more -/
theorem TabsOk.grow {h h' : Heap} {c Pt c' : Addr} {ps : Array Value} {line col : Nat} (T : TabsOk h) (hsel : (c = 86 ∧ Pt = 82) ∨ (c = 69 ∧ Pt = 65) ∨ (c = 124 ∧ Pt = 120)) (hx : Heap.ExtBut Pt h h')
    (hok : h.IsCode c Pt ps) (hok' : h'.IsCode c Pt (ps ++ #[rawInt line, rawInt col, .ref c'])) (ht' : h'.TableAt c Pt (ps ++ #[rawInt line, rawInt col, .ref c'])) (hP : h.get? Pt = some { cls := .none, data := .fields ps })
    (hold : ∀ pos cv, codeAmong pos ps.toList = some cv → CodeAt h cv pos.line) (hnew : CodeAt h' (.ref c') line) : TabsOk h' := by
  have k : ∀ b o, h.get? b = some o → o.cls = .type "code" → (∃ vs, o.data = .fields vs) → h'.get? b = some o := fun b o e hc _ => hx b o (fun q => by subst q; rw [hP] at e; cases e; cases hc) e
  have mine : TabOk h' c Pt := by
    obtain ⟨⟨o, vs, e1, e2, e3, e4⟩, e5⟩ := ht'
    refine ⟨_, hok', e5, ⟨o, e1, e2⟩, fun pos cv hcv => ?_⟩
    obtain ⟨_, _, _, _, _, _, _, _, _, _, _, _, _, _, _, _, _, _, _, htr, _⟩ := hok
    rw [Array.toList_append] at hcv
    rcases codeAmong_app ps.toList htr hcv with h1 | ⟨h1, h2⟩
    · obtain ⟨c'', o'', vs'', t'', f1, f2, f3, f4⟩ := hold pos cv h1
      exact ⟨c'', o'', vs'', t'', f1, k _ _ f2 f3 ⟨_, f4.1⟩, f3, f4⟩
    · subst h1; rw [← h2]; exact hnew
  rcases hsel with ⟨rfl, rfl⟩ | ⟨rfl, rfl⟩ | ⟨rfl, rfl⟩
  · exact ⟨mine, T.2.1.step k fun o e => hx 65 o (by decide) e, T.2.2.step k fun o e => hx 120 o (by decide) e⟩
  · exact ⟨T.1.step k fun o e => hx 82 o (by decide) e, mine, T.2.2.step k fun o e => hx 120 o (by decide) e⟩
  · exact ⟨T.1.step k fun o e => hx 82 o (by decide) e, T.2.1.step k fun o e => hx 65 o (by decide) e, mine⟩

noncomputable abbrev TabSel (c Pt : Addr) : Prop := (c = 86 ∧ Pt = 82) ∨ (c = 69 ∧ Pt = 65) ∨ (c = 124 ∧ Pt = 120)
theorem TabsOk.get {h : Heap} {c Pt : Addr} (T : TabsOk h) (hsel : TabSel c Pt) : TabOk h c Pt := by
  rcases hsel with ⟨rfl, rfl⟩ | ⟨rfl, rfl⟩ | ⟨rfl, rfl⟩
  · exact T.1
  · exact T.2.1
  · exact T.2.2
theorem TabSel.tab {c Pt : Addr} (hsel : TabSel c Pt) : tab Pt = true := by
  rcases hsel with ⟨rfl, rfl⟩ | ⟨rfl, rfl⟩ | ⟨rfl, rfl⟩ <;> rfl

theorem w_code {name qualname : Str} {params : Arguments} {body : FuncBody} {scope : Scope} {pos : Pos} {fl : Nat} {c Pt : Addr} {Q : Value → Shared → Prop} (D : Led C s₀ L m led s) (hc : env.code = .ref c) (hsel : TabSel c Pt) (hq : qualname = qn pos.line)
    (h : ∀ cv s', Led C s₀ L m led s' → CodeAt s'.heap cv pos.line → Q cv s') : W prog C A (functionCode env pos fl name qualname params scope body) Q s := by
  have T := D.now.tabs
  obtain ⟨ps, hok, hP, ⟨oc, hoc, hcc⟩, hold⟩ := T.get hsel
  cases hf : codeAmong pos ps.toList with
  | some cv => exact ⟨wpAny_functionCode_hit hc hok hf (h cv s D (hold pos cv hf))⟩
  | none =>
    have htab : s.heap.TableAt c Pt ps := by
      obtain ⟨o, vs, file, tf, flags, tg, inF, text, tt, op, ho, hd, h11, _⟩ := id hok
      rw [hoc] at ho; cases ho
      refine ⟨⟨oc, vs, hoc, hcc, hd, ?_⟩, hP⟩
      have h11' := h11
      rw [Array.getD_eq_getD_getElem?] at h11'
      cases hv : vs[11]? with
      | none => rw [hv] at h11'; cases h11'
      | some v => rw [hv] at h11'; simp at h11'; rw [h11']
    refine W.tk ⟨wpAny_functionCodeX hc hok htab hf fun c' h' tk hx hge hlt hok' hrec htab' hP' hle => ?_⟩
    have hcode : CodeAt h' (.ref c') pos.line := by
      obtain ⟨c2, o2, vs2, t2, e, g, r1, r2⟩ := hrec
      cases e
      obtain ⟨P', _, _, ⟨o3, vs3, g3, cl3, _⟩, _⟩ := hP'
      rw [g] at g3; cases g3
      exact ⟨_, o2, vs2, t2, rfl, g, cl3, r1, hq ▸ r2⟩
    refine h _ _ (D.step ⟨⟨fun b o hb e => ⟨o, hx b o (fun q => by subst q; rw [hsel.tab] at hb; cases hb) e, .rfl'⟩⟩, fun _ => ?_, rfl, id, hle⟩) hcode
    exact T.grow hsel hx hok hok' htab' hP hold hcode

noncomputable def lamFd (env : Env) (args : Arguments) (body : Expr) (scope : Scope) (cv : Value) : FuncData :=
  { name := "<lambda>", qualname := env.qual ++ "<lambda>", params := args, body := .expr body, scope, globals := mainGlobals, closure := [], code := cv, builtins := builtinsNs, defaults := .none, kwdefaults := .none,
    pyModule := .str (Str.ofString "law_in0221_01") 878, doc := .none }
theorem e_lambda {args : Arguments} {body : Expr} {scope : Scope} {pos : Pos} {c Pt : Addr} {Q : Value → Shared → Prop} (D : Led C s₀ L m led s) (hc : env.code = .ref c) (hsel : TabSel c Pt) (hq : env.qual ++ ("<lambda>" : Str) = qn pos.line)
    (h : ∀ f cv s', Led C s₀ L m ((f, .obj (fobj (lamFd env args body scope cv))) :: led) s' → CodeAt s'.heap cv pos.line → Q (.ref f) s')
    (hg : env.globals = mainGlobals := by rfl) (hd : defaultsOf args env = ([], []) := by rfl) (hkw : args.kwonlyargs = [] := by rfl) (hfree : (scope.names.all fun x => decide (x.2 ≠ .free)) = true := by rfl) :
    W prog C A (eval (.Lambda args body scope pos) env) Q s := by
  refine ⟨?_⟩
  rw [arm_eval_Lambda, hd]
  dsimp only
  refine wpAny_bind (m := evalAll []) (wpAny_pure (wpAny_bind (wpAny_holding (m := evalAllOpt []) (wpAny_pure ?_))))
  have hcl : closureFor scope env = pure [] := closureFor_none fun x hx => of_decide_eq_true (List.all_eq_true.mp hfree x hx)
  simp only [makeFunction, hkw, List.zip_nil_left, List.filterMap_nil, List.isEmpty_nil, if_true, pure_bind, hcl]
  refine wpAny_bind (w_code D hc hsel hq fun cv s₁ D hcv => ?_).out
  obtain ⟨bm, o, hbm, hne, _, hbo, hcls, hdict, hdata⟩ := D.now.bm
  rw [hg]
  refine wpAny_bind (wpAny_builtinsFor D.now.g hbm hne hbo hcls hdict hdata ?_)
  refine wpAny_bind (wpAny_nsGet D.now.g ?_)
  rw [D.now.glob g_name]
  have D1 := D.new (.obj (fobj (lamFd env args body scope cv))) (tk := s₁.toks) (h' := s₁.heap.push (fobj (lamFd env args body scope cv))) (fun _ _ e => Heap.get?_push_of_some _ e) (Nat.le_refl _) ⟨Heap.get?_push_size _ rfl, (fun ⟨_, _, e⟩ => nomatch e), by simp⟩ (Nat.le_refl _)
  refine wpAny_newObj_type (h _ cv _ D1 ?_) (by size_fits)
  obtain ⟨c', o', vs', t', e, g, r⟩ := hcv
  exact ⟨c', o', vs', t', e, Heap.get?_push_of_some _ g, r⟩
end
end Mine
end
-- L2
section
open PySem PySem.Calls PyProof.Rows PySem.W
namespace Mine
section
variable {prog : Program} {C : Cx} {A : Around} {s₀ s : Shared} {L a : Addr} {m : Str → Option Value} {led : List (Addr × Cell)} {fd : FuncData} {env : Env}

theorem codeAny_exprE {w : World} {R : Result → Shared → Prop} {e : Expr} {env : Env}
    (h : wpAny (model prog w) (A.deeper env) (eval e env) (fun v s' => R (.ok (.ret v)) s') (fun _ _ => False) s) :
    codeAny (model prog w) A (.expr e env) R s := by
  refine codeAny_of_tree ?_
  show wpAny _ (A.deeper env) (do point; return Fin.done (.ret (← (eval e env).onRaise (leaving env)))) _ _ s
  refine wpAny_bind (wpAny_point (wpAny_bind (wpAny_onRaise (wpAny_mono h (fun v s' h' => wpAny_pure h') fun _ _ h' => h'.elim))))
theorem rLam {f : Addr} {e : Expr} {vals : List Value} {binds : List (Str × Value)} {Q : Value → Shared → Prop} {n : Nat} (P : Prog C s) (R : Room A (n + 1)) (hf : s.heap.get? f = some (fobj fd)) (hcd : s.heap.CodeRec fd.code fd.qualname)
    (hbody : fd.body = .expr e) (hbind : BindsTo s fd ⟨vals, []⟩ binds)
    (h : ∀ s₁ L, Room (A.deeper (callEnv fd L f)) n → Led C s L (fun x => binds.reverse.lookup x) [] s₁ → W prog C (A.deeper (callEnv fd L f)) (eval e (callEnv fd L f)) Q s₁)
    (hloc : (binds.all fun x => decide (fd.scope.names.lookup x.1 = some .local)) = true := by rfl)
    (hcell : (fd.scope.names.all fun x => decide (x.2 ≠ .cell)) = true := by rfl)
    (hco : fd.scope.isCoroutine = false := by rfl) (hgen : fd.scope.isGenerator = false := by rfl) (hk : fd.scope.kind = .function := by rfl) :
    W prog C A (call (.ref f) vals) Q s := by
  refine ⟨wpAny_call (codeAny_of_tree ?_)⟩
  show wpAny _ A.in1 (callAny (.ref f) ⟨vals, []⟩) _ _ s
  simp only [callAny]
  refine wpAny_bind (wpAny_load hf ?_)
  obtain ⟨c, oc, vs, tq, hc, hoc, hdc, hq⟩ := hcd
  simp only [callFunction, hco, hgen, hbody, hc]
  refine wpAny_bind (m := field (.ref c) 1) (wpAny_field hoc hdc hq (wpAny_bind (wpAny_pure ?_)))
  refine wpAny_bind (hbind _ _ _ _ ?_)
  refine wpAny_bind (wpAny_newFunctionEnv (fun x hx => of_decide_eq_true (List.all_eq_true.mp hcell x hx)) (locs hloc) (fun h₀ hn hs => ?_) hk)
  have hk₀ : ∀ b o, s.heap.get? b = some o → h₀.get? b = some o := fun b o e => hs.extBut b o (Nat.ne_of_lt (Heap.lt_size e)) (Heap.get?_push_of_some _ e)
  refine wpAny_bind (wpAny_enterFrame (P.lim.fresh _ hs) (Nat.lt_of_le_of_lt (Nat.le_add_right ..) R.dep) (wpAny_pure ⟨rfl, ?_⟩))
  rw [← hc]
  refine codeAny_exprE ?_
  exact wpAny_mono (h _ s.heap.objs.size (R.deeper _) ⟨P.toProg0, Next.keeps hk₀ (Nat.le_add_right ..), hn, Nat.le_refl _, Nat.lt_of_lt_of_le P.tk (Nat.le_add_right ..), fun p hp => (nomatch hp), .nil⟩).out (fun v s' q => q) fun _ _ x => x.elim
end
end Mine
end
-- S1
section
open PySem PySem.Calls PyProof.Rows PySem.W
namespace Mine
open Builtin.Re

/-- what a sub makes of x from the place s on -/
inductive Subs (code : Array Nat) (cb : List Nat → List Nat) (x : List Nat) : Nat → List Nat → Prop
  | stop {s} : s ≤ x.length → Finds code x s none → Subs code cb x s (x.drop s)
  | hit {s j e b b' out} : Finds code x s (some (j, e, b, b')) → s ≤ j → j < e → e ≤ x.length → b ≤ b' → Subs code cb x e out → Subs code cb x s ((x.take j).drop s ++ cb ((x.take b').drop b) ++ out)
theorem Subs.le {code cb x s out} (h : Subs code cb x s out) : s ≤ x.length := by
  induction h with
  | stop h _ => exact h
  | hit _ h1 h2 h3 _ _ _ => exact lin [_, _, _, _] (.h 1 (.a 0) (.a 1) <| .l 1 (.a 1) (.a 2) <| .h 1 (.a 2) (.a 3) <| .g 1 (.a 0) (.a 3)) (.refl true) h1 h2 h3

section
variable {prog : Program} {C : Cx} {A : Around} {s₀ s : Shared} {L a : Addr} {m : Str → Option Value} {led : List (Addr × Cell)} {fd : FuncData} {env : Env}

theorem w_slice {x : List Nat} {b e : Nat} {Q : Value → Shared → Prop} (D : Led C s₀ L m led s) (hx : x.length ≤ sizeLine) (h : ∀ t s', Led C s₀ L m led s' → Q (.str (S ((x.take e).drop b)) t) s') : W prog C A (reSlice x.toArray 0 b e) Q s := by
  refine ⟨?_⟩
  show wpAny _ _ (mkStr ⟨x.toArray.extract b e⟩) _ _ s
  have e1 : (x.toArray.extract b e) = ((x.take e).drop b).toArray := by
    apply Array.ext'
    simp [List.drop_take]
  rw [e1]
  refine wpAny_mkStr (h _ _ D.tok1) ?_
  rw [S_len]; simp; omega
theorem w_push {b : Addr} {v : Value} {xs : List Value} {Q : Unit → Shared → Prop} (D : Led C s₀ L m led s) (i : Nat) (hi : led[i]? = some (b, .list xs)) (hz : xs.length ≤ sizeLine)
    (hq : ∀ s', Led C s₀ L m (led.set i (b, .list (xs ++ [v]))) s' → Q () s') : W prog C A (updateSeq b (·.push v)) Q s := by
  obtain ⟨n, hn⟩ := D.nth i hi
  exact ⟨wpAny_updateSeq hn rfl (hq _ (D.setAt i hi (Heap.SameBut.update ..) (Cell.upList ⟨n, hn⟩ (by simp)) (Nat.le_refl _))) (by simpa using hz) (by simp; exact hz)⟩
theorem w_whole {a : Addr} {code : Array Nat} {x : List Nat} {t : Tok} {Q : ReTarget → Shared → Prop} (hp : PatAt s.heap a code 1)
    (h : Q { pattern := .ref a, string := .str (S x) t, code, text := x.toArray, kind := 0, groups := 1, pos := 0, lim := x.length } s) : W prog C A (reWholeTarget (.ref a) (.str (S x) t)) Q s := by
  obtain ⟨pt, tk, fl, tf, c, items, n, e1, e2, e3⟩ := hp
  unfold reWholeTarget
  refine ⟨wpAny_bind (wpAny_fieldsOf e1 rfl ?_)⟩
  refine wpAny_bind (m := reTextOf (.str (S x) t)) (wpAny_pure (a := ((S x).cps, 0)) ?_)
  dsimp only
  refine wpAny_bind (m := reRawItems (.ref c)) (wpAny_bind (wpAny_seqItems e2 rfl (wpAny_pure ?_)))
  refine wpAny_pure ?_
  show Q { pattern := .ref a, string := .str (S x) t, code := (items.map reRawOf).map (·.toNat), text := x.toArray, kind := 0, groups := reRawNat (.int ((1 : Nat) : Int) 0), pos := 0, lim := x.toArray.size } s
  rw [e3, List.size_toArray]
  exact h

noncomputable abbrev loopCode (a : Addr) (x : List Nat) (t : Tok) (f lst : Addr) (n s : Nat) : Code := .builtin "re.Pattern.sub.loop" ⟨[.ref a, .str (S x) t, .ref f, .int 1 0, .int 0 0, .int (n : Int) 0, .int (s : Int) 0, .int (s : Int) 0, .bool false, .ref lst, .bool false], []⟩
/-- the function f answers each match with cb of its group -/
noncomputable abbrev Answers (prog : Program) (C : Cx) (A : Around) (x : List Nat) (f c' : Addr) (fd : FuncData) (oc : Obj) (cb : List Nat → List Nat) : Prop :=
  ∀ (s : Shared) (mt tp : Addr) (t : Tok) (p : Value) (lim j e b b' : Nat) (Q : Value → Shared → Prop), Prog C s → (matchCell (.str (S x) t) p lim tp).At s.heap mt → (Cell.tup (spanVals j e b b')).At s.heap tp → s.heap.get? f = some (fobj fd) → s.heap.get? c' = some oc → b ≤ b' →
    (∀ t s', Next C.N s s' → Q (.str (S (cb ((x.take b').drop b))) t) s') → W prog C A (call (.ref f) [.ref mt]) Q s

theorem w_newMatch' {string pattern : Value} {lim j e b b' : Nat} {mm : Sre.M} {Q : Value → Shared → Prop} (D : Led C s₀ L m led s) (h1 : mm.start = j) (h2 : mm.handed = e) (h3 : mm.marks = #[some b, some b']) (h4 : mm.lastmark = 1) (h5 : mm.lastindex = 1) (hb : b ≤ b')
    (h : ∀ mt tp s', Led C s₀ L m ((mt, matchCell string pattern lim tp) :: (tp, .tup (spanVals j e b b')) :: led) s' → (∀ b o, s.heap.get? b = some o → s'.heap.get? b = some o) → Q (.ref mt) s') : W prog C A (reNewMatch pattern string 1 0 lim mm) Q s := by
  have k := w_newMatch (prog := prog) (A := A) (Q := fun v s' => ∃ mt tp, v = .ref mt ∧ Led C s₀ L m ((mt, matchCell string pattern lim tp) :: (tp, .tup (spanVals j e b b')) :: led) s' ∧ True) D h1 h2 h3 h4 h5 hb (fun mt tp s' D => ⟨mt, tp, rfl, D, trivial⟩)
  clear k
  unfold reNewMatch
  rw [h1, h2, h3, h4, h5]
  refine ⟨?_⟩
  show wpAny _ A (if (([0] : List Nat).any fun g => _) = true then _ else _) _ _ s
  rw [if_neg (by
    show ¬ ((((2 * 0 + 1 : Nat) : Int) ≤ 1) && decide (b' < b) || false) = true
    have : decide (b' < b) = false := decide_eq_false (by exact fun qq => lin [_, _] (.h 1 (.a 0) (.a 1) <| .l 1 (.a 1) (.a 0) <| .z) (.refl true) hb qq)
    rw [this]; decide)]
  refine wpAny_bind (wpAny_newTuple ?_ (by show 4 ≤ _; decide))
  refine wpAny_newObj_type ?_ (by show 6 ≤ _; decide)
  have D1 := D.new (.tup (spanVals j e b b')) (tk := s.toks) (h' := s.heap.push { cls := .type "tuple", data := .seq (spanVals j e b b').toArray }) (fun _ _ e => Heap.get?_push_of_some _ e) (Nat.le_refl _) ⟨0, Heap.get?_push_size _ rfl⟩ (Nat.le_refl _)
  refine h _ _ _ (D1.new (matchCell string pattern lim s.heap.objs.size) (tk := s.toks) (fun _ _ e => Heap.get?_push_of_some _ e) (Nat.le_refl _) (match_at (Heap.get?_push_size _ rfl)) (Nat.le_refl _)) fun b o e => Heap.get?_push_of_some _ (Heap.get?_push_of_some _ e)

theorem w_pushIf {β : Type} {c : Prop} [Decidable c] {x : List Nat} {b e : Nat} {lst : Addr} {xs : List Value} {ps : List (List Nat)} {k : Sem β} {Q : β → Shared → Prop} (D : Led C s₀ L m ((lst, .list xs) :: led) s) (hx : x.length ≤ sizeLine) (hz : xs.length < sizeLine) (hs : Strs xs ps)
    (hc : c ↔ b < e) (hb : b ≤ e)
    (hq : ∀ s' xs' ps', Led C s₀ L m ((lst, .list xs') :: led) s' → Strs xs' ps' → ps'.flatten = ps.flatten ++ (x.take e).drop b → xs'.length ≤ xs.length + 1 → (∀ b o, b ≠ lst → s.heap.get? b = some o → s'.heap.get? b = some o) → W prog C A k Q s') :
    W prog C A (if c then (reSlice x.toArray 0 b e >>= fun v => updateSeq lst (fun y => y.push v) >>= fun _ => k) else k) Q s := by
  by_cases h : c
  · rw [if_pos h]
    refine ⟨?_⟩
    show wpAny _ _ (mkStr ⟨x.toArray.extract b e⟩ >>= _) _ _ s
    have e1 : (x.toArray.extract b e) = ((x.take e).drop b).toArray := by
      apply Array.ext'
      simp [List.drop_take]
    rw [e1]
    refine wpAny_bind (wpAny_mkStr ?_ (by rw [S_len]; simp; omega))
    have D1 := D.tok1
    obtain ⟨n, hn⟩ := D1.nth 0 rfl
    refine wpAny_bind (wpAny_updateSeq hn rfl ?_ (by show xs.length ≤ sizeLine; exact lin [_, _] (.l 1 (.a 0) (.a 1) <| .g 1 (.a 0) (.a 1)) (.refl true) hz) (by show (xs.toArray.push _).size ≤ _; simp; exact lin [_, _] (.l 1 (.a 0) (.a 1) <| .g 1 (.a 0) (.a 1)) (.refl true) hz))
    refine (hq _ (xs ++ [.str (S ((x.take e).drop b)) s.toks]) (ps ++ [(x.take e).drop b]) (D1.setAt 0 rfl (Heap.SameBut.update ..) (Cell.upList ⟨n, hn⟩ (by simp)) (Nat.le_refl _)) (hs.snoc _ _) (by simp) (by simp) fun b o hne he => ?_).out
    exact (Heap.SameBut.update ..).extBut b o hne he
  · rw [if_neg h]
    refine hq s xs ps D hs ?_ (Nat.le_succ _) fun _ _ _ e => e
    have hbe : e ≤ b := Nat.not_lt.mp fun q => h (hc.mpr q)
    have : (x.take e).drop b = [] := by rw [List.drop_eq_nil_iff]; simp; omega
    rw [this, List.append_nil]
end
end Mine
end
-- S2
section
open PySem PySem.Calls PyProof.Rows PySem.W
namespace Mine
open Builtin.Re
section
variable {prog : Program} {C : Cx} {A : Around} {s₀ s : Shared} {L a : Addr} {m : Str → Option Value} {led : List (Addr × Cell)} {fd : FuncData} {env : Env}

theorem plain_loop : plainId "re.Pattern.sub.loop" = true := by decide +kernel
theorem sub_loop {code : Array Nat} {cb : List Nat → List Nat} {x : List Nat} {t : Tok} {f c' lst : Addr} {oc : Obj} {jf : Nat} {K : Value → Shared → Prop} (hp : ∀ s', Prog C s' → PatAt s'.heap a code 1) (hx : x.length ≤ 1000000)
    (hAns : Answers prog C A.in1 x f c' fd oc cb) (hoc : oc.cls = .type "code") (hocd : ¬ isDict oc) (htc : tab c' = false) :
    ∀ {p : Nat} {out : List Nat}, Subs code cb x p out → ∀ (n : Nat) (s : Shared) (vs : List Value) (ps : List (List Nat)), Led C s₀ L m ((lst, .list vs) :: led) s → led[jf]? = some (f, .obj (fobj fd)) → s.heap.get? c' = some oc → Strs vs ps →
      vs.length ≤ 2 * p → out.length + ps.flatten.length ≤ 4000000 → (∀ t s', Led C s₀ L m led s' → K (.str (S (ps.flatten ++ out)) t) s') →
      codeAny (model prog C.w) A (loopCode a x t f lst n p) (fun r s' => ∃ v, r = .ok (.ret v) ∧ K v s') s := by
  intro p out h
  induction h with
  | stop hs hf =>
    rename_i p
    intro n s vs ps D hj hc hst hl hz hK
    refine codeAny_builtin FR.entry_loop ?_
    rw [Around.under_plainId plain_loop]
    unfold Builtin.«re.Pattern.sub.loop»
    dsimp only
    refine wpAny_bind (w_whole (hp s D.now) ?_).any
    dsimp only
    obtain ⟨k, m', hk, g, ho⟩ := hf
    refine wpAny_bind (m := ite _ _ _) ?_
    rw [if_neg (by simp)]
    unfold reNextFound
    refine (w_run hk g (.inr ⟨ho, ?_⟩)).any
    dsimp only
    refine (w_pushIf (e := x.length) D (by simp [sizeLine]; exact lin [_] (.h 1 (.a 0) (.n 1000000) <| .g 1 (.a 0) (.n 16777216)) (.refl true) hx) (by simp [sizeLine]; exact lin [_, _, _] (.h 2 (.a 0) (.n 1000000) <| .h 2 (.a 1) (.a 0) <| .h 1 (.a 2) (.m 2 (.a 1)) <| .j 1 (.a 2) (.n 16777216)) (.refl true) hx hs hl) hst (by simp) hs fun s' xs' ps' D hst' hfl hln hk => ?_).any
    have hf2 : ps'.flatten = ps.flatten ++ x.drop p := by rw [hfl, List.take_length]
    refine W.bind (w_slice (x := x) (b := 0) (e := 0) D (by simp [sizeLine]; exact lin [_] (.h 1 (.a 0) (.n 1000000) <| .g 1 (.a 0) (.n 16777216)) (.refl true) hx) fun t s₂ D => ?_)
    rw [show (x.take 0).drop 0 = [] by simp]
    obtain ⟨nl, hnl⟩ := D.nth 0 rfl
    refine ⟨wpAny_bind (wpAny_seqItems hnl rfl ?_)⟩
    have hfg := D.forget (led' := led) (List.Sublist.cons _ (List.Sublist.refl _))
    by_cases he : xs' = []
    · subst he
      rw [if_pos (by rfl)]
      refine wpAny_bind (wpAny_pure ?_)
      rw [if_neg (by decide)]
      refine wpAny_pure ⟨_, rfl, ?_⟩
      have h0 : ps' = [] := List.length_eq_zero_iff.mp (by rw [← hst'.length]; rfl)
      have := hK t s₂ hfg
      rw [← hf2, h0] at this
      exact this
    · rw [if_neg (by cases xs' with | nil => exact absurd rfl he | cons => simp)]
      refine wpAny_bind ?_
      refine (rJoin (xs := ps') (sep := []) D ⟨nl, hnl⟩ hst' ?_ fun t s₃ D => ?_).any
      · have : (ps'.map (·.length)).sum = ps'.flatten.length := by rw [List.length_flatten]
        rw [this, hf2]; simp at hz ⊢; exact lin [_, _] (.h 1 (.p (.a 0) (.a 1)) (.n 4000000) <| .g 1 (.p (.a 1) (.a 0)) (.n 16777216)) (.refl true) hz
      · rw [if_neg (by decide)]
        refine wpAny_pure ⟨_, rfl, ?_⟩
        rw [joinL_nil, hf2]
        exact hK _ _ (D.forget (List.Sublist.cons _ (List.Sublist.refl _)))
  | hit hf h1 h2 h3 h4 h5 ih =>
    rename_i p j e b b' out
    intro n s vs ps D hj hc hst hl hz hK
    refine codeAny_builtin FR.entry_loop ?_
    rw [Around.under_plainId plain_loop]
    unfold Builtin.«re.Pattern.sub.loop»
    dsimp only
    refine wpAny_bind (w_whole (hp s D.now) ?_).any
    dsimp only
    obtain ⟨k, m', hk, g, ho, q1, q2, q3, q4, q5⟩ := hf
    refine wpAny_bind (m := ite _ _ _) ?_
    rw [if_neg (by simp)]
    unfold reNextFound
    refine (w_run hk g (.inl ⟨ho, fun sn => ?_⟩)).any
    dsimp only
    rw [q1, q2]
    have hp5 := h5.le
    have hne : c' ≠ lst := by
      intro q
      subst q
      obtain ⟨nn, hnn⟩ := D.nth 0 rfl
      rw [hc] at hnn; cases hnn; simp at hoc
    refine (w_pushIf (x := x) (b := p) (e := j) D (by simp [sizeLine]; exact lin [_] (.h 1 (.a 0) (.n 1000000) <| .g 1 (.a 0) (.n 16777216)) (.refl true) hx) (by simp [sizeLine]; exact lin [_, _, _, _, _] (.h 2 (.a 0) (.n 1000000) <| .h 2 (.a 1) (.a 2) <| .l 2 (.a 2) (.a 3) <| .h 2 (.a 3) (.a 0) <| .h 1 (.a 4) (.m 2 (.a 1)) <| .j 1 (.a 4) (.n 16777216)) (.refl true) hx h1 h2 h3 hl) hst Iff.rfl h1 fun s' xs' ps' D hst' hfl hln hk => ?_).any
    have hc1 : s'.heap.get? c' = some oc := by
      refine hk c' oc (fun q => ?_) hc
      exact hne q
    rw [if_neg (by decide)]
    refine W.bind (w_newMatch' (mm := { m' with start := j, handed := e, seen := sn }) D rfl rfl q3 q4 q5 h4 fun mt tp s₂ D hk2 => ?_)
    refine ⟨wpAny_bind (wpAny_holding ?_)⟩
    rw [if_pos (by decide)]
    refine (hAns s₂ mt tp t (.ref a) x.length j e b b' _ D.now (D.nth 0 rfl) (D.nth 1 rfl) ((D.nth (jf + 3) hj).1) (hk2 _ _ hc1) h4 fun t₂ s₃ nx => ?_).any
    have hc3 : s₃.heap.get? c' = some oc := nx.kept.obj htc hocd (hk2 _ _ hc1)
    have D := (D.step nx).forget (led' := (lst, .list xs') :: led) (List.Sublist.cons _ (List.Sublist.cons _ (List.Sublist.refl _)))
    rw [if_pos (by rfl)]
    obtain ⟨nl, hnl⟩ := D.nth 0 rfl
    refine wpAny_bind (wpAny_updateSeq hnl rfl ?_ (by simp [sizeLine]; exact lin [_, _, _, _, _, _] (.h 2 (.a 0) (.n 1000000) <| .h 2 (.a 1) (.a 2) <| .l 2 (.a 2) (.a 3) <| .h 2 (.a 3) (.a 0) <| .h 1 (.a 4) (.m 2 (.a 1)) <| .h 1 (.a 5) (.p (.a 4) (.n 1)) <| .g 1 (.a 5) (.n 16777216)) (.refl true) hx h1 h2 h3 hl hln) (by simp [sizeLine]; exact lin [_, _, _, _, _, _] (.h 2 (.a 0) (.n 1000000) <| .h 2 (.a 1) (.a 2) <| .l 2 (.a 2) (.a 3) <| .h 2 (.a 3) (.a 0) <| .h 1 (.a 4) (.m 2 (.a 1)) <| .h 1 (.a 5) (.p (.a 4) (.n 1)) <| .g 1 (.a 5) (.n 16777216)) (.refl true) hx h1 h2 h3 hl hln))
    have D2 := D.setAt 0 rfl (Heap.SameBut.update (h := s₃.heap) (a := lst) (f := Obj.mapSeq fun y => y.push (.str (S (cb ((x.take b').drop b))) t₂))) (Cell.upList (ys := xs' ++ [.str (S (cb ((x.take b').drop b))) t₂]) ⟨nl, hnl⟩ (by simp)) (Nat.le_refl _)
    have hej : (e == j) = false := by simp; exact fun qq => lin [_, _] (.l 1 (.a 0) (.a 1) <| .e 1 (.a 1) (.a 0) <| .z) (.refl true) h2 qq
    rw [hej]
    refine wpAny_pure ⟨plainId_quiet plain_loop _, ?_⟩
    refine ih (n + 1) _ (xs' ++ [Value.str (S (cb ((x.take b').drop b))) t₂]) (ps' ++ [cb ((x.take b').drop b)]) D2 hj ?_ (hst'.snoc _ _) ?_ ?_ fun t' s' D' => ?_
    · exact ((Heap.SameBut.update ..).2 c' hne).trans hc3
    · simp; exact lin [_, _, _, _, _] (.h 2 (.a 0) (.a 1) <| .l 2 (.a 1) (.a 2) <| .h 1 (.a 3) (.m 2 (.a 0)) <| .h 1 (.a 4) (.p (.a 3) (.n 1)) <| .g 1 (.p (.a 4) (.n 1)) (.m 2 (.a 2))) (.refl true) h1 h2 hl hln
    · simp only [List.length_append] at hz
      simp only [List.flatten_append, List.flatten_cons, List.flatten_nil, List.append_nil, List.length_append, hfl]
      exact lin [_, _, _, _] (.h 1 (.p (.p (.p (.a 0) (.a 1)) (.a 2)) (.a 3)) (.n 4000000) <| .g 1 (.p (.a 2) (.p (.p (.a 3) (.a 0)) (.a 1))) (.n 4000000)) (.refl true) hz
    · have := hK t' s' D'
      simpa [hfl] using this

theorem lk_fn_call : typeLookup (.type "function") "__call__" = pure (some (.builtin "function.__call__")) := by rw [typeLookup_type, builtinLookup_eq_fast]; kernel_rfl
theorem str_no_bytearray : isSubtype (.type "str") (.type "bytearray") = pure false := by rw [isSubtype_type]; kernel_rfl
theorem r_sub {code : Array Nat} {cb : List Nat → List Nat} {x out : List Nat} {t : Tok} {f c' : Addr} {oc : Obj} {jf : Nat} {Q : Value → Shared → Prop} (D : Led C s₀ L m led s) (hp : ∀ s', Prog C s' → PatAt s'.heap a code 1) (hx : x.length ≤ 1000000) (hout : out.length ≤ 4000000)
    (hAns : Answers prog C A.in1 x f c' fd oc cb) (hoc : oc.cls = .type "code") (hocd : ¬ isDict oc) (htc : tab c' = false) (hj : led[jf]? = some (f, .obj (fobj fd))) (hc : s.heap.get? c' = some oc)
    (hs : Subs code cb x 0 out) (h : ∀ t s', Led C s₀ L m led s' → Q (.str (S out) t) s') : W prog C A (call (.builtin "re.Pattern.sub") [.ref a, .ref f, .str (S x) t]) Q s := by
  have hT : s.TypeIs (.ref a) "re.Pattern" := by obtain ⟨pt, tk, fl, tf, c, items, n, e1, _⟩ := hp s D.now; exact ⟨_, e1, rfl⟩
  have hf := (D.nth jf hj).1
  refine ⟨wpAny_call (codeAny_call_builtin FR.slot_sub.plain FR.entry_sub (FR.slot_sub.check _ _ _ _ _ _ _ _ hT (FR.args_sub _ _ _) ?_))⟩
  show wpAny _ _ (reSubstitute "re.Pattern.sub" "sub" false ⟨[.ref a, .ref f, .str (S x) t], []⟩) _ _ s
  unfold reSubstitute
  dsimp only
  rw [named_sub]
  refine wpAny_bind (wpAny_pure ?_)
  dsimp only
  refine wpAny_bind (wpAny_pure ?_)
  refine wpAny_bind (wpAny_specialOf (T := "function") ⟨_, hf, rfl⟩ lk_fn_call ?_)
  rw [if_pos (show (some (Value.builtin "function.__call__")).isSome = true from rfl)]
  refine wpAny_bind (wpAny_pure ?_)
  rw [if_pos (show (some (Value.builtin "function.__call__")).isSome = true from rfl)]
  refine wpAny_bind (wpAny_pure ?_)
  refine wpAny_bind (wpAny_holding (w_whole (hp s D.now) ?_).any)
  rw [if_pos (by rfl)]
  refine wpAny_bind (m := reNotHeld _ _) ?_
  unfold reNotHeld
  refine wpAny_bind (wpAny_isInstance (T := "str") (b := false) (typeIs_str _ _ _) str_no_bytearray ?_)
  refine wpAny_pure ?_
  refine wpAny_bind (wpAny_newList ?_ (by simp))
  have D1 := D.new (.list []) (tk := s.toks) (h' := s.heap.push { cls := .type "list", data := .seq ([] : List Value).toArray }) (fun _ _ e => Heap.get?_push_of_some _ e) (Nat.le_refl _) ⟨0, Heap.get?_push_size _ rfl⟩ (Nat.le_refl _)
  refine wpAny_pure ⟨plainId_quiet plain_loop _, ?_⟩
  refine codeAny_mono (sub_loop (code := code) (cb := cb) (x := x) (K := Q) hp hx hAns hoc hocd htc hs 0 _ [] [] D1 hj (Heap.get?_push_of_some _ hc) .nil (by simp) (by simpa using hout) (fun t s' D => by simpa using h t s' D)) ?_
  intro r s' hr
  obtain ⟨v, e, q⟩ := hr
  subst e
  exact q
end
end Mine
end
-- S3
section
open PySem PySem.Calls PyProof.Rows PySem.W
namespace Mine

theorem firstHit (p : Nat → Bool) : ∀ r : List Nat, (∀ c ∈ r, p c = false) ∨ ∃ pre c y, r = pre ++ c :: y ∧ (∀ d ∈ pre, p d = false) ∧ p c = true
  | [] => .inl (by simp)
  | c :: r => by
    cases h : p c with
    | true => exact .inr ⟨[], c, r, rfl, by simp, h⟩
    | false =>
      rcases firstHit p r with h2 | ⟨pre, d, y, rfl, h3, h4⟩
      · exact .inl (by intro d hd; rcases List.mem_cons.mp hd with rfl | hd; exact h; exact h2 d hd)
      · exact .inr ⟨c :: pre, d, y, rfl, by intro e he; rcases List.mem_cons.mp he with rfl | he; exact h; exact h3 e he, h4⟩
theorem cut1 (a pre y : List Nat) : ((a ++ pre ++ y).take (a.length + pre.length)).drop a.length = pre := by
  have : (a ++ pre ++ y).take (a.length + pre.length) = a ++ pre := by
    rw [← List.length_append, List.take_left']
    rfl
  rw [this, List.drop_left']
  rfl

noncomputable def escBy (hit : Nat → Bool) (cb : List Nat → List Nat) (r : List Nat) : List Nat := r.flatMap fun d => if hit d then cb [d] else [d]
theorem escBy_app (hit cb) (a b : List Nat) : escBy hit cb (a ++ b) = escBy hit cb a ++ escBy hit cb b := by simp [escBy]
theorem escBy_none (hit cb) : ∀ r : List Nat, (∀ c ∈ r, hit c = false) → escBy hit cb r = r
  | [], _ => rfl
  | c :: r, h => by
    have h1 := h c (List.mem_cons_self ..)
    have h2 := escBy_none hit cb r fun d hd => h d (List.mem_cons_of_mem _ hd)
    show (if hit c = true then cb [c] else [c]) ++ escBy hit cb r = c :: r
    rw [h1, h2]; rfl
theorem subs_one {code : Array Nat} {hit : Nat → Bool} {d b : Nat} {cb : List Nat → List Nat} (O : OneSet code hit d b) : ∀ (n : Nat) (a r : List Nat), r.length ≤ n → (∀ c ∈ r, c < 128) → Subs code cb (a ++ r) a.length (escBy hit cb r) := by
  intro n
  induction n with
  | zero =>
    intro a r hr h128
    have : r = [] := List.length_eq_zero_iff.mp (by exact Nat.le_antisymm (hr) (lin [_] (.g 1 (.n 0) (.a 0)) (.refl true)))
    subst this
    have := Subs.stop (cb := cb) (x := a ++ []) (s := a.length) (by simp) (O.fails (a := a) (pre := []) (by simp))
    simpa [escBy] using this
  | succ n ih =>
    intro a r hr h128
    rcases firstHit hit r with h | ⟨pre, c, y, rfl, h1, h2⟩
    · have := Subs.stop (cb := cb) (x := a ++ r) (s := a.length) (by simp) (O.fails (a := a) (pre := r) fun c hc => ⟨h c hc, h128 c hc⟩)
      rw [List.drop_left'] at this
      · rw [escBy_none hit cb r h]; exact this
      · rfl
    · have hc : c < 128 := h128 c (by simp)
      have hf := O.finds (a := a) (pre := pre) (y := y) (c := c) (fun e he => ⟨h1 e he, h128 e (by simp [he])⟩) h2 hc
      have ih1 := ih (a ++ pre ++ [c]) y (by simp at hr; exact lin [_, _, _] (.h 1 (.p (.a 0) (.p (.a 1) (.n 1))) (.p (.a 2) (.n 1)) <| .g 1 (.a 1) (.a 2)) (.refl true) hr) (fun e he => h128 e (by simp [he]))
      have e1 : a ++ pre ++ [c] ++ y = a ++ pre ++ c :: y := by simp
      have e2 : (a ++ pre ++ [c]).length = a.length + pre.length + 1 := by simp; exact Nat.le_antisymm (lin [_, _] (.g 1 (.p (.a 0) (.p (.a 1) (.n 1))) (.p (.p (.a 0) (.a 1)) (.n 1))) (.refl true)) (lin [_, _] (.g 1 (.p (.p (.a 0) (.a 1)) (.n 1)) (.p (.a 0) (.p (.a 1) (.n 1)))) (.refl true))
      rw [e1, e2] at ih1
      have := Subs.hit (cb := cb) hf (by exact lin [_, _] (.g 1 (.a 0) (.p (.a 0) (.a 1))) (.refl true)) (by exact lin [_, _] (.j 1 (.p (.a 0) (.a 1)) (.p (.p (.a 0) (.a 1)) (.n 1))) (.refl true)) (by simp; exact lin [_, _, _] (.g 1 (.p (.p (.a 0) (.a 1)) (.n 1)) (.p (.a 0) (.p (.a 1) (.p (.a 2) (.n 1))))) (.refl true)) (by exact lin [_, _] (.g 1 (.p (.a 0) (.a 1)) (.p (.p (.a 0) (.a 1)) (.n 1))) (.refl true)) ih1
      have g1 : ((a ++ pre ++ c :: y).take (a.length + pre.length + 1)).drop (a.length + pre.length) = [c] := by
        have := cut1 (a ++ pre) [c] y
        rw [show a ++ pre ++ [c] ++ y = a ++ pre ++ c :: y by simp] at this
        simpa using this
      rw [cut1, g1] at this
      rw [← List.append_assoc]
      have e3 : escBy hit cb (pre ++ c :: y) = pre ++ cb [c] ++ escBy hit cb y := by
        rw [escBy_app, escBy_none hit cb pre h1]
        show pre ++ ((if hit c = true then cb [c] else [c]) ++ escBy hit cb y) = _
        rw [h2]; simp
      rw [e3]; exact this

/-- pairs of a backslash and a sign, other signs alone -/
inductive Body : List Nat → Prop
  | nil : Body []
  | one {c r} : c ≠ 92 → c ≠ 34 → Body r → Body (c :: r)
  | two {c r} : c ≠ 10 → Body r → Body (92 :: c :: r)
noncomputable def unesc : List Nat → List Nat
  | 92 :: c :: r => c :: unesc r
  | c :: r => c :: unesc r
  | [] => []
theorem unesc_one {c : Nat} {r : List Nat} (h : c ≠ 92) : unesc (c :: r) = c :: unesc r := by
  cases r with
  | nil => rw [unesc]; simp
  | cons d r => rw [unesc]; simp; exact fun q => absurd q h
theorem unesc_two {c : Nat} {r : List Nat} : unesc (92 :: c :: r) = c :: unesc r := by rw [unesc]
theorem unesc_free : ∀ {pre r : List Nat}, (∀ c ∈ pre, c ≠ 92) → unesc (pre ++ r) = pre ++ unesc r
  | [], _, _ => rfl
  | c :: pre, r, h => by
    rw [List.cons_append, unesc_one (h c (List.mem_cons_self ..)), unesc_free fun d hd => h d (List.mem_cons_of_mem _ hd)]; rfl
theorem Body.cut {r : List Nat} (h : Body r) : (∀ c ∈ r, c ≠ 92 ∧ c ≠ 34) ∨ ∃ pre c y, r = pre ++ 92 :: c :: y ∧ (∀ d ∈ pre, d ≠ 92 ∧ d ≠ 34) ∧ c ≠ 10 ∧ Body y := by
  induction h with
  | nil => exact .inl (by simp)
  | one h1 h2 hb ih =>
    rename_i c r
    rcases ih with h | ⟨pre, d, y, rfl, h3, h4, h5⟩
    · exact .inl (by intro d hd; rcases List.mem_cons.mp hd with rfl | hd; exact ⟨h1, h2⟩; exact h d hd)
    · exact .inr ⟨c :: pre, d, y, rfl, by intro e he; rcases List.mem_cons.mp he with rfl | he; exact ⟨h1, h2⟩; exact h3 e he, h4, h5⟩
  | two h1 h2 ih =>
    rename_i c r
    exact .inr ⟨[], c, r, rfl, by simp, h1, h2⟩
theorem subs_E : ∀ (n : Nat) (a r : List Nat), r.length ≤ n → Body r → (a ++ r).length ≤ 2000000 → Subs codeE (fun g => g) (a ++ r) a.length (unesc r) := by
  intro n
  induction n with
  | zero =>
    intro a r hr hb hz
    have : r = [] := List.length_eq_zero_iff.mp (by exact Nat.le_antisymm (hr) (lin [_] (.g 1 (.n 0) (.a 0)) (.refl true)))
    subst this
    have := Subs.stop (cb := fun g => g) (x := a ++ []) (s := a.length) (by simp) (e_fails (a := a) (pre := []) (by simp) hz)
    rw [List.drop_left'] at this
    · exact this
    · rfl
  | succ n ih =>
    intro a r hr hb hz
    rcases hb.cut with h | ⟨pre, c, y, rfl, h1, h2, h3⟩
    · have := Subs.stop (cb := fun g => g) (x := a ++ r) (s := a.length) (by simp) (e_fails (a := a) (pre := r) (fun c hc => (h c hc).1) hz)
      rw [List.drop_left'] at this
      · have e := unesc_free (pre := r) (r := []) fun c hc => (h c hc).1
        rw [List.append_nil] at e
        rw [e, show unesc [] = [] from rfl, List.append_nil]; exact this
      · rfl
    · have hf := e_finds (a := a) (pre := pre) (y := y) (c := c) (fun e he => (h1 e he).1) h2 (by simpa using hz)
      have ih1 := ih (a ++ pre ++ [92, c]) y (by simp at hr; exact lin [_, _, _] (.h 1 (.p (.a 0) (.p (.p (.a 1) (.n 1)) (.n 1))) (.p (.a 2) (.n 1)) <| .g 1 (.a 1) (.a 2)) (.refl true) hr) h3 (by simpa using hz)
      have e1 : a ++ pre ++ [92, c] ++ y = a ++ pre ++ 92 :: c :: y := by simp
      have e2 : (a ++ pre ++ [92, c]).length = a.length + pre.length + 2 := by simp; exact Nat.le_antisymm (lin [_, _] (.g 1 (.p (.a 0) (.p (.a 1) (.n 2))) (.p (.p (.a 0) (.a 1)) (.n 2))) (.refl true)) (lin [_, _] (.g 1 (.p (.p (.a 0) (.a 1)) (.n 2)) (.p (.a 0) (.p (.a 1) (.n 2)))) (.refl true))
      rw [e1, e2] at ih1
      have := Subs.hit (cb := fun g => g) hf (by exact lin [_, _] (.g 1 (.a 0) (.p (.a 0) (.a 1))) (.refl true)) (by exact lin [_, _] (.j 1 (.p (.a 0) (.a 1)) (.p (.p (.a 0) (.a 1)) (.n 2))) (.refl true)) (by simp; exact lin [_, _, _] (.g 1 (.p (.p (.a 0) (.a 1)) (.n 2)) (.p (.a 0) (.p (.a 1) (.p (.p (.a 2) (.n 1)) (.n 1))))) (.refl true)) (by exact lin [_, _] (.g 1 (.p (.p (.a 0) (.a 1)) (.n 1)) (.p (.p (.a 0) (.a 1)) (.n 2))) (.refl true)) ih1
      have g1 : ((a ++ pre ++ 92 :: c :: y).take (a.length + pre.length + 2)).drop (a.length + pre.length + 1) = [c] := by
        have := cut1 (a ++ pre ++ [92]) [c] y
        have e5 : (a ++ pre ++ [92]).length = a.length + pre.length + 1 := by simp; exact Nat.le_antisymm (lin [_, _] (.g 1 (.p (.a 0) (.p (.a 1) (.n 1))) (.p (.p (.a 0) (.a 1)) (.n 1))) (.refl true)) (lin [_, _] (.g 1 (.p (.p (.a 0) (.a 1)) (.n 1)) (.p (.a 0) (.p (.a 1) (.n 1)))) (.refl true))
        rw [show a ++ pre ++ [92] ++ [c] ++ y = a ++ pre ++ 92 :: c :: y by simp, e5] at this
        exact this
      rw [cut1, g1] at this
      rw [← List.append_assoc, unesc_free fun c hc => (h1 c hc).1, unesc_two]
      simpa using this
theorem Body.rounds {r : List Nat} (h : Body r) : ∃ pre rs, r = pre ++ flatR rs ∧ (∀ c ∈ pre, c ≠ 34 ∧ c ≠ 92) ∧ okR rs := by
  induction h with
  | nil => exact ⟨[], [], rfl, by simp, by intro x hx; cases hx⟩
  | one h1 h2 hb ih =>
    rename_i c r
    obtain ⟨pre, rs, rfl, h3, h4⟩ := ih
    exact ⟨c :: pre, rs, rfl, by intro d hd; rcases List.mem_cons.mp hd with rfl | hd; exact ⟨h2, h1⟩; exact h3 d hd, h4⟩
  | two h1 hb ih =>
    rename_i c r
    obtain ⟨pre, rs, rfl, h3, h4⟩ := ih
    refine ⟨[], (c, pre) :: rs, by simp [flatR], by simp, ?_⟩
    intro x hx
    rcases List.mem_cons.mp hx with rfl | hx
    · exact ⟨h1, h3⟩
    · exact h4 x hx
theorem body_finds {r : List Nat} (h : Body r) (hz : r.length ≤ 1000000) : Finds codeQ ([61, 34] ++ r ++ [34]) 0 (some (0, r.length + 3, 2, r.length + 2)) := by
  obtain ⟨pre, rs, rfl, h1, h2⟩ := h.rounds
  have := q_finds h1 h2 (by simpa using hz)
  simpa using this
end Mine
end
-- G1
section
open PySem PySem.Calls PyProof.Rows PySem.W
namespace Mine
section
variable {prog : Program} {C : Cx} {A : Around} {s₀ s : Shared} {L a : Addr} {m : Str → Option Value} {led : List (Addr × Cell)} {fd : FuncData} {env : Env}

theorem x_assignT {ts : List Expr} {k : Nat} {tpos pos : Pos} {value : Expr} {Q : Flow → Shared → Prop} (h : W prog C A (eval value env) (fun v s₁ => W prog C A (assign (.Tuple ts k tpos) env v) (fun _ => Q Flow.next) s₁) s)
    (hs : swapsWithSole [.Tuple ts k tpos] value pos.line env = pure false := by rfl) (hw : swappedStores [.Tuple ts k tpos] value env = pure none := by rfl)
    (he : (assignEach [.Tuple ts k tpos] env).map (·.2) = [assign (.Tuple ts k tpos) env] := by rfl) : W prog C A (exec (.Assign [.Tuple ts k tpos] value pos) env) Q s :=
  ⟨wpAny_Assign_stores (wpAny_mono h.out (fun v s₁ h₁ => by rw [he]; exact h₁.out) fun _ _ x => x) hs hw⟩
inductive SwapQ (prog : Program) (C : Cx) (A : Around) (env : Env) (x1 x2 : Str) (Q : Flow → Shared → Prop) (v : Value) (s₁ : Shared) : Prop
  | intro (s₀ : Shared) (L : Addr) (m : Str → Option Value) (led : List (Addr × Cell)) (b : Addr) (a1 a2 : Value) (D : Led C s₀ L m led s₁) (hv : v = .ref b) (hb : (Cell.tup [a1, a2]).At s₁.heap b) (hh : A.handled = none) (k : ∀ s', Led C s₀ L m led s' → W prog C A (storeName env x2 a2) (fun _ s₂ => W prog C A (storeName env x1 a1) (fun _ => Q Flow.next) s₂) s') : SwapQ prog C A env x1 x2 Q v s₁
theorem x_swap {x1 x2 : Str} {p1 p2 tpos pos : Pos} {k : Nat} {value : Expr} {Q : Flow → Shared → Prop}
    (h : W prog C A (eval value env) (SwapQ prog C A env x1 x2 Q) s)
    (hs : swapsWithSole [.Tuple [.Name x1 p1, .Name x2 p2] k tpos] value pos.line env = pure false := by rfl) (hw : swappedStores [.Tuple [.Name x1 p1, .Name x2 p2] k tpos] value env = pure (some [x1, x2]) := by rfl) :
    W prog C A (exec (.Assign [.Tuple [.Name x1 p1, .Name x2 p2] k tpos] value pos) env) Q s := by
  refine ⟨?_⟩
  rw [exec_Assign_arm]
  refine wpAny_bind (wpAny_standAt ?_)
  rw [hs]
  refine wpAny_bind (wpAny_pure ?_)
  rw [if_neg (by decide)]
  refine wpAny_bind (wpAny_mono h.out (fun v s₁ ⟨s₀, L, m, led, b, a1, a2, D, e, hb, hh, q⟩ => ?_) fun _ _ x => x)
  subst e
  rw [hw]
  refine wpAny_bind (wpAny_pure ?_)
  show wpAny _ _ (do rule "assign.swapped-stores"; let items ← unpackItems (.ref b) 2 none; assignInOrder [fun v => bindName env x2 v, fun v => bindName env x1 v] items.reverse; pure Flow.next) _ _ s₁
  refine wpAny_bind (wpAny_rule (wpAny_bind (wpAny_unpackItems_tuple (items := #[a1, a2]) hh hb.isTuple fun h' hx => ?_)))
  refine wpAny_bind ?_
  show wpAny _ _ (assignInOrder [fun v => bindName env x2 v, fun v => bindName env x1 v] [a2, a1]) _ _ _
  refine assignInOrder_cons (wpAny_bindName (wpAny_mono (q _ (D.ext hx (Nat.le_refl _))).out (fun _ s₂ h₂ => ?_) fun _ _ x => x))
  exact assignInOrder_cons (wpAny_bindName (wpAny_mono h₂.out (fun _ s₃ h₃ => assignInOrder_nil (wpAny_pure h₃)) fun _ _ x => x))

theorem e_sliceT {value : Expr} {lower upper : Option Expr} {p pos : Pos} {Q : Value → Shared → Prop}
    (h : W prog C A (eval value env) (fun o s₁ => W prog C A (evalPart lower env) (fun vl s₂ => W prog C A (evalPart upper env) (fun vu s₃ => SliceOn C o vl vu Q s₃) s₂) s₁) s) :
    W prog C A (eval (.Subscript value (.Slice lower upper none p) pos) env) Q s := by
  refine ⟨?_⟩
  rw [eval_Subscript]
  refine wpAny_bind (wpAny_mono h.out (fun o s₁ h₁ => wpAny_bind (wpAny_holding (wpAny_mono (wpAny_Slice (Q := fun i s₂ => s₂.TypeIs o "str" ∧ wpAny (model prog C.w) A (getItem o i) Q NoE s₂)
    (wpAny_mono h₁.out (fun vl s₂ h₂ => wpAny_mono h₂.out (fun vu s₃ h₃ => ?_) fun _ _ e => e) fun _ _ e => e)) (fun i s₂ h₂ => wpAny_bind (wpAny_standAt ?_)) fun _ _ x => x)))
    fun _ _ x => x)
  · obtain ⟨s₀, L, m, led, x, t, l, u, D, rfl, rfl, rfl, hx, hQ⟩ := h₃
    rw [evalPart_none]
    refine wpAny_pure ⟨typeIs_str _ (S x) t, wpAny_getItem_str_slice (l := l) (u := u) (st := none) ⟨_, Heap.get?_push_size _ rfl, rfl, rfl⟩ rfl ?_⟩
    refine post_two ?_ fun t' k hk => ?_
    · show (Txt.slice (S x) (l.map (·.1)) (u.map (·.1))).length ≤ sizeLine
      exact Nat.le_trans (Txt.slice_le _ _ _) (by rw [S_len]; exact hx)
    · exact hQ t' _ (D.step (Next.keeps (fun _ _ e => Heap.get?_push_of_some _ e) hk))
  · have fin : wpAny (model prog C.w) A (operate [i, o] (getItem o i)) (fun r s₃ => wpAny (model prog C.w) A (letTemporaryGo value o r >>= fun _ => pure r) Q NoE s₃) NoE s₂ :=
      wpAny_operating (wpAny_mono h₂.2 (fun r s₃ h₃ => wpAny_bind (wpAny_letTemporaryGo (wpAny_pure h₃))) fun _ _ x => x)
    refine wpAny_bind ?_
    rw [getitemInPython_of_ne h₂.1.not_modules]
    refine wpAny_bind (wpAny_specialOf h₂.1 F.slot_str_getitem.lookup ?_)
    exact wpAny_pure (wpAny_bind fin)
theorem unmatched_spec {mt tp : Addr} {x : List Nat} {t : Tok} {p : Value} {lim j e b b' : Nat} {Q : Value → Shared → Prop} (P : Prog C s) (R : Room A 1) (hm : (matchCell (.str (S x) t) p lim tp).At s.heap mt) (ht : (Cell.tup (spanVals j e b b')).At s.heap tp)
    (hx : x.length ≤ 1000000) (hje : j ≤ e) (he : e ≤ x.length) (h : ∀ t s', Next C.N s s' → Q (.str (S (x.take j ++ x.drop e)) t) s') : W prog C A (call (.ref 43) [.ref mt]) Q s := by
  refine rEnter (n := 0) (binds := [(Str.ofString "match", .ref mt)]) P R F43.2 rfl (.of_eq rfl) fun s₁ L R D => ?_
  have am : ∀ {led m s'}, Led C s L m led s' → (matchCell (.str (S x) t) p lim tp).At s'.heap mt := fun D => D.argO hm (by simp)
  have at' : ∀ {led m s'}, Led C s L m led s' → (Cell.tup (spanVals j e b b')).At s'.heap tp := fun D => D.argT ht
  refine x_consL ?_
  intro Qs
  refine x_assignT <| e_m1 <| rName D rfl <| m_ref M_span (am D).1 rfl rfl <| sp_cons <| rInt D fun t s' D => sp_nil ?_
  refine r_span0 D (am D) (at' D) fun c t1 t2 s' D => ?_
  refine t_two D (D.nth 0 rfl) R.hh fun s' D => as_name <| rStore D fun s' D => as_name <| rStore D fun s' D => ?_
  refine x_consL ?_
  intro Qs
  refine x_ret <| e_bin <| e_sliceT <| e_string <| rName D rfl ⟨_, _, _, _, _, _, _, _, _, _, D, rfl, am D, fun s' D => ?_⟩
  refine p_none <| p_some <| rName D rfl <| sl_to D (by simp [sizeLine]; exact lin [_] (.h 1 (.a 0) (.n 1000000) <| .g 1 (.a 0) (.n 16777216)) (.refl true) hx) (by exact lin [_, _, _] (.h 1 (.a 0) (.a 1) <| .h 1 (.a 1) (.a 2) <| .g 1 (.a 0) (.a 2)) (.refl true) hje he) fun t s' D => ?_
  refine e_sliceT <| e_string <| rName D rfl ⟨_, _, _, _, _, _, _, _, _, _, D, rfl, am D, fun s' D => ?_⟩
  refine p_some <| rName D rfl <| p_none <| sl_from D (by simp [sizeLine]; exact lin [_] (.h 1 (.a 0) (.n 1000000) <| .g 1 (.a 0) (.n 16777216)) (.refl true) hx) he fun t s' D => ?_
  refine rAddS D (by simp [sizeLine]; omega) fun t s' D => ?_
  exact h _ _ D.next
end
end Mine
end
-- F3
section
open PySem PySem.Calls PyProof.Rows PySem.W
namespace Mine

inductive Item where
  | lit (c : Nat)
  | any
  | star
  | one (b : Bool) (c : Nat)
  | rng (b : Bool) (c d : Nat)
noncomputable def opn (b : Bool) : List Nat := if b then [91, 33] else [91]
noncomputable def front (b : Bool) : List (List Nat) := if b then [[91], [94]] else [[91]]
noncomputable def first (b : Bool) (c : Nat) : List Nat := if [94, 91].contains c && !b then [92, c] else inner c
noncomputable def Item.written : Item → List Nat
  | .lit c => [c]
  | .any => [63]
  | .star => [42]
  | .one b c => opn b ++ [c] ++ [93]
  | .rng b c d => opn b ++ [c] ++ [45] ++ [d] ++ [93]
noncomputable def Item.pieces : Item → List (List Nat)
  | .lit c => [outer c]
  | .any => [[46]]
  | .star => []
  | .one b c => front b ++ [first b c, [93]]
  | .rng b c d => if c ≤ d then front b ++ [first b c, [45], inner d, [93]] else if b then [[46]] else [[40], [63], [33], [41]]
noncomputable def item (n : Nat) : Item :=
  let one := sign (n / 8)
  let two := sign (n / 256)
  if n % 8 = 2 then .any
  else if n % 8 = 3 then .star
  else if n % 8 < 2 ∧ ([42, 63, 91] : List Nat).contains one = false then .lit one
  else
    let b := decide (n % 8 = 5) || decide (n % 8 = 7)
    let c := if one = 33 ∧ b = false then 97 else one
    let d := if two = 93 then 97 else two
    if n % 8 < 6 then .one b c else .rng b c d

section
variable {prog : Program} {C : Cx} {A : Around} {s₀ s : Shared} {L a : Addr} {m : Str → Option Value} {led : List (Addr × Cell)} {fd : FuncData} {env : Env}

theorem e_or2 {x y : Expr} {pos : Pos} {Q : Value → Shared → Prop}
    (h : W prog C A (eval x env) (fun v s₁ => W prog C A (truthy v) (fun t s₂ => if t = true then Q v s₂ else W prog C A (eval y env) Q s₂) s₁) s) : W prog C A (eval (.BoolOp .Or [x, y] pos) env) Q s :=
  ⟨wpAny_Or2 (wpAny_mono h.out (fun v s₁ h₁ => wpAny_mono h₁.out (fun t s₂ h₂ => by
    cases t
    · exact W.out h₂
    · exact h₂) fun _ _ x => x) fun _ _ x => x)⟩

noncomputable abbrev bodyOf (fd : FuncData) : List Stmt := match fd.body with | .stmts b => b | _ => []
noncomputable abbrev RetQ (Q : Value → Shared → Prop) (fl : Flow) (s : Shared) : Prop := Q (match fl with | .ret v => v | _ => .none) s
noncomputable abbrev env175 (L : Addr) : Env := callEnv F175.1 L 175
noncomputable abbrev GotItem (C : Cx) (s₀ : Shared) (it : Item) (Q : Value → Shared → Prop) : Prop :=
  ∀ b p vs t L' m' s', Led C s₀ L' m' [(b, .tup [.str (S it.written) t, .ref p]), (p, .list vs)] s' → Strs vs it.pieces → Q (.ref b) s'

theorem item_tail13 {Q : Value → Shared → Prop} {k c d : Nat} {b : Bool} {f : Addr} {fv : List Value} {tk tc td tb tf : Tok} (D : Led C s₀ L m [(f, .list fv)] s) (hv : Strs fv (front b))
    (mk : m (Str.ofString "kind") = some (.int (k : Int) tk)) (mb : m (Str.ofString "barred") = some (.bool b)) (mc : m (Str.ofString "one") = some (.str (S [c]) tc)) (md : m (Str.ofString "two") = some (.str (S [d]) td))
    (mbg : m (Str.ofString "begin") = some (.str (S (opn b)) tb)) (mf : m (Str.ofString "front") = some (.ref f)) (mfi : m (Str.ofString "first") = some (.str (S (first b c)) tf))
    (R : Room A 1) (h : GotItem C s₀ (if k < 6 then .one b c else .rng b c d) Q) : W prog C A (execs ((bodyOf F175.1).drop 13) (env175 L)) (RetQ Q) s := by
  have lo : (opn b).length ≤ 2 := by cases b <;> decide
  have lf : (front b).length ≤ 2 := by cases b <;> decide
  have lv : fv.length ≤ 2 := by rw [hv.length]; exact lf
  refine x_consL ?_
  intro Qs
  refine x_if ?_
  intro Qi
  refine (t_cmp (rName D mk (rIntN 6 D fun t s' D => rLtN ⟨_, rfl, rIf (fun hb => ?_) (fun hb => ?_)⟩)))
  · have hk := of_decide_eq_true hb
    rw [if_pos hk] at h
    refine x_consL ?_
    intro Qs
    refine x_ret <| e_tup <| a_cons <| e_bin <| e_bin <| rName D mbg <| rName D mc <| rAddS D (by simp [sizeLine]; exact lin [_] (.h 1 (.a 0) (.n 2) <| .g 1 (.a 0) (.n 16777215)) (.refl true) lo) fun t s' D => rStrS [93] D fun t s' D => rAddS D (by simp [sizeLine]; exact lin [_] (.h 1 (.a 0) (.n 2) <| .g 1 (.a 0) (.n 16777214)) (.refl true) lo) fun t s' D =>
      a_cons <| e_bin <| rName D mf <| e_list <| a_cons <| rName D mfi <| a_cons <| rStrS [93] D fun t s' D => a_nil ⟨_, _, _, _, D, Nat.le_of_ble_eq_true rfl, fun g s' D => ?_⟩
    refine rAddL D (D.nth 1 rfl) (D.nth 0 rfl) (by simp [sizeLine]; exact lin [_] (.h 1 (.a 0) (.n 2) <| .g 1 (.a 0) (.n 16777214)) (.refl true) lv) fun p s' D => a_nil ⟨_, _, _, _, D, Nat.le_of_ble_eq_true rfl, fun q s' D => ?_⟩
    exact h _ _ _ _ _ _ _ (D.forget (List.sublist_append_left [_, _] _)) (hv.append (.cons _ _ (.cons _ _ .nil)))
  have hk := of_decide_eq_false hb
  rw [if_neg hk] at h
  refine x_nil (x_consL ?_)
  intro Qs
  refine x_if ?_
  intro Qi
  refine (t_cmp (rName D mc (rName D md (rLeC ⟨_, rfl, rIf (fun hb => ?_) (fun hb => ?_)⟩))))
  · have hcd := of_decide_eq_true hb
    unfold GotItem Item.pieces at h
    simp only [if_pos hcd] at h
    refine x_consL ?_
    intro Qs
    refine x_ret <| e_tup <| a_cons <| e_bin <| e_bin <| e_bin <| e_bin <| rName D mbg <| rName D mc <| rAddS D (by simp [sizeLine]; exact lin [_] (.h 1 (.a 0) (.n 2) <| .g 1 (.a 0) (.n 16777215)) (.refl true) lo) fun t s' D => rStrS [45] D fun t s' D => rAddS D (by simp [sizeLine]; exact lin [_] (.h 1 (.a 0) (.n 2) <| .g 1 (.a 0) (.n 16777214)) (.refl true) lo) fun t s' D =>
      rName D md <| rAddS D (by simp [sizeLine]; exact lin [_] (.h 1 (.a 0) (.n 2) <| .g 1 (.a 0) (.n 16777213)) (.refl true) lo) fun t s' D => rStrS [93] D fun t s' D => rAddS D (by simp [sizeLine]; exact lin [_] (.h 1 (.a 0) (.n 2) <| .g 1 (.a 0) (.n 16777212)) (.refl true) lo) fun t s' D =>
      a_cons <| e_bin <| rName D mf <| e_list <| a_cons <| rName D mfi <| a_cons <| rStrS [45] D fun t s' D => a_cons <| e_def D.now g_inner F168.2 <| a_cons <| rName D md <| a_nil ⟨D.now, inner_spec D.now R fun t s' nx => ?_⟩
    have D := D.step nx
    refine a_cons (rStrS [93] D fun t s' D => a_nil ⟨_, _, _, _, D, Nat.le_of_ble_eq_true rfl, fun g s' D => ?_⟩)
    refine rAddL D (D.nth 1 rfl) (D.nth 0 rfl) (by simp [sizeLine]; exact lin [_] (.h 1 (.a 0) (.n 2) <| .g 1 (.a 0) (.n 16777212)) (.refl true) lv) fun p s' D => a_nil ⟨_, _, _, _, D, Nat.le_of_ble_eq_true rfl, fun q s' D => ?_⟩
    exact h _ _ _ _ _ _ _ (D.forget (List.sublist_append_left [_, _] _)) (hv.append (.cons _ _ (.cons _ _ (.cons _ _ (.cons _ _ .nil)))))
  have hcd := of_decide_eq_false hb
  unfold GotItem Item.pieces at h
  simp only [if_neg hcd] at h
  refine x_nil (x_consL ?_)
  intro Qs
  refine x_if ?_
  intro Qi
  refine (t_val (rName D mb (truthy_b (rIf (fun hb => ?_) (fun hb => ?_)))))
  · simp only [if_pos hb] at h
    refine x_consL ?_
    intro Qs
    refine x_ret <| e_tup <| a_cons <| e_bin <| e_bin <| e_bin <| e_bin <| rName D mbg <| rName D mc <| rAddS D (by simp [sizeLine]; exact lin [_] (.h 1 (.a 0) (.n 2) <| .g 1 (.a 0) (.n 16777215)) (.refl true) lo) fun t s' D => rStrS [45] D fun t s' D => rAddS D (by simp [sizeLine]; exact lin [_] (.h 1 (.a 0) (.n 2) <| .g 1 (.a 0) (.n 16777214)) (.refl true) lo) fun t s' D =>
      rName D md <| rAddS D (by simp [sizeLine]; exact lin [_] (.h 1 (.a 0) (.n 2) <| .g 1 (.a 0) (.n 16777213)) (.refl true) lo) fun t s' D => rStrS [93] D fun t s' D => rAddS D (by simp [sizeLine]; exact lin [_] (.h 1 (.a 0) (.n 2) <| .g 1 (.a 0) (.n 16777212)) (.refl true) lo) fun t s' D =>
      a_cons <| e_list <| a_cons <| rStrS [46] D fun t s' D => a_nil ⟨_, _, _, _, D, Nat.le_of_ble_eq_true rfl, fun p s' D => ?_⟩
    refine a_nil ⟨_, _, _, _, D, Nat.le_of_ble_eq_true rfl, fun q s' D => ?_⟩
    exact h _ _ _ _ _ _ _ (D.forget (List.sublist_append_left [_, _] _)) (.cons _ _ .nil)
  · simp only [if_neg (show ¬ b = true by rw [hb]; decide)] at h
    refine x_nil <| x_consL ?_
    intro Qs
    refine x_ret <| e_tup <| a_cons <| e_bin <| e_bin <| e_bin <| e_bin <| rName D mbg <| rName D mc <| rAddS D (by simp [sizeLine]; exact lin [_] (.h 1 (.a 0) (.n 2) <| .g 1 (.a 0) (.n 16777215)) (.refl true) lo) fun t s' D => rStrS [45] D fun t s' D => rAddS D (by simp [sizeLine]; exact lin [_] (.h 1 (.a 0) (.n 2) <| .g 1 (.a 0) (.n 16777214)) (.refl true) lo) fun t s' D =>
      rName D md <| rAddS D (by simp [sizeLine]; exact lin [_] (.h 1 (.a 0) (.n 2) <| .g 1 (.a 0) (.n 16777213)) (.refl true) lo) fun t s' D => rStrS [93] D fun t s' D => rAddS D (by simp [sizeLine]; exact lin [_] (.h 1 (.a 0) (.n 2) <| .g 1 (.a 0) (.n 16777212)) (.refl true) lo) fun t s' D =>
      a_cons <| e_list <| a_cons <| rStrS [40] D fun t s' D => a_cons <| rStrS [63] D fun t s' D => a_cons <| rStrS [33] D fun t s' D => a_cons <| rStrS [41] D fun t s' D => a_nil ⟨_, _, _, _, D, Nat.le_of_ble_eq_true rfl, fun p s' D => ?_⟩
    refine a_nil ⟨_, _, _, _, D, Nat.le_of_ble_eq_true rfl, fun q s' D => ?_⟩
    exact h _ _ _ _ _ _ _ (D.forget (List.sublist_append_left [_, _] _)) (.cons _ _ (.cons _ _ (.cons _ _ (.cons _ _ .nil))))

theorem item_tail11 {Q : Value → Shared → Prop} {k c d : Nat} {b : Bool} {f : Addr} {fv : List Value} {tk tc td tb : Tok} (D : Led C s₀ L m [(f, .list fv)] s) (hv : Strs fv (front b))
    (mk : m (Str.ofString "kind") = some (.int (k : Int) tk)) (mb : m (Str.ofString "barred") = some (.bool b)) (mc : m (Str.ofString "one") = some (.str (S [c]) tc)) (md : m (Str.ofString "two") = some (.str (S [d]) td))
    (mbg : m (Str.ofString "begin") = some (.str (S (opn b)) tb)) (mf : m (Str.ofString "front") = some (.ref f))
    (R : Room A 1) (h : GotItem C s₀ (if k < 6 then .one b c else .rng b c d) Q) : W prog C A (execs ((bodyOf F175.1).drop 11) (env175 L)) (RetQ Q) s := by
  refine x_consL ?_
  intro Qs
  refine x_assign <| e_def D.now g_inner F168.2 <| a_cons <| rName D mc <| a_nil ⟨D.now, inner_spec D.now R fun t s' nx => ?_⟩
  have D := D.step nx
  refine rStore D fun s' D => ?_
  refine x_consL ?_
  intro Qs
  refine x_if ?_
  intro Qi
  refine t_bool <| t_and <| t_cmp <| rName D mc <| rStrS [94, 91] D fun t s' D => rInS ⟨_, rfl, rIf (fun hb => ?_) (fun hb => ?_)⟩
  · refine t_and <| t_not <| t_val <| rName D mb <| truthy_b <| rIf (fun hb' => t_and0 <| rIfT rfl ?_) (fun hb' => rIfF rfl ?_)
    · have e : first b c = [92] ++ [c] := by
        unfold first; rw [hb, hb']; rfl
      refine x_consL ?_
      intro Qs
      refine x_assign <| e_bin <| rStrS [92] D fun t s' D => rName D mc <| rAddS D (Nat.le_of_ble_eq_true rfl) fun t s' D => rStore D fun s' D => x_nil ?_
      rw [← e] at D
      exact item_tail13 D hv mk mb mc md mbg mf rfl R h
    · have e : first b c = inner c := by
        unfold first; rw [hb, hb']; rfl
      rw [← e] at D
      exact x_nil (item_tail13 D hv mk mb mc md mbg mf rfl R h)
  · have e : first b c = inner c := by
      unfold first; rw [hb]; rfl
    rw [← e] at D
    exact rIfF rfl (x_nil (item_tail13 D hv mk mb mc md mbg mf rfl R h))
theorem item_tail9 {Q : Value → Shared → Prop} {k c d : Nat} {b : Bool} {tk tc td : Tok} (D : Led C s₀ L m [] s)
    (mk : m (Str.ofString "kind") = some (.int (k : Int) tk)) (mb : m (Str.ofString "barred") = some (.bool b)) (mc : m (Str.ofString "one") = some (.str (S [c]) tc)) (md : m (Str.ofString "two") = some (.str (S [d]) td))
    (R : Room A 1) (h : GotItem C s₀ (if k < 6 then .one b c else .rng b c d) Q) : W prog C A (execs ((bodyOf F175.1).drop 9) (env175 L)) (RetQ Q) s := by
  refine x_consL ?_
  intro Qs
  refine x_assign <| e_ifexp <| t_val <| rName D mb <| truthy_b <| rIf (fun hb => ?_) (fun hb => ?_)
  · subst hb
    refine rStrS [91, 33] D fun t s' D => rStore D fun s' D => ?_
    refine x_consL ?_
    intro Qs
    refine x_assign <| e_ifexp <| t_val <| rName D mb <| truthy_b <| rIfT rfl ?_
    refine e_list <| a_cons <| rStrS [91] D fun t s' D => a_cons <| rStrS [94] D fun t s' D => a_nil ⟨_, _, _, _, D, Nat.le_of_ble_eq_true rfl, fun f s' D => rStore D fun s' D => ?_⟩
    exact item_tail11 (b := true) D (.cons _ _ (.cons _ _ .nil)) mk mb mc md rfl rfl R h
  · subst hb
    refine rStrS [91] D fun t s' D => rStore D fun s' D => ?_
    refine x_consL ?_
    intro Qs
    refine x_assign <| e_ifexp <| t_val <| rName D mb <| truthy_b <| rIfF rfl ?_
    refine e_list <| a_cons <| rStrS [91] D fun t s' D => a_nil ⟨_, _, _, _, D, Nat.le_of_ble_eq_true rfl, fun f s' D => rStore D fun s' D => ?_⟩
    exact item_tail11 (b := false) D (.cons _ _ .nil) mk mb mc md rfl rfl R h
theorem item_tail8 {Q : Value → Shared → Prop} {k c d : Nat} {b : Bool} {tk tc td : Tok} (D : Led C s₀ L m [] s)
    (mk : m (Str.ofString "kind") = some (.int (k : Int) tk)) (mb : m (Str.ofString "barred") = some (.bool b)) (mc : m (Str.ofString "one") = some (.str (S [c]) tc)) (md : m (Str.ofString "two") = some (.str (S [d]) td))
    (R : Room A 1) (h : GotItem C s₀ (if k < 6 then .one b c else .rng b c (if d = 93 then 97 else d)) Q) : W prog C A (execs ((bodyOf F175.1).drop 8) (env175 L)) (RetQ Q) s := by
  refine x_consL ?_
  intro Qs
  refine x_if ?_
  intro Qi
  refine t_cmp <| rName D md <| rStrS [93] D fun t s' D => rEqS ⟨_, rfl, rIf (fun hb => ?_) (fun hb => ?_)⟩
  · have e : d = 93 := by simpa using of_decide_eq_true hb
    rw [if_pos e] at h
    refine x_consL ?_
    intro Qs
    exact x_assign <| rStrS [97] D fun t s' D => rStore D fun s' D => x_nil (item_tail9 D mk mb mc rfl R h)
  · have e : ¬ d = 93 := by simpa using of_decide_eq_false hb
    rw [if_neg e] at h
    exact x_nil (item_tail9 D mk mb mc md R h)
theorem item_tail7 {Q : Value → Shared → Prop} {k c d : Nat} {b : Bool} {tk tc td : Tok} (D : Led C s₀ L m [] s)
    (mk : m (Str.ofString "kind") = some (.int (k : Int) tk)) (mb : m (Str.ofString "barred") = some (.bool b)) (mc : m (Str.ofString "one") = some (.str (S [c]) tc)) (md : m (Str.ofString "two") = some (.str (S [d]) td))
    (R : Room A 1) (h : GotItem C s₀ (if k < 6 then .one b (if c = 33 ∧ b = false then 97 else c) else .rng b (if c = 33 ∧ b = false then 97 else c) (if d = 93 then 97 else d)) Q) : W prog C A (execs ((bodyOf F175.1).drop 7) (env175 L)) (RetQ Q) s := by
  refine x_consL ?_
  intro Qs
  refine x_if ?_
  intro Qi
  refine t_bool <| t_and <| t_cmp <| rName D mc <| rStrS [33] D fun t s' D => rEqS ⟨_, rfl, rIf (fun hb => ?_) (fun hb => ?_)⟩
  · have e : c = 33 := by simpa using of_decide_eq_true hb
    refine t_and <| t_not <| t_val <| rName D mb <| truthy_b <| rIf (fun hb' => t_and0 <| rIfT rfl ?_) (fun hb' => rIfF rfl ?_)
    · rw [if_pos (⟨e, by simpa using hb'⟩ : c = 33 ∧ b = false)] at h
      refine x_consL ?_
      intro Qs
      exact x_assign <| rStrS [97] D fun t s' D => rStore D fun s' D => x_nil (item_tail8 D mk mb rfl md R h)
    · rw [if_neg (show ¬ (c = 33 ∧ b = false) by rintro ⟨_, q⟩; rw [q] at hb'; cases hb')] at h
      exact x_nil (item_tail8 D mk mb mc md R h)
  · have e : ¬ c = 33 := by simpa using of_decide_eq_false hb
    rw [if_neg (show ¬ (c = 33 ∧ b = false) from fun q => e q.1)] at h
    exact rIfF rfl (x_nil (item_tail8 D mk mb mc md R h))
theorem item_tail6 {Q : Value → Shared → Prop} {k c d : Nat} {tk tc td : Tok} (D : Led C s₀ L m [] s)
    (mk : m (Str.ofString "kind") = some (.int (k : Int) tk)) (mc : m (Str.ofString "one") = some (.str (S [c]) tc)) (md : m (Str.ofString "two") = some (.str (S [d]) td))
    (R : Room A 1) (h : GotItem C s₀ (let b := decide (k = 5) || decide (k = 7); if k < 6 then .one b (if c = 33 ∧ b = false then 97 else c) else .rng b (if c = 33 ∧ b = false then 97 else c) (if d = 93 then 97 else d)) Q) : W prog C A (execs ((bodyOf F175.1).drop 6) (env175 L)) (RetQ Q) s := by
  refine x_consL ?_
  intro Qs
  refine x_assign <| e_or2 <| e_cmp <| rName D mk <| rIntN 5 D fun t s' D => rEqN <| truthy_b <| rIf (fun hb => ?_) (fun hb => ?_)
  · rw [hb]
    refine rStore D fun s' D => ?_
    simp only [hb, Bool.true_or] at h
    exact item_tail7 D mk rfl mc md R h
  · refine e_cmp <| rName D mk <| rIntN 7 D fun t s' D => rEqN <| rStore D fun s' D => ?_
    simp only [hb, Bool.false_or] at h
    exact item_tail7 D mk rfl mc md R h

theorem item_spec {Q : Value → Shared → Prop} {n : Nat} {t : Tok} (P : Prog C s) (R : Room A 2) (hn : n < 1000000)
    (h : ∀ b p vs t L' m' s', Led C s L' m' [(b, .tup [.str (S (item n).written) t, .ref p]), (p, .list vs)] s' → Strs vs (item n).pieces → Q (.ref b) s') : W prog C A (call (.ref 175) [.int (n : Int) t]) Q s := by
  refine rEnter (n := 1) (binds := [(Str.ofString "number", .int (n : Int) t)]) P R F175.2 rfl (.of_eq rfl) fun s₁ L R D => ?_
  refine x_consL ?_
  intro Qs
  refine (x_assign (e_bin (rName D rfl (rIntN 8 D fun t s' D => rModN D (by decide) fun t s' D => rStore D fun s' D => ?_))))
  refine x_consL ?_
  intro Qs
  refine (x_assign (e_def D.now g_sign F154.2 (a_cons (e_bin (rName D rfl (rIntN 8 D fun t s' D => rDivN D (by decide) (by exact lin [_] (.l 1 (.a 0) (.n 1000000) <| .j 1 (.a 0) (.n 536870912)) (.refl true) hn) (by decide) fun t s' D => a_nil ⟨D.now, ?_⟩))))))
  refine sign_spec D.now R fun t s' nx => ?_
  have D := D.step nx
  refine rStore D fun s' D => ?_
  refine x_consL ?_
  intro Qs
  refine (x_assign (e_def D.now g_sign F154.2 (a_cons (e_bin (rName D rfl (rIntN 256 D fun t s' D => rDivN D (by decide) (by exact lin [_] (.l 1 (.a 0) (.n 1000000) <| .j 1 (.a 0) (.n 536870912)) (.refl true) hn) (by decide) fun t s' D => a_nil ⟨D.now, ?_⟩))))))
  refine sign_spec D.now R fun t s' nx => ?_
  have D := D.step nx
  refine rStore D fun s' D => ?_
  generalize hone : sign (n / 8) = one at D
  generalize htwo : sign (n / 256) = two at D
  refine x_consL ?_
  intro Qs
  refine x_if ?_
  intro Qi
  refine (t_cmp (rName D rfl (rIntN 2 D fun t s' D => rEqN ⟨_, rfl, rIf (fun hb => ?_) (fun hb => ?_)⟩)))
  · refine x_consL ?_
    intro Qs
    refine (x_ret (e_tup (a_cons (rStrS [63] D fun t s' D => a_cons (e_list (a_cons (rStrS [46] D fun t s' D => a_nil ⟨_, _, _, _, D, Nat.le_of_ble_eq_true rfl, fun p s' D => a_nil ⟨_, _, _, _, D, Nat.le_of_ble_eq_true rfl, fun b s' D => ?_⟩⟩)))))))
    have e : item n = .any := by unfold item; simp [of_decide_eq_true hb]
    rw [e] at h
    exact h _ _ _ _ _ _ _ D (.cons _ _ .nil)
  have k2 := of_decide_eq_false hb
  refine x_nil ?_
  refine x_consL ?_
  intro Qs
  refine x_if ?_
  intro Qi
  refine (t_cmp (rName D rfl (rIntN 3 D fun t s' D => rEqN ⟨_, rfl, rIf (fun hb => ?_) (fun hb => ?_)⟩)))
  · refine x_consL ?_
    intro Qs
    refine (x_ret (e_tup (a_cons (rStrS [42] D fun t s' D => a_cons (e_list (a_nil ⟨_, _, _, _, D, Nat.le_of_ble_eq_true rfl, fun p s' D => a_nil ⟨_, _, _, _, D, Nat.le_of_ble_eq_true rfl, fun b s' D => ?_⟩⟩))))))
    have e : item n = .star := by unfold item; simp [of_decide_eq_true hb]
    rw [e] at h
    exact h _ _ _ _ _ _ _ D .nil
  have k3 := of_decide_eq_false hb
  refine x_nil ?_
  have low : (n % 8 < 2 → ([42, 63, 91] : List Nat).contains one = true) → GotItem C s (let b := decide (n % 8 = 5) || decide (n % 8 = 7); if n % 8 < 6 then .one b (if one = 33 ∧ b = false then 97 else one) else .rng b (if one = 33 ∧ b = false then 97 else one) (if two = 93 then 97 else two)) Q := by
    intro hl
    unfold item at h
    rw [hone, htwo] at h
    simp only [if_neg k2, if_neg k3] at h
    rw [if_neg (by
      rintro ⟨q1, q2⟩
      rw [hl q1] at q2; cases q2)] at h
    exact h
  refine x_consL ?_
  intro Qs
  refine x_if ?_
  intro Qi
  refine t_bool <| t_and <| t_cmp <| rName D rfl <| rIntN 2 D fun t s' D => rLtN ⟨_, rfl, rIf (fun hb => ?_) (fun hb => ?_)⟩
  · have h2 := of_decide_eq_true hb
    refine t_and <| t_cmp <| rName D rfl <| rStrS [42, 63, 91] D fun t s' D => rNotInS ⟨_, rfl, rIf (fun hb' => t_and0 <| rIfT rfl ?_) (fun hb' => rIfF rfl ?_)⟩
    · have h3 : ([42, 63, 91] : List Nat).contains one = false := by simpa using hb'
      have e : item n = .lit one := by
        unfold item
        rw [hone]
        simp only [if_neg k2, if_neg k3]
        rw [if_pos ⟨h2, h3⟩]
      rw [e] at h
      refine x_consL ?_
      intro Qs
      refine x_ret <| e_tup <| a_cons <| rName D rfl <| a_cons <| e_list <| a_cons <| e_def D.now g_outer F161.2 <| a_cons <| rName D rfl <| a_nil ⟨D.now, outer_spec D.now R fun t s' nx => ?_⟩
      have D := D.step nx
      refine a_nil ⟨_, _, _, _, D, Nat.le_of_ble_eq_true rfl, fun p s' D => a_nil ⟨_, _, _, _, D, Nat.le_of_ble_eq_true rfl, fun q s' D => ?_⟩⟩
      exact h _ _ _ _ _ _ _ D (.cons _ _ .nil)
    · exact x_nil (item_tail6 D rfl rfl rfl R (low fun _ => by rw [Bool.not_eq_false'] at hb'; exact hb'))
  · have h2 := of_decide_eq_false hb
    exact rIfF rfl (x_nil (item_tail6 D rfl rfl rfl R (low fun q => absurd q h2)))
end
end Mine
end
-- G2
section
open PySem PySem.Calls PyProof.Rows PySem.W
namespace Mine
theorem match_no_bool : typeLookup (.type "re.Match") "__bool__" = pure none := by rw [typeLookup_type, builtinLookup_eq_fast]; kernel_rfl
theorem match_no_len : typeLookup (.type "re.Match") "__len__" = pure none := by rw [typeLookup_type, builtinLookup_eq_fast]; kernel_rfl
section
variable {prog : Program} {C : Cx} {A : Around} {s₀ s : Shared} {L a : Addr} {m : Str → Option Value} {led : List (Addr × Cell)} {fd : FuncData} {env : Env}
theorem tr_match {mt : Addr} {o : Obj} {Q : Bool → Shared → Prop} (ho : s.heap.get? mt = some o) (hc : o.cls = .type "re.Match") (h : Q true s) : W prog C A (truthy (.ref mt)) Q s := by
  have hT : s.TypeIs (.ref mt) "re.Match" := ⟨o, ho, hc⟩
  refine ⟨?_⟩
  unfold truthy
  have f1 := match_no_bool
  have f2 := match_no_len
  repeat (any_goals (first | assumption | wp_step))
theorem list_no_str : isSubtype (.type "list") (.type "str") = pure false := by rw [isSubtype_type]; kernel_rfl
theorem r_list_no_str {l : Addr} {xs : List Value} {Q : Value → Shared → Prop} (D : Led C s₀ L m led s) (hl : (Cell.list xs).At s.heap l) (h : ∀ s', Led C s₀ L m led s' → Q (.bool false) s') : W prog C A (call (.builtin "isinstance") [.ref l, .type "str"]) Q s := by
  obtain ⟨n, hn⟩ := hl
  have k := h _ D.tok1
  obtain ⟨hp, g, d, tk, os⟩ := s
  exact ⟨call_isinstance_of (isinstance_nested_false_list hn rfl (by decide) (by rfl) list_no_str k) (by intro e; cases e)⟩

/-- the function that a sub calls gives the group back -/
theorem answers_lam {f c' : Addr} {args : Arguments} {scope : Scope} {body : Expr} {cv : Value} {oc : Obj} {x : List Nat} {pre : List Nat} {l : Nat} {env0 : Env} {p1 p2 p3 p4 p5 p6 p7 p8 : Pos} {k1 k2 k3 : Nat} {pre' : Str}
    (hR : Room A 1) (hx : x.length ≤ 1000000)
    (hargs : args.args.map (·.arg) = [Str.ofString "_m"]) (hbody : body = .BinOp (.Constant (.str pre') k1 p1) .Add (.BoolOp .Or [.Call (.Attribute (.Name (Str.ofString "_m") p2) (Str.ofString "group") p3) [.Constant (.int 1) k2 p4] [] p5, .Constant (.str (Str.ofString "")) k3 p6] p7) p8)
    (hpre : pre' = S pre) (hpl : pre.length ≤ 10) (hcv : cv = .ref c') (hoc : ∃ vs t, oc.data = .fields vs ∧ vs[1]? = some (.str (qn l) t)) (hq : env0.qual ++ ("<lambda>" : Str) = qn l)
    (hline : (p3.endLine == p5.line) = true) (hscope : scope.names.lookup (Str.ofString "_m") = some .local) (hcell : (scope.names.all fun x => decide (x.2 ≠ .cell)) = true) (hco : scope.isCoroutine = false) (hgen : scope.isGenerator = false) (hk : scope.kind = .function)
    (hbind : ∀ (s : Shared) (v : Value), BindsTo s (lamFd env0 args body scope cv) ⟨[v], []⟩ [(Str.ofString "_m", v)]) :
    Answers prog C A x f c' (lamFd env0 args body scope cv) oc (fun g => pre ++ g) := by
  intro s mt tp t p lim j e b b' Q P hm ht hf hc hb h
  obtain ⟨vs, tq, hd, h1⟩ := hoc
  have hcd : s.heap.CodeRec (lamFd env0 args body scope cv).code (lamFd env0 args body scope cv).qualname := ⟨c', oc, vs, tq, hcv, hc, hd, by rw [show (lamFd env0 args body scope cv).qualname = qn l from hq]; exact h1⟩
  refine rLam (fd := lamFd env0 args body scope cv) (n := 0) (binds := [(Str.ofString "_m", .ref mt)]) P hR hf hcd rfl (hbind s _) (fun s₁ L R D => ?_) (by simp; exact hscope) hcell hco hgen hk
  have hl : (callEnv (lamFd env0 args body scope cv) L f).kindOf (Str.ofString "_m") = some .local := hscope
  rw [hbody]
  subst hpre
  refine e_bin <| rStr D fun t s' D => ?_
  refine e_or2 <| e_m1 (rName D rfl (m_ref M_group (D.argO hm (by simp)).1 rfl rfl <| sp_cons <| rIntN 1 D fun t s' D => sp_nil ?_) hk hl) (hline := hline)
  refine r_group1 D (D.argO hm (by simp)) (D.argT ht) (by simp [sizeLine]; exact lin [_] (.h 1 (.a 0) (.n 1000000) <| .g 1 (.a 0) (.n 16777216)) (.refl true) hx) fun t s' D => ?_
  refine tr_str D (by simp [sizeLine]; omega) fun s' D => rIf (fun hne => ?_) (fun hne => ?_)
  · exact rAddS D (by simp [sizeLine]; omega) fun t s' D => h _ _ D.next
  · have he : (x.take b').drop b = [] := by simpa using hne
    refine rStrS [] D fun t s' D => ?_
    refine rAddS D (by simp [sizeLine]; exact lin [_] (.h 1 (.a 0) (.n 10) <| .g 1 (.a 0) (.n 16777216)) (.refl true) hpl) fun t s' D => ?_
    have h' := h t s' D.next
    rw [he] at h'
    exact h'
end
end Mine
end
-- G3
section
open PySem PySem.Calls PyProof.Rows PySem.W
namespace Mine
section
variable {prog : Program} {C : Cx} {A : Around} {s₀ s : Shared} {L a : Addr} {m : Str → Option Value} {led : List (Addr × Cell)} {fd : FuncData} {env : Env}

theorem PatAt.obj {h : Heap} {a : Addr} {code : Array Nat} {g : Nat} (x : PatAt h a code g) : ∃ o, h.get? a = some o ∧ o.cls = .type "re.Pattern" ∧ o.dict = none := by
  obtain ⟨pt, tk, fl, tf, c, items, n, e1, _⟩ := x; exact ⟨_, e1, rfl, rfl⟩

theorem unesc_len : ∀ r : List Nat, (unesc r).length ≤ r.length
  | [] => Nat.le_refl _
  | [c] => by unfold unesc; simp [unesc]
  | c :: d :: r => by
    by_cases h : c = 92
    · subst h; rw [unesc_two]; have := unesc_len r; simp; exact lin [_, _] (.h 1 (.a 0) (.a 1) <| .g 1 (.a 0) (.p (.a 1) (.n 1))) (.refl true) this
    · rw [unesc_one h]; have := unesc_len (d :: r); simp at this ⊢; exact this
/-- HEADER_ESCAPE_RE.sub(.., value) -/
noncomputable abbrev GotWords (C : Cx) (s₀ : Shared) (z : List Nat) (Q : Value → Shared → Prop) : Prop :=
  ∀ rs ps tp t t' L' m' s', Led C s₀ L' m' [(tp, .tup [.str (S [107]) t, .str (S z) t']), (ps, .list [.ref tp]), (rs, .list [.ref ps])] s' → Q (.ref rs) s'
noncomputable abbrev env70 (L : Addr) : Env := callEnv F70.1 L 70

theorem split_spec {lst : Addr} {r : List Nat} {th : Tok} {Q : Value → Shared → Prop} (P : Prog C s) (R : Room A 3) (hl : (Cell.list [.str (S ([107, 61, 34] ++ r ++ [34])) th]).At s.heap lst) (hb : Body r) (hz : r.length ≤ 500000)
    (h : GotWords C s (unesc r) Q) : W prog C A (call (.ref 70) [.ref lst]) Q s := by
  refine rEnter (n := 2) (binds := [(Str.ofString "header_values", .ref lst)]) P R F70.2 rfl (.of_eq rfl) fun s₁ L R D => ?_
  refine x_consL ?_
  intro Qs
  refine x_assert <| t_not <| t_val <| e_bi D.now b_isinstance <| a_cons <| rName D rfl <| a_cons <| gBuilt D.now b_str <| a_nil <| r_list_no_str D (D.argL hl) fun s' D => truthy_b ⟨rfl, ?_⟩
  refine x_consL ?_
  intro Qs
  refine x_assign <| e_list <| a_nil ⟨_, _, _, _, D, Nat.zero_le _, fun rs s' D => rStore D fun s' D => ?_⟩
  refine x_consL ?_
  intro Qs
  refine x_for <| rName D rfl <| it_list D (D.argL hl) fun it s' D hl' => ?_
  clear hl'
  -- the one header
  let Inv1 : Nat → Shared → Prop := fun k s' => (k = 2 ∧ ∃ m, m (Str.ofString "result") = some (.ref rs) ∧ Led C s L m [(it, .fld "list_iterator" [.ref lst, .int ((0 : Nat) : Int) 0]), (rs, .list [])] s') ∨ (k = 1 ∧ Ex5 fun m ps tp t t' => m (Str.ofString "result") = some (.ref rs) ∧ Led C s L m [(tp, .tup [.str (S [107]) t, .str (S (unesc r)) t']), (ps, .list [.ref tp]), (it, .fld "list_iterator" [.ref lst, .int ((1 : Nat) : Int) 0]), (rs, .list [.ref ps])] s')
  refine loopN Inv1 2 (.inl ⟨rfl, _, rfl, D⟩) ?_
  intro k s₂ Qb hI
  rcases hI with ⟨rfl, m, hm, D⟩ | ⟨rfl, m, ps, tp, t, t', hm, D⟩
  · refine n_list D 0 rfl (D.argL hl) rfl fun s' D _ => ?_
    dsimp only
    refine rStore D fun s' D => ?_
    refine x_consL ?_
    intro Qs
    refine x_assign <| rName D rfl <| rStore D fun s' D => ?_
    refine x_consL ?_
    intro Qs
    refine x_assign <| e_list <| a_nil ⟨_, _, _, _, D, Nat.zero_le _, fun ps s' D => rStore D fun s' D => ?_⟩
    generalize hhd : [107, 61, 34] ++ r ++ [34] = hd at D hl
    have hhl : hd.length = r.length + 4 := by rw [← hhd]; simp
    let Inv2 : Nat → Shared → Prop := fun k s' => (k = 1 ∧ Ex2 fun m t => And4 (m (Str.ofString "text") = some (.str (S hd) t)) (m (Str.ofString "pairs") = some (.ref ps)) (m (Str.ofString "result") = some (.ref rs)) (Led C s L m [(ps, .list []), (it, .fld "list_iterator" [.ref lst, .int ((1 : Nat) : Int) 0]), (rs, .list [])] s')) ∨ (k = 0 ∧ Ex5 fun m t tp t1 t2 => And4 (m (Str.ofString "text") = some (.str (S []) t)) (m (Str.ofString "pairs") = some (.ref ps)) (m (Str.ofString "result") = some (.ref rs)) (Led C s L m [(tp, .tup [.str (S [107]) t1, .str (S (unesc r)) t2]), (ps, .list [.ref tp]), (it, .fld "list_iterator" [.ref lst, .int ((1 : Nat) : Int) 0]), (rs, .list [])] s'))
    refine x_consL ?_
    intro Qs
    refine x_while Inv2 1
      (by refine .inl ⟨rfl, _, th, ?_, ?_, ?_, D⟩ <;> first | rfl | exact hm) ?_
    intro k s₃ Qb Qi hI
    rcases hI with ⟨rfl, m, tt, mt1, mp, mr, D⟩ | ⟨rfl, m, tt, tp, t1, t2, mt1, mp, mr, D⟩
    · -- the one pass
      refine t_val <| rName D mt1 <| tr_str D (by simp [sizeLine]; exact lin [_, _] (.h 1 (.a 0) (.n 500000) <| .e 1 (.a 1) (.p (.a 0) (.n 4)) <| .g 1 (.a 1) (.n 16777216)) (.refl true) hz hhl) fun s' D => rIfT (by simp; intro q; rw [q] at hhl; simp at hhl) ?_
      obtain ⟨ot, got, cot, dot⟩ := D.now.patT.obj
      refine x_consL ?_
      intro Qs
      refine x_assign <| e_m1 <| gGlob D.now g_tokre <| m_ref M_search got cot dot <| sp_cons <| rName D mt1 <| sp_nil ?_
      have hf1 : Finds codeT hd 0 (some (0, 1, 0, 1)) := by rw [← hhd]; exact t_finds (y := 34 :: (r ++ [34])) (by simp; exact lin [_] (.h 1 (.a 0) (.n 500000) <| .g 1 (.a 0) (.n 1999998)) (.refl true) hz)
      refine r_search D D.now.patT (by exact lin [_, _] (.h 1 (.a 0) (.n 500000) <| .e 1 (.a 1) (.p (.a 0) (.n 4)) <| .j 1 (.a 1) (.n 4611686018427387904)) (.refl true) hz hhl) hf1 (by exact lin [] (.g 1 (.n 0) (.n 1)) (.refl true)) fun mt tpm s' D => rStore D fun s' D => ?_
      refine x_consL ?_
      intro Qs
      refine x_if ?_
      intro Qi
      refine t_val <| rName D rfl <| tr_match (D.nth 0 rfl).1 rfl <| rIfT rfl ?_
      refine x_consL ?_
      intro Qs
      refine x_assign <| e_def D.now g_unmatched F43.2 <| a_cons <| rName D rfl <| a_nil ⟨D.now, ?_⟩
      refine unmatched_spec D.now (R.mono (by decide)) (D.nth 0 rfl) (D.nth 1 rfl) (by exact lin [_, _] (.h 1 (.a 0) (.n 500000) <| .e 1 (.a 1) (.p (.a 0) (.n 4)) <| .g 1 (.a 1) (.n 1000000)) (.refl true) hz hhl) (by exact lin [] (.g 1 (.n 0) (.n 1)) (.refl true)) (by exact lin [_, _] (.f 1 (.a 0) (.p (.a 1) (.n 4)) <| .g 1 (.n 1) (.a 0)) (.refl true) hhl) fun t s' nx => ?_
      have D := D.step nx
      have eh : hd.take 0 ++ hd.drop 1 = [61, 34] ++ r ++ [34] := by rw [← hhd]; simp
      rw [eh]
      refine rStore D fun s' D => ?_
      refine x_consL ?_
      intro Qs
      refine x_assign <| e_m1 <| rName D rfl <| m_ref M_group (D.nth 0 rfl).1 rfl rfl <| sp_cons <| rIntN 1 D fun t s' D => sp_nil ?_
      refine r_group1 D (D.nth 0 rfl) (D.nth 1 rfl) (by simp [sizeLine]; exact lin [_, _] (.h 1 (.a 0) (.n 500000) <| .e 1 (.a 1) (.p (.a 0) (.n 4)) <| .g 1 (.a 1) (.n 16777216)) (.refl true) hz hhl) fun t s' D => ?_
      have ek : (hd.take 1).drop 0 = [107] := by rw [← hhd]; simp
      rw [ek]
      refine rStore D fun s' D => ?_
      -- the quoted value
      obtain ⟨oq, goq, coq, doq⟩ := D.now.patQ.obj
      refine x_consL ?_
      intro Qs
      refine x_assign <| e_m1 <| gGlob D.now g_qvre <| m_ref M_search goq coq doq <| sp_cons <| rName D rfl <| sp_nil ?_
      refine r_search D D.now.patQ (by simp; exact lin [_] (.h 1 (.a 0) (.n 500000) <| .j 1 (.p (.p (.p (.a 0) (.n 1)) (.n 1)) (.n 1)) (.n 4611686018427387904)) (.refl true) hz) (body_finds hb (by exact lin [_] (.h 1 (.a 0) (.n 500000) <| .g 1 (.a 0) (.n 1000000)) (.refl true) hz)) (by exact lin [_] (.g 1 (.n 2) (.p (.a 0) (.n 2))) (.refl true)) fun mq tpq s' D => rStore D fun s' D => ?_
      refine x_consL ?_
      intro Qs
      refine x_if ?_
      intro Qi
      refine t_val <| rName D rfl <| tr_match (D.nth 0 rfl).1 rfl <| rIfT rfl ?_
      refine x_consL ?_
      intro Qs
      refine x_assign <| e_def D.now g_unmatched F43.2 <| a_cons <| rName D rfl <| a_nil ⟨D.now, ?_⟩
      refine unmatched_spec D.now (R.mono (by decide)) (D.nth 0 rfl) (D.nth 1 rfl) (by simp; exact lin [_] (.h 1 (.a 0) (.n 500000) <| .g 1 (.a 0) (.n 999997)) (.refl true) hz) (by exact lin [_] (.g 1 (.n 0) (.p (.a 0) (.n 3))) (.refl true)) (by simp) fun t s' nx => ?_
      have D := D.step nx
      have eq2 : ([61, 34] ++ r ++ [34]).take 0 ++ ([61, 34] ++ r ++ [34]).drop (r.length + 3) = [] := by simp
      rw [eq2]
      refine rStore D fun s' D => ?_
      refine x_consL ?_
      intro Qs
      refine x_assign <| e_m1 <| rName D rfl <| m_ref M_group (D.nth 0 rfl).1 rfl rfl <| sp_cons <| rIntN 1 D fun t s' D => sp_nil ?_
      refine r_group1 D (D.nth 0 rfl) (D.nth 1 rfl) (by simp [sizeLine]; exact lin [_] (.h 1 (.a 0) (.n 500000) <| .g 1 (.a 0) (.n 16777213)) (.refl true) hz) fun t s' D => ?_
      have ev : (([61, 34] ++ r ++ [34]).take (r.length + 2)).drop 2 = r := by
        have e9 : ([61, 34] ++ r ++ [34]).take (r.length + 2) = [61, 34] ++ r := List.take_left' (by simp)
        rw [e9]; rfl
      rw [ev]
      refine rStore D fun s' D => ?_
      -- un-escaped
      obtain ⟨oe, goe, coe, doe⟩ := D.now.patE.obj
      refine x_consL ?_
      intro Qs
      refine x_assign <| e_m2 <| gGlob D.now g_escre <| m_ref M_sub goe coe doe <| sp_cons <| e_lambda (c := 69) (Pt := 65) D rfl (.inr (.inl ⟨rfl, rfl⟩)) rfl fun f cv s' D hcv => sp_cons <| rName D rfl <| sp_nil ?_
      obtain ⟨c', oc, vs, tq, ecv, gcv, ccv, dcv, qcv⟩ := hcv
      have hs := subs_E r.length [] r (Nat.le_refl _) hb (by simp; exact lin [_] (.h 1 (.a 0) (.n 500000) <| .g 1 (.a 0) (.n 2000000)) (.refl true) hz)
      refine r_sub (jf := 0) (c' := c') (oc := oc) (cb := fun g => [] ++ g) D (fun s' P => P.patE) (by exact lin [_] (.h 1 (.a 0) (.n 500000) <| .g 1 (.a 0) (.n 1000000)) (.refl true) hz) (out := unesc r) ?_ ?_ ccv (fun ⟨_, _, q⟩ => by rw [dcv] at q; cases q) (D.now.tabFree gcv (by rw [ccv]; simp)) rfl gcv hs fun t s' D => ?_
      · have := unesc_len r; exact lin [_, _] (.h 1 (.a 0) (.n 500000) <| .h 1 (.a 1) (.a 0) <| .g 1 (.a 1) (.n 4000000)) (.refl true) hz this
      · exact answers_lam (pre := []) (l := 26) (R.in1.mono (by decide)) (by exact lin [_] (.h 1 (.a 0) (.n 500000) <| .g 1 (.a 0) (.n 1000000)) (.refl true) hz) rfl rfl rfl (by decide) ecv ⟨vs, tq, dcv, qcv⟩ rfl rfl rfl rfl rfl rfl rfl (fun s v => .of_eq rfl)
      refine rStore D fun s' D => x_nil ?_
      refine x_consL ?_
      intro Qs
      refine x_expr <| e_m1 <| rName D mp <| m_append ⟨_, D.nth 5 rfl⟩ <| e_tup <| a_cons <| rName D rfl <| a_cons <| rName D rfl <| a_nil ⟨_, _, _, _, D, Nat.le_of_ble_eq_true rfl, fun tp s' D => ⟨_, _, _, _, 6, [], D, rfl, Nat.zero_le _, fun s' D => ?_⟩⟩
      refine x_nil <| x_nil ⟨0, by decide, (.inr ⟨rfl, _, _, tp, _, _, by exact rfl, by exact mp, by exact mr, D.forget (.cons_cons _ (.cons _ (.cons _ (.cons _ (.cons _ (.cons _ (.refl _)))))))⟩)⟩
    · refine t_val <| rName D mt1 <| tr_str D (Nat.zero_le _) fun s' D => rIfF (by simp) ?_
      refine x_consL ?_
      intro Qs
      refine x_if ?_
      intro Qi
      refine t_val <| rName D mp <| trL D (D.nth 1 rfl) (Nat.le_of_ble_eq_true rfl) fun s' D => rIfT (by simp) ?_
      refine x_consL ?_
      intro Qs
      refine x_expr <| e_m1 <| rName D mr <| m_append ⟨_, D.nth 3 rfl⟩ <| rName D mp ⟨_, _, _, _, 3, [], D, rfl, Nat.zero_le _, fun s' D => ?_⟩
      exact x_nil <| x_nil ⟨1, by decide, .inr ⟨rfl, _, _, _, _, _, mr, D⟩⟩
  · refine n_list_end D 2 rfl (D.argL hl) rfl R.hh fun s' D _ => ?_
    dsimp only
    refine x_consL ?_
    intro Qs
    refine x_ret <| rName D hm ?_
    exact h _ _ _ _ _ _ _ _ D
end
end Mine
end
-- G4
section
open PySem PySem.Calls PyProof.Rows PySem.W
namespace Mine
section
variable {prog : Program} {C : Cx} {A : Around} {s₀ s : Shared} {L a : Addr} {m : Str → Option Value} {led : List (Addr × Cell)} {fd : FuncData} {env : Env}

noncomputable abbrev wordsData (y : List Nat) : PyData := .list [.list [.tuple [.str (S [107]), .str (S y)]]]
theorem reads_words {h : Heap} {rs ps tp : Addr} {y : List Nat} {t t' : Tok} (h1 : (Cell.list [.ref ps]).At h rs) (h2 : (Cell.list [.ref tp]).At h ps) (h3 : (Cell.tup [.str (S [107]) t, .str (S y) t']).At h tp) : ∃ as, Reads h (.ref rs) (wordsData y) as := by
  obtain ⟨n1, e1⟩ := h1
  obtain ⟨n2, e2⟩ := h2
  obtain ⟨n3, e3⟩ := h3
  exact ⟨_, Reads.list e1 rfl rfl (ReadsAll.cons (Reads.list e2 rfl rfl (ReadsAll.cons (Reads.tuple e3 rfl rfl (ReadsAll.cons (.str _ _) (ReadsAll.cons (.str _ _) .nil))) .nil)) .nil)⟩
theorem lay_words {y : List Nat} (hy : ∀ c ∈ y, c < 128) (hz : y.length ≤ 500000) : (wordsData y).layable0 = true := by
  have hs : PyData.strOk (S y) = true := by
    unfold PyData.strOk
    show (y.toArray.all (fun c => decide (c < 0x110000))) = true
    rw [List.all_toArray, List.all_eq_true]
    intro c hc
    have := hy c hc
    exact decide_eq_true (by exact lin [_] (.l 1 (.a 0) (.n 128) <| .j 1 (.a 0) (.n 1114112)) (.refl true) this)
  have hk : PyData.strOk (S [107]) = true := by decide +kernel
  have c : (wordsData y).canLay0 = true := by
    simp only [PyData.canLay0, PyData.canLayAll0, hs, hk]; rfl
  have w : (wordsData y).weight ≤ 2 ^ 20 := by
    simp only [PyData.weight, PyData.weightAll, List.size_toArray, List.length_cons, List.length_nil]
    exact lin [_] (.h 1 (.a 0) (.n 500000) <| .g 1 (.p (.p (.p (.p (.p (.p (.p (.n 0) (.n 1)) (.n 1)) (.p (.p (.a 0) (.n 1)) (.n 0))) (.n 1)) (.n 0)) (.n 1)) (.n 0)) (.n 1048576)) (.refl true) hz
  unfold PyData.layable0
  rw [c, decide_eq_true w]
  simp only [PyData.depth, PyData.depthAll]; rfl
theorem reads_spec {r y : List Nat} {t u : Tok} {Q : Value → Shared → Prop} (P : Prog C s) (R : Room A 6) (hb : Body r) (hy : unesc r = y) (hz : r.length ≤ 500000) (h128 : ∀ c ∈ y, c < 128)
    (h : ∀ s', Next C.N s s' → Q (.bool true) s') : W prog C A (call (.ref 189) [.str (S ([107, 61, 34] ++ r ++ [34])) t, .str (S y) u]) Q s := by
  refine rEnter (n := 5) (binds := [(Str.ofString "header", .str (S ([107, 61, 34] ++ r ++ [34])) t), (Str.ofString "text", .str (S y) u)]) P R F189.2 rfl (.of_eq rfl) fun s₁ L R D => ?_
  refine x_consL ?_
  intro Qs
  refine x_ret <| e_cmp <| e_def D.now g_split F70.2 <| a_cons <| e_list <| a_cons <| rName D rfl <| a_nil ⟨_, _, _, _, D, Nat.le_of_ble_eq_true rfl, fun l s' D => a_nil ⟨D.now, ?_⟩⟩
  refine split_spec D.now (R.mono (by decide)) (D.nth 0 rfl) hb hz fun rs ps tp t t' L' m' s' D' => ?_
  have D := D.adopt D'
  refine e_list <| a_cons <| e_list <| a_cons <| e_tup <| a_cons <| rStrS [107] D fun t s' D => a_cons <| rName D rfl <| a_nil ⟨_, _, _, _, D, Nat.le_of_ble_eq_true rfl, fun tp2 s' D => a_nil ⟨_, _, _, _, D, Nat.le_of_ble_eq_true rfl, fun ps2 s' D => a_nil ⟨_, _, _, _, D, Nat.le_of_ble_eq_true rfl, fun rs2 s' D => ?_⟩⟩⟩
  obtain ⟨as, r1⟩ := reads_words (D.nth 5 rfl) (D.nth 4 rfl) (D.nth 3 rfl)
  obtain ⟨bs, r2⟩ := reads_words (D.nth 0 rfl) (D.nth 1 rfl) (D.nth 2 rfl)
  have hl : (wordsData y).layable0 = true := lay_words h128 (by have := unesc_len r; rw [hy] at this; exact lin [_, _] (.h 1 (.a 0) (.n 500000) <| .h 1 (.a 1) (.a 0) <| .g 1 (.a 1) (.n 500000)) (.refl true) hz this)
  rw [hy] at r1
  refine ⟨eq_dataS r1 r2 hl hl (by have := R.un; exact lin [_, _] (.l 1 (.p (.a 0) (.m 16 (.n 5))) (.a 1) <| .j 1 (.p (.a 0) (.n 64)) (.a 1)) (.refl true) this) ?_⟩
  rw [SeqAt.eqv_refl _ (by unfold PyData.layable0 at hl; simp only [Bool.and_eq_true] at hl; exact hl.1.1)]
  exact h _ D.next
end
end Mine
end
-- J1
section
open PySem PySem.Calls PyProof.Rows PySem.W
namespace Mine
open Builtin
section
variable {prog : Program} {w : World} {A : Around} {E : Value → Shared → Prop} {s : Shared}
noncomputable def wr (x : List Nat) : Str.Writer := Str.Writer.add (Str.Writer.add (Str.Writer.add {} ⟨#[34]⟩ none) ⟨(S x).cps.toList.toArray⟩ none) ⟨#[34]⟩ none
theorem str_no_tuple : isSubtype (.type "str") (.type "tuple") = pure false := by rw [isSubtype_type]; kernel_rfl
section
variable {γ β α : Type} {Q : γ → Shared → Prop}
theorem forIn_hide {r : Std.Legacy.Range} {xs : List Nat} {init : β} {f : Nat → β → Sem (ForInStep β)} {k : β → Sem γ} (hx : List.range' r.start r.size r.step = xs)
    (h : ∀ (g : Nat → β → Sem (ForInStep β)) (R : β → Shared → Prop), g = f → (∀ b s', wpAny (model prog w) A (k b) Q E s' → R b s') → wpAny (model prog w) A (forIn xs init g) R E s) : wpAny (model prog w) A (forIn r init f >>= k) Q E s := by
  rw [Std.Legacy.Range.forIn_eq_forIn_range', hx]
  exact wpAny_bind (h f _ rfl fun _ _ x => x)
theorem forIn_step {a : α} {as : List α} {i : β} {f f' : α → β → Sem (ForInStep β)} {R : β → Shared → Prop} (hf : f = f')
    (h : wpAny (model prog w) A (f' a i) (fun r s' => match r with | .done b => R b s' | .yield b => wpAny (model prog w) A (forIn as b f) R E s') E s) : wpAny (model prog w) A (forIn (a :: as) i f) R E s := by
  subst hf
  rw [List.forIn_cons]
  refine wpAny_bind (wpAny_mono h (fun r s' h' => ?_) fun _ _ x => x)
  cases r with
  | done b => exact wpAny_pure h'
  | yield b => exact h'
theorem forIn_ite {x y : α} {i i2 i3 : β} {f : α → β → Sem (ForInStep β)} {R : β → Shared → Prop} {a b : α → β → Sem (ForInStep β)} (c : β → Bool) (hf : ∀ x i, f x i = if c i = true then a x i else b x i) (hc : c i = false)
    (h1 : b x i = pure (.yield i2)) (hc2 : c i2 = false) (h2 : b y i2 = pure (.done i3)) (h : R i3 s) : wpAny (model prog w) A (forIn [x, y] i f) R E s := by
  have e1 : f x i = pure (.yield i2) := by rw [hf, hc, ← h1]; rfl
  have e2 : f y i2 = pure (.done i3) := by rw [hf, hc2, ← h2]; rfl
  refine forIn_step rfl ?_
  rw [e1]
  refine wpAny_pure (forIn_step rfl ?_)
  rw [e2]
  exact wpAny_pure h
end
set_option maxHeartbeats 4000000 in
theorem pf_one {x : List Nat} {t u : Tok} {Q : Fin → Shared → Prop} (hx : x.length ≤ 1000000) (h : Q (.done (.ret (.str (S ([34] ++ x ++ [34])) s.toks))) { s with toks := s.toks + 1 }) :
    wpAny (model prog w) A (Str.percentFormat (.str (S [34, 37, 115, 34]) t) (S [34, 37, 115, 34]) (.str (S x) u)) Q E s := by
  have hT : ∀ s' : Shared, s'.TypeIs (.str (S x) u) "str" := fun _ => typeIs_str _ _ _
  have f1 := str_no_tuple
  unfold Str.percentFormat
  refine wpAny_bind (wpAny_isInstance (T := "str") (b := false) (hT _) f1 ?_)
  refine wpAny_bind (m := asStr? _) (wpAny_pure ?_)
  refine wpAny_bind (m := fillsMappingSlot _) ?_
  unfold fillsMappingSlot
  refine wpAny_bind (wpAny_specialOf (hT _) F.slot_str_getitem.lookup ?_)
  refine wpAny_pure ?_
  rw [if_neg (by decide)]
  refine wpAny_bind (wpAny_pure ?_)
  refine forIn_hide (xs := [0, 1, 2, 3]) rfl fun lf R hlf hR => ?_
  refine forIn_step hlf (wpAny_pure (a := ForInStep.yield ([Value.str (S x) u], Str.Writer.add {} ⟨#[34]⟩ none, [37, 115, 34])) ?_)
  dsimp only
  refine forIn_step hlf ?_
  refine wpAny_bind (m := holding [Value.str (S x) u] (pure ((S x).cps.toList, some (Value.str (S x) u), false))) (wpAny_holding (wpAny_pure ?_))
  refine wpAny_pure (a := ForInStep.yield (([] : List Value), Str.Writer.add (Str.Writer.add {} ⟨#[34]⟩ none) ⟨(S x).cps.toList.toArray⟩ none, [34])) ?_
  dsimp only
  have l2 : (Str.Writer.add (Str.Writer.add {} ⟨#[34]⟩ none) ⟨(S x).cps.toList.toArray⟩ none).total = x.length + 1 := by
    unfold Str.Writer.add
    cases x <;> simp [Str.length] <;> exact Nat.le_antisymm (lin [_] (.g 1 (.p (.n 1) (.p (.a 0) (.n 1))) (.p (.p (.a 0) (.n 1)) (.n 1))) (.refl true)) (lin [_] (.g 1 (.p (.p (.a 0) (.n 1)) (.n 1)) (.p (.n 1) (.p (.a 0) (.n 1)))) (.refl true))
  have l3 : (wr x).total = x.length + 2 := by
    unfold wr Str.Writer.add
    cases x <;> simp [Str.length] <;> exact Nat.le_antisymm (lin [_] (.g 1 (.p (.n 1) (.p (.a 0) (.n 1))) (.p (.a 0) (.n 2))) (.refl true)) (lin [_] (.g 1 (.p (.a 0) (.n 2)) (.p (.n 1) (.p (.a 0) (.n 1)))) (.refl true))
  refine forIn_ite (i2 := (([] : List Value), wr x, ([] : List Nat))) (i3 := (([] : List Value), wr x, ([] : List Nat))) (fun st => Str.tooLong st.2.1.total) (fun i st => (congrFun (congrFun hlf i) st).trans rfl) (by
    show Str.tooLong (Str.Writer.add (Str.Writer.add {} ⟨#[34]⟩ none) ⟨(S x).cps.toList.toArray⟩ none).total = false
    rw [l2]; simp [Str.tooLong, sizeLine]; exact lin [_] (.h 1 (.a 0) (.n 1000000) <| .g 1 (.a 0) (.n 16777215)) (.refl true) hx) rfl (by
    show Str.tooLong (wr x).total = false
    rw [l3]; simp [Str.tooLong, sizeLine]; exact lin [_] (.h 1 (.a 0) (.n 1000000) <| .g 1 (.a 0) (.n 16777214)) (.refl true) hx) rfl ?_
  refine hR _ _ ?_
  clear hlf hR lf R
  dsimp only
  rw [if_neg (by simp)]
  unfold Str.Writer.finish
  have e1 : (wr x).whole = none := by
    unfold wr Str.Writer.add
    cases x <;> simp [Str.length]
  have e2 : (wr x).text = S ([34] ++ x ++ [34]) := by
    unfold wr Str.Writer.add Str.Writer.text
    cases x <;> simp [Str.length]
  rw [e1, l3, e2]
  dsimp only
  rw [if_neg (by simp [Str.tooLong, sizeLine]; exact lin [_] (.h 1 (.a 0) (.n 1000000) <| .g 1 (.a 0) (.n 16777214)) (.refl true) hx)]
  refine wpAny_bind (wpAny_mkStr (wpAny_pure h) ?_)
  rw [S_len]; simp [sizeLine]; exact lin [_] (.h 1 (.a 0) (.n 1000000) <| .g 1 (.a 0) (.n 16777214)) (.refl true) hx
end
end Mine
end
-- J2
section
open PySem PySem.Calls PyProof.Rows PySem.W
namespace Mine
section
variable {prog : Program} {C : Cx} {A : Around} {s₀ s : Shared} {L a : Addr} {m : Str → Option Value} {led : List (Addr × Cell)} {fd : FuncData} {env : Env}

theorem rModQ {x : List Nat} {t u : Tok} {Q : Value → Shared → Prop} (D : Led C s₀ L m led s) (hx : x.length ≤ 1000000) (h : ∀ t s', Led C s₀ L m led s' → Q (.str (S ([34] ++ x ++ [34])) t) s') :
    W prog C A (binaryOp .Mod (.str (S [34, 37, 115, 34]) t) (.str (S x) u)) Q s := by
  refine ⟨wpAny_binaryOp_same (T := "str") (typeIs_str _ _ _) (typeIs_str _ _ _) F.fills_str_mod F.slot_str_mod (wpAny_call_entry F.slot_str_mod (typeIs_str _ _ _) F.entry_str_mod ?_ (F.args_str_mod_2 _ _))⟩
  unfold Builtin.«str.__mod__»
  refine wpAny_bind (m := Builtin.Str.strSlot _ _ _) (wpAny_pure (a := (Value.str (S [34, 37, 115, 34]) t, S [34, 37, 115, 34], [Value.str (S x) u])) ?_)
  exact pf_one hx ⟨_, rfl, (fun q => nomatch q), h _ _ D.tok1⟩
theorem e_fvS {value : Expr} {pos : Pos} {Q : Value → Shared → Prop}
    (h : W prog C A (eval value env) (FvQ C Q) s) :
    W prog C A (eval (.FormattedValue value 115 none pos) env) Q s := by
  refine ⟨wpAny_FormattedValue_s (wpAny_mono h.out (fun v s₁ ⟨s₀, L, m, led, x, t, D, e, hz, q⟩ => ?_) fun _ _ x => x)⟩
  subst e
  have hz' : (S x).length ≤ sizeLine := by rw [S_len]; exact hz
  refine wpAny_habitSame_str ?_ ?_ hz'
  · exact wpAny_formatField_str (q _ _ D) (q _ _ D.tok1) hz'
  · exact wpAny_formatField_str (q _ _ D.tok1) (q _ _ D.tok1.tok1) hz'
theorem full_no {v : List Nat} (h : ∃ c ∈ v, isTok c = false) (hz : v.length ≤ 2000000) : FullNo v := by
  rcases firstHit (fun c => !isTok c) v with h1 | ⟨pre, c, y, rfl, h1, h2⟩
  · obtain ⟨c, hc, h⟩ := h
    have := h1 c hc
    rw [h] at this; cases this
  · exact f_fails (fun d hd => by simpa using h1 d hd) (by simpa using h2) hz
noncomputable def escJ (v : List Nat) : List Nat := escBy hitJ (fun g => [92] ++ g) v
theorem escBy_len (hit : Nat → Bool) (v : List Nat) : (escBy hit (fun g => [92] ++ g) v).length ≤ 2 * v.length := by
  induction v with
  | nil => simp [escBy]
  | cons c v ih =>
    show ((if hit c = true then [92] ++ [c] else [c]) ++ escBy hit (fun g => [92] ++ g) v).length ≤ _
    generalize escBy hit (fun g => [92] ++ g) v = z at ih ⊢
    split <;> simp only [List.length_append, List.length_cons, List.length_nil] <;> (first | exact lin [_, _] (.h 1 (.a 0) (.m 2 (.a 1)) <| .g 1 (.p (.p (.p (.n 0) (.n 1)) (.p (.n 0) (.n 1))) (.a 0)) (.m 2 (.p (.a 1) (.n 1)))) (.refl true) ih | exact lin [_, _] (.h 1 (.a 0) (.m 2 (.a 1)) <| .g 1 (.p (.p (.n 0) (.n 1)) (.a 0)) (.m 2 (.p (.a 1) (.n 1)))) (.refl true) ih)
noncomputable abbrev env87 (L : Addr) : Env := callEnv F87.1 L 87
theorem join_spec {lst pl tp : Addr} {v : List Nat} {tk tv : Tok} {Q : Value → Shared → Prop} (P : Prog C s) (R : Room A 3) (hl : (Cell.list [.ref pl]).At s.heap lst) (hp : (Cell.list [.ref tp]).At s.heap pl) (ht : (Cell.tup [.str (S [107]) tk, .str (S v) tv]).At s.heap tp)
    (hv : ∀ c ∈ v, c < 128) (hno : ∃ c ∈ v, isTok c = false) (hz : v.length ≤ 100000)
    (h : ∀ t s', Next C.N s s' → Q (.str (S ([107, 61] ++ ([34] ++ escJ v ++ [34]))) t) s') : W prog C A (call (.ref 87) [.ref lst]) Q s := by
  have hel := escBy_len hitJ v
  refine rEnter (n := 2) (binds := [(Str.ofString "lists", .ref lst)]) P R F87.2 rfl (.of_eq rfl) fun s₁ L R D => ?_
  refine x_consL ?_
  intro Qs
  refine x_assign <| e_list <| a_nil ⟨_, _, _, _, D, Nat.zero_le _, fun hs s' D => rStore D fun s' D => ?_⟩
  refine x_consL ?_
  intro Qs
  refine x_for <| rName D rfl <| it_list D (D.argL hl) fun it s' D hl' => ?_
  clear hl'
  let Inv1 : Nat → Shared → Prop := fun k s' => (k = 2 ∧ ∃ m, m (Str.ofString "headers") = some (.ref hs) ∧ Led C s L m [(it, .fld "list_iterator" [.ref lst, .int ((0 : Nat) : Int) 0]), (hs, .list [])] s') ∨ (k = 1 ∧ Ex2 fun m t => m (Str.ofString "headers") = some (.ref hs) ∧ Led C s L m [(it, .fld "list_iterator" [.ref lst, .int ((1 : Nat) : Int) 0]), (hs, .list [.str (S ([107, 61] ++ ([34] ++ escJ v ++ [34]))) t])] s')
  refine loopN Inv1 2 (.inl ⟨rfl, _, rfl, D⟩) ?_
  intro k s₂ Qb hI
  rcases hI with ⟨rfl, m, hm, D⟩ | ⟨rfl, m, t, hm, D⟩
  · refine n_list D 0 rfl (D.argL hl) rfl fun s' D _ => ?_
    dsimp only
    refine rStore D fun s' D => ?_
    refine x_consL ?_
    intro Qs
    refine x_assign <| e_list <| a_nil ⟨_, _, _, _, D, Nat.zero_le _, fun at' s' D => rStore D fun s' D => ?_⟩
    refine x_consL ?_
    intro Qs
    refine x_for <| rName D rfl <| it_list D (D.argL hp) fun it2 s' D hl' => ?_
    clear hl'
    let Inv2 : Nat → Shared → Prop := fun k s' => (k = 2 ∧ ∃ m, And3 (m (Str.ofString "headers") = some (.ref hs)) (m (Str.ofString "attr") = some (.ref at')) (Led C s L m [(it2, .fld "list_iterator" [.ref pl, .int ((0 : Nat) : Int) 0]), (at', .list []), (it, .fld "list_iterator" [.ref lst, .int ((1 : Nat) : Int) 0]), (hs, .list [])] s')) ∨ (k = 1 ∧ Ex2 fun m t => And3 (m (Str.ofString "headers") = some (.ref hs)) (m (Str.ofString "attr") = some (.ref at')) (Led C s L m [(it2, .fld "list_iterator" [.ref pl, .int ((1 : Nat) : Int) 0]), (at', .list [.str (S ([107, 61] ++ ([34] ++ escJ v ++ [34]))) t]), (it, .fld "list_iterator" [.ref lst, .int ((1 : Nat) : Int) 0]), (hs, .list [])] s'))
    refine loopT Inv2 2
      (.inl ⟨rfl, _, by exact hm, by exact rfl, D⟩) ?_
    intro k s₃ Qb hI
    rcases hI with ⟨rfl, m, hm, ha, D⟩ | ⟨rfl, m, t, hm, ha, D⟩
    · refine n_list D 0 rfl (D.argL hp) rfl fun s' D _ => ?_
      dsimp only
      refine ⟨wpAny_letOwnedTupleGo_listiter (D.nth 0 rfl).2 ?_⟩
      refine t_two D (D.argT ht) R.hh fun s' D => as_name <| rStore D fun s' D => as_name <| rStore D fun s' D => ?_
      refine x_consL ?_
      intro Qs
      refine x_if ?_
      intro Qi
      refine t_cmp <| rName D rfl <| rNone ⟨isnot_str_none ⟨_, rfl, rIfT rfl ?_⟩⟩
      obtain ⟨ob, go, co, d0⟩ := D.now.patF.obj
      refine x_consL ?_
      intro Qs
      refine x_if ?_
      intro Qi
      refine t_not <| t_val <| e_m1 <| gGlob D.now g_jtokre <| m_ref M_fullmatch go co d0 <| sp_cons <| rName D rfl <| sp_nil ?_
      refine r_full_no D.now.patF (by exact lin [_] (.h 1 (.a 0) (.n 100000) <| .j 1 (.a 0) (.n 4611686018427387904)) (.refl true) hz) (full_no hno (by exact lin [_] (.h 1 (.a 0) (.n 100000) <| .g 1 (.a 0) (.n 2000000)) (.refl true) hz)) ?_
      refine ⟨wpAny_pure (a := false) ?_⟩
      refine rIfT rfl ?_
      obtain ⟨oe, goe, coe, doe⟩ := D.now.patJ.obj
      refine x_consL ?_
      intro Qs
      refine x_assign <| e_m2 <| gGlob D.now g_jescre <| m_ref M_sub goe coe doe <| sp_cons <| e_lambda (c := 86) (Pt := 82) D rfl (.inl ⟨rfl, rfl⟩) rfl fun f cv s' D hcv => sp_cons <| rName D rfl <| sp_nil ?_
      obtain ⟨c', oc, vs, tq, ecv, gcv, ccv, dcv, qcv⟩ := hcv
      have hsub := subs_one (cb := fun g => [92] ++ g) oneJ v.length [] v (Nat.le_refl _) hv
      refine r_sub (jf := 0) (c' := c') (oc := oc) (cb := fun g => [92] ++ g) D (fun s' P => P.patJ) (by exact lin [_] (.h 1 (.a 0) (.n 100000) <| .g 1 (.a 0) (.n 1000000)) (.refl true) hz) (out := escJ v) (by unfold escJ; exact lin [_, _] (.h 2 (.a 0) (.n 100000) <| .h 1 (.a 1) (.m 2 (.a 0)) <| .g 1 (.a 1) (.n 4000000)) (.refl true) hz hel) ?_ ccv (fun ⟨_, _, q⟩ => by rw [dcv] at q; cases q) (D.now.tabFree gcv (by rw [ccv]; simp)) rfl gcv hsub fun t s' D => ?_
      · exact answers_lam (pre := [92]) (l := 57) (R.in1.mono (by decide)) (by exact lin [_] (.h 1 (.a 0) (.n 100000) <| .g 1 (.a 0) (.n 1000000)) (.refl true) hz) rfl rfl rfl (by decide) ecv ⟨vs, tq, dcv, qcv⟩ rfl rfl rfl rfl rfl rfl rfl (fun s v => .of_eq rfl)
      have hej : (escJ v).length ≤ 2 * v.length := hel
      refine rStore D fun s' D => ?_
      refine x_consL ?_
      intro Qs
      refine x_assign <| e_bin <| rStrS [34, 37, 115, 34] D fun t s' D => rName D rfl <| rModQ D (by exact lin [_, _] (.h 2 (.a 0) (.n 100000) <| .h 1 (.a 1) (.m 2 (.a 0)) <| .g 1 (.a 1) (.n 1000000)) (.refl true) hz hej) fun t s' D => rStore D fun s' D => x_nil ?_
      refine x_consL ?_
      intro Qs
      refine x_assign <| e_f3 <| e_fvS <| rName D rfl ⟨_, _, _, _, _, _, D, rfl, Nat.le_of_ble_eq_true rfl, fun t s' D => ⟨_, _, rfl, Nat.le_of_ble_eq_true rfl, ?_⟩⟩
      refine rStrS [61] D fun t s' D => ⟨_, _, rfl, Nat.le_of_ble_eq_true rfl, e_fvS <| rName D rfl ⟨_, _, _, _, _, _, D, rfl, by simp [sizeLine]; exact lin [_, _] (.h 2 (.a 0) (.n 100000) <| .h 1 (.a 1) (.m 2 (.a 0)) <| .g 1 (.a 1) (.n 16777214)) (.refl true) hz hej, fun t s' D => ⟨_, _, _, _, _, _, rfl, D, by simp [sizeLine]; exact lin [_, _] (.h 2 (.a 0) (.n 100000) <| .h 1 (.a 1) (.m 2 (.a 0)) <| .g 1 (.p (.n 2) (.p (.p (.a 1) (.n 1)) (.n 1))) (.n 16777216)) (.refl true) hz hej, fun t s' D => ?_⟩⟩⟩
      refine rStore D fun s' D => x_nil ?_
      refine x_consL ?_
      intro Qs
      refine x_expr <| e_m1 <| rName D ha <| m_append ⟨_, D.nth 2 rfl⟩ <| rName D rfl ⟨_, _, _, _, 2, [], D, rfl, Nat.zero_le _, fun s' D => x_nil ?_⟩
      exact ⟨1, by decide, .inr ⟨rfl, _, _, by exact hm, by exact ha, D.forget (.cons _ (.refl _))⟩⟩
    · refine n_list_end D 0 rfl (D.argL hp) rfl R.hh fun s' D _ => ?_
      dsimp only
      refine x_consL ?_
      intro Qs
      refine x_if ?_
      intro Qi
      refine t_val <| rName D ha <| trL D (D.nth 0 rfl) (Nat.le_of_ble_eq_true rfl) fun s' D => rIfT (by simp) ?_
      have hej : (escJ v).length ≤ 2 * v.length := hel
      refine x_consL ?_
      intro Qs
      refine x_expr <| e_m1 <| rName D hm <| m_append ⟨_, D.nth 2 rfl⟩ <| e_m1 <| rStrS [59, 32] D fun t s' D => m_str M_join <| sp_cons <| rName D ha <| sp_nil ?_
      refine rJoin (xs := [[107, 61] ++ ([34] ++ escJ v ++ [34])]) D (D.nth 0 rfl) (.cons _ _ .nil) (by simp; exact lin [_, _] (.h 2 (.a 0) (.n 100000) <| .h 1 (.a 1) (.m 2 (.a 0)) <| .g 1 (.a 1) (.n 16777210)) (.refl true) hz hej) fun t s' D => ⟨_, _, _, _, 2, [], D, rfl, Nat.zero_le _, fun s' D => x_nil (x_nil ?_)⟩
      exact ⟨1, by decide, .inr ⟨rfl, _, _, by exact hm, D.forget (.cons _ (.refl _))⟩⟩
  · refine n_list_end D 0 rfl (D.argL hl) rfl R.hh fun s' D _ => ?_
    dsimp only
    have hej : (escJ v).length ≤ 2 * v.length := hel
    refine x_consL ?_
    intro Qs
    refine x_ret <| e_m1 <| rStrS [44, 32] D fun t s' D => m_str M_join <| sp_cons <| rName D hm <| sp_nil ?_
    refine rJoin (xs := [[107, 61] ++ ([34] ++ escJ v ++ [34])]) D (D.nth 0 rfl) (.cons _ _ .nil) (by simp; exact lin [_, _] (.h 2 (.a 0) (.n 100000) <| .h 1 (.a 1) (.m 2 (.a 0)) <| .g 1 (.a 1) (.n 16777210)) (.refl true) hz hej) fun t s' D => ?_
    exact h _ _ D.next
end
end Mine
end
-- K1
section
open PySem PySem.Calls PyProof.Rows PySem.W
namespace Mine
open Builtin.Str (reprChar)
noncomputable def quoteOf (x : List Nat) : Nat := if x.contains 39 && !x.contains 34 then 34 else 39
noncomputable def escQ (q : Nat) (x : List Nat) : List Nat := x.flatMap fun c => if c = q ∨ c = 92 then [92, c] else [c]
noncomputable def reprL (x : List Nat) : List Nat := [quoteOf x] ++ escQ (quoteOf x) x ++ [quoteOf x]
theorem reprChar39 : ∀ c < 127, 32 ≤ c → reprChar 39 c = if c = 39 ∨ c = 92 then [92, c] else [c] := by decide +kernel
theorem reprChar34 : ∀ c < 127, 32 ≤ c → reprChar 34 c = if c = 34 ∨ c = 92 then [92, c] else [c] := by decide +kernel
theorem reprChar_q {x : List Nat} {c : Nat} (h1 : 32 ≤ c) (h2 : c < 127) : reprChar (quoteOf x) c = if c = quoteOf x ∨ c = 92 then [92, c] else [c] := by
  unfold quoteOf
  split
  · exact reprChar34 c h2 h1
  · exact reprChar39 c h2 h1
theorem reprQuote_S (x : List Nat) : reprQuote (S x) = quoteOf x := by
  unfold reprQuote quoteOf
  simp
theorem flatMap_eq {f g : Nat → List Nat} : ∀ {l : List Nat}, (∀ c ∈ l, f c = g c) → l.flatMap f = l.flatMap g
  | [], _ => rfl
  | c :: l, h => by
    rw [List.flatMap_cons, List.flatMap_cons, h c (List.mem_cons_self ..), flatMap_eq fun d hd => h d (List.mem_cons_of_mem _ hd)]
theorem foldl_app (f : Nat → List Nat) : ∀ (l : List Nat) (acc : Array Nat), l.foldl (fun out c => out ++ (f c).toArray) acc = acc ++ (l.flatMap f).toArray
  | [], acc => by simp
  | c :: l, acc => by
    rw [List.foldl_cons, foldl_app f l]
    simp
theorem reprText_S {x : List Nat} (hx : ∀ c ∈ x, 32 ≤ c ∧ c < 127) : reprText (S x) = S (reprL x) := by
  unfold reprText
  rw [reprQuote_S]
  have e : (S x).cps = x.toArray := rfl
  rw [e, List.foldl_toArray', foldl_app]
  · have e2 : x.flatMap (reprChar (quoteOf x)) = escQ (quoteOf x) x := by
      unfold escQ
      exact flatMap_eq fun c hc => reprChar_q (hx c hc).1 (hx c hc).2
    rw [e2]
    unfold reprL
    congr 1
    simp
  · rfl
theorem escQ_len (q : Nat) (x : List Nat) : (escQ q x).length ≤ 2 * x.length := by
  induction x with
  | nil => simp [escQ]
  | cons c x ih =>
    show ((if c = q ∨ c = 92 then [92, c] else [c]) ++ escQ q x).length ≤ _
    split <;> simp <;> (first | exact lin [_, _] (.h 1 (.a 0) (.m 2 (.a 1)) <| .g 1 (.p (.p (.a 0) (.n 1)) (.n 1)) (.m 2 (.p (.a 1) (.n 1)))) (.refl true) ih | exact lin [_, _] (.h 1 (.a 0) (.m 2 (.a 1)) <| .g 1 (.p (.a 0) (.n 1)) (.m 2 (.p (.a 1) (.n 1)))) (.refl true) ih)
end Mine
end
-- K2
section
open PySem PySem.Calls PyProof.Rows PySem.W
namespace Mine
noncomputable def maxLen : { t : Tok // ∀ P, nsIn (K0 P) mainGlobals (Str.ofString "_MAX_LENGTH") = some (some (.int 80 t)) } := ⟨_, fun _ => rfl⟩
noncomputable def T140 : { T : Addr // F140.1.defaults = .ref T } := ⟨_, rfl⟩
noncomputable def O140 : { o : Obj // ∀ P, (K0 P).lookup T140.1 = some o } := ⟨_, fun _ => rfl⟩
section
variable {prog : Program} {C : Cx} {A : Around} {s₀ s : Shared} {L a : Addr} {m : Str → Option Value} {led : List (Addr × Cell)} {fd : FuncData} {env : Env}
theorem x_try {body : List Stmt} {h₀ : ExceptHandler} {hs : List ExceptHandler} {pos : Pos} {Q : Flow → Shared → Prop} (h : W prog C A (execs body env) Q s) : W prog C A (exec (.Try body (h₀ :: hs) [] [] pos) env) Q s :=
  ⟨wpAny_Try_except (wpAny_mono h.out (fun f s₁ q => by
    cases f
    · exact wpAny_execs_nil q
    · exact q
    · exact q
    · exact q) fun _ _ x => x.elim)⟩
noncomputable def cutR (x : List Nat) : List Nat := if x.length < 80 then x else x.take 80 ++ " [truncated]...".toList.map Char.toNat
theorem repr_tail {x : List Nat} {b : Bool} {t : Tok} {Q : Value → Shared → Prop} (D : Led C s₀ L m led s) (hm : m (Str.ofString "result") = some (.str (S x) t)) (hs : m (Str.ofString "short") = some (.bool b)) (hx : x.length ≤ 1000000)
    (h : ∀ t s', Led C s₀ L m led s' → Q (.str (S (if b then cutR x else x)) t) s') : W prog C A (execs ((bodyOf F140.1).drop 1) (callEnv F140.1 L 140)) (RetQ Q) s := by
  refine x_consL ?_
  intro Qs
  refine x_if ?_
  intro Qi
  refine t_bool <| t_or <| t_not <| t_val <| rName D hs <| truthy_b ?_
  cases b with
  | false => exact rIfT rfl <| rIfT rfl <| x_cons <| x_ret <| rName D hm <| h _ _ D
  | true =>
    refine rIfF rfl <| t_or <| t_cmp <| e_bi D.now b_len <| a_cons <| rName D hm <| a_nil <| rLenS D (by simp [sizeLine]; exact lin [_] (.h 1 (.a 0) (.n 1000000) <| .g 1 (.a 0) (.n 16777216)) (.refl true) hx) fun t s' D => gGlob D.now maxLen.2 ?_
    refine rLtN (i := x.length) (j := 80) ⟨_, rfl, rIf (fun hb => ?_) (fun hb => t_or0 ?_)⟩
    · have e : cutR x = x := by unfold cutR; rw [if_pos (of_decide_eq_true hb)]
      rw [if_pos rfl, e] at h
      exact rIfT rfl <| x_cons <| x_ret <| rName D hm <| h _ _ D
    · have hn : ¬ x.length < 80 := of_decide_eq_false hb
      have e : cutR x = x.take 80 ++ " [truncated]...".toList.map Char.toNat := by unfold cutR; rw [if_neg hn]
      rw [if_pos rfl, e] at h
      refine rIfF rfl <| x_nil <| x_cons <| x_ret <| e_bin <| e_sliceS <| rName D hm <| p_none <| p_some <| gGlob D.now maxLen.2 <| sl_to (i := 80) D (by simp [sizeLine]; exact lin [_] (.h 1 (.a 0) (.n 1000000) <| .g 1 (.a 0) (.n 16777216)) (.refl true) hx) (by exact lin [_] (.o 1 (.a 0) (.n 80) <| .g 1 (.n 80) (.a 0)) (.refl true) hn) fun t s' D => ?_
      exact rStrS _ D fun t s' D => rAddS D (by simp [sizeLine]; omega) fun t s' D => h _ _ D
theorem reprL_len (x : List Nat) : (reprL x).length ≤ 2 * x.length + 2 := by
  have := escQ_len (quoteOf x) x
  unfold reprL
  simp only [List.length_append, List.length_cons, List.length_nil]; exact lin [_, _] (.h 1 (.a 0) (.m 2 (.a 1)) <| .g 1 (.p (.p (.p (.n 0) (.n 1)) (.a 0)) (.p (.n 0) (.n 1))) (.p (.m 2 (.a 1)) (.n 2))) (.refl true) this
theorem Prog.t140 (P : Prog C s) : s.heap.get? T140.1 = some { cls := .type "tuple", data := .seq #[.bool false] } := P.X _ _ (O140.2 _)
theorem repr_head {x : List Nat} {b : Bool} {t : Tok} {vals : List Value} {Q : Value → Shared → Prop} (P : Prog C s) (R : Room A 1) (hx : ∀ c ∈ x, 32 ≤ c ∧ c < 127) (hz : x.length ≤ 400000)
    (hbind : BindsTo s F140.1 ⟨vals, []⟩ [(Str.ofString "obj", .str (S x) t), (Str.ofString "short", .bool b)]) (h : ∀ t s', Next C.N s s' → Q (.str (S (if b then cutR (reprL x) else reprL x)) t) s') :
    W prog C A (call (.ref 140) vals) Q s := by
  have hl := reprL_len x
  refine rEnter (n := 0) (binds := [(Str.ofString "obj", .str (S x) t), (Str.ofString "short", .bool b)]) P R F140.2 rfl hbind fun s₁ L R D => ?_
  refine x_consL ?_
  intro Qs
  refine x_try <| x_cons <| x_assign <| e_bi D.now b_repr <| a_cons <| rName D rfl <| a_nil ⟨PySem.P.repr_of_str ?_ ?_⟩
  · rw [reprText_S hx]
    refine rStore D.tok1 fun s' D => x_nil ?_
    exact repr_tail D rfl rfl (by exact lin [_, _] (.h 2 (.a 0) (.n 400000) <| .h 1 (.a 1) (.p (.m 2 (.a 0)) (.n 2)) <| .g 1 (.a 1) (.n 1000000)) (.refl true) hz hl) fun t s' D => h _ _ D.next
  · rw [reprText_S hx, S_len]; simp [sizeLine]; exact lin [_, _] (.h 2 (.a 0) (.n 400000) <| .h 1 (.a 1) (.p (.m 2 (.a 0)) (.n 2)) <| .g 1 (.a 1) (.n 16777216)) (.refl true) hz hl
theorem repr_spec {x : List Nat} {t : Tok} {Q : Value → Shared → Prop} (P : Prog C s) (R : Room A 1) (hx : ∀ c ∈ x, 32 ≤ c ∧ c < 127) (hz : x.length ≤ 400000) (h : ∀ t s', Next C.N s s' → Q (.str (S (reprL x)) t) s') :
    W prog C A (call (.ref 140) [.str (S x) t]) Q s :=
  repr_head (b := false) P R hx hz (.of_defaults (T := T140.1) rfl P.t140 rfl rfl rfl) h
theorem repr_spec2 {x : List Nat} {t : Tok} {Q : Value → Shared → Prop} (P : Prog C s) (R : Room A 1) (hx : ∀ c ∈ x, 32 ≤ c ∧ c < 127) (hz : x.length ≤ 400000) (h : ∀ t s', Next C.N s s' → Q (.str (S (cutR (reprL x))) t) s') :
    W prog C A (call (.ref 140) [.str (S x) t, .bool true]) Q s :=
  repr_head (b := true) P R hx hz (.of_defaults (T := T140.1) rfl P.t140 rfl rfl rfl) h
end
end Mine
end
-- W1
section
open PySem PySem.Calls PyProof.Rows PySem.W
namespace Mine
/-- printable signs of ASCII -/
noncomputable def Pr (x : List Nat) : Prop := ∀ c ∈ x, 32 ≤ c ∧ c < 127
theorem Pr.app {x y : List Nat} (h : Pr x) (h' : Pr y) : Pr (x ++ y) := fun c hc => by
  rcases List.mem_append.mp hc with h1 | h1
  · exact h c h1
  · exact h' c h1
theorem escJ_cons (c : Nat) (v : List Nat) : escJ (c :: v) = (if c = 34 ∨ c = 92 then [92, c] else [c]) ++ escJ v := by
  show (if hitJ c = true then [92] ++ [c] else [c]) ++ escJ v = _
  unfold hitJ
  by_cases h : c = 34 ∨ c = 92
  · rw [if_pos h, if_pos (by simpa using h)]; rfl
  · rw [if_neg h, if_neg (by simpa using h)]
theorem escJ_repl : ∀ v : List Nat, repl 34 [92, 34] (repl 92 [92, 92] v) = escJ v
  | [] => rfl
  | c :: v => by
    rw [escJ_cons, ← escJ_repl v]
    have e : repl 92 [92, 92] (c :: v) = (if c = 92 then [92, 92] else [c]) ++ repl 92 [92, 92] v := rfl
    rw [e, repl_app]
    congr 1
    by_cases h : c = 92
    · subst h; simp [repl]
    · by_cases h' : c = 34
      · subst h'; simp [repl]
      · simp [repl, h, h']
theorem escJ_body : ∀ {v : List Nat}, Pr v → Body (escJ v)
  | [], _ => .nil
  | c :: v, h => by
    have hc := h c (List.mem_cons_self ..)
    have ih := escJ_body (v := v) fun d hd => h d (List.mem_cons_of_mem _ hd)
    rw [escJ_cons]
    split
    · exact .two (by exact fun qq => lin [_] (.h 1 (.n 32) (.a 0) <| .e 1 (.a 0) (.n 10) <| .z) (.refl true) hc.1 qq) ih
    · rename_i hn
      exact .one (fun q => hn (.inr q)) (fun q => hn (.inl q)) ih
theorem escJ_unesc : ∀ v : List Nat, unesc (escJ v) = v
  | [] => rfl
  | c :: v => by
    rw [escJ_cons]
    split
    · show unesc (92 :: c :: escJ v) = _
      rw [unesc_two, escJ_unesc v]
    · rename_i hn
      show unesc (c :: escJ v) = _
      rw [unesc_one (fun q => hn (.inr q)), escJ_unesc v]
theorem escJ_len (v : List Nat) : (escJ v).length ≤ 2 * v.length := escBy_len hitJ v
noncomputable def byJoin (x : List Nat) : List Nat := [107, 61, 34] ++ escJ x ++ [34]
section
variable {prog : Program} {C : Cx} {A : Around} {s₀ s : Shared} {L a : Addr} {m : Str → Option Value} {led : List (Addr × Cell)} {fd : FuncData} {env : Env}
theorem byJoin_spec {x : List Nat} {t : Tok} {Q : Value → Shared → Prop} (P : Prog C s) (R : Room A 8) (hx : Pr x) (hno : ∃ c ∈ x, isTok c = false) (hz : x.length ≤ 100000) (h : ∀ t s', Next C.N s s' → Q (.str (S (byJoin x)) t) s') :
    W prog C A (call (.ref 215) [.str (S x) t]) Q s := by
  have hl := escJ_len x
  have h1 := repl_len 92 [92, 92] x
  have h2 := escJ_repl x
  refine rEnter (n := 7) (binds := [(Str.ofString "text", .str (S x) t)]) P R F215.2 rfl (.of_eq rfl) fun s₁ L R D => ?_
  refine x_consL ?_
  intro Qs
  refine x_assign <| e_def D.now g_join F87.2 <| a_cons <| e_list <| a_cons <| e_list <| a_cons <| e_tup <| a_cons <| rStrS [107] D fun t s' D => a_cons <| rName D rfl <| a_nil ⟨_, _, _, _, D, Nat.le_of_ble_eq_true rfl, fun tp s' D => a_nil ⟨_, _, _, _, D, Nat.le_of_ble_eq_true rfl, fun pl s' D => a_nil ⟨_, _, _, _, D, Nat.le_of_ble_eq_true rfl, fun ls s' D => a_nil ⟨D.now, ?_⟩⟩⟩⟩
  refine join_spec D.now (R.mono (by decide)) (D.nth 0 rfl) (D.nth 1 rfl) (D.nth 2 rfl) (fun c hc => by have := hx c hc; exact lin [_] (.l 1 (.a 0) (.n 127) <| .j 1 (.a 0) (.n 128)) (.refl true) this.2) hno hz fun t s' nx => ?_
  have D := D.step nx
  have eb : [107, 61] ++ ([34] ++ escJ x ++ [34]) = byJoin x := by simp [byJoin]
  rw [eb]
  have lb : (byJoin x).length = (escJ x).length + 4 := by simp [byJoin]
  refine rStore D fun s' D => ?_
  refine x_consL ?_
  intro Qs
  refine x_if ?_
  intro Qi
  refine t_cmp <| rName D rfl <| e_bin <| e_bin <| rStrS [107, 61, 34] D fun t s' D => ?_
  refine e_m2 <| e_m2 <| rName D rfl <| m_replC (c := 92) (z := [92, 92]) D (by exact lin [_] (.h 1 (.a 0) (.n 100000) <| .g 1 (.a 0) (.n 1000000)) (.refl true) hz) (by decide) fun t s' D => ?_
  refine m_replC (c := 34) (z := [92, 34]) D (by simp at h1; exact lin [_, _] (.h 3 (.a 0) (.n 100000) <| .h 1 (.a 1) (.r (.a 0) 3) <| .g 1 (.a 1) (.n 1000000)) (.refl true) hz h1) (by decide) fun t s' D => ?_
  rw [h2]
  refine rAddS D (by simp [sizeLine]; exact lin [_, _] (.h 2 (.a 0) (.n 100000) <| .h 1 (.a 1) (.m 2 (.a 0)) <| .g 1 (.p (.n 3) (.a 1)) (.n 16777216)) (.refl true) hz hl) fun t s' D => rStrS [34] D fun t s' D => rAddS D (by simp [sizeLine]; exact lin [_, _] (.h 2 (.a 0) (.n 100000) <| .h 1 (.a 1) (.m 2 (.a 0)) <| .g 1 (.a 1) (.n 16777212)) (.refl true) hz hl) fun t s' D => ?_
  rw [show [107, 61, 34] ++ escJ x ++ [34] = byJoin x from rfl]
  refine rNeS ⟨_, rfl, rIfF (by simp) <| x_nil ?_⟩
  refine x_consL ?_
  intro Qs
  refine x_ret <| e_ifexp <| t_val <| e_def D.now g_reads F189.2 <| a_cons <| rName D rfl <| a_cons <| rName D rfl <| a_nil ⟨D.now, ?_⟩
  refine reads_spec D.now (R.mono (by decide)) (escJ_body hx) (escJ_unesc x) (by exact lin [_, _] (.h 2 (.a 0) (.n 100000) <| .h 1 (.a 1) (.m 2 (.a 0)) <| .g 1 (.a 1) (.n 500000)) (.refl true) hz hl) (fun c hc => by have := hx c hc; exact lin [_] (.l 1 (.a 0) (.n 127) <| .j 1 (.a 0) (.n 128)) (.refl true) this.2) fun s' nx => truthy_b <| rIfT rfl ?_
  have D := D.step nx
  exact rName D rfl (h _ _ D.next)
end
end Mine
end
-- W2
section
open PySem PySem.Calls PyProof.Rows PySem.W
namespace Mine
noncomputable def escP (p : Nat → Bool) (x : List Nat) : List Nat := x.flatMap fun c => if p c then [92, c] else [c]
theorem escP_cons (p c x) : escP p (c :: x) = (if p c then [92, c] else [c]) ++ escP p x := rfl
theorem escP_body {p : Nat → Bool} (h92 : p 92 = true) : ∀ {x : List Nat}, Pr x → (∀ c ∈ x, c = 34 → p c = true) → Body (escP p x)
  | [], _, _ => .nil
  | c :: x, h, hq => by
    have hc := h c (List.mem_cons_self ..)
    have ih := escP_body h92 (x := x) (fun d hd => h d (List.mem_cons_of_mem _ hd)) fun d hd => hq d (List.mem_cons_of_mem _ hd)
    rw [escP_cons]
    split
    · exact .two (by exact fun qq => lin [_] (.h 1 (.n 32) (.a 0) <| .e 1 (.a 0) (.n 10) <| .z) (.refl true) hc.1 qq) ih
    · rename_i hn
      exact .one (fun q => hn (q ▸ h92)) (fun q => hn (hq c (List.mem_cons_self ..) q)) ih
theorem escP_unesc {p : Nat → Bool} (h92 : p 92 = true) : ∀ x : List Nat, unesc (escP p x) = x
  | [] => rfl
  | c :: x => by
    rw [escP_cons]
    split
    · show unesc (92 :: c :: escP p x) = _
      rw [unesc_two, escP_unesc h92 x]
    · rename_i hn
      show unesc (c :: escP p x) = _
      rw [unesc_one (c := c) (fun q => hn (by rw [q]; exact h92)), escP_unesc h92 x]
theorem escP_len (p : Nat → Bool) (x : List Nat) : (escP p x).length ≤ 2 * x.length := by
  induction x with
  | nil => simp [escP]
  | cons c x ih =>
    rw [escP_cons]
    generalize escP p x = z at ih ⊢
    split <;> simp only [List.length_append, List.length_cons, List.length_nil] <;> (first | exact lin [_, _] (.h 1 (.a 0) (.m 2 (.a 1)) <| .g 1 (.p (.p (.p (.n 0) (.n 1)) (.n 1)) (.a 0)) (.m 2 (.p (.a 1) (.n 1)))) (.refl true) ih | exact lin [_, _] (.h 1 (.a 0) (.m 2 (.a 1)) <| .g 1 (.p (.p (.n 0) (.n 1)) (.a 0)) (.m 2 (.p (.a 1) (.n 1)))) (.refl true) ih)
theorem repl_cons (c z d x) : repl c z (d :: x) = (if d = c then z else [d]) ++ repl c z x := rfl
/-- the backslashes, then the apostrophes -/
theorem repl_39 : ∀ x : List Nat, repl 39 [92, 39] (repl 92 [92, 92] x) = escQ 39 x
  | [] => rfl
  | c :: x => by
    rw [repl_cons, repl_app, repl_39 x]
    show _ = (if c = 39 ∨ c = 92 then [92, c] else [c]) ++ escQ 39 x
    congr 1
    by_cases h : c = 92
    · subst h; simp [repl]
    · by_cases h' : c = 39
      · subst h'; simp [repl]
      · simp [repl, h, h']
theorem repl_92 : ∀ x : List Nat, (34 ∉ x) → repl 92 [92, 92] x = escQ 34 x
  | [], _ => rfl
  | c :: x, hn => by
    rw [repl_cons, repl_92 x fun q => hn (List.mem_cons_of_mem _ q)]
    show _ = (if c = 34 ∨ c = 92 then [92, c] else [c]) ++ escQ 34 x
    congr 1
    have h' : c ≠ 34 := fun q => hn (q ▸ List.mem_cons_self ..)
    by_cases h : c = 92
    · subst h; simp
    · simp [h, h']
theorem marks_39 : ∀ x : List Nat, repl 34 [92, 34] (escQ 39 x) = escP (fun c => c == 39 || c == 92 || c == 34) x
  | [] => rfl
  | c :: x => by
    have e : escQ 39 (c :: x) = (if c = 39 ∨ c = 92 then [92, c] else [c]) ++ escQ 39 x := rfl
    rw [e, repl_app, marks_39 x, escP_cons]
    congr 1
    by_cases h : c = 39
    · subst h; simp [repl]
    · by_cases h2 : c = 92
      · subst h2; simp [repl]
      · by_cases h3 : c = 34
        · subst h3; simp [repl]
        · simp [repl, h, h2, h3]
theorem marks_34 : ∀ x : List Nat, (34 ∉ x) → repl 34 [92, 34] (escQ 34 x) = escP (fun c => c == 92) x
  | [], _ => rfl
  | c :: x, hn => by
    have e : escQ 34 (c :: x) = (if c = 34 ∨ c = 92 then [92, c] else [c]) ++ escQ 34 x := rfl
    have h' : c ≠ 34 := fun q => hn (q ▸ List.mem_cons_self ..)
    rw [e, repl_app, marks_34 x fun q => hn (List.mem_cons_of_mem _ q), escP_cons]
    congr 1
    by_cases h2 : c = 92
    · subst h2; simp [repl]
    · simp [repl, h2, h']
theorem escJ_free (x : List Nat) (hn : 34 ∉ x) : escJ x = escQ 34 x := by
  rw [← escJ_repl, repl_free 34, repl_92 x hn]
  rw [repl_92 x hn]
  intro q
  unfold escQ at q
  obtain ⟨c, hc, h⟩ := List.mem_flatMap.mp q
  have h' : c ≠ 34 := fun q => hn (q ▸ hc)
  by_cases h2 : c = 92
  · subst h2; simp at h
  · simp [h', h2] at h; exact h' h.symm
noncomputable def dbl (x : List Nat) : Bool := x.contains 39 && !x.contains 34
theorem quote_dbl (x : List Nat) : quoteOf x = if dbl x then 34 else 39 := rfl
theorem unquote_34 (e : List Nat) : unquote ([34] ++ e ++ [34]) = e := by
  unfold unquote
  simp
theorem unquote_39 (e : List Nat) : unquote ([39] ++ e ++ [39]) = [39] ++ e ++ [39] := by
  unfold unquote
  simp
section
variable {prog : Program} {C : Cx} {A : Around} {s₀ s : Shared} {L a : Addr} {m : Str → Option Value} {led : List (Addr × Cell)} {fd : FuncData} {env : Env}
theorem e_and2 {x y : Expr} {pos : Pos} {Q : Value → Shared → Prop}
    (h : W prog C A (eval x env) (fun v s₁ => W prog C A (truthy v) (fun t s₂ => if t = true then W prog C A (eval y env) Q s₂ else Q v s₂) s₁) s) : W prog C A (eval (.BoolOp .And [x, y] pos) env) Q s :=
  ⟨wpAny_And2 (wpAny_mono h.out (fun v s₁ h₁ => wpAny_mono h₁.out (fun t s₂ h₂ => by
    cases t
    · exact h₂
    · exact W.out h₂) fun _ _ x => x) fun _ _ x => x)⟩
theorem rNeB {a b : Bool} {Q : Value → Shared → Prop} (h : Q (.bool (!(a == b))) s) : W prog C A (compareOp .NotEq (.bool a) (.bool b)) Q s := ⟨PySem.EqBoolInt.of_rcne (SeqAt.RcNeAt.bool_bool a b) h⟩
noncomputable abbrev env208 (L : Addr) : Env := callEnv F208.1 L 208
/-- behind `told` -/
theorem byRepr_tail {x e : List Nat} {q : Nat} {d : Bool} {t1 t2 : Tok} {Q : Value → Shared → Prop} (D : Led C s₀ L m [] s) (R : Room A 7) (hx : Pr x) (hno : ∃ c ∈ x, isTok c = false) (hz : x.length ≤ 100000) (hd : d = dbl x) (hq : q = quoteOf x) (he : e = escQ q x)
    (mx : m (Str.ofString "text") = some (.str (S x) t1)) (mt : m (Str.ofString "told") = some (.str (S ([q] ++ e ++ [q])) t2)) (md : m (Str.ofString "double") = some (.bool d))
    (h' : ∀ t s', Next C.N s₀ s' → Q (.str (S (reprL x)) t) s') :
    W prog C A (execs ((bodyOf F208.1).drop 3) (env208 L)) (RetQ Q) s := by
  have hel : e.length ≤ 2 * x.length := by rw [he]; exact escQ_len q x
  have hr : reprL x = [q] ++ e ++ [q] := by rw [he, hq]; rfl
  have htl : ([q] ++ e ++ [q]).length = e.length + 2 := by simp
  generalize htd : [q] ++ e ++ [q] = td at mt hr htl
  have hin : (td.drop 1).take (td.length - 1 - 1) = e := by rw [htl, ← htd]; simp
  have h128 : ∀ c ∈ x, c < 128 := fun c hc => by have := hx c hc; exact lin [_] (.l 1 (.a 0) (.n 127) <| .j 1 (.a 0) (.n 128)) (.refl true) this.2
  refine x_consL ?_
  intro Qs
  refine x_assign <| e_sliceS <| rName D mt <| p_some <| rIntN 1 D fun t s' D => p_some <| e_m1i D fun t s' D => sl_mid_m1 (i := 1) D (by simp [sizeLine]; exact lin [_, _, _] (.h 2 (.a 0) (.n 100000) <| .h 1 (.a 1) (.m 2 (.a 0)) <| .e 1 (.a 2) (.p (.a 1) (.n 2)) <| .g 1 (.a 2) (.n 16777216)) (.refl true) hz hel htl) (by exact lin [_, _] (.f 1 (.a 0) (.p (.a 1) (.n 2)) <| .g 1 (.p (.n 1) (.n 1)) (.a 0)) (.refl true) htl) fun t s' D => ?_
  rw [hin]
  refine rStore D fun s' D => ?_
  refine x_consL ?_
  intro Qs
  refine x_assign <| e_def D.now g_repr F140.2 <| a_cons <| rName D mx <| a_nil ⟨D.now, repr_spec D.now (R.mono (by decide)) hx (by exact lin [_] (.h 1 (.a 0) (.n 100000) <| .g 1 (.a 0) (.n 400000)) (.refl true) hz) fun t s' nx => ?_⟩
  have D := D.step nx
  rw [hr]
  refine rStore D fun s' D => ?_
  -- told short
  have tail : ∀ {m2 : Str → Option Value} {s2 : Shared} {t3 t4 t5 : Tok}, m2 (Str.ofString "text") = some (.str (S x) t1) → m2 (Str.ofString "told") = some (.str (S td) t2) → m2 (Str.ofString "double") = some (.bool d) → m2 (Str.ofString "inside") = some (.str (S e) t3) →
      m2 (Str.ofString "given") = some (.str (S td) t4) → m2 (Str.ofString "short") = some (.str (S (cutR td)) t5) → Led C s₀ L m2 [] s2 → W prog C A (execs ((bodyOf F208.1).drop 6) (env208 L)) (RetQ Q) s2 := by
    intro m2 s2 t3 t4 t5 mx mt md mi mg ms D
    refine x_consL ?_
    intro Qs
    refine x_if ?_
    intro Qi
    refine t_bool <| t_or <| t_cmp <| rName D mg <| rName D mt <| rNeS ⟨_, rfl, rIfF (by simp) <| t_or <| t_cmp <| e_def D.now g_repr F140.2 <| a_cons <| rName D mx <| a_cons <| rBoolC <| a_nil ⟨D.now, ?_⟩⟩
    refine repr_spec2 D.now (R.mono (by decide)) hx (by exact lin [_] (.h 1 (.a 0) (.n 100000) <| .g 1 (.a 0) (.n 400000)) (.refl true) hz) fun t s' nx => ?_
    have D := D.step nx
    rw [hr]
    refine rName D ms <| rNeS ⟨_, rfl, rIfF (by simp) <| t_or0 <| rIfF rfl <| x_nil ?_⟩
    -- the marks are taken off
    refine x_consL ?_
    intro Qs
    refine x_if ?_
    intro Qi
    refine t_cmp <| e_def D.now g_strip F94.2 <| a_cons <| rName D mg <| a_nil ⟨D.now, strip_spec D.now (R.mono (by decide)) (by simp [sizeLine]; exact lin [_, _, _] (.h 2 (.a 0) (.n 100000) <| .h 1 (.a 1) (.m 2 (.a 0)) <| .e 1 (.a 2) (.p (.a 1) (.n 2)) <| .g 1 (.a 2) (.n 16777216)) (.refl true) hz hel htl) fun t s' nx => ?_⟩
    have D := D.step nx
    have hun : unquote td = if d then e else td := by
      rw [← htd, hd, hq, quote_dbl]
      cases dbl x
      · exact unquote_39 e
      · exact unquote_34 e
    rw [hun]
    refine e_ifexp <| t_val <| rName D md <| truthy_b ?_
    have next : ∀ {s2 : Shared}, Led C s₀ L m2 [] s2 → W prog C A (execs ((bodyOf F208.1).drop 8) (env208 L)) (RetQ Q) s2 := by
      intro s2 D
      refine x_consL ?_
      intro Qs
      refine x_if ?_
      intro Qi
      refine t_cmp <| e_cmp <| e_def D.now g_join F87.2 <| a_cons <| e_list <| a_cons <| e_list <| a_cons <| e_tup <| a_cons <| rStrS [107] D fun t s' D => a_cons <| rName D mx <| a_nil ⟨_, _, _, _, D, Nat.le_of_ble_eq_true rfl, fun tp s' D => a_nil ⟨_, _, _, _, D, Nat.le_of_ble_eq_true rfl, fun pl s' D => a_nil ⟨_, _, _, _, D, Nat.le_of_ble_eq_true rfl, fun ls s' D => a_nil ⟨D.now, ?_⟩⟩⟩⟩
      refine join_spec D.now (R.mono (by decide)) (D.nth 0 rfl) (D.nth 1 rfl) (D.nth 2 rfl) h128 hno hz fun t s' nx => ?_
      have D := D.step nx
      have lej := escJ_len x
      refine e_bin <| rStrS [107, 61] D fun t s' D => rName D mg <| rAddS D (by simp [sizeLine]; exact lin [_, _, _] (.h 2 (.a 0) (.n 100000) <| .h 1 (.a 1) (.m 2 (.a 0)) <| .e 1 (.a 2) (.p (.a 1) (.n 2)) <| .g 1 (.p (.n 2) (.a 2)) (.n 16777216)) (.refl true) hz hel htl) fun t s' D => rEqS ?_
      have hjd : decide ([107, 61] ++ ([34] ++ escJ x ++ [34]) = [107, 61] ++ td) = d := by
        rw [← htd, hd, hq, he, hq, quote_dbl]
        cases hdb : dbl x with
        | true =>
          have hn : 34 ∉ x := by
            unfold dbl at hdb
            simp at hdb; exact hdb.2
          rw [escJ_free x hn]; simp
        | false => simp
      rw [hjd]
      refine rName D md <| rNeB ⟨_, rfl, rIfF (by simp) <| x_nil ?_⟩
      refine x_consL ?_
      intro Qs
      refine x_ret <| e_ifexp <| t_val <| e_def D.now g_reads F189.2 <| a_cons <| e_def D.now g_marks F196.2 <| a_cons <| rName D mi <| a_nil ⟨D.now, marks_spec D.now (R.mono (by decide)) (by exact lin [_, _] (.h 2 (.a 0) (.n 100000) <| .h 1 (.a 1) (.m 2 (.a 0)) <| .g 1 (.a 1) (.n 1000000)) (.refl true) hz hel) fun t s' nx => ?_⟩
      have D := D.step nx
      refine a_cons <| rName D mx <| a_nil ⟨D.now, ?_⟩
      have hmk : ∃ r, marked e = [107, 61, 34] ++ r ++ [34] ∧ Body r ∧ unesc r = x ∧ r.length ≤ 2 * x.length := by
        unfold marked
        rw [he, hq, quote_dbl]
        cases hdb : dbl x with
        | true =>
          have hn : 34 ∉ x := by
            unfold dbl at hdb
            simp at hdb; exact hdb.2
          exact ⟨_, rfl, by rw [if_pos rfl, marks_34 x hn]; exact escP_body rfl hx fun c hc h => absurd (h ▸ hc) hn, by rw [if_pos rfl, marks_34 x hn]; exact escP_unesc rfl x, by rw [if_pos rfl, marks_34 x hn]; exact escP_len _ x⟩
        | false => exact ⟨_, rfl, by rw [if_neg (by decide), marks_39]; exact escP_body rfl hx fun c hc h => by subst h; rfl, by rw [if_neg (by decide), marks_39]; exact escP_unesc rfl x, by rw [if_neg (by decide), marks_39]; exact escP_len _ x⟩
      obtain ⟨r, e1, e2, e3, e4⟩ := hmk
      rw [e1]
      refine reads_spec D.now (R.mono (by decide)) e2 e3 (by exact lin [_, _] (.h 2 (.a 0) (.n 100000) <| .h 1 (.a 1) (.m 2 (.a 0)) <| .g 1 (.a 1) (.n 500000)) (.refl true) hz e4) h128 fun s' nx => truthy_b <| rIfT rfl ?_
      have D := D.step nx
      have k := h' t4 s' D.next
      rw [hr] at k
      exact rName D mg k
    cases d with
    | true => exact rIfT rfl <| rName D mi <| rNeS ⟨_, rfl, rIfF (by simp) <| x_nil (next D)⟩
    | false => exact rIfF rfl <| rName D mt <| rNeS ⟨_, rfl, rIfF (by simp) <| x_nil (next D)⟩
  refine x_consL ?_
  intro Qs
  refine x_assign <| e_ifexp <| t_cmp <| e_bi D.now b_len <| a_cons <| rName D mt <| a_nil <| rLenS D (by simp [sizeLine]; exact lin [_, _, _] (.h 2 (.a 0) (.n 100000) <| .h 1 (.a 1) (.m 2 (.a 0)) <| .e 1 (.a 2) (.p (.a 1) (.n 2)) <| .g 1 (.a 2) (.n 16777216)) (.refl true) hz hel htl) fun t s' D => rIntN 80 D fun t s' D => rLtN ⟨_, rfl, rIf (fun hb => ?_) (fun hb => ?_)⟩
  · have e5 : cutR td = td := by unfold cutR; rw [if_pos (of_decide_eq_true hb)]
    refine rName D mt <| rStore D fun s' D => ?_
    exact tail (by exact mx) (by exact mt) (by exact md) (by exact rfl) (by exact rfl) (by rw [e5]; exact rfl) D
  · have e5 : cutR td = td.take 80 ++ " [truncated]...".toList.map Char.toNat := by unfold cutR; rw [if_neg (of_decide_eq_false hb)]
    have hn : ¬ td.length < 80 := of_decide_eq_false hb
    refine e_bin <| e_sliceS <| rName D mt <| p_none <| p_some <| rIntN 80 D fun t s' D => sl_to (i := 80) D (by simp [sizeLine]; exact lin [_, _, _] (.h 2 (.a 0) (.n 100000) <| .h 1 (.a 1) (.m 2 (.a 0)) <| .e 1 (.a 2) (.p (.a 1) (.n 2)) <| .g 1 (.a 2) (.n 16777216)) (.refl true) hz hel htl) (by exact lin [_] (.o 1 (.a 0) (.n 80) <| .g 1 (.n 80) (.a 0)) (.refl true) hn) fun t s' D => ?_
    refine rStrS (" [truncated]...".toList.map Char.toNat) D fun t s' D => rAddS D (by simp [sizeLine]; omega) fun t s' D => rStore D fun s' D => ?_
    exact tail (by exact mx) (by exact mt) (by exact md) (by exact rfl) (by exact rfl) (by rw [e5]; exact rfl) D
end
end Mine
end
-- W3
section
open PySem PySem.Calls PyProof.Rows PySem.W
namespace Mine
section
variable {prog : Program} {C : Cx} {A : Around} {s₀ s : Shared} {L a : Addr} {m : Str → Option Value} {led : List (Addr × Cell)} {fd : FuncData} {env : Env}
theorem byRepr_mid {x : List Nat} {d : Bool} {t1 : Tok} {Q : Value → Shared → Prop} (D : Led C s₀ L m [] s) (R : Room A 7) (hx : Pr x) (hno : ∃ c ∈ x, isTok c = false) (hz : x.length ≤ 100000) (hd : d = dbl x)
    (mx : m (Str.ofString "text") = some (.str (S x) t1)) (md : m (Str.ofString "double") = some (.bool d)) (h' : ∀ t s', Next C.N s₀ s' → Q (.str (S (reprL x)) t) s') :
    W prog C A (execs ((bodyOf F208.1).drop 1) (env208 L)) (RetQ Q) s := by
  have l1 := repl_len 92 [92, 92] x
  have l2 := repl_len 39 [92, 39] (repl 92 [92, 92] x)
  have hel : (escQ (quoteOf x) x).length ≤ 2 * x.length := escQ_len _ x
  refine x_consL ?_
  intro Qs
  refine x_assign <| e_m2 <| rName D mx <| m_replC (c := 92) (z := [92, 92]) D (by exact lin [_] (.h 1 (.a 0) (.n 100000) <| .g 1 (.a 0) (.n 1000000)) (.refl true) hz) (by decide) fun t s' D => rStore D fun s' D => ?_
  refine x_consL ?_
  intro Qs
  refine x_if ?_
  intro Qi
  refine t_val <| rName D md <| truthy_b <| rIf (fun hb => ?_) (fun hb => ?_)
  · have hdb : dbl x = true := hd ▸ hb
    have hn : 34 ∉ x := by
      unfold dbl at hdb
      simp at hdb; exact hdb.2
    have hq : quoteOf x = 34 := by rw [quote_dbl, hdb]; rfl
    rw [hq] at hel
    rw [repl_92 x hn] at D
    refine x_consL ?_
    intro Qs
    refine x_assign <| e_bin <| e_bin <| rStrS [34] D fun t s' D => rName D rfl <| rAddS D (by simp [sizeLine]; exact lin [_, _] (.h 2 (.a 0) (.n 100000) <| .h 1 (.a 1) (.m 2 (.a 0)) <| .g 1 (.p (.n 1) (.a 1)) (.n 16777216)) (.refl true) hz hel) fun t s' D => rStrS [34] D fun t s' D => rAddS D (by simp [sizeLine]; exact lin [_, _] (.h 2 (.a 0) (.n 100000) <| .h 1 (.a 1) (.m 2 (.a 0)) <| .g 1 (.a 1) (.n 16777214)) (.refl true) hz hel) fun t s' D => rStore D fun s' D => x_nil ?_
    exact byRepr_tail (q := 34) D R hx hno hz hd hq.symm rfl (by exact mx) (by exact rfl) (by exact md) h'
  · have hdb : dbl x = false := hd ▸ hb
    have hq : quoteOf x = 39 := by rw [quote_dbl, hdb]; rfl
    rw [hq] at hel
    refine x_consL ?_
    intro Qs
    refine x_assign <| e_bin <| e_bin <| rStrS [39] D fun t s' D => e_m2 <| rName D rfl <| m_replC (c := 39) (z := [92, 39]) D (by simp at l1; exact lin [_, _] (.h 3 (.a 0) (.n 100000) <| .h 1 (.a 1) (.r (.a 0) 3) <| .g 1 (.a 1) (.n 1000000)) (.refl true) hz l1) (by decide) fun t s' D => ?_
    rw [repl_39]
    refine rAddS D (by simp [sizeLine]; exact lin [_, _] (.h 2 (.a 0) (.n 100000) <| .h 1 (.a 1) (.m 2 (.a 0)) <| .g 1 (.p (.n 1) (.a 1)) (.n 16777216)) (.refl true) hz hel) fun t s' D => rStrS [39] D fun t s' D => rAddS D (by simp [sizeLine]; exact lin [_, _] (.h 2 (.a 0) (.n 100000) <| .h 1 (.a 1) (.m 2 (.a 0)) <| .g 1 (.a 1) (.n 16777214)) (.refl true) hz hel) fun t s' D => rStore D fun s' D => x_nil ?_
    exact byRepr_tail (q := 39) D R hx hno hz hd hq.symm rfl (by exact mx) (by exact rfl) (by exact md) h'
theorem byRepr_spec {x : List Nat} {t : Tok} {Q : Value → Shared → Prop} (P : Prog C s) (R : Room A 8) (hx : Pr x) (hno : ∃ c ∈ x, isTok c = false) (hz : x.length ≤ 100000) (h : ∀ t s', Next C.N s s' → Q (.str (S (reprL x)) t) s') :
    W prog C A (call (.ref 208) [.str (S x) t]) Q s := by
  refine rEnter (n := 7) (binds := [(Str.ofString "text", .str (S x) t)]) P R F208.2 rfl (.of_eq rfl) fun s₁ L R D => ?_
  refine x_consL ?_
  intro Qs
  refine x_assign <| e_and2 <| e_cmp <| rStrS [39] D fun t s' D => rName D rfl <| rInS <| truthy_b <| rIf (fun hb => ?_) (fun hb => ?_)
  · refine e_cmp <| rStrS [34] D fun t s' D => rName D rfl <| rNotInS <| rStore D fun s' D => ?_
    exact byRepr_mid (d := !x.contains 34) D R hx hno hz (by unfold dbl; rw [hb]; rfl) (by exact rfl) (by exact rfl) h
  · rw [hb]
    refine rStore D fun s' D => ?_
    exact byRepr_mid (d := false) D R hx hno hz (by unfold dbl; rw [hb]; rfl) (by exact rfl) (by exact rfl) h
end
end Mine
end
-- X1
section
open PySem PySem.Calls PyProof.Rows PySem.W
namespace Mine
inductive Parts (st : Addr) : List Value → List (Option (List Nat)) → Prop
  | nil : Parts st [] []
  | star {vs ps} : Parts st vs ps → Parts st (.ref st :: vs) (none :: ps)
  | str {vs ps} (x : List Nat) (t : Tok) : Parts st vs ps → Parts st (.str (S x) t :: vs) (some x :: ps)
theorem Parts.length {st vs ps} (h : Parts st vs ps) : vs.length = ps.length := by
  induction h with
  | nil => rfl
  | star _ ih => simp [ih]
  | str _ _ _ ih => simp [ih]
theorem Parts.at_star {st vs ps} (h : Parts st vs ps) : ∀ {i : Nat}, ps[i]? = some none → vs[i]? = some (.ref st) := by
  induction h with
  | nil => intro i h; simp at h
  | star _ ih => intro i h; cases i with
    | zero => rfl
    | succ i => simp at h; simpa using ih h
  | str _ _ _ ih => intro i h; cases i with
    | zero => simp at h
    | succ i => simp at h; simpa using ih h
theorem Parts.at_str {st vs ps} (h : Parts st vs ps) : ∀ {i : Nat} {x : List Nat}, ps[i]? = some (some x) → ∃ t, vs[i]? = some (.str (S x) t) := by
  induction h with
  | nil => intro i x h; simp at h
  | star _ ih => intro i x h; cases i with
    | zero => simp at h
    | succ i => simp at h; simpa using ih h
  | str y t _ ih => intro i x h; cases i with
    | zero => simp at h; subst h; exact ⟨t, rfl⟩
    | succ i => simp at h; simpa using ih h
theorem Parts.app {st vs ws ps qs} (h : Parts st vs ps) (h' : Parts st ws qs) : Parts st (vs ++ ws) (ps ++ qs) := by
  induction h with
  | nil => exact h'
  | star _ ih => exact .star ih
  | str x t _ ih => exact .str x t ih
/-- the parts: a first group, then groups behind a star -/
noncomputable def partsOf (g0 : List (List Nat)) (gs : List (List (List Nat))) : List (Option (List Nat)) := g0.map some ++ gs.flatMap fun g => none :: g.map some
noncomputable def jn : List (List (List Nat)) → List Nat
  | [] => []
  | [g] => [46, 42] ++ g.flatten
  | g :: g' :: r => [40, 63, 62, 46, 42, 63] ++ g.flatten ++ [41] ++ jn (g' :: r)
section
variable {prog : Program} {C : Cx} {A : Around} {s₀ s : Shared} {L a : Addr} {m : Str → Option Value} {led : List (Addr × Cell)} {fd : FuncData} {env : Env}
theorem isNot_str_ref {x : List Nat} {t : Tok} {b : Addr} {Q : Value → Shared → Prop} (h : Q (.bool true) s) : W prog C A (compareOp .IsNot (.str (S x) t) (.ref b)) Q s := ⟨wpAny_isNot_other rfl (by intro q; cases q) h⟩
theorem isNot_self {b : Addr} {Q : Value → Shared → Prop} (h : Q (.bool false) s) : W prog C A (compareOp .IsNot (.ref b) (.ref b)) Q s := ⟨wpAny_isNot_ref_self h⟩
theorem is_self {b : Addr} {Q : Value → Shared → Prop} (h : Q (.bool true) s) : W prog C A (compareOp .Is (.ref b) (.ref b)) Q s := ⟨wpAny_is_ref_self h⟩
noncomputable abbrev env132 (L : Addr) : Env := callEnv F132.1 L 132

/-- the test of the loops over the signs between stars -/
theorem jt_test {inp st : Addr} {vs : List Value} {ps : List (Option (List Nat))} {i : Nat} {ti tn : Tok} {Q : Bool → Shared → Prop} {p1 p2 p3 p4 p5 p6 p7 p8 p9 : Pos} {whole : Sem Value} (D : Led C s₀ L m led s) (hp : Parts st vs ps) (hv : (Cell.list vs).At s₀.heap inp) (hz : vs.length ≤ 1000000)
    (mi : m (Str.ofString "i") = some (.int (i : Int) ti)) (mn : m (Str.ofString "n") = some (.int (vs.length : Int) tn)) (minp : m (Str.ofString "inp") = some (.ref inp)) (mst : m (Str.ofString "STAR") = some (.ref st)) (hi : i ≤ vs.length)
    (h : ∀ s', Led C s₀ L m led s' → Q (match ps[i]? with | some (some _) => true | _ => false) s') :
    W prog C A (isTrue (.BoolOp .And [.Compare (.Name (Str.ofString "i") p1) [.Lt] [.Name (Str.ofString "n") p2] p3, .Compare (.Subscript (.Name (Str.ofString "inp") p4) (.Name (Str.ofString "i") p5) p6) [.IsNot] [.Name (Str.ofString "STAR") p7] p8] p9) (env132 L) whole) Q s := by
  refine t_bool <| t_and <| t_cmp <| rName D mi <| rName D mn <| rLtN ⟨_, rfl, rIf (fun hb => ?_) (fun hb => ?_)⟩
  · have hlt : i < vs.length := of_decide_eq_true hb
    have hlt' : i < ps.length := by rw [← hp.length]; exact hlt
    refine t_and <| t_cmp <| e_item <| rName D minp <| rName D mi ?_
    cases hps : ps[i] with
    | none =>
      have e : ps[i]? = some none := by rw [List.getElem?_eq_getElem hlt', hps]
      refine i_list (D.argL hv) (hp.at_star e) (by exact lin [_, _] (.h 1 (.a 0) (.n 1000000) <| .l 1 (.a 1) (.a 0) <| .j 1 (.a 1) (.n 4611686018427387904)) (.refl true) hz hlt) ?_
      refine rName D mst <| isNot_self ⟨_, rfl, rIfF rfl ?_⟩
      have k := h _ D
      rw [e] at k; exact k
    | some x =>
      have e : ps[i]? = some (some x) := by rw [List.getElem?_eq_getElem hlt', hps]
      obtain ⟨t, ht⟩ := hp.at_str e
      refine i_list (D.argL hv) ht (by exact lin [_, _] (.h 1 (.a 0) (.n 1000000) <| .l 1 (.a 1) (.a 0) <| .j 1 (.a 1) (.n 4611686018427387904)) (.refl true) hz hlt) ?_
      refine rName D mst <| isNot_str_ref ⟨_, rfl, rIfT rfl <| t_and0 ?_⟩
      have k := h _ D
      rw [e] at k; exact k
  · have hge : ¬ i < vs.length := of_decide_eq_false hb
    have e : ps[i]? = none := List.getElem?_eq_none (by rw [← hp.length]; exact lin [_, _] (.o 1 (.a 0) (.a 1) <| .g 1 (.a 1) (.a 0)) (.refl true) hge)
    have k := h _ D
    rw [e] at k; exact k
end
end Mine
end
-- X2
section
open PySem PySem.Calls PyProof.Rows PySem.W
namespace Mine
structure JM (m : Str → Option Value) (inp st res bm : Addr) (i n : Nat) : Prop where
  inp : m (Str.ofString "inp") = some (.ref inp)
  st : m (Str.ofString "STAR") = some (.ref st)
  res : m (Str.ofString "res") = some (.ref res)
  add : m (Str.ofString "add") = some (.ref bm)
  i : ∃ t, m (Str.ofString "i") = some (.int (i : Int) t)
  n : ∃ t, m (Str.ofString "n") = some (.int (n : Int) t)
theorem JM.setI {m : Str → Option Value} {inp st res bm : Addr} {i n j : Nat} (h : JM m inp st res bm i n) (t : Tok) : JM (upd m (Str.ofString "i") (.int (j : Int) t)) inp st res bm j n :=
  ⟨h.inp, h.st, h.res, h.add, ⟨t, rfl⟩, h.n⟩
theorem JM.setFixed {m inp st res bm i n} (h : JM m inp st res bm i n) (v : Value) : JM (upd m (Str.ofString "fixed") v) inp st res bm i n :=
  ⟨h.inp, h.st, h.res, h.add, h.i, h.n⟩
/-- what stands at a place -/
theorem part_some {a : List (Option (List Nat))} {g : List (List Nat)} {b : List (Option (List Nat))} {j : Nat} (hj : j < g.length) : (a ++ (g.map some ++ b))[a.length + j]? = some (some g[j]) := by
  rw [List.getElem?_append_right (by exact lin [_, _] (.g 1 (.a 0) (.p (.a 0) (.a 1))) (.refl true)), Nat.add_sub_cancel_left, List.getElem?_append_left (by simpa using hj)]
  simp [hj]
theorem part_end {a : List (Option (List Nat))} {g : List (List Nat)} {b : List (Option (List Nat))} (hb : b = [] ∨ ∃ b', b = none :: b') : (a ++ (g.map some ++ b))[a.length + g.length]? = none ∨ (a ++ (g.map some ++ b))[a.length + g.length]? = some none := by
  rw [List.getElem?_append_right (by exact lin [_, _] (.g 1 (.a 0) (.p (.a 0) (.a 1))) (.refl true)), Nat.add_sub_cancel_left, List.getElem?_append_right (by simp)]
  simp only [List.length_map, Nat.sub_self]
  rcases hb with rfl | ⟨b', rfl⟩
  · left; rfl
  · right; rfl
theorem partsTail (gs : List (List (List Nat))) : (gs.flatMap fun g => none :: g.map some) = [] ∨ ∃ b' : List (Option (List Nat)), (gs.flatMap fun g => none :: g.map some) = none :: b' := by
  cases gs with
  | nil => left; rfl
  | cons g r => right; exact ⟨_, rfl⟩
section
variable {prog : Program} {C : Cx} {A : Around} {s₀ s : Shared} {L a : Addr} {m : Str → Option Value} {led : List (Addr × Cell)} {fd : FuncData} {env : Env}
/-- the first loop -/
theorem jt_loop1 {inp st res bm : Addr} {vs : List Value} {g : List (List Nat)} {b : List (Option (List Nat))} {st0 : Stmt} {Q : Flow → Shared → Prop} (D : Led C s₀ L m [(bm, .obj (boundObj res)), (res, .list [])] s) (hp : Parts st vs (g.map some ++ b)) (hb : b = [] ∨ ∃ b', b = none :: b')
    (hv : (Cell.list vs).At s₀.heap inp) (hz : vs.length ≤ 1000000) (J : JM m inp st res bm 0 vs.length) (hst : (bodyOf F132.1)[3]? = some st0) (hQ : ∀ m s' rv, JM m inp st res bm g.length vs.length → Strs rv g → Led C s₀ L m [(bm, .obj (boundObj res)), (res, .list rv)] s' → Q .next s') :
    W prog C A (exec st0 (env132 L)) Q s := by
  have hlen := hp.length
  simp only [List.length_append, List.length_map] at hlen
  obtain rfl : _ = st0 := Option.some.inj hst
  let Inv1 : Nat → Shared → Prop := fun k s' => Ex3 fun m i rv => And5 (k = g.length - i) (i ≤ g.length) (JM m inp st res bm i vs.length) (Strs rv (g.take i)) (Led C s₀ L m [(bm, .obj (boundObj res)), (res, .list rv)] s')
  refine x_while Inv1 g.length ⟨_, 0, [], rfl, Nat.zero_le _, J, .nil, D⟩ ?_
  rintro k s₁ Qb Qi ⟨m, i, rv, rfl, hi, J, hrv, D⟩
  obtain ⟨ti, mi⟩ := J.i
  obtain ⟨tn, mn⟩ := J.n
  refine jt_test D hp hv hz mi mn J.inp J.st (by exact lin [_, _, _, _] (.f 1 (.a 0) (.p (.a 1) (.a 2)) <| .h 1 (.a 3) (.a 1) <| .g 1 (.a 3) (.a 0)) (.refl true) hlen hi) fun s' D => ?_
  by_cases hlt : i < g.length
  · have e := part_some (a := []) (b := b) hlt
    simp only [List.nil_append, List.length_nil, Nat.zero_add] at e
    rw [e]
    refine rIfT rfl ?_
    obtain ⟨t, ht⟩ := hp.at_str e
    have hrl : rv.length = i := by rw [hrv.length, List.length_take]; omega
    refine x_consL ?_
    intro Qs
    refine x_expr <| e_callN <| rName D J.add <| c_bound <| e_item <| rName D J.inp <| rName D mi <| i_list (D.argL hv) ht (by exact lin [_, _, _, _] (.h 1 (.a 0) (.n 1000000) <| .f 1 (.a 0) (.p (.a 1) (.a 2)) <| .l 1 (.a 3) (.a 1) <| .j 1 (.a 3) (.n 4611686018427387904)) (.refl true) hz hlen hlt) ⟨_, _, _, _, 1, 0, _, _, D, rfl, rfl, by simp [sizeLine]; exact lin [_, _, _, _, _] (.h 1 (.a 0) (.n 1000000) <| .f 1 (.a 0) (.p (.a 1) (.a 2)) <| .l 1 (.a 3) (.a 1) <| .e 1 (.a 4) (.a 3) <| .g 1 (.a 4) (.n 16777216)) (.refl true) hz hlen hlt hrl, fun s' D => ?_⟩
    refine x_consL ?_
    intro Qs
    refine x_aug <| rLoad D mi <| rIntN 1 D fun t s' D => rIAddN D fun t s' D => rStore D fun s' D => x_nil ?_
    refine ⟨g.length - (i + 1), by exact lin [_, _, _, _] (.h 1 (.a 0) (.p (.a 2) (.a 1)) <| .e 1 (.p (.a 3) (.p (.a 1) (.n 1))) (.a 0) <| .j 1 (.a 3) (.a 2)) (.refl true) (subA _ _) (subC (by exact lin [_, _] (.l 1 (.a 0) (.a 1) <| .g 1 (.p (.a 0) (.n 1)) (.a 1)) (.refl true) hlt)), _, i + 1, _, rfl, by exact lin [_, _] (.l 1 (.a 0) (.a 1) <| .g 1 (.p (.a 0) (.n 1)) (.a 1)) (.refl true) hlt, J.setI t, ?_, D⟩
    have e3 : g.take (i + 1) = g.take i ++ [g[i]] := by rw [List.take_succ_eq_append_getElem hlt]
    rw [e3]
    exact hrv.snoc _ _
  · have hie : i = g.length := by exact Nat.le_antisymm (hi) (lin [_, _] (.o 1 (.a 0) (.a 1) <| .g 1 (.a 1) (.a 0)) (.refl true) hlt)
    subst hie
    have e := part_end (a := []) (g := g) hb
    simp only [List.nil_append, List.length_nil, Nat.zero_add] at e
    rw [List.take_length] at hrv
    rcases e with e | e <;> rw [e] <;> exact rIfF rfl (hQ _ _ _ J hrv D)
end
end Mine
end
-- X3
section
open PySem PySem.Calls PyProof.Rows PySem.W
namespace Mine
noncomputable abbrev gsParts (gs : List (List (List Nat))) : List (Option (List Nat)) := gs.flatMap fun g => none :: g.map some
section
variable {prog : Program} {C : Cx} {A : Around} {s₀ s : Shared} {L a : Addr} {m : Str → Option Value} {led : List (Addr × Cell)} {fd : FuncData} {env : Env}
theorem i_list' {l : Addr} {xs : List Value} {i : Nat} {x : Value} {u : Tok} {Q : Value → Shared → Prop} (hl : (Cell.list xs).At s.heap l) (hx : xs[i]? = some x) (hi : i < 2 ^ 62) (h : Q x s) :
    ItemOn (model prog C.w) A NoE (.ref l) (.int (i : Int) u) Q s := i_list hl hx hi h
theorem e_add {x : Str} {np pos : Pos} {arg : Expr} {f : Addr} {Q : Value → Shared → Prop} (D : Led C s₀ L m led s) (hm : m x = some (.ref f))
    (h : W prog C A (eval arg (callEnv fd L a)) (AddQ C Q f) s)
    (he : backTo pos (starEach [arg] (callEnv fd L a)) = [(false, eval arg (callEnv fd L a))] := by rfl)
    (hk : fd.scope.kind = .function := by rfl) (hl : (callEnv fd L a).kindOf x = some .local := by rfl) (hd : (x == ("__debug__" : Str)) = false := by rfl) : W prog C A (eval (.Call (.Name x np) [arg] [] pos) (callEnv fd L a)) Q s :=
  e_callN (rName D hm (by rw [he]; exact c_bound h) hk hl hd)
/-- the second loop: the groups behind the stars -/
theorem jt_loop2 {inp st res bm : Addr} {vs : List Value} {pa : List (Option (List Nat))} {gs : List (List (List Nat))} {st0 : Stmt} {rv0 : List Value} {os0 : List (List Nat)} {B : Nat} {Q : Flow → Shared → Prop}
    (D : Led C s₀ L m [(bm, .obj (boundObj res)), (res, .list rv0)] s) (hp : Parts st vs (pa ++ gsParts gs)) (hg : ∀ g ∈ gs.dropLast, g ≠ [])
    (hv : (Cell.list vs).At s₀.heap inp) (hz : vs.length ≤ 100000) (hB : (gs.map fun g => g.flatten.length).sum ≤ B) (hB2 : B ≤ 1000000) (hos : rv0.length ≤ pa.length) (J : JM m inp st res bm pa.length vs.length) (hrv : Strs rv0 os0) (hh : A.handled = none) (hst : (bodyOf F132.1)[4]? = some st0)
    (hQ : ∀ m s' rv os, JM m inp st res bm vs.length vs.length → Strs rv os → os.flatten = os0.flatten ++ jn gs → rv.length ≤ rv0.length + 2 * gs.length → Led C s₀ L m [(bm, .obj (boundObj res)), (res, .list rv)] s' → Q .next s') :
    W prog C A (exec st0 (env132 L)) Q s := by
  have hlen := hp.length
  obtain rfl : _ = st0 := Option.some.inj hst
  let Inv2 : Nat → Shared → Prop := fun k s' => Ex5 fun m rest pre rv os => And10 (k = rest.length) (pa ++ gsParts gs = pre ++ gsParts rest) ((∀ g ∈ rest.dropLast, g ≠ [])) ((rest.map fun g => g.flatten.length).sum ≤ B) (JM m inp st res bm pre.length vs.length) (Strs rv os) (os.flatten ++ jn rest = os0.flatten ++ jn gs) (rv.length + 2 * rest.length ≤ rv0.length + 2 * gs.length) (rv.length ≤ 2 * pre.length) (Led C s₀ L m [(bm, .obj (boundObj res)), (res, .list rv)] s')
  refine x_while Inv2 gs.length ⟨_, gs, pa, rv0, os0, rfl, rfl, hg, hB, J, hrv, rfl, Nat.le_refl _, by exact lin [_, _] (.h 1 (.a 0) (.a 1) <| .g 1 (.a 0) (.m 2 (.a 1))) (.refl true) hos, D⟩ ?_
  rintro k s₁ Qb Qi ⟨m, rest, pre, rv, os, rfl, hpre, hne, hb, J, hrv, hfl, hle, hrl, D⟩
  obtain ⟨ti, mi⟩ := J.i
  obtain ⟨tn, mn⟩ := J.n
  rw [hpre] at hp hlen
  refine t_cmp <| rName D mi <| rName D mn <| rLtN ⟨_, rfl, ?_⟩
  cases rest with
  | nil =>
    have hn : vs.length = pre.length := by rw [hlen]; simp
    refine rIfF (by simp; exact lin [_, _] (.e 1 (.a 0) (.a 1) <| .g 1 (.a 0) (.a 1)) (.refl true) hn) ?_
    refine hQ _ _ rv os (by rw [hn]; rw [hn] at J; exact J) hrv ?_ (by simp at hle; exact hle) D
    simpa [jn] using hfl
  | cons g r =>
    have hps : pre ++ gsParts (g :: r) = pre ++ (none :: (g.map some ++ gsParts r)) := rfl
    rw [hps] at hp hlen
    simp only [List.length_append, List.length_cons, List.length_map] at hlen
    refine rIfT (by simp; exact lin [_, _, _, _] (.f 1 (.a 0) (.p (.a 1) (.p (.p (.a 2) (.a 3)) (.n 1))) <| .j 1 (.a 1) (.a 0)) (.refl true) hlen) ?_
    have e0 : (pre ++ (none :: (g.map some ++ gsParts r)))[pre.length]? = some none := by
      rw [List.getElem?_append_right (Nat.le_refl _), Nat.sub_self]; rfl
    refine x_consL ?_
    intro Qs
    refine x_assert <| t_cmp <| e_item <| rName D J.inp <| rName D mi <| i_list (D.argL hv) (hp.at_star e0) (by exact lin [_, _, _, _] (.h 1 (.a 0) (.n 100000) <| .f 1 (.a 0) (.p (.a 1) (.p (.p (.a 2) (.a 3)) (.n 1))) <| .j 1 (.a 1) (.n 4611686018427387904)) (.refl true) hz hlen) <| rName D J.st <| is_self ⟨_, rfl, rfl, ?_⟩
    refine x_consL ?_
    intro Qs
    refine x_aug <| rLoad D mi <| rIntN 1 D fun t s' D => rIAddN D fun t s' D => rStore D fun s' D => ?_
    have J := J.setI (j := pre.length + 1) t
    obtain ⟨ti2, mi2⟩ := J.i
    obtain ⟨tn2, mn2⟩ := J.n
    have hb1 : g.flatten.length ≤ B ∧ (r.map fun g => g.flatten.length).sum ≤ B := by simp at hb; constructor <;> simp <;> (first | exact lin [_, _, _] (.h 1 (.p (.a 0) (.a 1)) (.a 2) <| .g 1 (.a 0) (.a 2)) (.refl true) hb | exact lin [_, _, _] (.h 1 (.p (.a 0) (.a 1)) (.a 2) <| .g 1 (.a 1) (.a 2)) (.refl true) hb)
    refine x_consL ?_
    intro Qs
    refine x_if ?_
    intro Qi
    refine t_cmp <| rName D mi2 <| rName D mn2 <| rEqN ⟨_, rfl, rIf (fun he => ?_) (fun he => ?_)⟩
    · have he' : pre.length + 1 = vs.length := of_decide_eq_true he
      have hg0 : g = [] := List.length_eq_zero_iff.mp (by exact Nat.le_antisymm (lin [_, _, _, _] (.f 1 (.a 0) (.p (.a 1) (.p (.p (.a 2) (.a 3)) (.n 1))) <| .f 1 (.p (.a 1) (.n 1)) (.a 0) <| .g 1 (.a 2) (.n 0)) (.refl true) hlen he') (lin [_] (.g 1 (.n 0) (.a 0)) (.refl true)))
      have hr0 : r = [] := by
        cases r with
        | nil => rfl
        | cons g' r' => simp [gsParts] at hlen; omega
      subst hg0 hr0
      refine x_consL ?_
      intro Qs
      refine x_expr <| e_add D J.add <| rStrS [46, 42] D fun t s' D => ⟨_, _, _, _, 1, 0, _, _, D, rfl, rfl, by simp [sizeLine]; exact lin [_, _, _] (.h 2 (.a 0) (.n 100000) <| .h 1 (.a 1) (.m 2 (.a 2)) <| .e 2 (.p (.a 2) (.n 1)) (.a 0) <| .g 1 (.a 1) (.n 16777216)) (.refl true) hz hrl he', fun s' D => ?_⟩
      refine x_consL ?_
      intro Qs
      refine x_break ?_
      refine hQ _ _ _ (os ++ [[46, 42]]) (by rw [← he']; rw [← he'] at J; exact J) (hrv.snoc _ _) ?_ (by simp at hle ⊢; exact lin [_, _, _] (.h 1 (.p (.a 0) (.n 2)) (.p (.a 1) (.m 2 (.a 2))) <| .g 1 (.p (.a 0) (.n 1)) (.p (.a 1) (.m 2 (.a 2)))) (.refl true) hle) D
      simp [jn] at hfl ⊢; exact hfl
    · have he' : ¬ pre.length + 1 = vs.length := of_decide_eq_false he
      refine x_nil ?_
      have hg0 : g ≠ [] := by
        intro q
        subst q
        cases r with
        | nil => simp [gsParts] at hlen; exact lin [_, _] (.e 1 (.a 0) (.p (.a 1) (.n 1)) <| .l 1 (.p (.a 1) (.n 1)) (.a 0) <| .z) (.refl true) hlen (Nat.lt_of_le_of_ne (by exact lin [_, _] (.f 1 (.a 0) (.p (.a 1) (.n 1)) <| .g 1 (.p (.a 1) (.n 1)) (.a 0)) (.refl true) hlen) he')
        | cons g' r' => exact hne [] (by simp) rfl
      have hgl : 0 < g.length := List.length_pos_iff.mpr hg0
      have hp2 : Parts st vs ((pre ++ [none]) ++ (g.map some ++ gsParts r)) := by
        rw [List.append_assoc]; exact hp
      have hpl : (pre ++ [none]).length = pre.length + 1 := by simp
      have e1 := part_some (a := pre ++ [none]) (g := g) (b := gsParts r) (j := 0) hgl
      rw [hpl, Nat.add_zero] at e1
      obtain ⟨t1, ht1⟩ := hp2.at_str e1
      refine x_consL ?_
      intro Qs
      refine x_assert <| t_cmp <| e_item <| rName D J.inp <| rName D mi2 <| i_list (D.argL hv) ht1 (by exact lin [_, _, _, _] (.h 1 (.a 0) (.n 100000) <| .f 1 (.a 0) (.p (.a 1) (.p (.p (.a 2) (.a 3)) (.n 1))) <| .j 1 (.p (.a 1) (.n 1)) (.n 4611686018427387904)) (.refl true) hz hlen) <| rName D J.st <| isNot_str_ref ⟨_, rfl, rfl, ?_⟩
      refine x_consL ?_
      intro Qs
      refine x_assign <| e_list <| a_nil ⟨_, _, _, _, D, Nat.zero_le _, fun fx s' D => rStore D fun s' D => ?_⟩
      have J := J.setFixed (.ref fx)
      -- the signs up to the next star
      let Inv1 : Nat → Shared → Prop := fun k s' => Ex3 fun m i fv => And6 (k = g.length - i) (i ≤ g.length) (JM m inp st res bm (pre.length + 1 + i) vs.length) (m (Str.ofString "fixed") = some (.ref fx)) (Strs fv (g.take i)) (Led C s₀ L m [(fx, .list fv), (bm, .obj (boundObj res)), (res, .list rv)] s')
      refine x_consL ?_
      intro Qs
      refine x_while Inv1 g.length ⟨_, 0, [], rfl, Nat.zero_le _, J, rfl, .nil, D⟩ ?_
      rintro k s₁ Qb Qi ⟨m, i, fv, rfl, hi, J, mfx, hfv, D⟩
      obtain ⟨ti, mi⟩ := J.i
      obtain ⟨tn, mn⟩ := J.n
      refine jt_test D hp2 hv (by exact lin [_] (.h 1 (.a 0) (.n 100000) <| .g 1 (.a 0) (.n 1000000)) (.refl true) hz) mi mn J.inp J.st (by exact lin [_, _, _, _, _] (.f 1 (.a 0) (.p (.a 1) (.p (.p (.a 2) (.a 3)) (.n 1))) <| .h 1 (.a 4) (.a 2) <| .g 1 (.p (.p (.a 1) (.n 1)) (.a 4)) (.a 0)) (.refl true) hlen hi) fun s' D => ?_
      by_cases hlt : i < g.length
      · have e := part_some (a := pre ++ [none]) (g := g) (b := gsParts r) hlt
        rw [hpl] at e
        rw [e]
        refine rIfT rfl ?_
        obtain ⟨t, ht⟩ := hp2.at_str e
        have hfl2 : fv.length = i := by rw [hfv.length, List.length_take]; omega
        refine x_consL ?_
        intro Qs
        refine x_expr <| e_m1 <| rName D mfx <| m_append ⟨_, D.nth 0 rfl⟩ <| e_item <| rName D J.inp <| rName D mi <| i_list (D.argL hv) ht (by exact lin [_, _, _, _, _] (.h 1 (.a 0) (.n 100000) <| .f 1 (.a 0) (.p (.a 1) (.p (.p (.a 2) (.a 3)) (.n 1))) <| .l 1 (.a 4) (.a 2) <| .j 1 (.p (.p (.a 1) (.n 1)) (.a 4)) (.n 4611686018427387904)) (.refl true) hz hlen hlt) ⟨_, _, _, _, 0, _, D, rfl, by simp [sizeLine]; exact lin [_, _, _, _, _, _] (.h 1 (.a 0) (.n 100000) <| .f 1 (.a 0) (.p (.a 1) (.p (.p (.a 2) (.a 3)) (.n 1))) <| .l 1 (.a 4) (.a 2) <| .e 1 (.a 5) (.a 4) <| .g 1 (.a 5) (.n 16777216)) (.refl true) hz hlen hlt hfl2, fun s' D => ?_⟩
        refine x_consL ?_
        intro Qs
        refine x_aug <| rLoad D mi <| rIntN 1 D fun t s' D => rIAddN D fun t s' D => rStore D fun s' D => x_nil ?_
        refine ⟨g.length - (i + 1), by exact lin [_, _, _, _] (.h 1 (.a 0) (.p (.a 2) (.a 1)) <| .e 1 (.p (.a 3) (.p (.a 1) (.n 1))) (.a 0) <| .j 1 (.a 3) (.a 2)) (.refl true) (subA _ _) (subC (by exact lin [_, _] (.l 1 (.a 0) (.a 1) <| .g 1 (.p (.a 0) (.n 1)) (.a 1)) (.refl true) hlt)), _, i + 1, _, rfl, by exact lin [_, _] (.l 1 (.a 0) (.a 1) <| .g 1 (.p (.a 0) (.n 1)) (.a 1)) (.refl true) hlt, J.setI t, mfx, ?_, D⟩
        rw [List.take_succ_eq_append_getElem hlt]
        exact hfv.snoc _ _
      · have hie : i = g.length := by exact Nat.le_antisymm (hi) (lin [_, _] (.o 1 (.a 0) (.a 1) <| .g 1 (.a 1) (.a 0)) (.refl true) hlt)
        subst hie
        rw [List.take_length] at hfv
        have e := part_end (a := pre ++ [none]) (g := g) (b := gsParts r) (partsTail r)
        rw [hpl] at e
        refine rIfF (by rcases e with e | e <;> rw [e]) ?_
        -- joined
        have hjz : (g.map (·.length)).sum = g.flatten.length := by rw [List.length_flatten]
        have hgs : (List.map List.length g).sum ≤ 1000000 := by
          have : (List.map List.length g).sum = g.flatten.length := by rw [List.length_flatten]
          exact lin [_, _, _] (.h 1 (.a 0) (.n 1000000) <| .h 1 (.a 1) (.a 0) <| .e 1 (.a 2) (.a 1) <| .g 1 (.a 2) (.n 1000000)) (.refl true) hB2 hb1.1 hjz
        refine x_consL ?_
        intro Qs
        refine x_assign <| e_m1 <| rStrS [] D fun t s' D => m_str M_join <| sp_cons <| rName D mfx <| sp_nil ?_
        refine rJoin (xs := g) (sep := []) D (D.nth 0 rfl) hfv (by rw [hjz]; show g.flatten.length + g.length * 0 ≤ _; exact lin [_, _, _] (.h 1 (.a 0) (.n 1000000) <| .h 1 (.a 1) (.a 0) <| .g 1 (.p (.a 1) (.r (.a 2) 0)) (.n 16777216)) (.refl true) hB2 hb1.1) fun t s' D => ?_
        rw [joinL_nil]
        refine rStore D fun s' D => ?_
        have J := J.setFixed (.str (S g.flatten) t)
        obtain ⟨ti, mi⟩ := J.i
        obtain ⟨tn, mn⟩ := J.n
        have D := D.forget (led' := [(bm, .obj (boundObj res)), (res, .list rv)]) (.cons _ (.refl _))
        refine x_consL ?_
        intro Qs
        refine x_if ?_
        intro Qi
        refine t_cmp <| rName D mi <| rName D mn <| rEqN ⟨_, rfl, rIf (fun he => ?_) (fun he => ?_)⟩
        · have hr0 : r = [] := by
            have := of_decide_eq_true he
            cases r with
            | nil => rfl
            | cons g' r' => simp [gsParts] at hlen; omega
          subst hr0
          refine x_consL ?_
          intro Qs
          refine x_expr <| e_add D J.add <| rStrS [46, 42] D fun t s' D => ⟨_, _, _, _, 1, 0, _, _, D, rfl, rfl, by simp [sizeLine]; exact lin [_, _, _, _, _] (.h 2 (.a 0) (.n 100000) <| .h 1 (.a 1) (.m 2 (.a 2)) <| .f 2 (.a 0) (.p (.a 2) (.p (.p (.a 3) (.a 4)) (.n 1))) <| .g 1 (.a 1) (.n 16777216)) (.refl true) hz hrl hlen, fun s' D => ?_⟩
          refine x_consL ?_
          intro Qs
          refine x_expr <| e_add D J.add <| rName D rfl ⟨_, _, _, _, 1, 0, _, _, D, rfl, rfl, by simp [sizeLine]; exact lin [_, _, _, _, _] (.h 2 (.a 0) (.n 100000) <| .h 1 (.a 1) (.m 2 (.a 2)) <| .f 2 (.a 0) (.p (.a 2) (.p (.p (.a 3) (.a 4)) (.n 1))) <| .g 1 (.a 1) (.n 16777215)) (.refl true) hz hrl hlen, fun s' D => x_nil <| x_nil ?_⟩
          refine ⟨0, by simp, _, [], pre ++ (none :: (g.map some ++ [])), _, os ++ [[46, 42]] ++ [g.flatten], rfl, by rw [hpre]; simp [gsParts], by simp, by simp, ?_, (hrv.snoc _ _).snoc _ _, ?_, by simp at hle ⊢; exact hle, by simp; exact lin [_, _, _] (.h 1 (.a 0) (.m 2 (.a 1)) <| .g 1 (.p (.a 0) (.n 2)) (.m 2 (.p (.a 1) (.p (.a 2) (.n 1))))) (.refl true) hrl, D⟩
          · have : (pre ++ (none :: (g.map some ++ []))).length = pre.length + 1 + g.length := by simp; exact Nat.le_antisymm (lin [_, _] (.g 1 (.p (.a 0) (.p (.a 1) (.n 1))) (.p (.p (.a 0) (.n 1)) (.a 1))) (.refl true)) (lin [_, _] (.g 1 (.p (.p (.a 0) (.n 1)) (.a 1)) (.p (.a 0) (.p (.a 1) (.n 1)))) (.refl true))
            rw [this]; exact J
          · simp [jn] at hfl ⊢; exact hfl
        · have hr0 : r ≠ [] := by
            intro q
            subst q
            exact (of_decide_eq_false he) (by simp [gsParts] at hlen; exact Nat.le_antisymm (lin [_, _, _] (.f 1 (.a 0) (.p (.a 1) (.p (.a 2) (.n 1))) <| .g 1 (.p (.p (.a 1) (.n 1)) (.a 2)) (.a 0)) (.refl true) hlen) (lin [_, _, _] (.e 1 (.a 0) (.p (.a 1) (.p (.a 2) (.n 1))) <| .g 1 (.a 0) (.p (.p (.a 1) (.n 1)) (.a 2))) (.refl true) hlen))
          obtain ⟨g', r', rfl⟩ : ∃ g' r', r = g' :: r' := by cases r with
            | nil => exact absurd rfl hr0
            | cons g' r' => exact ⟨g', r', rfl⟩
          have hgf : g.flatten.length ≤ 1000000 := by exact lin [_, _] (.f 1 (.a 0) (.a 1) <| .h 1 (.a 0) (.n 1000000) <| .g 1 (.a 1) (.n 1000000)) (.refl true) hjz hgs
          refine x_consL ?_
          intro Qs
          refine x_expr <| e_add D J.add <| e_f3 <| rStrS [40, 63, 62, 46, 42, 63] D fun t s' D => ⟨_, _, rfl, Nat.le_of_ble_eq_true rfl, e_fv <| rName D rfl ⟨_, _, _, _, _, _, D, rfl, by simp [sizeLine]; exact lin [_] (.h 1 (.a 0) (.n 1000000) <| .g 1 (.a 0) (.n 16777216)) (.refl true) hgs, fun t s' D => ⟨_, _, rfl, by simp [sizeLine]; exact lin [_] (.h 1 (.a 0) (.n 1000000) <| .g 1 (.p (.n 6) (.a 0)) (.n 16777216)) (.refl true) hgs, ?_⟩⟩⟩
          refine rStrS [41] D fun t s' D => ⟨_, _, _, _, _, _, rfl, D, by simp [sizeLine]; exact lin [_] (.h 1 (.a 0) (.n 1000000) <| .g 1 (.p (.n 6) (.a 0)) (.n 16777215)) (.refl true) hgs, fun t s' D => ⟨_, _, _, _, 1, 0, _, _, D, rfl, rfl, by simp [sizeLine]; exact lin [_, _, _, _, _] (.h 2 (.a 0) (.n 100000) <| .h 1 (.a 1) (.m 2 (.a 2)) <| .f 2 (.a 0) (.p (.a 2) (.p (.p (.a 3) (.a 4)) (.n 1))) <| .g 1 (.a 1) (.n 16777216)) (.refl true) hz hrl hlen, fun s' D => x_nil <| x_nil ?_⟩⟩
          refine ⟨(g' :: r').length, by simp, _, g' :: r', pre ++ (none :: g.map some), _, os ++ [[40, 63, 62, 46, 42, 63] ++ g.flatten ++ [41]], rfl, by rw [hpre]; simp [gsParts], fun y hy => hne y (by simp [List.dropLast] at hy ⊢; exact .inr hy), hb1.2, ?_, hrv.snoc _ _, ?_, by simp at hle ⊢; exact lin [_, _, _, _] (.h 1 (.p (.a 0) (.m 2 (.p (.p (.a 1) (.n 1)) (.n 1)))) (.p (.a 2) (.m 2 (.a 3))) <| .g 1 (.p (.p (.a 0) (.n 1)) (.m 2 (.p (.a 1) (.n 1)))) (.p (.a 2) (.m 2 (.a 3)))) (.refl true) hle, by simp; exact lin [_, _, _] (.h 1 (.a 0) (.m 2 (.a 1)) <| .g 1 (.p (.a 0) (.n 1)) (.m 2 (.p (.a 1) (.p (.a 2) (.n 1))))) (.refl true) hrl, D⟩
          · have : (pre ++ (none :: g.map some)).length = pre.length + 1 + g.length := by simp; exact Nat.le_antisymm (lin [_, _] (.g 1 (.p (.a 0) (.p (.a 1) (.n 1))) (.p (.p (.a 0) (.n 1)) (.a 1))) (.refl true)) (lin [_, _] (.g 1 (.p (.p (.a 0) (.n 1)) (.a 1)) (.p (.a 0) (.p (.a 1) (.n 1)))) (.refl true))
            rw [this]; exact J
          · simp [jn] at hfl ⊢; exact hfl
end
end Mine
end
-- X4
section
open PySem PySem.Calls PyProof.Rows PySem.W
namespace Mine
noncomputable def wrapT (x : List Nat) : List Nat := [40, 63, 115, 58] ++ x ++ [41, 92, 90]
section
variable {prog : Program} {C : Cx} {A : Around} {s₀ s : Shared} {L a : Addr} {m : Str → Option Value} {led : List (Addr × Cell)} {fd : FuncData} {env : Env}
theorem jtp_spec {inp st : Addr} {vs : List Value} {g0 : List (List Nat)} {gs : List (List (List Nat))} {B : Nat} {Q : Value → Shared → Prop} (P : Prog C s) (R : Room A 1) (hp : Parts st vs (g0.map some ++ gsParts gs)) (hg : ∀ g ∈ gs.dropLast, g ≠ [])
    (hv : (Cell.list vs).At s.heap inp) (hz : vs.length ≤ 100000) (hB : (gs.map fun g => g.flatten.length).sum ≤ B) (hB2 : B ≤ 1000000) (hJ : (g0.flatten ++ jn gs).length ≤ 1000000)
    (h : ∀ t s', Next C.N s s' → Q (.str (S (wrapT (g0.flatten ++ jn gs))) t) s') : W prog C A (call (.ref 132) [.ref inp, .ref st]) Q s := by
  refine rEnter (n := 0) (binds := [(Str.ofString "inp", .ref inp), (Str.ofString "STAR", .ref st)]) P R F132.2 rfl (.of_eq rfl) fun s₁ L R D => ?_
  refine x_consL ?_
  intro Qs
  refine x_assign <| e_list <| a_nil ⟨_, _, _, _, D, Nat.zero_le _, fun res s' D => rStore D fun s' D => ?_⟩
  refine x_consL ?_
  intro Qs
  refine x_assign <| e_bound <| rName D rfl ⟨_, _, _, _, _, _, D, rfl, D.nth 0 rfl, fun bm s' D => rStore D fun s' D => ?_⟩
  refine x_consL ?_
  intro Qs
  refine x_swap <| e_tup <| a_cons <| rIntN 0 D fun t s' D => a_cons <| e_bi D.now b_len <| a_cons <| rName D rfl <| a_nil <| rLenL D (D.argL hv) (by simp [sizeLine]; exact lin [_] (.h 1 (.a 0) (.n 100000) <| .g 1 (.a 0) (.n 16777216)) (.refl true) hz) fun t s' D => a_nil ⟨_, _, _, _, D, Nat.le_of_ble_eq_true rfl, fun tp s' D => ⟨_, _, _, _, tp, _, _, D, rfl, D.nth 0 rfl, R.hh, fun s' D => rStore D fun s' D => rStore D fun s' D => ?_⟩⟩
  have D := D.forget (led' := [(bm, .obj (boundObj res)), (res, .list [])]) (.cons _ (.refl _))
  refine x_consL ?_
  intro Qs
  refine jt_loop1 D hp (partsTail gs) hv (by exact lin [_] (.h 1 (.a 0) (.n 100000) <| .g 1 (.a 0) (.n 1000000)) (.refl true) hz) ⟨rfl, rfl, rfl, rfl, ⟨_, rfl⟩, ⟨_, rfl⟩⟩ rfl fun m s' rv J hrv D => ?_
  have hgl : (g0.map some : List (Option (List Nat))).length = g0.length := by simp
  refine x_consL ?_
  intro Qs
  refine jt_loop2 (os0 := g0) D hp hg hv hz hB hB2 (by rw [hgl, hrv.length]; exact Nat.le_refl _) (by rw [hgl]; exact J) hrv R.hh rfl fun m s' rv os J hrv hfl hrl D => ?_
  obtain ⟨ti, mi⟩ := J.i
  obtain ⟨tn, mn⟩ := J.n
  refine x_consL ?_
  intro Qs
  refine x_assert <| t_cmp <| rName D mi <| rName D mn <| rEqN ⟨_, rfl, by simp, ?_⟩
  have hjz : (os.map (·.length)).sum = os.flatten.length := by rw [List.length_flatten]
  refine x_consL ?_
  intro Qs
  refine x_assign <| e_m1 <| rStrS [] D fun t s' D => m_str M_join <| sp_cons <| rName D J.res <| sp_nil ?_
  refine rJoin (xs := os) (sep := []) D (D.nth 1 rfl) hrv (by rw [hjz, hfl]; show _ + os.length * 0 ≤ _; exact lin [_, _] (.h 1 (.a 0) (.n 1000000) <| .g 1 (.p (.a 0) (.r (.a 1) 0)) (.n 16777216)) (.refl true) hJ) fun t s' D => ?_
  rw [joinL_nil, hfl]
  generalize g0.flatten ++ jn gs = x at hJ h ⊢
  refine rStore D fun s' D => ?_
  refine x_consL ?_
  intro Qs
  refine x_ret <| e_f3 <| rStrS [40, 63, 115, 58] D fun t s' D => ⟨_, _, rfl, Nat.le_of_ble_eq_true rfl, e_fv <| rName D rfl ⟨_, _, _, _, _, _, D, rfl, by simp [sizeLine]; exact lin [_] (.h 1 (.a 0) (.n 1000000) <| .g 1 (.a 0) (.n 16777216)) (.refl true) hJ, fun t s' D => ⟨_, _, rfl, by simp [sizeLine]; exact lin [_] (.h 1 (.a 0) (.n 1000000) <| .g 1 (.p (.n 4) (.a 0)) (.n 16777216)) (.refl true) hJ, ?_⟩⟩⟩
  exact rStrS [41, 92, 90] D fun t s' D => ⟨_, _, _, _, _, _, rfl, D, by simp [sizeLine]; exact lin [_] (.h 1 (.a 0) (.n 1000000) <| .g 1 (.p (.n 4) (.a 0)) (.n 16777213)) (.refl true) hJ, fun t s' D => h _ _ D.next⟩
end
end Mine
end
-- Y1
section
open PySem PySem.Calls PyProof.Rows PySem.W
namespace Mine
/-- the law's row of pieces -/
noncomputable def rowJn : List (List (List Nat)) → List (List Nat)
  | [] => []
  | [g] => [[46], [42]] ++ g
  | g :: g' :: r => [[40], [63], [62], [46], [42], [63]] ++ g ++ [[41]] ++ rowJn (g' :: r)
noncomputable def row (g0 : List (List Nat)) (gs : List (List (List Nat))) : List (List Nat) := [[40], [63], [115], [58]] ++ g0 ++ rowJn gs ++ [[41], [92, 90]]
theorem rowJn_flatten : ∀ gs, (rowJn gs).flatten = jn gs
  | [] => rfl
  | [g] => by simp [rowJn, jn]
  | g :: g' :: r => by
    have ih := rowJn_flatten (g' :: r)
    rw [rowJn, jn]
    simp only [List.flatten_append, ih]
    simp
theorem row_flatten (g0 gs) : (row g0 gs).flatten = wrapT (g0.flatten ++ jn gs) := by
  unfold row wrapT
  simp only [List.flatten_append, rowJn_flatten]
  simp
theorem jn_congr : ∀ {gs hs : List (List (List Nat))}, gs.map List.flatten = hs.map List.flatten → jn gs = jn hs
  | [], [], _ => rfl
  | [g], [h], e => by simp at e; simp [jn, e]
  | g :: g' :: r, h :: h' :: t, e => by
    simp only [List.map_cons, List.cons.injEq] at e
    rw [jn, jn, e.1, jn_congr (gs := g' :: r) (hs := h' :: t) (by simp [e.2])]
  | [], _ :: _, e => by simp at e
  | _ :: _, [], e => by simp at e
  | [_], _ :: _ :: _, e => by simp at e
  | _ :: _ :: _, [_], e => by simp at e
/-- items in groups: those ahead of the first star, those behind each row of stars -/
noncomputable def isStar : Item → Bool
  | .star => true
  | _ => false
noncomputable def grpStep (p : List Item × List (List Item)) (it : Item) : List Item × List (List Item) :=
  if isStar it then
    match p.2.getLast? with
    | none => (p.1, [[]])
    | some [] => p
    | some _ => (p.1, p.2 ++ [[]])
  else
    match p.2.getLast? with
    | none => (p.1 ++ [it], [])
    | some g => (p.1, p.2.dropLast ++ [g ++ [it]])
noncomputable def grp (its : List Item) : List Item × List (List Item) := its.foldl grpStep ([], [])
noncomputable def told (it : Item) : List Nat := it.pieces.flatten
noncomputable def toldG (g : List Item) : List (List Nat) := g.map told
noncomputable def pieceG (g : List Item) : List (List Nat) := g.flatMap Item.pieces
theorem told_piece (g : List Item) : (toldG g).flatten = (pieceG g).flatten := by
  unfold toldG pieceG told
  induction g with
  | nil => rfl
  | cons i g ih => simp [ih]
end Mine
end
-- Y2
section
open PySem PySem.Calls PyProof.Rows PySem.W
namespace Mine
namespace FO
theorem mro_object : mroOf (.type "object") = pure [.type "object"] := by rw [mroOf_type]; kernel_rfl
theorem lookup_new : typeLookup (.type "object") "__new__" = pure (some (.builtin "object.__new__")) := by rw [typeLookup_type, builtinLookup_eq_fast]; kernel_rfl
theorem slot_init : Slot "object" "__init__" "object.__init__" :=
  .of (owner := "object") (n := "__init__") (by rw [typeLookup_type, builtinLookup_eq_fast]; kernel_rfl) (by decide +kernel) (by decide +kernel) (by decide +kernel)
    (by first | exact .inl (by decide +kernel) | exact .inr (by decide +kernel)) (by rw [isSubtype_type]; kernel_rfl)
theorem called_object : TypeCalled "object" "object.__new__" "object.__init__" :=
  ⟨by decide +kernel, by decide +kernel, ⟨_, _, mro_object⟩, madeBy_type mro_object lookup_new (by decide +kernel), by decide +kernel, by rw [isSubtype_type]; kernel_rfl, slot_init⟩
theorem typeCall : checkTypeCall "object" ⟨[], []⟩ = pure () := by kernel_rfl
theorem newCall : checkBuiltinCall "object.__new__" ⟨[.type "object"], []⟩ = pure () := by kernel_rfl
theorem args_init (obj : Value) : argsOk "object.__init__" ⟨[obj], []⟩ := by unfold argsOk; kernel_rfl
theorem entry_new : entryFor table "object.__new__" = some Builtin.«object.__new__» := entryFor_of_tree (by kernel_rfl)
end FO
theorem object_new_meets : Meets (Builtin.«object.__new__» ⟨[.type "object"], []⟩) (fun _ R s => R (.ok (.ret (.ref s.heap.objs.size))) { s with heap := s.heap.push { cls := .type "object", data := .plain } }) := by
  refine Meets.of_wp fun prog w A R s hs => ?_
  have f1 := FO.called_object.made
  unfold Builtin.«object.__new__»
  repeat (any_goals (first | assumption | wp_step))
  exact ⟨_, rfl, hs⟩
section
variable {prog : Program} {C : Cx} {A : Around} {s₀ s : Shared} {L a : Addr} {m : Str → Option Value} {led : List (Addr × Cell)} {fd : FuncData} {env : Env}
noncomputable abbrev plainObj : Obj := { cls := .type "object", data := .plain }
theorem rObject {Q : Value → Shared → Prop} (D : Led C s₀ L m led s) (h : ∀ st s', Led C s₀ L m ((st, .obj plainObj) :: led) s' → Q (.ref st) s') : W prog C A (call (.type "object") []) Q s := by
  have D1 := D.new (.obj plainObj) (tk := s.toks) (h' := s.heap.push plainObj) (fun _ _ e => Heap.get?_push_of_some _ e) (Nat.le_refl _) ⟨Heap.get?_push_size _ rfl, (fun ⟨_, _, e⟩ => nomatch e), by simp⟩ (Nat.le_refl _)
  refine ⟨callType_meets (Q₁ := fun obj s₁ => obj = .ref s.heap.objs.size ∧ s₁ = { s with heap := s.heap.push plainObj }) FO.called_object FO.typeCall FO.newCall FO.entry_new F.entry_object_init object_new_meets ⟨rfl, rfl⟩ ?_⟩
  rintro obj s₁ ⟨rfl, rfl⟩
  refine ⟨⟨_, Heap.get?_push_size _ rfl, rfl⟩, FO.args_init _, fun _ R s₂ => R (.ok (.ret .none)) s₂, Meets.of_wp fun prog w A R s hs => ?_, rfl, h _ _ D1⟩
  exact wpAny_pure ⟨_, rfl, hs⟩
end
end Mine
end
-- Z1
section
open PySem PySem.Calls PyProof.Rows PySem.W
namespace Mine
section
variable {prog : Program} {C : Cx} {A : Around} {s₀ s : Shared} {L a : Addr} {m : Str → Option Value} {led : List (Addr × Cell)} {fd : FuncData} {env : Env}
/-- the frame and a frame of the ledger's head change places -/
theorem Led.swap {L' : Addr} {m' : Str → Option Value} (D : Led C s₀ L m ((L', .ns m') :: led) s) : Led C s₀ L' m' ((L, .ns m) :: led) s where
  prog := D.prog
  next := D.next
  ns := (D.cells (L', .ns m') (List.mem_cons_self ..)).1
  above := (D.cells (L', .ns m') (List.mem_cons_self ..)).2.2
  tk := D.tk
  cells := fun p hp => by
    rcases List.mem_cons.mp hp with rfl | hp
    · exact ⟨D.ns, Ne.symm (D.cells (L', .ns m') (List.mem_cons_self ..)).2.1, D.above⟩
    · have h := D.cells p (List.mem_cons_of_mem _ hp)
      refine ⟨h.1, fun q => ?_, h.2.2⟩
      exact (List.pairwise_cons.mp D.dist).1 p hp q.symm
  dist := List.pairwise_cons.mpr ⟨fun p hp q => (D.cells p (List.mem_cons_of_mem _ hp)).2.1 q.symm, (List.pairwise_cons.mp D.dist).2⟩
/-- a def is entered, the caller's ledger is kept -/
theorem rEnterIn {f : Addr} {body : List Stmt} {vals : List Value} {binds : List (Str × Value)} {Q : Value → Shared → Prop} {n : Nat} (D : Led C s₀ L m led s) (R : Room A (n + 1)) (F : FnAt f fd)
    (hbody : fd.body = .stmts body) (hbind : BindsTo s fd ⟨vals, []⟩ binds)
    (h : ∀ s₁ L', Room (A.deeper (callEnv fd L' f)) n → Led C s₀ L' (fun x => binds.reverse.lookup x) ((L, .ns m) :: led) s₁ → W prog C (A.deeper (callEnv fd L' f)) (execs body (callEnv fd L' f)) (fun fl s' => Q (match fl with | .ret v => v | _ => .none) s') s₁)
    (hloc : (binds.all fun x => decide (fd.scope.names.lookup x.1 = some .local)) = true := by rfl)
    (hcell : (fd.scope.names.all fun x => decide (x.2 ≠ .cell)) = true := by rfl)
    (hco : fd.scope.isCoroutine = false := by rfl) (hgen : fd.scope.isGenerator = false := by rfl) (hk : fd.scope.kind = .function := by rfl) :
    W prog C A (call (.ref f) vals) Q s := by
  have P := D.now
  refine ⟨wpAny_call ?_⟩
  refine codeAny_call_def (Nat.lt_of_le_of_lt (Nat.le_add_right ..) R.dep) (P.fn F) rfl P.lim (P.cd F) hbody hbind (fun x hx => of_decide_eq_true (List.all_eq_true.mp hcell x hx)) (locs hloc) (fun h₀ hn hk₀ => ?_) hco hgen hk
  have D1 := D.new (.ns fun x => binds.reverse.lookup x) (tk := s.toks + binds.length) (h' := h₀) (a := s.heap.objs.size) hk₀ (Nat.le_refl _) hn (Nat.le_add_right ..)
  exact wpAny_mono (h _ s.heap.objs.size (R.deeper _) D1.swap).out (fun fl s' q => q) fun _ _ x => x.elim
end
end Mine
end
-- Z2
section
open PySem PySem.Calls PyProof.Rows PySem.W
namespace Mine
section
variable {prog : Program} {C : Cx} {A : Around} {s₀ s : Shared} {L a : Addr} {m : Str → Option Value} {led : List (Addr × Cell)} {fd : FuncData} {env : Env}
theorem m_pop {b : Addr} {xs : List Value} {v : Value} {pos : Pos} {Q : Value → Shared → Prop} (D : Led C s₀ L m led s) (i : Nat) (hi : led[i]? = some (b, .list (xs ++ [v]))) (hz : xs.length < sizeLine)
    (h : ∀ s', Led C s₀ L m (led.set i (b, .list xs)) s' → Q v s') : MethodOnS prog C.w A NoE "pop" (.ref b) pos [] Q s := by
  obtain ⟨n, hn⟩ := D.nth i hi
  refine ⟨"list", "list.pop", F.plainAttrs_list, F.slot_list_pop, F.type_list_pop, ⟨_, hn, rfl⟩, fun _ e => by cases e; exact ⟨_, hn, rfl⟩, ?_⟩
  have e1 : ((xs ++ [v]).toArray)[(xs ++ [v]).toArray.size - 1]? = some v := by simp
  refine P.pop_list hn e1 (h _ (D.setAt i hi (Heap.SameBut.update ..) (Cell.upList ⟨n, hn⟩ ?_) (Nat.le_refl _))) (by simp; exact lin [_, _] (.l 1 (.a 0) (.a 1) <| .g 1 (.p (.a 0) (.n 1)) (.a 1)) (.refl true) hz)
  have e2 : (xs ++ [v]).toArray.size - 1 < (xs ++ [v]).toArray.size := by simp
  rw [Array.eraseIdxIfInBounds, dif_pos e2]
  apply Array.ext'
  rw [Array.toList_eraseIdx]
  have e3 : (xs ++ [v]).toArray.size - 1 = xs.length := by simp
  rw [e3]
  show (xs ++ [v]).eraseIdx xs.length = xs
  rw [List.eraseIdx_append_of_length_le (Nat.le_refl _), Nat.sub_self]
  simp
end
end Mine
end
-- Z3
section
open PySem PySem.Calls PyProof.Rows PySem.W
namespace Mine
/-- one sign a text -/
noncomputable abbrev ones (x : List Nat) : List (List Nat) := x.map fun c => [c]
section
variable {prog : Program} {C : Cx} {A : Around} {s₀ s : Shared} {L a : Addr} {m : Str → Option Value} {led : List (Addr × Cell)} {fd : FuncData} {env : Env}
noncomputable def isSign (c : Nat) (v : Value) : Bool := match v with | .str x _ => x.cps.toList == [c] | _ => false
theorem isSign_eq {vs : List Value} {x : List Nat} {c : Nat} {t : Tok} (h : Strs vs (ones x)) : ∀ y, y ∈ vs.toArray → MeetsSeq.EqGives y (.str (S [c]) t) (isSign c y) := by
  intro y hy
  have hy' : y ∈ vs := by simpa using hy
  obtain ⟨i, hi, rfl⟩ := List.mem_iff_getElem.mp hy'
  have hl : i < (ones x).length := by rw [← h.length]; exact hi
  obtain ⟨u, hu⟩ := h.get (i := i) (x := (ones x)[i]) (List.getElem?_eq_getElem hl)
  rw [List.getElem?_eq_getElem hi] at hu
  rw [Option.some.inj hu]
  exact SeqRoads2.EqGives.str _ _ _ _
end
end Mine
end
-- T1
section
open PySem PySem.Calls PyProof.Rows PySem.W
namespace Mine
/-! a generator expression over a list, each item's sum told by its place -/
noncomputable def GSince (Cl I : Addr) (s₀ s : Shared) : Prop := ∃ h' tk, s = { s₀ with heap := h', toks := tk } ∧ s₀.toks ≤ tk ∧ ∀ b o, b ≠ Cl → b ≠ I → s₀.heap.get? b = some o → h'.get? b = some o
theorem GSince.refl (Cl I : Addr) (s : Shared) : GSince Cl I s s := ⟨s.heap, s.toks, rfl, Nat.le_refl _, fun _ _ _ _ e => e⟩
theorem GSince.step {Cl I : Addr} {s₀ s : Shared} (x : GSince Cl I s₀ s) {h' : Heap} {tk : Nat} (ht : s.toks ≤ tk) (hk : ∀ b o, b ≠ Cl → b ≠ I → s.heap.get? b = some o → h'.get? b = some o) :
    GSince Cl I s₀ { s with heap := h', toks := tk } := by
  obtain ⟨h₁, tk₁, rfl, ht₁, hk₁⟩ := x
  exact ⟨h', tk, rfl, Nat.le_trans ht₁ ht, fun b o hC hw e => hk b o hC hw (hk₁ b o hC hw e)⟩
noncomputable def gProto (Cl I l : Addr) (n₀ : Nat) (F : Nat → Value → Prop) : Protocol := fun m s₀ v s kap =>
  F (n₀ - 1 - m) v ∧ GSince Cl I s₀ s ∧ ∀ s'' : Shared, 0 < s''.toks → (∀ b, b = Cl ∨ b = I ∨ b = l → ∀ o, s.heap.get? b = some o → s''.heap.get? b = some o) → kap (.send .none) s''
noncomputable abbrev gEnd (Cl I : Addr) : GenEnd := fun n s₀ r s₁ => r = .ok .next ∧ (n = 0 ∧ GSince Cl I s₀ s₁)
noncomputable def QuietE (prog : Program) (w : World) (cenv : Env) (x : Str) (elt : Expr) (items : Array Value) (F : Nat → Value → Prop) : Prop :=
  ∀ (A' : Around) E' i v (s₂ : Shared) m₂, A'.handled = none → 0 < s₂.toks → items[i]? = some v → s₂.heap.Ns cenv.locals m₂ → m₂ x = some v →
    wpAny (model prog w) A' (eval elt cenv) (fun y s₃ => F i y ∧ ∃ h' tk, s₃ = { s₂ with heap := h', toks := tk } ∧ s₂.toks ≤ tk ∧ ∀ b o, s₂.heap.get? b = some o → h'.get? b = some o) E' s₂
section
variable {prog : Program} {w : World} {A : Around}
theorem seg_gLoop {elt iter : Expr} {x : Str} {px : Pos} {scope : Scope} {pos : Pos} {I l : Addr} {items : Array Value} {cenv : Env}
    (hh : A.handled = none) (F : Nat → Value → Prop) (hx : cenv.kindOf x = some .local) (hp : (cenv.scope.kind == .class || (cenv.scope.kind == .module && cenv.locals != cenv.globals)) = false)
    (hco : cenv.scope.isCoroutine = false) (hCI : cenv.locals ≠ I) (hCl : cenv.locals ≠ l) (hlI : l ≠ I) (hq : QuietE prog w cenv x elt items F) :
    ∀ (k i : Nat) (s₀ s : Shared) (m : Str → Option Value), items.size - i = k → i ≤ items.size → s.heap.IsListIter I l i → s.heap.IsList l items → s.heap.Ns cenv.locals m → 0 < s.toks → GSince cenv.locals I s₀ s →
      Seg (model prog w) A (gEnd cenv.locals I) (gProto cenv.locals I l items.size F) k s₀
        (.compLoop (.GeneratorExp elt [⟨.Name x px, iter, [], 0⟩] scope pos) 0 (.ref I) .none cenv)
        ((model prog w).den (.compLoop (.GeneratorExp elt [⟨.Name x px, iter, [], 0⟩] scope pos) 0 (.ref I) .none cenv)) [] s := by
  have hh' : (A.over (.compLoop (.GeneratorExp elt [⟨.Name x px, iter, [], 0⟩] scope pos) 0 (.ref I) .none cenv) []).handled = none := hh
  intro k
  induction k with
  | zero =>
    intro i s₀ s m hk hi hit hl hn htk hsince
    show Seg _ A _ _ _ s₀ _ ((compTurn (.GeneratorExp elt [⟨.Name x px, iter, [], 0⟩] scope pos) 0 (.ref I) .none cenv).onRaise (leaving cenv)) [] s
    rw [compTurn_gen, Sem.onRaise_eq_wrap]
    refine seg_bind_wrap (wpAny_standAt ?_)
    refine seg_bind_wrap (wpAny_pyNext_list_end hh' hit hl (Array.getElem?_eq_none (by exact lin [_, _, _] (.e 1 (.a 0) (.n 0) <| .h 1 (.a 1) (.p (.a 0) (.a 2)) <| .g 1 (.a 1) (.a 2)) (.refl true) hk (subA _ _))) fun h' hx' => ?_)
    exact seg_end (.ok .next) ⟨rfl, rfl, hsince.step (Nat.le_refl _) fun b o _ hI e => hx' b o hI e⟩
  | succ k ih =>
    intro i s₀ s m hk hi hit hl hn htk hsince
    have hlt : i < items.size := by exact lin [_, _, _, _] (.f 1 (.a 0) (.p (.a 1) (.n 1)) <| .e 1 (.p (.a 0) (.a 2)) (.a 3) <| .j 1 (.a 2) (.a 3)) (.refl true) hk (subC (by exact hi))
    show Seg _ A _ _ _ s₀ _ ((compTurn (.GeneratorExp elt [⟨.Name x px, iter, [], 0⟩] scope pos) 0 (.ref I) .none cenv).onRaise (leaving cenv)) [] s
    rw [compTurn_gen, Sem.onRaise_eq_wrap]
    refine seg_bind_wrap (wpAny_standAt ?_)
    refine seg_bind_wrap (wpAny_pyNext_list_item hit hl (x := items[i]) (by simp [hlt]) fun h₁ hit₁ hs₁ => ?_)
    refine seg_bind_wrap (wpAny_of_eq (rfl : letOwnedTupleGo (.Name x px) (.ref I) items[i] = pure ()) ?_)
    refine seg_bind_wrap (wpAny_assign_Name (wpAny_storeName_local hx (hn.sameBut hs₁ hCI) (fun h₂ hn₂ hs₂ => ?_) hp))
    have up₂ : ∀ b o, b ≠ cenv.locals → b ≠ I → s.heap.get? b = some o → h₂.get? b = some o := fun b o hbC hbI e => hs₂.extBut b o hbC (hs₁.extBut b o hbI e)
    have hit₂ : h₂.IsListIter I l (i + 1) := by
      obtain ⟨o, ho, hc, hd⟩ := hit₁
      exact ⟨o, hs₂.extBut I o (Ne.symm hCI) ho, hc, hd⟩
    have hl₂ : h₂.IsList l items := by
      obtain ⟨o, ho, hc⟩ := hl
      exact ⟨o, up₂ l o (Ne.symm hCl) hlI ho, hc⟩
    refine seg_bind_wrap (wpAny_pure (a := true) ?_)
    simp only [if_true]
    have hy : ∀ v, yieldOut cenv v = yieldValue v := fun v => by simp only [yieldOut, hco, Bool.false_eq_true, if_false]
    simp only [hy]
    rw [Sem.bind_eq_wrap', Sem.bind_eq_wrap', Sem.wrap_wrap, Sem.wrap_wrap]
    refine seg_wrap (wpAny_mono (hq _ _ i items[i] { s with heap := h₂, toks := s.toks + 1 } _ hh' (Nat.succ_pos _) (by simp [hlt]) hn₂ (by simp)) (fun y s₄ h₄ => ?_) fun _ _ e => e)
    obtain ⟨hFy, h₄, tk₄, rfl, htk₄, hk₄⟩ := h₄
    have hle : s.toks ≤ tk₄ := Nat.le_trans (Nat.le_succ _) htk₄
    refine seg_at (seg_yield rfl rfl rfl ⟨?_, hsince.step hle fun b o hC hI e => hk₄ b o (up₂ b o hC hI e), fun s'' ht'' hal => ?_⟩)
    · have e : items.size - 1 - k = i := by exact Nat.le_antisymm (lin [_, _, _, _, _, _] (.e 1 (.a 0) (.p (.a 1) (.n 1)) <| .h 1 (.a 2) (.p (.a 0) (.a 3)) <| .e 1 (.p (.a 4) (.n 1)) (.a 2) <| .e 1 (.p (.a 5) (.a 1)) (.a 4) <| .g 1 (.a 5) (.a 3)) (.refl true) hk (subA _ _) (subC (by exact lin [_, _] (.l 1 (.a 0) (.a 1) <| .g 1 (.n 1) (.a 1)) (.refl true) hlt)) (subC (by exact lin [_, _, _, _] (.f 1 (.a 0) (.p (.a 1) (.n 1)) <| .h 1 (.a 0) (.a 2) <| .h 1 (.a 2) (.p (.a 3) (.n 1)) <| .g 1 (.a 1) (.a 3)) (.refl true) hk (subB _ _) (subA _ _)))) (lin [_, _, _, _, _, _] (.f 1 (.a 0) (.p (.a 1) (.n 1)) <| .h 1 (.a 2) (.p (.a 3) (.n 1)) <| .h 1 (.a 3) (.p (.a 4) (.a 1)) <| .e 1 (.p (.a 0) (.a 5)) (.a 2) <| .g 1 (.a 5) (.a 4)) (.refl true) hk (subA _ _) (subA _ _) (subC (by exact hi)))
      rw [e]; exact hFy
    · refine seg_again rfl (ih (i + 1) s'' s'' (fun y => if y = x then some items[i] else m y) (by exact Nat.le_antisymm (lin [_, _, _, _, _] (.e 1 (.a 0) (.p (.a 1) (.n 1)) <| .h 1 (.a 2) (.p (.a 0) (.a 3)) <| .e 1 (.p (.a 4) (.p (.a 3) (.n 1))) (.a 2) <| .g 1 (.a 4) (.a 1)) (.refl true) hk (subA _ _) (subC (by exact lin [_, _] (.l 1 (.a 0) (.a 1) <| .g 1 (.p (.a 0) (.n 1)) (.a 1)) (.refl true) hlt))) (lin [_, _, _, _, _] (.f 1 (.a 0) (.p (.a 1) (.n 1)) <| .h 1 (.a 2) (.p (.a 4) (.p (.a 3) (.n 1))) <| .e 1 (.p (.a 0) (.a 3)) (.a 2) <| .g 1 (.a 1) (.a 4)) (.refl true) hk (subA _ _) (subC (by exact hi)))) hlt ?_ ?_ ?_ ht'' (GSince.refl _ _ _))
      · obtain ⟨o, ho, r⟩ := hit₂
        exact ⟨o, hal I (.inr (.inl rfl)) o (hk₄ I o ho), r⟩
      · obtain ⟨o, ho, r⟩ := hl₂
        exact ⟨o, hal l (.inr (.inr rfl)) o (hk₄ l o ho), r⟩
      · exact (hn₂.keeps hk₄).at' fun o e => hal _ (.inl rfl) o e
theorem seg_gStart {elt iter : Expr} {x : Str} {px : Pos} {scope : Scope} {pos : Pos} {I l : Addr} {items : Array Value} {cenv : Env}
    (hh : A.handled = none) (F : Nat → Value → Prop) (hx : cenv.kindOf x = some .local) (hp : (cenv.scope.kind == .class || (cenv.scope.kind == .module && cenv.locals != cenv.globals)) = false)
    (hco : cenv.scope.isCoroutine = false) (hCI : cenv.locals ≠ I) (hCl : cenv.locals ≠ l) (hlI : l ≠ I) (hq : QuietE prog w cenv x elt items F)
    (s₀ s : Shared) (m : Str → Option Value) (hit : s.heap.IsListIter I l 0) (hl : s.heap.IsList l items) (hn : s.heap.Ns cenv.locals m) (htk : 0 < s.toks) (hsince : GSince cenv.locals I s₀ s) :
    Seg (model prog w) A (gEnd cenv.locals I) (gProto cenv.locals I l items.size F) items.size s₀
      (.compStart (.GeneratorExp elt [⟨.Name x px, iter, [], 0⟩] scope pos) 0 (.ref I) .none cenv)
      ((model prog w).den (.compStart (.GeneratorExp elt [⟨.Name x px, iter, [], 0⟩] scope pos) 0 (.ref I) .none cenv)) [] s := by
  have loop := seg_gLoop (iter := iter) (px := px) (scope := scope) (pos := pos) hh F hx hp hco hCI hCl hlI hq items.size 0 s₀ s m (Nat.sub_zero _) (Nat.zero_le _) hit hl hn htk hsince
  show Seg _ A _ _ _ s₀ _ ((compStart (.GeneratorExp elt [⟨.Name x px, iter, [], 0⟩] scope pos) 0 (.ref I) .none cenv).onRaise (leaving cenv)) [] s
  unfold compStart
  rw [Sem.onRaise_eq_wrap]
  show Seg _ A _ _ _ s₀ _ ((ask >>= _).wrap _ _ _ _) [] s
  refine seg_bind_wrap (wpAny_askSetting ?_)
  split
  · exact seg_again rfl loop
  · first
      | exact seg_bind_wrap (wpAny_rule (seg_bind_wrap (wpAny_standAt (seg_bind_wrap (wpAny_pyIter_listiter hit (seg_again rfl loop))))))
      | (refine seg_bind_wrap (wpAny_rule ?_); show Seg _ A _ _ _ s₀ _ ((standAt iter.pos >>= _).wrap _ _ _ _) [] s; exact seg_bind_wrap (wpAny_standAt (seg_bind_wrap (wpAny_pyIter_listiter hit (seg_again rfl loop)))))
/-- the generator behind j items -/
noncomputable def GAt (prog : Program) (w : World) (A : Around) (a : Addr) (g : Nat) (Cl I l : Addr) (n₀ : Nat) (F : Nat → Value → Prop) (j : Nat) (s : Shared) : Prop :=
  0 < s.toks ∧ s.heap.IsGen a g ∧ s.heap.NoLimit ∧ ∃ gs, s.gens[g]? = some gs ∧ ∀ s'' : Shared, 0 < s''.toks → (∀ b, b = Cl ∨ b = I ∨ b = l → ∀ o, s.heap.get? b = some o → s''.heap.get? b = some o) →
    gs.Goes (model prog w) A.in1 (gEnd Cl I) (gProto Cl I l n₀ F) (n₀ - j) (.send .none) s''
theorem walks_g (hh : A.handled = none) (a : Addr) (g : Nat) (Cl I l : Addr) (n₀ : Nat) (F : Nat → Value → Prop) (haC : a ≠ Cl) (haI : a ≠ I) (hroom : A.depth < recursionLimit) (hcC : cStatics ≠ Cl) (hcI : cStatics ≠ I) :
    WalksS prog w A a [a, cStatics, Cl, I, l] [Cl, I] (GenOnlyQ g) n₀ F (GAt prog w A a g Cl I l n₀ F) where
  sub := fun b hb => by simp at hb ⊢; rcases hb with rfl | rfl <;> simp
  grefl := fun _ => .inl rfl
  gtrans := fun _ _ _ x y => x.trans y
  frame := fun j s h' tk st ht hk => by
    obtain ⟨h0, hg, ⟨mc, hns, hnn⟩, gs, hgs, hgo⟩ := st
    refine ⟨Nat.lt_of_lt_of_le h0 ht, ?_, ⟨mc, hns.at' fun o e => hk cStatics (by simp) o e, hnn⟩, gs, hgs, fun s'' h1 hal => hgo s'' h1 fun b hb o e => hal b hb o (hk b ?_ o e)⟩
    · obtain ⟨o, nm, qn, ho, r⟩ := hg
      exact ⟨o, nm, qn, hk a (by simp) o ho, r⟩
    · rcases hb with rfl | rfl | rfl <;> simp
  item := fun j s Q E hj st hQ => by
    obtain ⟨h0, hg, hl, gs, hgs, hgo⟩ := st
    obtain ⟨m, hm⟩ : ∃ m, n₀ - j = m + 1 := ⟨n₀ - j - 1, by exact Nat.le_antisymm (subA _ _) (lin [_, _] (.e 1 (.p (.a 0) (.n 1)) (.a 1) <| .g 1 (.p (.a 0) (.n 1)) (.a 1)) (.refl true) (subC (by exact lin [_, _, _] (.l 1 (.a 0) (.a 1) <| .h 1 (.a 1) (.p (.a 2) (.a 0)) <| .g 1 (.n 1) (.a 2)) (.refl true) hj (subA _ _))))⟩
    rw [hm] at hgo
    refine wpAny_with_toks (Nat.le_refl s.toks) ?_
    refine wpAny_pyNext_genexpQ (P := fun n s₀ s₁ => n = 0 ∧ GSince Cl I s₀ s₁) hh hl hroom hg hgs (hgo _ (by exact h0) fun _ _ _ e => e) (fun v s₁ gs' hb hv => ?_) (fun s₁ hp h' hk => ?_)
    · obtain ⟨hF, ⟨h₁, tk₁, rfl, ht₁, hk₁⟩, hkap⟩ := hv
      have hidx : n₀ - 1 - (m + 1 - 1) = j := by exact Nat.le_antisymm (lin [_, _, _, _, _, _, _] (.e 1 (.a 0) (.p (.a 1) (.n 1)) <| .h 1 (.a 2) (.p (.a 0) (.a 3)) <| .h 1 (.p (.a 1) (.n 1)) (.p (.a 4) (.n 1)) <| .e 1 (.p (.a 5) (.n 1)) (.a 2) <| .e 1 (.p (.a 6) (.a 4)) (.a 5) <| .g 1 (.a 6) (.a 3)) (.refl true) hm (subA _ _) (subA _ _) (subC (by exact lin [_, _] (.l 1 (.a 0) (.a 1) <| .g 1 (.n 1) (.a 1)) (.refl true) hj)) (subC (by exact lin [_, _, _, _, _] (.f 1 (.a 0) (.p (.a 1) (.n 1)) <| .h 1 (.a 0) (.a 2) <| .h 1 (.a 2) (.p (.a 3) (.n 1)) <| .e 1 (.p (.a 4) (.n 1)) (.p (.a 1) (.n 1)) <| .g 1 (.a 4) (.a 3)) (.refl true) hm (subB _ _) (subA _ _) (subC (by exact lin [_] (.g 1 (.n 1) (.p (.a 0) (.n 1))) (.refl true)))))) (lin [_, _, _, _, _, _, _] (.f 1 (.a 0) (.p (.a 1) (.n 1)) <| .h 1 (.a 2) (.p (.a 3) (.n 1)) <| .h 1 (.a 3) (.p (.a 5) (.a 4)) <| .e 1 (.p (.a 0) (.a 6)) (.a 2) <| .e 1 (.p (.a 4) (.n 1)) (.p (.a 1) (.n 1)) <| .g 1 (.a 6) (.a 5)) (.refl true) hm (subA _ _) (subA _ _) (subC (by exact lin [_, _] (.l 1 (.a 0) (.a 1) <| .g 1 (.a 0) (.a 1)) (.refl true) hj)) (subC (by exact lin [_] (.g 1 (.n 1) (.p (.a 0) (.n 1))) (.refl true))))
      rw [hidx] at hF
      intro htk
      obtain ⟨o, nm, qn, ho, r⟩ := hg
      obtain ⟨mc, hns, hnn⟩ := hl
      refine hQ v _ hF ⟨Nat.lt_of_lt_of_le h0 htk, ⟨o, nm, qn, hk₁ a o haC haI ho, r⟩, ⟨mc, hns.at' fun o e => hk₁ cStatics o hcC hcI e, hnn⟩, gs', setGen_self (gs := .running) (setGen_self hgs), fun s'' h1 hal => ?_⟩
        ⟨fun b o hb e => hk₁ b o (fun h => hb (h ▸ List.mem_cons_self ..)) (fun h => hb (h ▸ List.mem_cons_of_mem _ (List.mem_cons_self ..))) e, GenOnlyQ.of ((GenOnly.setGen s g .running).trans (GenOnly.setGen _ g gs')) (setGen_self (gs := .running) (setGen_self hgs)) hb, rfl, rfl, htk⟩
      have e : n₀ - (j + 1) = m := by exact Nat.le_antisymm (lin [_, _, _, _, _] (.e 1 (.a 0) (.p (.a 1) (.n 1)) <| .h 1 (.a 2) (.p (.a 0) (.a 3)) <| .e 1 (.p (.a 4) (.p (.a 3) (.n 1))) (.a 2) <| .g 1 (.a 4) (.a 1)) (.refl true) hm (subA _ _) (subC (by exact lin [_, _] (.l 1 (.a 0) (.a 1) <| .g 1 (.p (.a 0) (.n 1)) (.a 1)) (.refl true) hj))) (lin [_, _, _, _, _] (.f 1 (.a 0) (.p (.a 1) (.n 1)) <| .h 1 (.a 2) (.p (.a 4) (.p (.a 3) (.n 1))) <| .e 1 (.p (.a 0) (.a 3)) (.a 2) <| .g 1 (.a 1) (.a 4)) (.refl true) hm (subA _ _) (subC (by exact lin [_, _] (.l 1 (.a 0) (.a 1) <| .g 1 (.a 0) (.a 1)) (.refl true) hj)))
      rw [e]
      exact hkap s'' h1 hal
    · exact absurd hp.1 (Nat.succ_ne_zero m)
  done := fun s Q E st hQ => by
    obtain ⟨h0, hg, hl, gs, hgs, hgo⟩ := st
    rw [Nat.sub_self] at hgo
    refine wpAny_with_toks (Nat.le_refl s.toks) ?_
    refine wpAny_pyNext_genexpQ (P := fun n s₀ s₁ => n = 0 ∧ GSince Cl I s₀ s₁) hh hl hroom hg hgs (hgo _ (by exact h0) fun _ _ _ e => e) (fun v s₁ gs' hb hv => ?_) (fun s₁ hp h' hk => ?_)
    · obtain ⟨_, ⟨h₁, tk₁, rfl, ht₁, hk₁⟩, hkap⟩ := hv
      exact False.elim (hkap _ (show 0 < tk₁ from Nat.lt_of_lt_of_le (show 0 < (s.setGen g .running).toks from h0) ht₁) fun _ _ _ e => e)
    · obtain ⟨_, h₁, tk₁, rfl, ht₁, hk₁⟩ := hp
      intro htk
      exact hQ _ ⟨fun b o hb e => hk b o (hk₁ b o (fun h => hb (h ▸ List.mem_cons_self ..)) (fun h => hb (h ▸ List.mem_cons_of_mem _ (List.mem_cons_self ..))) e), GenOnlyQ.of ((GenOnly.setGen s g .running).trans (GenOnly.setGen _ g .finished)) (setGen_self (gs := .running) (setGen_self hgs)) rfl, rfl, rfl, htk⟩
  self := fun _ _ _ _ st hQ => wpAny_pyIter_gen st.2.1 hQ
end
end Mine
end
-- T2
section
open PySem PySem.Calls PyProof.Rows PySem.W
namespace Mine
section
variable {prog : Program} {C : Cx} {A : Around} {s₀ s : Shared} {L a : Addr} {m : Str → Option Value} {led : List (Addr × Cell)} {fd : FuncData} {env : Env}
/-- some objects of the ledger may have moved in any way: they are dropped -/
theorem Led.dropN {gone : List (Addr × Cell)} {s' : Shared} (D : Led C s₀ L m (gone ++ led) s) (hk : ∀ b o, (∀ p ∈ gone, b ≠ p.1) → s.heap.get? b = some o → s'.heap.get? b = some o) (ht : s.toks ≤ s'.toks)
    (hos : s'.os = s.os) (hg : AllBare s.gens → AllBare s'.gens) : Led C s₀ L m led s' := by
  have hmem : ∀ p ∈ gone, p ∈ gone ++ led := fun p hp => List.mem_append_left _ hp
  refine ⟨D.prog, ⟨⟨fun b o htb e => ?_⟩, fun T => ?_, hos.trans D.next.os, fun g => hg (D.next.gens g), Nat.le_trans D.next.tk ht⟩, ?_, D.above, Nat.lt_of_lt_of_le D.tk ht, fun p hp => ?_, (List.pairwise_append.mp D.dist).2.1⟩
  · obtain ⟨o', e', sb⟩ := D.next.kept.get b o htb e
    exact ⟨o', hk b o' (fun p hp => Nat.ne_of_lt (Nat.lt_of_lt_of_le (Heap.lt_size e) (D.cells p (hmem p hp)).2.2)) e', sb⟩
  · refine (D.next.tabs T).step (fun b o e hc hf => hk b o (fun p hp q => ?_) e) fun P hP o e => hk P o (fun p hp q => ?_) e
    · obtain ⟨o', e', x⟩ := (D.cells p (hmem p hp)).1.get
      rw [← q, e] at e'; cases e'
      rcases x with x | ⟨es, ep, x⟩
      · exact x hc
      · obtain ⟨vs, hf⟩ := hf; rw [hf] at x; cases x
    · have := D.tabA (hmem p hp)
      rw [← q, hP] at this; cases this
  · exact D.ns.at' fun o e => hk L o (fun p hp q => (D.cells p (hmem p hp)).2.1 q.symm) e
  · have h := D.cells p (List.mem_append_right _ hp)
    exact ⟨h.1.move' fun o e => hk p.1 o (fun q hq e => (List.pairwise_append.mp D.dist).2.2 q hq p hp e.symm) e, h.2⟩
theorem ns_dict2 {h : Heap} {a : Addr} {m : Str → Option Value} {o : Obj} (n : h.Ns a m) (e : h.get? a = some o) : isDict o := by
  obtain ⟨o', es, ep, e', d, _⟩ := n
  rw [e] at e'; cases e'; exact ⟨es, ep, d⟩
theorem w_gcode {qualname : Str} {scope : Scope} {pos : Pos} {c Pt : Addr} {Q : Value → Shared → Prop} (D : Led C s₀ L m led s) (hc : env.code = .ref c) (hsel : TabSel c Pt) (hq : qualname = qn pos.line)
    (h : ∀ cv s', Led C s₀ L m led s' → Q cv s') : W prog C A (genexprCode env pos qualname scope) Q s := by
  have T := D.now.tabs
  obtain ⟨ps, hok, hP, ⟨oc, hoc, hcc⟩, hold⟩ := T.get hsel
  cases hf : codeAmong pos ps.toList with
  | some cv => exact ⟨wpAny_codeAt_hit hc hok hf (h cv s D)⟩
  | none =>
    have htab : s.heap.TableAt c Pt ps := by
      obtain ⟨o, vs, file, tf, flags, tg, inF, text, tt, op, ho, hd, h11, _⟩ := id hok
      rw [hoc] at ho; cases ho
      refine ⟨⟨oc, vs, hoc, hcc, hd, ?_⟩, hP⟩
      have h11' := h11
      rw [Array.getD_eq_getD_getElem?] at h11'
      cases hv : vs[11]? with
      | none => rw [hv] at h11'; cases h11'
      | some v => rw [hv] at h11'; simp at h11'; rw [h11']
    refine W.tk ⟨wpAny_genexprCodeX hc hok htab hf fun c' h' tk hx hge hlt hok' hrec htab' hP' hle => ?_⟩
    have hcode : CodeAt h' (.ref c') pos.line := by
      obtain ⟨c2, o2, vs2, t2, e, g, r1, r2⟩ := hrec
      cases e
      obtain ⟨P', _, _, ⟨o3, vs3, g3, cl3, _⟩, _⟩ := hP'
      rw [g] at g3; cases g3
      exact ⟨_, o2, vs2, t2, rfl, g, cl3, r1, hq ▸ r2⟩
    refine h _ _ (D.step ⟨⟨fun b o hb e => ⟨o, hx b o (fun q => by subst q; rw [hsel.tab] at hb; cases hb) e, .rfl'⟩⟩, fun _ => ?_, rfl, id, hle⟩)
    exact T.grow hsel hx hok hok' htab' hP hold hcode
theorem gen_join {nm x : Str} {elt : Expr} {pn px pos : Pos} {scope : Scope} {l : Addr} {vs : List Value} {xs : List (List Nat)} {sep : List Nat} {f : List Nat → List Nat} {t : Tok} {i n : Nat} {c Pt : Addr} {Q : Value → Shared → Prop} {K : Value → Shared → Prop}
    (D : Led C s₀ L m led s) (R : Room A n) (hm : m nm = some (.ref l)) (hi : led[i]? = some (l, .list vs)) (hs : Strs vs xs) (hz : xs.length ≤ sizeLine) (hj : ((xs.map f).map (·.length)).sum + (xs.map f).length * sep.length ≤ 16777216)
    (hc : fd.code = .ref c) (hsel : TabSel c Pt) (hq : (callEnv fd L a).qual ++ ("<genexpr>" : Str) = qn pos.line)
    (hE : ∀ (Cl : Addr) (code : Value) (bi : Addr), QuietE prog C.w (genEnv scope [] Cl code bi (callEnv fd L a)) x elt vs.toArray fun j v => ∃ y u, xs[j]? = some y ∧ v = .str (S (f y)) u)
    (h : ∀ t' s', Led C s₀ L m led s' → Q (.str (S (joinL sep (xs.map f))) t') s') (hK : ∀ v s₁, W prog C A (call (.builtin "str.join") [.str (S sep) t, v]) Q s₁ → K v s₁)
    (hl : (callEnv fd L a).kindOf nm = some .local := by rfl) (hkf : fd.scope.kind = .function := by rfl) (hd : (nm == ("__debug__" : Str)) = false := by rfl) (hgl : fd.globals = mainGlobals := by rfl)
    (hco : scope.isCoroutine = false := by rfl) (hfree : (scope.names.all fun x => decide (x.2 ≠ .free)) = true := by rfl) (hcell : (scope.names.all fun x => decide (x.2 ≠ .cell)) = true := by rfl)
    (h0 : scope.names.lookup (".0" : Str) = some NameKind.local := by rfl) (hx : scope.names.lookup x = some .local := by rfl) (hkind : scope.kind = .function := by rfl) :
    W prog C A (eval (.GeneratorExp elt [⟨.Name x px, .Name nm pn, [], 0⟩] scope pos) (callEnv fd L a)) K s := by
  have hcl : closureFor scope (callEnv fd L a) = pure [] := closureFor_none fun x hx => of_decide_eq_true (List.all_eq_true.mp hfree x hx)
  have hpp : ∀ b : Bool, (scope.kind == .class || (scope.kind == .module && b)) = false := fun b => by rw [hkind]; rfl
  have hroom : A.depth < recursionLimit := Nat.lt_of_le_of_lt (Nat.le_add_right ..) R.dep
  refine ⟨wpAny_GeneratorExp_make hco hcl (fun y hy => of_decide_eq_true (List.all_eq_true.mp hcell y hy)) h0 hkind hroom (rName D hm (it_list D (D.nth i hi) fun it s₂ D₂ _ => ?_).out hkf hl hd).out fun _ => rfl⟩
  refine ⟨D₂.now.lim, (w_gcode D₂ hc hsel hq fun code s₃ D₃ => ?_).out⟩
  obtain ⟨bm, o, hbm, hne, _, hbo, hcls, hdict, hdata⟩ := D₃.now.bm
  show wpAny _ _ (builtinsFor fd.globals fd.builtins) _ _ _
  rw [hgl]
  refine wpAny_builtinsFor D₃.now.g hbm hne hbo hcls hdict hdata ?_
  intro h' hn' hs'
  have hi₃ : ((it, Cell.fld "list_iterator" [.ref l, .int ((0 : Nat) : Int) 0]) :: led)[i + 1]? = some (l, .list vs) := hi
  have hitA := D₃.nth 0 rfl
  have hlA := D₃.nth (i + 1) hi₃
  have hil : it ≠ l := D₃.ne (i := 0) (j := i + 1) rfl hi₃ (by exact fun qq => lin [_] (.f 1 (.n 0) (.p (.a 0) (.n 1)) <| .z) (.refl true) qq)
  have lt3 : ∀ {b o}, s₃.heap.get? b = some o → b < s₃.heap.objs.size := fun e => Heap.lt_size e
  have hlt_it : it < s₃.heap.objs.size := let ⟨_, e, _⟩ := hitA.get; lt3 e
  have hlt_l : l < s₃.heap.objs.size := let ⟨_, e, _⟩ := hlA.get; lt3 e
  have hcs : cStatics < s₃.heap.objs.size := let ⟨_, hns, _⟩ := D₃.now.lim; hns.lt
  have hsz : h'.objs.size = s₃.heap.objs.size + 1 := by rw [hs'.1, Heap.size_push]
  have keep' : ∀ b o, s₃.heap.get? b = some o → h'.get? b = some o := fun b o e => hs'.extBut b o (Nat.ne_of_lt (Heap.lt_size e)) (Heap.get?_push_of_some _ e)
  generalize hgo : ({ cls := .type "generator", data := .fields #[.int s₃.gens.size 0, .str "<genexpr>" (s₃.toks + 1), .str ((callEnv fd L a).qual ++ "<genexpr>") (s₃.toks + 1 + 1)] } : Obj) = go
  have keep₅ : ∀ b o, s₃.heap.get? b = some o → (h'.push go).get? b = some o := fun b o e => Heap.get?_push_of_some _ (keep' b o e)
  have D₄ := D₃.new (.ns fun y => if y = (".0" : Str) then some (.ref it) else none) (h' := h'.push go) (tk := s₃.toks + 1 + 1 + 1) (a := s₃.heap.objs.size) keep₅ (Nat.le_refl _) (hn'.push _) (by exact lin [_] (.g 1 (.a 0) (.p (.p (.p (.a 0) (.n 1)) (.n 1)) (.n 1))) (.refl true))
  have D₅ : Led C s₀ L m ((s₃.heap.objs.size, .ns fun y => if y = (".0" : Str) then some (.ref it) else none) :: (it, .fld "list_iterator" [.ref l, .int ((0 : Nat) : Int) 0]) :: led)
      { s₃ with gens := s₃.gens.push (.fresh (.compStart (.GeneratorExp elt [⟨.Name x px, .Name nm pn, [], 0⟩] scope pos) 0 (.ref it) .none (genEnv scope [] s₃.heap.objs.size code builtinsNs (callEnv fd L a)))), toks := s₃.toks + 1 + 1 + 1, heap := h'.push go } :=
    D₄.step ⟨.refl .., id, rfl, fun g => g.push rfl, Nat.le_refl _⟩
  refine hK _ _ (W.tk ⟨?_⟩)
  have hit5 : (h'.push go).IsListIter it l 0 := by
    obtain ⟨_, o, ho, hc, hd⟩ := D₅.nth 1 rfl
    exact ⟨o, ho, hc, hd⟩
  have hl5 : (h'.push go).IsList l vs.toArray := (D₅.nth (i + 2) hi).isList
  have Wk := walks_g (prog := prog) (w := C.w) (A := A.in1.in1) R.hh h'.objs.size s₃.gens.size s₃.heap.objs.size it l xs.length (fun j v => ∃ y u, xs[j]? = some y ∧ v = .str (S (f y)) u) (by rw [hsz]; exact Nat.succ_ne_self _) (Nat.ne_of_gt (Nat.lt_of_lt_of_le hlt_it (by rw [hsz]; exact Nat.le_succ _))) hroom (Nat.ne_of_lt hcs) (by
    intro q
    obtain ⟨_, o, ho, hc, _⟩ := hitA
    obtain ⟨mc, hns, _⟩ := D₃.now.lim
    obtain ⟨es, ep, d⟩ := ns_dict2 hns (q ▸ ho)
    obtain ⟨_, o', ho', _, hd'⟩ := D₃.nth 0 rfl
    rw [ho] at ho'; cases ho'
    rw [d] at hd'; cases hd')
  have hn : vs.toArray.size = xs.length := by rw [List.size_toArray, hs.length]
  refine SC.joinGen (n := xs.length) Wk (fun i s st => st.2.1.typeIs) ?_ ?_ (by simp) (fun j v ⟨y, u, _, e⟩ => ⟨_, u, e⟩) (fun s' lt hmv hacc => ?_) hz
  · refine ⟨by show 0 < s₃.toks + 1 + 1 + 1; exact lin [_] (.j 1 (.n 0) (.p (.p (.p (.a 0) (.n 1)) (.n 1)) (.n 1))) (.refl true), ⟨go, _, _, Heap.get?_push_size _ (by rw [← hgo]; rfl), by subst hgo; exact ⟨rfl, rfl, rfl⟩⟩, D₅.now.lim, _, Array.getElem?_push_size .., fun s'' h1 hal => ⟨rfl, ?_⟩⟩
    rw [Nat.sub_zero, ← hn]
    refine seg_gStart (A := A.in1.in1.in1) (cenv := genEnv scope [] s₃.heap.objs.size code builtinsNs (callEnv fd L a)) (m := fun y => if y = (".0" : Str) then some (.ref it) else none) R.hh _ hx (hpp _) hco
      (Nat.ne_of_gt hlt_it) (Nat.ne_of_gt hlt_l) hil.symm (hE _ _ _) s'' s'' ?_ ?_ ?_ h1 (GSince.refl ..)
    · obtain ⟨o, ho, r⟩ := hit5
      exact ⟨o, hal it (.inr (.inl rfl)) o ho, r⟩
    · obtain ⟨o, ho, r⟩ := hl5
      exact ⟨o, hal l (.inr (.inr rfl)) o ho, r⟩
    · exact (D₅.nth 0 rfl : (h'.push go).Ns s₃.heap.objs.size _).at' fun o e => hal _ (.inl rfl) o e
  · intro b hb
    show b < (h'.push go).objs.size
    rw [Heap.size_push]
    simp at hb
    rw [hsz]
    have up : ∀ {b : Nat}, b < s₃.heap.objs.size → b < s₃.heap.objs.size + 1 + 1 := fun h => Nat.lt_succ_of_lt (Nat.lt_succ_of_lt h)
    rcases hb with rfl | rfl | rfl | rfl | rfl
    · rw [hsz]; exact Nat.lt_succ_self _
    · exact up hcs
    · exact Nat.lt_succ_of_lt (Nat.lt_succ_self _)
    · exact up hlt_it
    · exact up hlt_l
  · have hl : lt.map (·.1) = (xs.map f).map S := by
      apply List.ext_getElem?
      intro j
      have hsz : lt.length = xs.length := by simpa [strValues] using hacc.1
      by_cases hj : j < xs.length
      · have hj' : j < lt.length := hsz ▸ hj
        obtain ⟨y, u, hy, hv⟩ := hacc.2 j (.str lt[j].1 lt[j].2) (by simp [strValues, List.getElem?_eq_getElem hj'])
        injection hv with h1 _
        simp [List.getElem?_eq_getElem hj', hy, h1]
      · rw [List.getElem?_eq_none (by simpa [hsz] using Nat.le_of_not_lt hj), List.getElem?_eq_none (by simpa using Nat.le_of_not_lt hj)]
    rw [hl]
    refine ⟨joinOk_of ?_, fun t' k hle => ?_⟩
    · rw [List.map_map, List.length_map, S_len]
      have e : (List.map ((fun x => Str.length x) ∘ S) (xs.map f)) = (xs.map f).map (·.length) := List.map_congr_left fun x _ => S_len x
      rw [show (List.map ((·.length) ∘ S) (xs.map f)) = (xs.map f).map (·.length) from e]
      exact hj
    · rw [join_S]
      refine h _ _ (D₅.dropN (gone := [_, _]) (led := led) (fun b o hb e => hmv.heap b o (fun hbm => ?_) e) hle hmv.os fun g => g.moved hmv.gens)
      simp at hbm
      rcases hbm with rfl | rfl
      · exact hb _ (List.mem_cons_self ..) rfl
      · exact hb _ (List.mem_cons_of_mem _ (List.mem_cons_self ..)) rfl
end
end Mine
end
-- T3
section
open PySem PySem.Calls PyProof.Rows PySem.W
namespace Mine
/-! find between two bounds -/
open Builtin Builtin.Str in
theorem gives_find4 (x y : Str) (i j : Nat) (t u v w : Tok) : Gives («str.find» ⟨[.str x t, .str y u, .int (i : Int) v, .int (j : Int) w], []⟩) (.int (match occurrences x y i (min j x.length) 1 with | k :: _ => (k : Int) | [] => -1)) := by
  have e : ∀ n : Nat, (max 0 (if (n : Int) < 0 then (n : Int) + x.length else n)).toNat = n := fun n => by
    rw [if_neg (by omega)]; omega
  show Gives (match occurrences x y (max 0 (if (i : Int) < 0 then (i : Int) + x.length else i)).toNat (min (max 0 (if (j : Int) < 0 then (j : Int) + x.length else j)).toNat x.length) 1 with | k :: _ => retInt k | [] => (do rule "str.find.not-found"; retInt (-1))) _
  rw [e, e]
  cases occurrences x y i (min j x.length) 1 with
  | nil => exact .rule (.of_eq rfl)
  | cons k _ => exact .of_eq rfl
open Builtin Builtin.Str in
theorem occ_no (x : Str) (c lo hi : Nat) (h : hi ≤ lo) : occurrences x ⟨#[c]⟩ lo hi 1 = [] := by
  rw [StrLaws.occ_eq]
  rw [(StrLaws.occ_none x ⟨#[c]⟩ hi (List.range' lo (hi + 1 - lo)) lo (fun i hi => (List.mem_range'_1.mp hi).1)).mpr ?_]
  intro i hi' ⟨h1, _⟩
  have := List.mem_range'_1.mp hi'
  have e : (⟨#[c]⟩ : Str).length = 1 := rfl
  exact lin [_, _, _, _] (.h 1 (.a 0) (.a 1) <| .h 1 (.p (.a 2) (.a 3)) (.a 0) <| .h 1 (.a 1) (.a 2) <| .f 1 (.a 3) (.n 1) <| .z) (.refl true) h h1 this.1 e
open Builtin Builtin.Str in
theorem occ_here (x : List Nat) (c lo hi : Nat) (hc : x[lo]? = some c) (hlo : lo < hi) (hhi : hi ≤ x.length) : ∃ r, occurrences (S x) ⟨#[c]⟩ lo hi 1 = lo :: r := by
  have hat : StrLaws.At (S x) ⟨#[c]⟩ hi lo := by
    have := (StrLaws.subAt_one (S x) c lo).mpr (by simpa using hc)
    exact ⟨by show lo + 1 ≤ hi; exact lin [_, _] (.l 1 (.a 0) (.a 1) <| .g 1 (.p (.a 0) (.n 1)) (.a 1)) (.refl true) hlo, this.2⟩
  have er : List.range' lo (hi + 1 - lo) = lo :: List.range' (lo + 1) (hi - lo) := by
    have : hi + 1 - lo = (hi - lo) + 1 := by exact Nat.le_antisymm (lin [_, _, _, _] (.h 1 (.a 0) (.p (.a 2) (.a 1)) <| .e 1 (.p (.a 3) (.a 1)) (.p (.a 0) (.n 1)) <| .g 1 (.a 3) (.p (.a 2) (.n 1))) (.refl true) (subA _ _) (subC (by exact lin [_, _] (.l 1 (.a 0) (.a 1) <| .g 1 (.a 0) (.p (.a 1) (.n 1))) (.refl true) hlo))) (lin [_, _, _, _] (.h 1 (.p (.a 0) (.n 1)) (.p (.a 2) (.a 1)) <| .e 1 (.p (.a 3) (.a 1)) (.a 0) <| .g 1 (.p (.a 3) (.n 1)) (.a 2)) (.refl true) (subA _ _) (subC (by exact lin [_, _] (.l 1 (.a 0) (.a 1) <| .g 1 (.a 0) (.a 1)) (.refl true) hlo)))
    rw [this, List.range'_succ]
  rw [StrLaws.occ_eq]
  rcases StrLaws.occ_first (S x) ⟨#[c]⟩ hi 1 (Nat.le_refl _) (List.range' lo (hi + 1 - lo)) lo (fun i hi => (List.mem_range'_1.mp hi).1) with ⟨_, hn⟩ | ⟨pre, a, post, e, h0, _, hn⟩
  · exact absurd hat (hn lo (by rw [er]; exact List.mem_cons_self ..))
  · have ha : a = lo := by
      rw [er] at e
      cases pre with
      | nil => simp at e; exact e.1.symm
      | cons b p =>
        simp at e
        exact absurd hat (hn lo (by rw [e.1]; exact List.mem_cons_self ..))
    subst ha
    generalize (forIn (List.range' a (hi + 1 - a)) ((#[] : Array Nat), a) (StrLaws.occBody (S x) ⟨#[c]⟩ hi 1)).run.fst = arr at h0
    have h1 : arr.toList[0]? = some a := by simpa using h0
    cases hL : arr.toList with
    | nil => rw [hL] at h1; cases h1
    | cons b t => rw [hL] at h1; simp at h1; exact ⟨t, by rw [h1]⟩
theorem M_find : Meth "str" "find" "str.find" := ⟨F.plainAttrs_str, F.slot_str_find, F.type_str_find⟩
section
variable {prog : Program} {C : Cx} {A : Around} {s₀ s : Shared} {L a : Addr} {m : Str → Option Value} {led : List (Addr × Cell)} {fd : FuncData} {env : Env}
theorem rFindNo {x : List Nat} {c lo hi : Nat} {t u v w : Tok} {Q : Value → Shared → Prop} (D : Led C s₀ L m led s) (hlo : hi ≤ lo) (h : ∀ t s', Led C s₀ L m led s' → Q (.int (-1) t) s') :
    W prog C A (call (.builtin "str.find") [.str (S x) t, .str (S [c]) u, .int (lo : Int) v, .int (hi : Int) w]) Q s := by
  refine ⟨call_gives F.slot_str_find (typeIs_str _ _ _) F.entry_str_find (F.args_str_find_4 _ _ _ _) (gives_find4 (S x) (S [c]) lo hi t u v w) ?_⟩
  rw [show (S [c]) = (⟨#[c]⟩ : Str) from rfl, occ_no _ _ _ _ (Nat.le_trans (Nat.min_le_left ..) hlo)]
  exact h _ _ D.tok1
theorem rFindAt {x : List Nat} {c lo hi : Nat} {t u v w : Tok} {Q : Value → Shared → Prop} (D : Led C s₀ L m led s) (hc : x[lo]? = some c) (hlo : lo < hi) (hhi : hi ≤ x.length) (h : ∀ t s', Led C s₀ L m led s' → Q (.int (lo : Int) t) s') :
    W prog C A (call (.builtin "str.find") [.str (S x) t, .str (S [c]) u, .int (lo : Int) v, .int (hi : Int) w]) Q s := by
  refine ⟨call_gives F.slot_str_find (typeIs_str _ _ _) F.entry_str_find (F.args_str_find_4 _ _ _ _) (gives_find4 (S x) (S [c]) lo hi t u v w) ?_⟩
  obtain ⟨r, e⟩ := occ_here x c lo hi hc hlo hhi
  rw [show (S [c]) = (⟨#[c]⟩ : Str) from rfl, Nat.min_eq_left (by rw [S_len]; exact hhi), e]
  exact h _ _ D.tok1

/-! items of a list stored, struck -/
theorem w_setL {b : Addr} {xs : List Value} {j k : Nat} {t : Tok} {v : Value} {Q : Unit → Shared → Prop} (D : Led C s₀ L m led s) (hk : led[k]? = some (b, .list xs)) (hj : j < xs.length) (hz : xs.length ≤ sizeLine)
    (h : ∀ s', Led C s₀ L m (led.set k (b, .list (xs.set j v))) s' → Q () s') : W prog C A (setItem (.ref b) (.int (j : Int) t) v) Q s := by
  obtain ⟨n, hn⟩ := D.nth k hk
  have hT : s.TypeIs (.ref b) "list" := ⟨_, hn, rfl⟩
  have hx' : xs.toArray[j]? = some xs[j] := by simp [hj]
  have fin := h _ (D.setAt k hk (Heap.SameBut.update s.heap b (Obj.mapSeq (·.setIfInBounds j v))) (Cell.upList ⟨n, hn⟩ (by simp)) (Nat.le_refl _))
  have hfit : Builtin.List.listFitsIndex (j : Int) = true := fitsIndex_of (by omega) (by have := sizeLine_eq; omega)
  clear hz hk h D
  obtain ⟨i, hi⟩ : ∃ i : Int, i = (j : Int) := ⟨_, rfl⟩
  rw [← hi] at hfit ⊢
  refine ⟨?_⟩
  unfold setItem
  try with_reducible refine wpAny_holding ?_
  first | refine wpAny_bind (wpAny_pure ?_) | skip
  refine wpAny_bind (wpAny_sequenceKey hT (by decide) ?_)
  refine wpAny_bind (wpAny_callSpecial?_slot (name := Str.ofString "__setitem__") hT PySem.slot_list_setitem
    (wpAny_call_entry PySem.slot_list_setitem hT PySem.entry_list_setitem ?_ (PySem.args_list_setitem _ _ _)))
  show wpAny _ _ (Builtin.List.listSubscript? (.int i t) >>= _) _ _ s
  refine wpAny_bind (wpAny_listSubscript_int hfit ?_)
  clear hfit
  subst hi
  show wpAny _ _ ((seqItemAt b j >>= fun r => pure (r.map (j, ·))) >>= _) _ _ s
  refine wpAny_bind (wpAny_bind (wpAny_seqItemAt hn rfl (wpAny_pure ?_)))
  rw [hx']
  show wpAny _ _ (setSeqItemAt b j v >>= _) _ _ s
  refine wpAny_bind (wpAny_setSeqItemAt hn rfl ?_)
  first
    | exact wpAny_bind (wpAny_pure (wpAny_pure ⟨.none, rfl, wpAny_pure fin⟩))
    | exact wpAny_pure ⟨.none, rfl, wpAny_pure fin⟩
theorem x_setL {o i value : Expr} {pos' pos : Pos} {Q : Flow → Shared → Prop}
    (h : W prog C A (eval value env) (fun v s₁ => W prog C A (eval o env) (fun ov s₂ => W prog C A (eval i env) (fun iv s₃ => W prog C A (setItem ov iv v) (fun _ => Q .next) s₃) s₂) s₁) s)
    (hs : swapsWith value (some (.Subscript o i pos')) pos.line env = pure false := by rfl) : W prog C A (exec (.Assign [.Subscript o i pos'] value pos) env) Q s :=
  ⟨wpAny_Assign_Subscript (wpAny_mono h.out (fun v s₁ h₁ => wpAny_mono h₁.out (fun ov s₂ h₂ => wpAny_mono h₂.out (fun iv s₃ h₃ => h₃.out) fun _ _ x => x) fun _ _ x => x) fun _ _ x => x) hs⟩
theorem w_delL {b : Addr} {xs : List Value} {j k : Nat} {t : Tok} {Q : Unit → Shared → Prop} (D : Led C s₀ L m led s) (hk : led[k]? = some (b, .list xs)) (hj : j < xs.length) (hz : xs.length ≤ sizeLine)
    (h : ∀ s', Led C s₀ L m (led.set k (b, .list (xs.eraseIdx j))) s' → Q () s') : W prog C A (delItem (.ref b) (.int (j : Int) t)) Q s := by
  obtain ⟨n, hn⟩ := D.nth k hk
  have hsz := sizeLine_eq
  refine ⟨P.delItem_list (k := j) hn (fitsIndex_of (by omega) (by omega)) ?_ (h _ (D.setAt k hk (Heap.SameBut.update ..) (Cell.upList ⟨n, hn⟩ ?_) (Nat.le_refl _))) (by simpa using hz)⟩
  · unfold seqIndex?
    simp
    omega
  · have e2 : j < xs.toArray.size := by simpa using hj
    rw [Array.eraseIdxIfInBounds, dif_pos e2]
    apply Array.ext'
    rw [Array.toList_eraseIdx]
theorem x_delL {o i : Expr} {pos' pos : Pos} {Q : Flow → Shared → Prop}
    (h : W prog C A (eval o env) (fun ov s₂ => W prog C A (eval i env) (fun iv s₃ => W prog C A (delItem ov iv) (fun _ => Q .next) s₃) s₂) s) : W prog C A (exec (.Delete [.Subscript o i pos'] pos) env) Q s := by
  refine ⟨wpAny_Delete (wpAny_deleteEach_cons ?_)⟩
  rw [arm_delete_Subscript]
  refine wpAny_bind (wpAny_mono h.out (fun ov s₂ h₂ => wpAny_bind (wpAny_holding (wpAny_mono h₂.out (fun iv s₃ h₃ => wpAny_bind (wpAny_standAt (wpAny_bind (wpAny_holding (wpAny_mono h₃.out (fun _ s₄ h₄ => ?_) fun _ _ x => x))))) fun _ _ x => x))) fun _ _ x => x)
  exact wpAny_release (wpAny_deleteEach_nil h₄)

/-! a range that goes down -/
noncomputable abbrev rangeObj (a b c : Int) (t u v : Tok) : Obj := { cls := .type "range", data := .fields #[.int a t, .int b u, .int c v] }
noncomputable abbrev rangeIt (x left step : Int) : Obj := { cls := .type "range_iterator", data := .fields #[rawInt x, rawInt left, rawInt step] }
theorem rRange3 {a b c : Int} {t u v : Tok} {Q : Value → Shared → Prop} (D : Led C s₀ L m led s) (hc : c ≠ 0) (hp : Builtin.divisionGoesByPylong (b - a) c = false) (h : ∀ r s', Led C s₀ L m ((r, .obj (rangeObj a b c t u v)) :: led) s' → Q (.ref r) s') :
    W prog C A (call (.type "range") [.int a t, .int b u, .int c v]) Q s :=
  ⟨call_range_3 hc (h _ _ (D.new (.obj (rangeObj a b c t u v)) (tk := s.toks) (fun _ _ e => Heap.get?_push_of_some _ e) (Nat.le_refl _) ⟨Heap.get?_push_size _ rfl, (fun ⟨_, _, e⟩ => nomatch e), by simp⟩ (Nat.le_refl _))) (.inl hp)⟩
theorem it_range {r : Addr} {a b c : Int} {t u v : Tok} {Q : Value → Shared → Prop} (D : Led C s₀ L m led s) (i : Nat) (hi : led[i]? = some (r, .obj (rangeObj a b c t u v))) (hs : Builtin.Range.small a b c = true)
    (h : ∀ it s', Led C s₀ L m ((it, .obj (rangeIt a (Builtin.Range.rangeSize a b c) c)) :: led) s' → Q (.ref it) s') : W prog C A (pyIter (.ref r)) Q s :=
  ⟨wpAny_pyIter_range (D.nth i hi).1 hs (h _ _ (D.new (.obj (rangeIt a (Builtin.Range.rangeSize a b c) c)) (tk := s.toks) (fun _ _ e => Heap.get?_push_of_some _ e) (Nat.le_refl _) ⟨Heap.get?_push_size _ rfl, (fun ⟨_, _, e⟩ => nomatch e), by simp⟩ (Nat.le_refl _)))⟩
theorem n_range {it : Addr} {x left step : Int} {Q : Option Value → Shared → Prop} (D : Led C s₀ L m led s) (i : Nat) (hi : led[i]? = some (it, .obj (rangeIt x left step))) (hl : 0 < left)
    (h : ∀ t s', Led C s₀ L m (led.set i (it, .obj (rangeIt (x + step) (left - 1) step))) s' → Q (some (.int x t)) s') : W prog C A (pyNext (.ref it)) Q s :=
  ⟨wpAny_pyNext_range_item (D.nth i hi).1 hl fun h' hit' hs' => h _ _ (D.setAt i hi hs' ⟨hit', (fun ⟨_, _, e⟩ => nomatch e), by simp⟩ (Nat.le_succ _))⟩
theorem n_range_end {it : Addr} {x left step : Int} {Q : Option Value → Shared → Prop} (D : Led C s₀ L m led s) (i : Nat) (hi : led[i]? = some (it, .obj (rangeIt x left step))) (hl : left ≤ 0) (hh : A.handled = none)
    (h : ∀ s', Led C s₀ L m (led.eraseIdx i) s' → Q none s') : W prog C A (pyNext (.ref it)) Q s :=
  ⟨wpAny_pyNext_range_end hh (D.nth i hi).1 hl fun h' he' => h _ (D.dropX i hi he' (Nat.le_refl _))⟩

/-! a sign among two; the last sign -/
theorem rIn2 {c d e : Nat} {b : Addr} {t u v : Tok} {Q : Value → Shared → Prop} (hb : (Cell.tup [.str (S [d]) u, .str (S [e]) v]).At s.heap b) (h : Q (.bool (([d, e] : List Nat).contains c)) s) :
    W prog C A (compareOp .In (.str (S [c]) t) (.ref b)) Q s := by
  obtain ⟨n, hn⟩ := hb
  refine ⟨SeqRoads2.in_tuple (isSign c) (fun y hy => ?_) hn ?_⟩
  · simp at hy
    rcases hy with rfl | rfl <;> exact SeqRoads2.EqGives.str _ _ _ _
  · have e1 : ∀ a b : Nat, (([a] : List Nat) == [b]) = (b == a) := fun a b => by
      rw [Bool.eq_iff_iff]; simp; exact eq_comm
    have e : ([Value.str (S [d]) u, Value.str (S [e]) v] : List Value).any (isSign c) = ([d, e] : List Nat).contains c := by
      show (([d] == [c]) || (([e] == [c]) || false)) = ((c == d) || ((c == e) || false))
      rw [e1, e1]
    rw [List.any_toArray, e]
    exact h
theorem i_str_last {x : List Nat} {c : Nat} {t u : Tok} {Q : Value → Shared → Prop} (D : Led C s₀ L m led s) (h : ∀ t s', Led C s₀ L m led s' → Q (.str (S [c]) t) s') : ItemOn (model prog C.w) A NoE (.str (S (x ++ [c])) t) (.int (-1) u) Q s := by
  refine ⟨"str", _, F.slot_str_getitem.lookup, typeIs_str _ _ _, P.getItem_str (c := c) (by decide) ?_ (h _ _ D.tok1)⟩
  unfold seqIndex?
  have e9 : (-1 + ((x.length : Int) + 1)).toNat = x.length := by omega
  simp [S_len]
  rw [if_pos (by omega), Option.bind_some, e9]
  simp

/-! what the generator gives of each part -/
theorem m_replC0 {A' : Around} {x : List Nat} {t : Tok} {pos p1 p2 : Pos} {y z' : Str} {k1 k2 : Nat} {c : Nat} {z : List Nat} {Q : Value → Shared → Prop} (htk : 0 < s.toks) (hx : x.length ≤ 1000000) (hz : z.length ≤ 10)
    (h : ∀ t k, s.toks ≤ k → Q (.str (S (repl c z x)) t) { s with toks := k }) (hy : y = S [c] := by rfl) (hz' : z' = S z := by rfl) (hne : ([c] : List Nat) ≠ z := by decide) :
    MethodOnS prog C.w A' NoE "replace" (.str (S x) t) pos [(false, eval (.Constant (.str y) k1 p1) env), (false, eval (.Constant (.str z') k2 p2) env)] Q s := by
  subst hy hz'
  refine m_str M_replace (sp_cons ⟨wpAny_Constant_str ?_⟩)
  refine (sp_cons ⟨wpAny_Constant_str ?_⟩)
  refine sp_nil (W.tk ⟨SC.replace (Nat.ne_of_gt htk) (Nat.succ_ne_zero _) (Nat.ne_of_lt (Nat.lt_succ_self _)) ?_ ?_ fun t' k hk => ?_⟩)
  · rw [S_beq]; exact decide_eq_false hne
  · rw [S_len, S_len]
    have : (x.length + 1) * z.length ≤ (x.length + 1) * 10 := Nat.mul_le_mul_left _ hz
    exact lin [_, _] (.h 11 (.a 0) (.n 1000000) <| .h 1 (.a 1) (.r (.p (.a 0) (.n 1)) 10) <| .g 1 (.p (.a 0) (.a 1)) (.n 16777216)) (.refl true) hx this
  · rw [replace_eq]
    exact h _ _ (Nat.le_trans (by show s.toks ≤ s.toks + 1 + 1; exact lin [_] (.g 1 (.a 0) (.p (.p (.a 0) (.n 1)) (.n 1))) (.refl true)) hk)
noncomputable def escC (x : List Nat) : List Nat := repl 45 [92, 45] (repl 92 [92, 92] x)
theorem quiet_elt {cenv : Env} {vs : List Value} {xs : List (List Nat)} {x : Str} {p1 p2 p3 p4 p5 p6 p7 p8 p9 : Pos} {k1 k2 k3 k4 : Nat} (hs : Strs vs xs) (hz : ∀ y ∈ xs, y.length ≤ 10000) (hk : cenv.scope.kind = .function) (hl : cenv.kindOf x = some .local) (hd : (x == ("__debug__" : Str)) = false)
    (h1 : (p2.endLine == p5.line) = true) (h2 : (p6.endLine == p9.line) = true) :
    QuietE prog C.w cenv x (.Call (.Attribute (.Call (.Attribute (.Name x p1) (Str.ofString "replace") p2) [.Constant (.str (S [92])) k1 p3, .Constant (.str (S [92, 92])) k2 p4] [] p5) (Str.ofString "replace") p6) [.Constant (.str (S [45])) k3 p7, .Constant (.str (S [92, 45])) k4 p8] [] p9) vs.toArray
      (fun j v => ∃ y u, xs[j]? = some y ∧ v = .str (S (escC y)) u) := by
  intro A' E' i v s₂ m₂ hh htk hv hn hm
  have hi : i < xs.length := by
    rw [← hs.length]
    have := (Array.getElem?_eq_some_iff.mp hv).1
    simpa using this
  obtain ⟨t, ht⟩ := hs.get (List.getElem?_eq_getElem hi)
  have e : v = .str (S xs[i]) t := by
    have : vs[i]? = some v := by simpa using hv
    rw [ht] at this; exact (Option.some.inj this).symm
  subst e
  have hzi := hz _ (List.getElem_mem hi)
  have hr := repl_len 92 [92, 92] xs[i]
  refine W.any (C := C) (e_m2 (e_m2 (⟨wpAny_Name (wpAny_loadName_local hk hl hn hm (m_replC0 (c := 92) (z := [92, 92]) htk (by exact lin [_] (.h 1 (.a 0) (.n 10000) <| .g 1 (.a 0) (.n 1000000)) (.refl true) hzi) (by decide) fun t' k hk' => ?_)) hd⟩) (hline := h1)) (hline := h2))
  refine m_replC0 (c := 45) (z := [92, 45]) (s := { s₂ with toks := k }) (Nat.lt_of_lt_of_le htk hk') (by simp at hr; exact lin [_, _] (.h 3 (.a 0) (.n 10000) <| .h 1 (.a 1) (.r (.a 0) 3) <| .g 1 (.a 1) (.n 1000000)) (.refl true) hzi hr) (by decide) fun t2 k2 hk2 => ?_
  exact ⟨⟨_, t2, List.getElem?_eq_getElem hi, rfl⟩, s₂.heap, k2, rfl, Nat.le_trans hk' hk2, fun _ _ e => e⟩
end
end Mine
end
-- T4
section
open PySem PySem.Calls PyProof.Rows PySem.W
namespace Mine
noncomputable abbrev env125 (L : Addr) : Env := callEnv F125.1 L 125
noncomputable abbrev ifB (st : Option Stmt) : List Stmt := match st with | some (.If _ b _ _) => b | _ => []
noncomputable abbrev ifO (st : Option Stmt) : List Stmt := match st with | some (.If _ _ o _) => o | _ => []
noncomputable abbrev whB (st : Option Stmt) : List Stmt := match st with | some (.While _ b _ _) => b | _ => []
/-- the loop's body; the branch of a bracket; what stands behind its closing sign -/
noncomputable abbrev b125 : List Stmt := whB ((bodyOf F125.1)[3]?)
noncomputable abbrev brk125 : List Stmt := ifB ((ifO ((ifO (b125[2]?))[0]?))[0]?)
noncomputable abbrev els125 : List Stmt := ifO (brk125[4]?)
structure TM (m : Str → Option Value) (x : List Nat) (st res bm : Addr) (i : Nat) : Prop where
  pat : ∃ t, m (Str.ofString "pat") = some (.str (S x) t)
  st : m (Str.ofString "STAR") = some (.ref st)
  q : ∃ t, m (Str.ofString "QUESTION_MARK") = some (.str (S [46]) t)
  res : m (Str.ofString "res") = some (.ref res)
  add : m (Str.ofString "add") = some (.ref bm)
  i : ∃ t, m (Str.ofString "i") = some (.int (i : Int) t)
  n : ∃ t, m (Str.ofString "n") = some (.int (x.length : Int) t)
theorem TM.setI {m x st res bm i} {j : Nat} (h : TM m x st res bm i) (t : Tok) : TM (upd m (Str.ofString "i") (.int (j : Int) t)) x st res bm j := ⟨h.pat, h.st, h.q, h.res, h.add, ⟨t, rfl⟩, h.n⟩
theorem TM.set {m x st res bm i} {y : Str} {v : Value} (h : TM m x st res bm i) (hy : ([Str.ofString "pat", Str.ofString "STAR", Str.ofString "QUESTION_MARK", Str.ofString "res", Str.ofString "add", Str.ofString "i", Str.ofString "n"].contains y) = false := by rfl) : TM (upd m y v) x st res bm i := by
  have key : ∀ z, ([Str.ofString "pat", Str.ofString "STAR", Str.ofString "QUESTION_MARK", Str.ofString "res", Str.ofString "add", Str.ofString "i", Str.ofString "n"].contains z) = true → upd m y v z = m z := fun z hz => by
    unfold upd
    rw [if_neg]
    rintro rfl
    rw [hy] at hz; cases hz
  obtain ⟨⟨t1, h1⟩, h2, ⟨t3, h3⟩, h4, h5, ⟨t6, h6⟩, ⟨t7, h7⟩⟩ := h
  exact ⟨⟨t1, (key _ rfl).trans h1⟩, (key _ rfl).trans h2, ⟨t3, (key _ rfl).trans h3⟩, (key _ rfl).trans h4, (key _ rfl).trans h5, ⟨t6, (key _ rfl).trans h6⟩, ⟨t7, (key _ rfl).trans h7⟩⟩
noncomputable def escW (z : List Nat) : List Nat := escBy hitW (fun g => [92] ++ g) z
noncomputable def capped (z : List Nat) : List Nat := if z.take 1 = [33] then [94] ++ z.drop 1 else if ([94, 91] : List Nat).contains (z.headD 0) then [92] ++ z else z
noncomputable def outOf (z : List Nat) : List Nat := if z = [] then [40, 63, 33, 41] else if z = [33] then [46] else [91] ++ capped z ++ [93]
section
variable {prog : Program} {C : Cx} {A : Around} {s₀ s : Shared} {L a : Addr} {m : Str → Option Value} {led : List (Addr × Cell)} {fd : FuncData} {env : Env}
theorem tr_tail {x z : List Nat} {st res bm : Addr} {rv : List Value} {ps : List (Option (List Nat))} {i j : Nat} {tz tj : Tok} {Q : Flow → Shared → Prop} (D : Led C s₀ L m [(bm, .obj (boundObj res)), (res, .list rv)] s) (R : Room A 4) (T : TM m x st res bm i) (hp : Parts st rv ps) (hz : z.length ≤ 1000) (h128 : ∀ c ∈ z, c < 128)
    (hr : rv.length ≤ 100000) (ms : m (Str.ofString "stuff") = some (.str (S z) tz)) (mj : m (Str.ofString "j") = some (.int (j : Int) tj))
    (hQ : ∀ m s' rv, TM m x st res bm (j + 1) → Parts st rv (ps ++ [some (outOf (escW z))]) → Led C s₀ L m [(bm, .obj (boundObj res)), (res, .list rv)] s' → Q .next s') :
    W prog C A (execs (els125.drop 2) (env125 L)) Q s := by
  obtain ⟨og, gog, cog, dog⟩ := D.now.patW.obj
  refine x_consL ?_
  intro Qs
  refine x_assign <| e_m2 <| gGlob D.now g_twin1 <| m_ref M_sub gog cog dog <| sp_cons <| e_lambda (c := 124) (Pt := 120) D rfl (.inr (.inr ⟨rfl, rfl⟩)) rfl fun f cv s' D hcv => sp_cons <| rName D ms <| sp_nil ?_
  obtain ⟨c', oc, vs, tq, ecv, gcv, ccv, dcv, qcv⟩ := hcv
  have hs := subs_one (cb := fun g => [92] ++ g) oneW z.length [] z (Nat.le_refl _) h128
  have hwl := escBy_len hitW z
  refine r_sub (jf := 0) (c' := c') (oc := oc) (cb := fun g => [92] ++ g) D (fun s' P => P.patW) (by exact lin [_] (.h 1 (.a 0) (.n 1000) <| .g 1 (.a 0) (.n 1000000)) (.refl true) hz) (out := escW z) (by unfold escW; exact lin [_, _] (.h 2 (.a 0) (.n 1000) <| .h 1 (.a 1) (.m 2 (.a 0)) <| .g 1 (.a 1) (.n 4000000)) (.refl true) hz hwl) ?_ ccv (fun ⟨_, _, q⟩ => by rw [dcv] at q; cases q) (D.now.tabFree gcv (by rw [ccv]; simp)) rfl gcv hs fun tw s' D => ?_
  · exact answers_lam (pre := [92]) (l := 131) (R.in1.mono (by decide)) (by exact lin [_] (.h 1 (.a 0) (.n 1000) <| .g 1 (.a 0) (.n 1000000)) (.refl true) hz) rfl rfl rfl (by decide) ecv ⟨vs, tq, dcv, qcv⟩ rfl rfl rfl rfl rfl rfl rfl (fun s v => .of_eq rfl)
  have D := D.forget (led' := [(bm, .obj (boundObj res)), (res, .list rv)]) (.cons _ (.refl _))
  generalize hw : escW z = w at D hQ
  have hwl' : w.length ≤ 2000 := by rw [← hw]; unfold escW; exact lin [_, _] (.h 2 (.a 0) (.n 1000) <| .h 1 (.a 1) (.m 2 (.a 0)) <| .g 1 (.a 1) (.n 2000)) (.refl true) hz hwl
  refine rStore D fun s' D => ?_
  have T := T.set (y := Str.ofString "stuff") (v := .str (S w) tw)
  refine x_consL ?_
  intro Qs
  refine x_assign <| e_bin <| rName D mj <| rIntN 1 D fun t1 s' D => rAddN D fun t1 s' D => rStore D fun s' D => ?_
  have T := T.setI (j := j + 1) t1
  have hrl := hp.length
  have fin : ∀ {m s'} (t' : Tok), TM m x st res bm (j + 1) → Led C s₀ L m [(bm, .obj (boundObj res)), (res, .list (rv ++ [.str (S (outOf w)) t']))] s' → Q .next s' := by
    intro m s' t' T D
    exact hQ _ _ _ T (hp.app (.str _ _ .nil)) D
  refine x_consL ?_
  intro Qs
  refine x_if ?_
  intro Qi
  refine t_not <| t_val <| rName D rfl <| tr_str D (by simp [sizeLine]; exact lin [_] (.h 1 (.a 0) (.n 2000) <| .g 1 (.a 0) (.n 16777216)) (.refl true) hwl') fun s' D => rIf (fun hb => ?_) (fun hb => ?_)
  · have hw0 : w = [] := by simpa using hb
    refine x_consL ?_
    intro Qs
    refine x_expr <| e_add D T.add <| rStrS [40, 63, 33, 41] D fun t s' D => ⟨_, _, _, _, 1, 0, _, _, D, rfl, rfl, by simp [sizeLine]; exact lin [_] (.h 1 (.a 0) (.n 100000) <| .g 1 (.a 0) (.n 16777216)) (.refl true) hr, fun s' D => x_nil <| x_nil ?_⟩
    exact fin t T (by unfold outOf; rw [if_pos hw0]; exact D)
  have hw0 : w ≠ [] := by simpa using hb
  refine x_consL ?_
  intro Qs
  refine x_if ?_
  intro Qi
  refine t_cmp <| rName D rfl <| rStrS [33] D fun t s' D => rEqS ⟨_, rfl, rIf (fun hb => ?_) (fun hb => ?_)⟩
  · have hw1 : w = [33] := of_decide_eq_true hb
    refine x_consL ?_
    intro Qs
    refine x_expr <| e_add D T.add <| rStrS [46] D fun t s' D => ⟨_, _, _, _, 1, 0, _, _, D, rfl, rfl, by simp [sizeLine]; exact lin [_] (.h 1 (.a 0) (.n 100000) <| .g 1 (.a 0) (.n 16777216)) (.refl true) hr, fun s' D => x_nil <| x_nil <| x_nil ?_⟩
    exact fin t T (by unfold outOf; rw [if_neg hw0, if_pos hw1]; exact D)
  have hw1 : ¬ w = [33] := of_decide_eq_false hb
  obtain ⟨c0, w0, rfl⟩ : ∃ c w', w = c :: w' := by
    cases w with
    | nil => exact absurd rfl hw0
    | cons c w' => exact ⟨c, w', rfl⟩
  have last : ∀ {m s'} {Q' : Flow → Shared → Prop} (t' : Tok), (∀ s', Q .next s' → Q' .next s') → m (Str.ofString "stuff") = some (.str (S (capped (c0 :: w0))) t') → TM m x st res bm (j + 1) → Led C s₀ L m [(bm, .obj (boundObj res)), (res, .list rv)] s' →
      W prog C A (execs ((ifO ((ifO (els125[4]?))[0]?)).drop 1) (env125 L)) Q' s' := by
    intro m s' Q' t' hQ' ms T D
    have hcl : (capped (c0 :: w0)).length ≤ 2001 := by
      unfold capped
      split
      · simp at hwl' ⊢; exact lin [_] (.h 1 (.a 0) (.n 1999) <| .g 1 (.a 0) (.n 2000)) (.refl true) hwl'
      · split
        · simp at hwl' ⊢; exact hwl'
        · exact lin [_] (.h 1 (.a 0) (.n 2000) <| .g 1 (.a 0) (.n 2001)) (.refl true) hwl'
    generalize hcp : capped (c0 :: w0) = cp at ms hcl
    refine x_consL ?_
    intro Qs
    refine x_expr <| e_add D T.add <| e_f3 <| rStrS [91] D fun t s' D => ⟨_, _, rfl, Nat.le_of_ble_eq_true rfl, e_fv <| rName D ms ⟨_, _, _, _, _, _, D, rfl, by simp [sizeLine]; exact lin [_] (.h 1 (.a 0) (.n 2001) <| .g 1 (.a 0) (.n 16777216)) (.refl true) hcl, fun t s' D => ⟨_, _, rfl, by simp [sizeLine]; exact lin [_] (.h 1 (.a 0) (.n 2001) <| .g 1 (.p (.n 1) (.a 0)) (.n 16777216)) (.refl true) hcl, ?_⟩⟩⟩
    refine rStrS [93] D fun t s' D => ⟨_, _, _, _, _, _, rfl, D, by simp [sizeLine]; exact lin [_] (.h 1 (.a 0) (.n 2001) <| .g 1 (.p (.n 1) (.a 0)) (.n 16777215)) (.refl true) hcl, fun t s' D => ⟨_, _, _, _, 1, 0, _, _, D, rfl, rfl, by simp [sizeLine]; exact lin [_] (.h 1 (.a 0) (.n 100000) <| .g 1 (.a 0) (.n 16777216)) (.refl true) hr, fun s' D => x_nil ?_⟩⟩
    exact hQ' _ (fin t T (by unfold outOf; rw [if_neg hw0, if_neg hw1, hcp]; exact D))
  refine x_consL ?_
  intro Qs
  refine x_if ?_
  intro Qi
  refine t_cmp <| e_itemS <| rName D rfl ⟨⟨_, _, rfl⟩, rIntN 0 D fun t s' D => i_str D (c := c0) rfl (by decide) fun t s' D => rStrS [33] D fun t s' D => rEqS ⟨_, rfl, rIf (fun hb => ?_) (fun hb => ?_)⟩⟩
  · have hc : c0 = 33 := by simpa using hb
    have ec : capped (c0 :: w0) = [94] ++ (c0 :: w0).drop 1 := by unfold capped; rw [if_pos (by simp [hc])]
    refine x_consL ?_
    intro Qs
    refine x_assign <| e_bin <| rStrS [94] D fun t s' D => e_sliceS <| rName D rfl <| p_some <| rIntN 1 D fun t s' D => p_none <| sl_from D (by simp [sizeLine] at hwl' ⊢; exact lin [_] (.h 1 (.a 0) (.n 1999) <| .g 1 (.a 0) (.n 16777215)) (.refl true) hwl') (by simp) fun t s' D => ?_
    refine rAddS D (by simp [sizeLine] at hwl' ⊢; exact lin [_] (.h 1 (.a 0) (.n 1999) <| .g 1 (.p (.n 1) (.a 0)) (.n 16777216)) (.refl true) hwl') fun t s' D => rStore D fun s' D => ?_
    exact x_nil <| last t (fun s' q => x_nil <| x_nil <| q) (by rw [ec]; rfl) T.set D
  have hc : ¬ c0 = 33 := by simpa using hb
  refine x_consL ?_
  intro Qs
  refine x_if ?_
  intro Qi
  refine t_cmp <| e_itemS <| rName D rfl ⟨⟨_, _, rfl⟩, rIntN 0 D fun t s' D => i_str D (c := c0) rfl (by decide) fun t s' D => e_tup <| a_cons <| rStrS [94] D fun t s' D => a_cons <| rStrS [91] D fun t s' D =>
    a_nil ⟨_, _, _, _, D, Nat.le_of_ble_eq_true rfl, fun tp s' D => rIn2 (D.nth 0 rfl) ⟨_, rfl, ?_⟩⟩⟩
  have D := D.forget (led' := [(bm, .obj (boundObj res)), (res, .list rv)]) (.cons _ (.refl _))
  refine rIf (fun hb => ?_) (fun hb => ?_)
  · have ec : capped (c0 :: w0) = [92] ++ (c0 :: w0) := by unfold capped; rw [if_neg (by simpa using hc)]; exact if_pos hb
    refine x_consL ?_
    intro Qs
    refine x_assign <| e_bin <| rStrS [92] D fun t s' D => rName D rfl <| rAddS D (by simp [sizeLine] at hwl' ⊢; exact lin [_] (.h 1 (.a 0) (.n 1999) <| .g 1 (.p (.n 1) (.p (.a 0) (.n 1))) (.n 16777216)) (.refl true) hwl') fun t s' D => rStore D fun s' D => ?_
    exact x_nil <| x_nil <| last t (fun s' q => x_nil <| x_nil <| q) (by rw [ec]; rfl) T.set D
  · have ec : capped (c0 :: w0) = c0 :: w0 := by unfold capped; rw [if_neg (by simpa using hc)]; exact if_neg (by rw [show ([94, 91] : List Nat).contains ((c0 :: w0).headD 0) = false from hb]; decide)
    exact x_nil <| x_nil <| last tw (fun s' q => x_nil <| x_nil <| q) (by rw [ec]; rfl) T D
end
end Mine
end
-- T5
section
open PySem PySem.Calls PyProof.Rows PySem.W
namespace Mine
noncomputable abbrev chs125 : List Stmt := ifO (els125[1]?)
noncomputable def bang (b : Bool) : List Nat := if b then [33] else []
theorem escC_len (y : List Nat) : (escC y).length ≤ y.length * 9 := by
  have h1 := repl_len 92 [92, 92] y
  have h2 := repl_len 45 [92, 45] (repl 92 [92, 92] y)
  unfold escC
  simp at h1 h2
  exact lin [_, _, _] (.h 3 (.a 0) (.r (.a 1) 3) <| .h 1 (.a 2) (.r (.a 0) 3) <| .g 1 (.a 2) (.r (.a 1) 9)) (.refl true) h1 h2
section
variable {prog : Program} {C : Cx} {A : Around} {s₀ s : Shared} {L a : Addr} {m : Str → Option Value} {led : List (Addr × Cell)} {fd : FuncData} {env : Env}
theorem tr_join {x : List Nat} {cs : List (List Nat)} {st res bm ch : Addr} {rv cv : List Value} {i j : Nat} {tj : Tok} {Q : Flow → Shared → Prop} (D : Led C s₀ L m [(ch, .list cv), (bm, .obj (boundObj res)), (res, .list rv)] s) (R : Room A 4) (T : TM m x st res bm i)
    (hcv : Strs cv cs) (hz : ∀ y ∈ cs, y.length ≤ 100) (hl : cs.length ≤ 2) (mc : m (Str.ofString "chunks") = some (.ref ch)) (mj : m (Str.ofString "j") = some (.int (j : Int) tj))
    (hQ : ∀ m s' t, TM m x st res bm i → m (Str.ofString "stuff") = some (.str (S (joinL [45] (cs.map escC))) t) → m (Str.ofString "j") = some (.int (j : Int) tj) → Led C s₀ L m [(bm, .obj (boundObj res)), (res, .list rv)] s' → Q .next s') :
    W prog C A (execs (chs125.drop 6) (env125 L)) Q s := by
  have hsum : ((cs.map escC).map (·.length)).sum + (cs.map escC).length * [45].length ≤ 16777216 := by
    match cs, hz, hl with
    | [], _, _ => simp
    | [y], hz, _ => have h1 := escC_len y; have h2 := hz y (by simp); simp; exact lin [_, _] (.h 1 (.a 0) (.r (.a 1) 9) <| .h 9 (.a 1) (.n 100) <| .g 1 (.a 0) (.n 16777215)) (.refl true) h1 h2
    | [y, y'], hz, _ => have h1 := escC_len y; have h2 := hz y (by simp); have h3 := escC_len y'; have h4 := hz y' (by simp); simp; exact lin [_, _, _, _] (.h 1 (.a 0) (.r (.a 1) 9) <| .h 9 (.a 1) (.n 100) <| .h 1 (.a 2) (.r (.a 3) 9) <| .h 9 (.a 3) (.n 100) <| .g 1 (.p (.a 0) (.a 2)) (.n 16777214)) (.refl true) h1 h2 h3 h4
    | _ :: _ :: _ :: _, _, hl => simp at hl
  refine x_consL ?_
  intro Qs
  refine x_assign <| e_m1 <| rStrS [45] D fun t s' D => m_str M_join <| sp_cons <| gen_join (i := 0) (c := 124) (Pt := 120) (f := escC) D R mc rfl hcv (by simp [sizeLine]; exact lin [_] (.h 1 (.a 0) (.n 2) <| .g 1 (.a 0) (.n 16777216)) (.refl true) hl) hsum rfl (.inr (.inr ⟨rfl, rfl⟩)) rfl
    (fun Cl code bi => quiet_elt hcv (fun y hy => by have := hz y hy; exact lin [_] (.h 1 (.a 0) (.n 100) <| .g 1 (.a 0) (.n 10000)) (.refl true) this) rfl rfl rfl rfl rfl) (fun t' s' D => ?_) (fun v s₁ w => sp_nil w)
  refine rStore D fun s' D => x_nil ?_
  exact hQ _ _ t' T.set (by exact rfl) (by exact mj) (D.forget (.cons _ (.refl _)))
/-- the parts of a bracket that holds one minus sign alone -/
theorem tr_one45 {x post : List Nat} {b : Bool} {st res bm : Addr} {rv : List Value} {i : Nat} {tj : Tok} {Q : Flow → Shared → Prop} (D : Led C s₀ L m [(bm, .obj (boundObj res)), (res, .list rv)] s) (R : Room A 4) (T : TM m x st res bm i)
    (hx : x.drop i = bang b ++ [45] ++ post) (hlen : x.length ≤ 100000) (mj : m (Str.ofString "j") = some (.int ((i + (bang b).length + 1 : Nat) : Int) tj))
    (hQ : ∀ m s' t, TM m x st res bm i → m (Str.ofString "stuff") = some (.str (S (escC (bang b ++ [45]))) t) → m (Str.ofString "j") = some (.int ((i + (bang b).length + 1 : Nat) : Int) tj) → Led C s₀ L m [(bm, .obj (boundObj res)), (res, .list rv)] s' → Q .next s') :
    W prog C A (execs chs125 (env125 L)) Q s := by
  have hb2 : (bang b).length ≤ 1 := by cases b <;> decide
  have hxl : i + (bang b).length + 1 ≤ x.length := by
    have := congrArg List.length hx
    simp at this; omega
  obtain ⟨tp, mp⟩ := T.pat
  obtain ⟨ti, mi⟩ := T.i
  refine x_consL ?_
  intro Qs
  refine x_assign <| e_list <| a_nil ⟨_, _, _, _, D, Nat.zero_le _, fun ch s' D => rStore D fun s' D => ?_⟩
  have T := T.set (y := Str.ofString "chunks") (v := .ref ch)
  -- where to look first
  have hk : ∃ c, x[i]? = some c ∧ (if decide ([c] = [33]) = true then i + 2 else i + 1) = i + (bang b).length + 1 := by
    have h0 : x[i]? = (x.drop i)[0]? := by simp
    rw [h0, hx]
    cases b
    · exact ⟨45, rfl, rfl⟩
    · exact ⟨33, rfl, rfl⟩
  obtain ⟨c, hc, hk⟩ := hk
  have loop : ∀ {m s'} (tk : Tok), TM m x st res bm i → m (Str.ofString "chunks") = some (.ref ch) → m (Str.ofString "j") = some (.int ((i + (bang b).length + 1 : Nat) : Int) tj) → m (Str.ofString "k") = some (.int ((i + (bang b).length + 1 : Nat) : Int) tk) →
      Led C s₀ L m [(ch, .list []), (bm, .obj (boundObj res)), (res, .list rv)] s' → W prog C A (execs (chs125.drop 2) (env125 L)) Q s' := by
    intro m s' tk T mc mj mk D
    obtain ⟨tp, mp⟩ := T.pat
    obtain ⟨ti, mi⟩ := T.i
    refine x_consL ?_
    intro Qs
    refine x_while (fun _ s'' => s'' = s') 0 rfl ?_
    intro n s'' Qb Qi e
    subst e
    refine t_val <| rBoolC <| truthy_b <| rIfT rfl ?_
    refine x_consL ?_
    intro Qs
    refine x_assign <| e_mS <| rName D mp <| m_str M_find <| a_cons <| rStrS [45] D fun t s' D => a_cons <| rName D mk <| a_cons <| rName D mj <| a_nil <| rFindNo D (Nat.le_refl _) fun t s' D => rStore D fun s' D => ?_
    refine x_consL ?_
    intro Qs
    refine x_if ?_
    intro Qi
    refine t_cmp <| rName D rfl <| rInt D fun t s' D => rLtI ⟨_, rfl, rIfT (by decide) <| x_cons <| x_break ?_⟩
    -- the one part
    refine x_consL ?_
    intro Qs
    refine x_assign <| e_sliceS <| rName D (by exact mp) <| p_some <| rName D (by exact mi) <| p_some <| rName D (by exact mj) <| sl_mid D (by simp [sizeLine]; exact lin [_] (.h 1 (.a 0) (.n 100000) <| .g 1 (.a 0) (.n 16777216)) (.refl true) hlen) (by exact lin [_, _] (.g 1 (.a 0) (.p (.p (.a 0) (.a 1)) (.n 1))) (.refl true)) hxl fun t s' D => ?_
    have ez : (x.drop i).take (i + (bang b).length + 1 - i) = bang b ++ [45] := by
      rw [hx]
      exact List.take_left' (by simp; exact Nat.le_antisymm (lin [_, _, _] (.h 1 (.p (.p (.a 1) (.a 0)) (.n 1)) (.p (.a 2) (.a 1)) <| .g 1 (.p (.a 0) (.n 1)) (.a 2)) (.refl true) (subA _ _)) (lin [_, _, _] (.e 1 (.p (.a 1) (.a 0)) (.p (.p (.a 0) (.a 2)) (.n 1)) <| .g 1 (.a 1) (.p (.a 2) (.n 1))) (.refl true) (subC (by exact lin [_, _] (.g 1 (.a 0) (.p (.p (.a 0) (.a 1)) (.n 1))) (.refl true)))))
    rw [ez]
    refine rStore D fun s' D => ?_
    refine x_consL ?_
    intro Qs
    refine x_if ?_
    intro Qi
    refine t_val <| rName D rfl <| tr_str D (by simp [sizeLine]; exact lin [_] (.h 1 (.a 0) (.n 1) <| .g 1 (.a 0) (.n 16777215)) (.refl true) hb2) fun s' D => rIfT (by simp) ?_
    refine x_consL ?_
    intro Qs
    refine x_expr <| e_m1 <| rName D (by exact mc) <| m_append ⟨_, D.nth 0 rfl⟩ <| rName D rfl ⟨_, _, _, _, 0, _, D, rfl, Nat.zero_le _, fun s' D => x_nil ?_⟩
    -- no pair of parts
    refine x_consL ?_
    intro Qs
    refine x_for <| e_ty D.now b_range <| a_cons <| e_bin <| e_bi D.now b_len <| a_cons <| rName D (by exact mc) <| a_nil <| rLenL D (D.nth 0 rfl) (by simp [sizeLine]) fun t s' D => rIntN 1 D fun t s' D => rSubN D (by simp) fun t s' D =>
      a_cons <| rInt D fun t s' D => a_cons <| e_m1i D fun t s' D => a_nil <| rRange3 D (by decide) (by show Builtin.divisionGoesByPylong (0 - ((0 : Nat) : Int)) (-1) = false; decide +kernel) fun r s' D => it_range D 0 rfl (by show Builtin.Range.small ((0 : Nat) : Int) 0 (-1) = true; decide +kernel) fun it s' D => ?_
    refine loopN (fun _ s'' => s'' = s') 0 rfl ?_
    intro n s'' Qb e
    subst e
    refine n_range_end D 0 rfl (by show Builtin.Range.rangeSize ((0 : Nat) : Int) 0 (-1) ≤ 0; decide +kernel) R.hh fun s' D => ?_
    dsimp only
    refine tr_join (cs := [bang b ++ [45]]) (D.forget (.cons _ (.refl _))) R T.set.set (.cons _ _ .nil) (by simp; exact lin [_] (.h 1 (.a 0) (.n 1) <| .g 1 (.a 0) (.n 99)) (.refl true) hb2) (by simp) (by exact mc) (by exact mj) hQ
  refine x_consL ?_
  intro Qs
  refine x_assign <| e_ifexp <| t_cmp <| e_itemS <| rName D (by exact mp) ⟨⟨_, _, rfl⟩, rName D (by exact mi) <| i_str D hc (by exact lin [_, _, _] (.h 1 (.a 0) (.n 100000) <| .h 1 (.p (.p (.a 2) (.a 1)) (.n 1)) (.a 0) <| .j 1 (.a 2) (.n 4611686018427387904)) (.refl true) hlen hxl) fun t s' D => rStrS [33] D fun t s' D => rEqS ⟨_, rfl, rIf (fun hb => ?_) (fun hb => ?_)⟩⟩
  · rw [if_pos hb] at hk
    refine e_bin <| rName D (by exact mi) <| rIntN 2 D fun t s' D => rAddN D fun t s' D => ?_
    rw [hk]
    exact rStore D fun s' D => loop t T.set (by exact rfl) (by exact mj) (by exact rfl) D
  · rw [if_neg (by rw [hb]; decide)] at hk
    refine e_bin <| rName D (by exact mi) <| rIntN 1 D fun t s' D => rAddN D fun t s' D => ?_
    rw [hk]
    exact rStore D fun s' D => loop t T.set (by exact rfl) (by exact mj) (by exact rfl) D
end
end Mine
end
-- T6
section
open PySem PySem.Calls PyProof.Rows PySem.W
namespace Mine
noncomputable def rngStuff (b : Bool) (c d : Nat) : List Nat := if c ≤ d then escC (bang b ++ [c]) ++ [45] ++ escC [d] else escC (bang b)
section
variable {prog : Program} {C : Cx} {A : Around} {s₀ s : Shared} {L a : Addr} {m : Str → Option Value} {led : List (Addr × Cell)} {fd : FuncData} {env : Env}
/-- two parts, joined or struck -/
theorem tr_pair {x : List Nat} {b : Bool} {c d : Nat} {st res bm ch : Addr} {rv : List Value} {i j : Nat} {tj t1 t2 : Tok} {Q : Flow → Shared → Prop} (D : Led C s₀ L m [(ch, .list [.str (S (bang b ++ [c])) t1, .str (S [d]) t2]), (bm, .obj (boundObj res)), (res, .list rv)] s) (R : Room A 4) (T : TM m x st res bm i)
    (mc : m (Str.ofString "chunks") = some (.ref ch)) (mj : m (Str.ofString "j") = some (.int (j : Int) tj))
    (hQ : ∀ m s' t, TM m x st res bm i → m (Str.ofString "stuff") = some (.str (S (rngStuff b c d)) t) → m (Str.ofString "j") = some (.int (j : Int) tj) → Led C s₀ L m [(bm, .obj (boundObj res)), (res, .list rv)] s' → Q .next s') :
    W prog C A (execs (chs125.drop 5) (env125 L)) Q s := by
  have hb2 : (bang b).length ≤ 1 := by cases b <;> decide
  refine x_consL ?_
  intro Qs
  refine x_for <| e_ty D.now b_range <| a_cons <| e_bin <| e_bi D.now b_len <| a_cons <| rName D (by exact mc) <| a_nil <| rLenL D (D.nth 0 rfl) (by simp [sizeLine]) fun t s' D => rIntN 1 D fun t s' D => rSubN D (by simp) fun t s' D =>
    a_cons <| rInt D fun t s' D => a_cons <| e_m1i D fun t s' D => a_nil <| rRange3 D (by decide) (by show Builtin.divisionGoesByPylong (0 - ((1 : Nat) : Int)) (-1) = false; decide +kernel) fun r s' D => it_range D 0 rfl (by show Builtin.Range.small ((1 : Nat) : Int) 0 (-1) = true; decide +kernel) fun it s' D => ?_
  have D : Led C s₀ L m [(it, .obj (rangeIt ((1 : Nat) : Int) (Builtin.Range.rangeSize ((1 : Nat) : Int) 0 (-1)) (-1))), (ch, .list [.str (S (bang b ++ [c])) t1, .str (S [d]) t2]), (bm, .obj (boundObj res)), (res, .list rv)] s' := D.forget (.cons_cons _ (.cons _ (.refl _)))
  rw [show Builtin.Range.rangeSize ((1 : Nat) : Int) 0 (-1) = 1 by decide +kernel] at D
  let Inv1 : Nat → Shared → Prop := fun n s'' => (n = 1 ∧ s'' = s') ∨ (n = 0 ∧ Ex3 fun m cv cs => And8 (TM m x st res bm i) (m (Str.ofString "chunks") = some (.ref ch)) (m (Str.ofString "j") = some (.int (j : Int) tj)) (Strs cv cs) ((∀ y ∈ cs, y.length ≤ 100)) (cs.length ≤ 2) (joinL [45] (cs.map escC) = rngStuff b c d) (Led C s₀ L m [(it, .obj (rangeIt 0 0 (-1))), (ch, .list cv), (bm, .obj (boundObj res)), (res, .list rv)] s''))
  refine loopN Inv1 1 (.inl ⟨rfl, rfl⟩) ?_
  intro n s'' Qb e
  rcases e with ⟨rfl, rfl⟩ | ⟨rfl, m, cv, cs, T, mc, mj, hcv, hz, hl, hj, D⟩
  · refine n_range D 0 rfl (by decide) fun t s' D => ?_
    dsimp only
    refine rStore D fun s' D => ?_
    have i0 : ∀ {led s'} {Q : Value → Shared → Prop} {u : Tok}, Led C s₀ L (upd m (Str.ofString "k") (.int ((1 : Nat) : Int) t)) led s' → led[1]? = some (ch, .list [.str (S (bang b ++ [c])) t1, .str (S [d]) t2]) → Q (.str (S (bang b ++ [c])) t1) s' → ItemOn (model prog C.w) A NoE (.ref ch) (.int ((0 : Nat) : Int) u) Q s' :=
      fun D h q => i_list (D.nth 1 h) rfl (by decide) q
    have i1 : ∀ {led s'} {Q : Value → Shared → Prop} {u : Tok}, Led C s₀ L (upd m (Str.ofString "k") (.int ((1 : Nat) : Int) t)) led s' → led[1]? = some (ch, .list [.str (S (bang b ++ [c])) t1, .str (S [d]) t2]) → Q (.str (S [d]) t2) s' → ItemOn (model prog C.w) A NoE (.ref ch) (.int ((1 : Nat) : Int) u) Q s' :=
      fun D h q => i_list (D.nth 1 h) rfl (by decide) q
    refine x_consL ?_
    intro Qs
    refine x_if ?_
    intro Qi
    refine t_cmp <| e_itemS <| e_item <| rName D (by exact mc) <| e_bin <| rName D (by exact rfl) <| rIntN 1 D fun u s' D => rSubN D (by decide) fun u s' D => ?_
    refine i0 D rfl ?_
    refine ⟨⟨_, _, rfl⟩, ?_⟩
    refine e_m1i D fun u s' D => ?_
    refine i_str_last D fun u s' D => ?_
    refine e_itemS <| e_item <| rName D (by exact mc) <| rName D (by exact rfl) ?_
    refine i1 D rfl ?_
    refine ⟨⟨_, _, rfl⟩, ?_⟩
    refine rIntN 0 D fun u s' D => ?_
    refine i_str D (c := d) rfl (by decide) fun u s' D => ?_
    refine rGtC ⟨_, rfl, rIf (fun hb => ?_) (fun hb => ?_)⟩
    · have hcd : ¬ c ≤ d := by have := of_decide_eq_true hb; exact fun qq => lin [_, _] (.l 1 (.a 0) (.a 1) <| .h 1 (.a 1) (.a 0) <| .z) (.refl true) this qq
      refine x_consL ?_
      intro Qs
      refine x_setL <| e_bin <| e_sliceT <| e_item <| rName D (by exact mc) <| e_bin <| rName D (by exact rfl) <| rIntN 1 D fun u s' D => rSubN D (by decide) fun u s' D => ?_
      refine i0 D rfl ?_
      refine p_none <| p_some <| e_m1i D fun u s' D => ?_
      refine sl_to_m1 D (by simp [sizeLine]; exact lin [_] (.h 1 (.a 0) (.n 1) <| .g 1 (.a 0) (.n 16777215)) (.refl true) hb2) (by simp) fun u s' D => ?_
      have e1 : (bang b ++ [c]).take ((bang b ++ [c]).length - 1) = bang b := by simp
      rw [e1]
      refine e_sliceT <| e_item <| rName D (by exact mc) <| rName D (by exact rfl) ?_
      refine i1 D rfl ?_
      refine p_some <| rIntN 1 D fun u s' D => p_none ?_
      refine sl_from D (by simp [sizeLine]) (by simp) fun u s' D => ?_
      refine rAddS D (by simp [sizeLine]; exact lin [_] (.h 1 (.a 0) (.n 1) <| .g 1 (.a 0) (.n 16777216)) (.refl true) hb2) fun u s' D => ?_
      have e2 : bang b ++ [d].drop 1 = bang b := by simp
      rw [e2]
      refine rName D (by exact mc) <| e_bin <| rName D (by exact rfl) <| rIntN 1 D fun u' s' D => rSubN D (by decide) fun u' s' D => ?_
      refine w_setL (k := 1) (j := 0) D rfl (by simp) (by simp [sizeLine]) fun s' D => ?_
      refine x_consL ?_
      intro Qs
      refine x_delL <| rName D (by exact mc) <| rName D (by exact rfl) ?_
      refine w_delL (k := 1) (j := 1) D rfl (by simp) (by simp [sizeLine]) fun s' D => x_nil <| x_nil ?_
      exact ⟨0, by decide, .inr ⟨rfl, _, _, [bang b], T.set, by exact mc, by exact mj, .cons _ _ .nil, by simp; exact lin [_] (.h 1 (.a 0) (.n 1) <| .g 1 (.a 0) (.n 100)) (.refl true) hb2, by simp, by unfold rngStuff; rw [if_neg hcd]; rfl, D⟩⟩
    · have hcd : c ≤ d := by have := of_decide_eq_false hb; exact lin [_, _] (.o 1 (.a 0) (.a 1) <| .g 1 (.a 1) (.a 0)) (.refl true) this
      exact x_nil <| x_nil ⟨0, by decide, .inr ⟨rfl, _, _, [bang b ++ [c], [d]], T.set, by exact mc, by exact mj, .cons _ _ (.cons _ _ .nil), by simp; exact lin [_] (.h 1 (.a 0) (.n 1) <| .g 1 (.a 0) (.n 99)) (.refl true) hb2, by simp, by unfold rngStuff; rw [if_pos hcd]; rfl, D⟩⟩
  · refine n_range_end D 0 rfl (by decide) R.hh fun s' D => ?_
    dsimp only
    refine tr_join D R T hcv hz hl mc mj fun m s' t T ms mj D => hQ _ _ t T (by rw [← hj]; exact ms) mj D
end
end Mine
end
-- T7
section
open PySem PySem.Calls PyProof.Rows PySem.W
namespace Mine
section
variable {prog : Program} {C : Cx} {A : Around} {s₀ s : Shared} {L a : Addr} {m : Str → Option Value} {led : List (Addr × Cell)} {fd : FuncData} {env : Env}
/-- the parts of a bracket that holds a range -/
theorem tr_rng {x post : List Nat} {b : Bool} {c d : Nat} {st res bm : Addr} {rv : List Value} {i : Nat} {tj : Tok} {Q : Flow → Shared → Prop} (D : Led C s₀ L m [(bm, .obj (boundObj res)), (res, .list rv)] s) (R : Room A 4) (T : TM m x st res bm i)
    (hbc : b = false → c ≠ 33) (hx : x.drop i = bang b ++ [c, 45, d] ++ post) (hlen : x.length ≤ 100000) (mj : m (Str.ofString "j") = some (.int ((i + (bang b).length + 3 : Nat) : Int) tj))
    (hQ : ∀ m s' t i, TM m x st res bm i → m (Str.ofString "stuff") = some (.str (S (rngStuff b c d)) t) → Led C s₀ L m [(bm, .obj (boundObj res)), (res, .list rv)] s' → m (Str.ofString "j") = some (.int ((x.length - post.length : Nat) : Int) tj) → Q .next s') :
    W prog C A (execs chs125 (env125 L)) Q s := by
  have hb2 : (bang b).length ≤ 1 := by cases b <;> decide
  have hlx : x.length - i = (bang b).length + 3 + post.length := by
    have := congrArg List.length hx
    simp at this; exact Nat.le_antisymm (lin [_, _, _] (.e 1 (.a 0) (.p (.a 1) (.p (.p (.p (.a 2) (.n 1)) (.n 1)) (.n 1))) <| .g 1 (.a 0) (.p (.p (.a 1) (.n 3)) (.a 2))) (.refl true) this) (lin [_, _, _] (.f 1 (.a 0) (.p (.a 1) (.p (.p (.p (.a 2) (.n 1)) (.n 1)) (.n 1))) <| .g 1 (.p (.p (.a 1) (.n 3)) (.a 2)) (.a 0)) (.refl true) this)
  have hxl : i + (bang b).length + 3 ≤ x.length := by omega
  have hej : x.length - post.length = i + (bang b).length + 3 := by exact Nat.le_antisymm (lin [_, _, _, _, _, _] (.e 1 (.a 0) (.p (.p (.a 1) (.n 3)) (.a 2)) <| .h 1 (.a 3) (.p (.a 0) (.a 4)) <| .e 1 (.p (.a 5) (.a 2)) (.a 3) <| .g 1 (.a 5) (.p (.p (.a 4) (.a 1)) (.n 3))) (.refl true) hlx (subA _ _) (subC (by exact lin [_, _, _, _] (.f 1 (.a 0) (.p (.p (.a 1) (.n 3)) (.a 2)) <| .h 1 (.a 0) (.a 3) <| .g 1 (.a 2) (.a 3)) (.refl true) hlx (subB _ _)))) (lin [_, _, _, _, _, _] (.f 1 (.a 0) (.p (.p (.a 1) (.n 3)) (.a 2)) <| .h 1 (.a 3) (.p (.a 4) (.a 2)) <| .e 1 (.p (.a 0) (.a 5)) (.a 3) <| .g 1 (.p (.p (.a 5) (.a 1)) (.n 3)) (.a 4)) (.refl true) hlx (subA _ _) (subC (by exact lin [_, _, _] (.h 1 (.p (.p (.a 1) (.a 0)) (.n 3)) (.a 2) <| .g 1 (.a 1) (.a 2)) (.refl true) hxl)))
  generalize hk1 : i + (bang b).length + 1 = k1
  have hx45 : x[k1]? = some 45 := by
    have h0 : x[k1]? = (x.drop i)[(bang b).length + 1]? := by rw [List.getElem?_drop, ← hk1, Nat.add_assoc]
    rw [h0, hx]
    cases b <;> rfl
  obtain ⟨tp, mp⟩ := T.pat
  obtain ⟨ti, mi⟩ := T.i
  refine x_consL ?_
  intro Qs
  refine x_assign <| e_list <| a_nil ⟨_, _, _, _, D, Nat.zero_le _, fun ch s' D => rStore D fun s' D => ?_⟩
  have T := T.set (y := Str.ofString "chunks") (v := .ref ch)
  -- where to look first
  have hk : ∃ c', x[i]? = some c' ∧ (if decide ([c'] = [33]) = true then i + 2 else i + 1) = k1 := by
    have h0 : x[i]? = (x.drop i)[0]? := by simp
    rw [h0, hx]
    cases b
    · refine ⟨c, rfl, ?_⟩
      rw [if_neg (by simpa using hbc rfl), ← hk1]; rfl
    · exact ⟨33, rfl, hk1⟩
  obtain ⟨c', hc, hk⟩ := hk
  have loop : ∀ {m s'} (tk : Tok), TM m x st res bm i → m (Str.ofString "chunks") = some (.ref ch) → m (Str.ofString "j") = some (.int ((i + (bang b).length + 3 : Nat) : Int) tj) → m (Str.ofString "k") = some (.int (k1 : Int) tk) →
      Led C s₀ L m [(ch, .list []), (bm, .obj (boundObj res)), (res, .list rv)] s' → W prog C A (execs (chs125.drop 2) (env125 L)) Q s' := by
    intro m s' tk T mc mj mk D
    let Inv1 : Nat → Shared → Prop := fun n s'' => (n = 1 ∧ s'' = s') ∨ (n = 0 ∧ Ex3 fun m tk t1 => And5 (TM m x st res bm (k1 + 1)) (m (Str.ofString "chunks") = some (.ref ch)) (m (Str.ofString "j") = some (.int ((i + (bang b).length + 3 : Nat) : Int) tj)) (m (Str.ofString "k") = some (.int ((k1 + 3 : Nat) : Int) tk)) (Led C s₀ L m [(ch, .list [.str (S (bang b ++ [c])) t1]), (bm, .obj (boundObj res)), (res, .list rv)] s''))
    refine x_consL ?_
    intro Qs
    refine x_while Inv1 1 (.inl ⟨rfl, rfl⟩) ?_
    intro n s'' Qb Qi e
    refine t_val <| rBoolC <| truthy_b <| rIfT rfl ?_
    rcases e with ⟨rfl, rfl⟩ | ⟨rfl, m, tk, t1, T, mc, mj, mk, D⟩
    · obtain ⟨tp, mp⟩ := T.pat
      obtain ⟨ti, mi⟩ := T.i
      refine x_consL ?_
      intro Qs
      refine x_assign <| e_mS <| rName D mp <| m_str M_find <| a_cons <| rStrS [45] D fun t s' D => a_cons <| rName D mk <| a_cons <| rName D mj <| a_nil <| rFindAt D hx45 (by exact lin [_, _, _] (.f 1 (.p (.p (.a 1) (.a 0)) (.n 1)) (.a 2) <| .j 1 (.a 2) (.p (.p (.a 1) (.a 0)) (.n 3))) (.refl true) hk1) hxl fun t s' D => rStore D fun s' D => ?_
      refine x_consL ?_
      intro Qs
      refine x_if ?_
      intro Qi
      refine t_cmp <| rName D (by exact rfl) <| rIntN 0 D fun t s' D => rLtN ⟨_, rfl, rIfF (by simp) <| x_nil ?_⟩
      have ez : (x.drop i).take (k1 - i) = bang b ++ [c] := by
        rw [hx, show bang b ++ [c, 45, d] ++ post = (bang b ++ [c]) ++ ([45, d] ++ post) by simp]
        exact List.take_left' (by simp; exact Nat.le_antisymm (lin [_, _, _, _] (.e 1 (.p (.p (.a 1) (.a 0)) (.n 1)) (.a 2) <| .h 1 (.a 2) (.p (.a 3) (.a 1)) <| .g 1 (.p (.a 0) (.n 1)) (.a 3)) (.refl true) hk1 (subA _ _)) (lin [_, _, _, _] (.f 1 (.p (.p (.a 1) (.a 0)) (.n 1)) (.a 2) <| .e 1 (.p (.a 3) (.a 1)) (.a 2) <| .g 1 (.a 3) (.p (.a 0) (.n 1))) (.refl true) hk1 (subC (by exact lin [_, _, _] (.e 1 (.p (.p (.a 1) (.a 0)) (.n 1)) (.a 2) <| .g 1 (.a 1) (.a 2)) (.refl true) hk1))))
      refine x_consL ?_
      intro Qs
      refine x_expr <| e_m1 <| rName D (by exact mc) <| m_append ⟨_, D.nth 0 rfl⟩ <| e_sliceS <| rName D (by exact mp) <| p_some <| rName D (by exact mi) <| p_some <| rName D (by exact rfl) <| sl_mid D (by simp [sizeLine]; exact lin [_] (.h 1 (.a 0) (.n 100000) <| .g 1 (.a 0) (.n 16777216)) (.refl true) hlen) (by exact lin [_, _, _] (.e 1 (.p (.p (.a 1) (.a 0)) (.n 1)) (.a 2) <| .g 1 (.a 1) (.a 2)) (.refl true) hk1) (by exact lin [_, _, _, _] (.h 1 (.p (.p (.a 1) (.a 0)) (.n 3)) (.a 2) <| .f 1 (.p (.p (.a 1) (.a 0)) (.n 1)) (.a 3) <| .g 1 (.a 3) (.a 2)) (.refl true) hxl hk1) fun t s' D => ?_
      rw [ez]
      refine ⟨_, _, _, _, 0, _, D, rfl, Nat.zero_le _, fun s' D => ?_⟩
      refine x_consL ?_
      intro Qs
      refine x_assign <| e_bin <| rName D (by exact rfl) <| rIntN 1 D fun t2 s' D => rAddN D fun t2 s' D => rStore D fun s' D => ?_
      refine x_consL ?_
      intro Qs
      refine x_assign <| e_bin <| rName D (by exact rfl) <| rIntN 3 D fun t3 s' D => rAddN D fun t3 s' D => rStore D fun s' D => x_nil ?_
      exact ⟨0, by decide, .inr ⟨rfl, _, _, _, (TM.setI T.set t2).set, by exact mc, by exact mj, by exact rfl, D⟩⟩
    · obtain ⟨tp, mp⟩ := T.pat
      obtain ⟨ti, mi⟩ := T.i
      refine x_consL ?_
      intro Qs
      refine x_assign <| e_mS <| rName D mp <| m_str M_find <| a_cons <| rStrS [45] D fun t s' D => a_cons <| rName D mk <| a_cons <| rName D mj <| a_nil <| rFindNo D (by exact lin [_, _, _] (.e 1 (.p (.p (.a 1) (.a 0)) (.n 1)) (.a 2) <| .g 1 (.p (.p (.a 1) (.a 0)) (.n 3)) (.p (.a 2) (.n 3))) (.refl true) hk1) fun t s' D => rStore D fun s' D => ?_
      refine x_consL ?_
      intro Qs
      refine x_if ?_
      intro Qi
      refine t_cmp <| rName D rfl <| rInt D fun t s' D => rLtI ⟨_, rfl, rIfT (by decide) <| x_cons <| x_break ?_⟩
      -- the last part
      have ez : (x.drop (k1 + 1)).take (i + (bang b).length + 3 - (k1 + 1)) = [d] := by
        have e1 : x.drop (k1 + 1) = (x.drop i).drop ((bang b).length + 2) := by rw [List.drop_drop, ← hk1]; first | rfl | (congr 1; done) | (congr 1; omega)
        have e2 : i + (bang b).length + 3 - (k1 + 1) = 1 := by exact Nat.le_antisymm (lin [_, _, _, _] (.e 1 (.p (.p (.a 1) (.a 0)) (.n 1)) (.a 2) <| .e 1 (.p (.a 3) (.p (.a 2) (.n 1))) (.p (.p (.a 1) (.a 0)) (.n 3)) <| .g 1 (.a 3) (.n 1)) (.refl true) hk1 (subC (by exact lin [_, _, _] (.f 1 (.p (.p (.a 1) (.a 0)) (.n 1)) (.a 2) <| .g 1 (.p (.a 2) (.n 1)) (.p (.p (.a 1) (.a 0)) (.n 3))) (.refl true) hk1))) (lin [_, _, _, _] (.f 1 (.p (.p (.a 1) (.a 0)) (.n 1)) (.a 2) <| .h 1 (.p (.p (.a 1) (.a 0)) (.n 3)) (.p (.a 3) (.p (.a 2) (.n 1))) <| .g 1 (.n 1) (.a 3)) (.refl true) hk1 (subA _ _))
        rw [e1, hx, e2]
        cases b <;> rfl
      refine x_consL ?_
      intro Qs
      refine x_assign <| e_sliceS <| rName D (by exact mp) <| p_some <| rName D (by exact mi) <| p_some <| rName D (by exact mj) <| sl_mid D (by simp [sizeLine]; exact lin [_] (.h 1 (.a 0) (.n 100000) <| .g 1 (.a 0) (.n 16777216)) (.refl true) hlen) (by exact lin [_, _, _] (.f 1 (.p (.p (.a 1) (.a 0)) (.n 1)) (.a 2) <| .g 1 (.p (.a 2) (.n 1)) (.p (.p (.a 1) (.a 0)) (.n 3))) (.refl true) hk1) hxl fun t s' D => ?_
      rw [ez]
      refine rStore D fun s' D => ?_
      refine x_consL ?_
      intro Qs
      refine x_if ?_
      intro Qi
      refine t_val <| rName D rfl <| tr_str D (by simp [sizeLine]) fun s' D => rIfT (by simp) ?_
      refine x_consL ?_
      intro Qs
      refine x_expr <| e_m1 <| rName D (by exact mc) <| m_append ⟨_, D.nth 0 rfl⟩ <| rName D rfl ⟨_, _, _, _, 0, _, D, rfl, by simp [sizeLine], fun s' D => x_nil ?_⟩
      exact tr_pair D R T.set.set (by exact mc) (by exact mj) fun m s' t T ms mj D => hQ _ _ t _ T ms D (by rw [hej]; exact mj)
  refine x_consL ?_
  intro Qs
  refine x_assign <| e_ifexp <| t_cmp <| e_itemS <| rName D (by exact mp) ⟨⟨_, _, rfl⟩, rName D (by exact mi) <| i_str D hc (by exact lin [_, _, _] (.h 1 (.a 0) (.n 100000) <| .h 1 (.p (.p (.a 2) (.a 1)) (.n 3)) (.a 0) <| .j 1 (.a 2) (.n 4611686018427387904)) (.refl true) hlen hxl) fun t s' D => rStrS [33] D fun t s' D => rEqS ⟨_, rfl, rIf (fun hb => ?_) (fun hb => ?_)⟩⟩
  · rw [if_pos hb] at hk
    refine e_bin <| rName D (by exact mi) <| rIntN 2 D fun t s' D => rAddN D fun t s' D => ?_
    rw [hk]
    exact rStore D fun s' D => loop t T.set (by exact rfl) (by exact mj) (by exact rfl) D
  · rw [if_neg (by rw [hb]; decide)] at hk
    refine e_bin <| rName D (by exact mi) <| rIntN 1 D fun t s' D => rAddN D fun t s' D => ?_
    rw [hk]
    exact rStore D fun s' D => loop t T.set (by exact rfl) (by exact mj) (by exact rfl) D
end
end Mine
end
-- T8
section
open PySem PySem.Calls PyProof.Rows PySem.W
namespace Mine
/-! what a bracket comes to -/
theorem repl_app' (c : Nat) (z a b : List Nat) : repl c z (a ++ b) = repl c z a ++ repl c z b := repl_app c z a b
theorem escC_app (a b : List Nat) : escC (a ++ b) = escC a ++ escC b := by unfold escC; rw [repl_app, repl_app]
theorem escW_app (a b : List Nat) : escW (a ++ b) = escW a ++ escW b := escBy_app _ _ _ _
theorem esc_bang (b : Bool) : escW (escC (bang b)) = bang b ∧ escW (repl 92 [92, 92] (bang b)) = bang b := by cases b <;> decide +kernel
theorem esc_one : ∀ c < 127, 32 ≤ c → escW (escC [c]) = inner c ∧ (c ≠ 45 → escW (repl 92 [92, 92] [c]) = inner c) := by decide +kernel
theorem escC_sign (c : Nat) : escC [c] = [c] ∨ escC [c] = [92, c] := by
  unfold escC
  by_cases h : c = 92
  · subst h; right; rfl
  · by_cases h' : c = 45
    · subst h'; right; rfl
    · left; simp [repl, h, h']
theorem capped_inner (c : Nat) (y : List Nat) (h : c ≠ 33) : capped (inner c ++ y) = first false c ++ y := by
  unfold inner capped first
  by_cases hc : inners.contains c = true
  · rw [if_pos hc, if_neg (by simp), if_neg (by simp)]
    have : ([94, 91] : List Nat).contains c = false := by
      cases hq : ([94, 91] : List Nat).contains c with
      | false => rfl
      | true =>
        simp at hq
        rcases hq with rfl | rfl <;> revert hc <;> decide
    rw [this]
    unfold inner
    rw [if_pos hc]; rfl
  · rw [if_neg hc, if_neg (by simpa using h)]
    show (if ([94, 91] : List Nat).contains c = true then _ else _) = _
    cases hq : ([94, 91] : List Nat).contains c with
    | true => rw [if_pos rfl]; rfl
    | false =>
      rw [if_neg (by decide)]
      show [c] ++ y = inner c ++ y
      unfold inner
      rw [if_neg hc]
theorem inner_ne (c : Nat) : inner c ≠ [] := by
  unfold inner; split <;> simp
theorem out_bang (y : List Nat) (h : y ≠ []) : outOf ([33] ++ y) = [91, 94] ++ y ++ [93] := by
  unfold outOf
  rw [if_neg (by simp), if_neg (by simpa using h)]
  unfold capped
  rw [if_pos (by simp)]; simp
theorem out_inner (c : Nat) (y : List Nat) (h : c ≠ 33) : outOf (inner c ++ y) = [91] ++ (first false c ++ y) ++ [93] := by
  unfold outOf
  have h1 := inner_ne c
  rw [if_neg (by simp [h1]), if_neg ?_, capped_inner c y h]
  unfold inner
  intro q
  split at q
  · simp at q
  · simp at q; exact h q.1
theorem told_one {b : Bool} {c : Nat} (h1 : 32 ≤ c) (h2 : c < 127) (hb : b = false → c ≠ 33) : outOf (escW (if c = 45 then escC (bang b ++ [c]) else repl 92 [92, 92] (bang b ++ [c]))) = told (.one b c) := by
  have e : escW (if c = 45 then escC (bang b ++ [c]) else repl 92 [92, 92] (bang b ++ [c])) = bang b ++ inner c := by
    split
    · rw [escC_app, escW_app, (esc_bang b).1, (esc_one c h2 h1).1]
    · rename_i h
      rw [repl_app, escW_app, (esc_bang b).2, (esc_one c h2 h1).2 h]
  rw [e]
  unfold told Item.pieces
  cases b
  · have := out_inner c [] (hb rfl)
    simp [front] at this ⊢
    simpa [bang] using this
  · rw [show bang true = [33] from rfl, out_bang _ (inner_ne c)]
    simp [front, first]
theorem told_rng {b : Bool} {c d : Nat} (h1 : 32 ≤ c) (h2 : c < 127) (h3 : 32 ≤ d) (h4 : d < 127) (hb : b = false → c ≠ 33) : outOf (escW (rngStuff b c d)) = told (.rng b c d) := by
  unfold rngStuff told Item.pieces
  by_cases hcd : c ≤ d
  · simp only [if_pos hcd]
    have e : escW (escC (bang b ++ [c]) ++ [45] ++ escC [d]) = bang b ++ inner c ++ [45] ++ inner d := by
      rw [escC_app, escW_app, escW_app, escW_app, (esc_bang b).1, (esc_one c h2 h1).1, (esc_one d h4 h3).1]; rfl
    rw [e]
    cases b
    · have := out_inner c ([45] ++ inner d) (hb rfl)
      simp [front, bang] at this ⊢
      exact this
    · have := out_bang (inner c ++ [45] ++ inner d) (by simp)
      simp [front, bang, first] at this ⊢
      exact this
  · simp only [if_neg hcd]
    rw [(esc_bang b).1]
    cases b <;> decide
end Mine
end
-- T9
section
open PySem PySem.Calls PyProof.Rows PySem.W
namespace Mine
theorem drop_at {x z : List Nat} {i t : Nat} (h : x.drop i = z) : x[i + t]? = z[t]? := by
  rw [← h, List.getElem?_drop]
section
variable {prog : Program} {C : Cx} {A : Around} {s₀ s : Shared} {L a : Addr} {m : Str → Option Value} {led : List (Addr × Cell)} {fd : FuncData} {env : Env}
/-- the test of a sign at j -/
theorem tr_test {x : List Nat} {st res bm : Addr} {rv : List Value} {i j c q : Nat} {tj : Tok} {op : CmpOp} {Q : Bool → Shared → Prop} {p1 p2 p3 p4 p5 p6 p7 p8 p9 : Pos} {k1 : Nat} {whole : Sem Value} {r : Bool} (D : Led C s₀ L m [(bm, .obj (boundObj res)), (res, .list rv)] s) (T : TM m x st res bm i)
    (hop : (op = .Eq ∧ r = decide (c = q)) ∨ (op = .NotEq ∧ r = !decide (c = q))) (hc : x[j]? = some c) (hlen : x.length ≤ 100000) (mj : m (Str.ofString "j") = some (.int (j : Int) tj)) (h : ∀ s', Led C s₀ L m [(bm, .obj (boundObj res)), (res, .list rv)] s' → Q r s') :
    W prog C A (isTrue (.BoolOp .And [.Compare (.Name (Str.ofString "j") p1) [.Lt] [.Name (Str.ofString "n") p2] p3, .Compare (.Subscript (.Name (Str.ofString "pat") p4) (.Name (Str.ofString "j") p5) p6) [op] [.Constant (.str (S [q])) k1 p7] p8] p9) (env125 L) whole) Q s := by
  obtain ⟨tp, mp⟩ := T.pat
  obtain ⟨tn, mn⟩ := T.n
  have hj : j < x.length := (List.getElem?_eq_some_iff.mp hc).1
  refine t_bool <| t_and <| t_cmp <| rName D mj <| rName D mn <| rLtN ⟨_, rfl, rIfT (by simpa using hj) ?_⟩
  rcases hop with ⟨rfl, rfl⟩ | ⟨rfl, rfl⟩
  · refine t_and <| t_cmp <| e_itemS <| rName D mp ⟨⟨_, _, rfl⟩, rName D mj <| i_str D hc (by exact lin [_, _] (.h 1 (.a 0) (.n 100000) <| .l 1 (.a 1) (.a 0) <| .j 1 (.a 1) (.n 4611686018427387904)) (.refl true) hlen hj) fun t s' D => rStrS [q] D fun t s' D => rEqS ⟨_, rfl, ?_⟩⟩
    have e : decide (([c] : List Nat) = [q]) = decide (c = q) := by simp
    rw [e]
    exact rIf (fun hb => t_and0 (by have := h _ D; rw [hb] at this; exact this)) fun hb => by have := h _ D; rw [hb] at this; exact this
  · refine t_and <| t_cmp <| e_itemS <| rName D mp ⟨⟨_, _, rfl⟩, rName D mj <| i_str D hc (by exact lin [_, _] (.h 1 (.a 0) (.n 100000) <| .l 1 (.a 1) (.a 0) <| .j 1 (.a 1) (.n 4611686018427387904)) (.refl true) hlen hj) fun t s' D => rStrS [q] D fun t s' D => rNeS ⟨_, rfl, ?_⟩⟩
    have e : (!decide (([c] : List Nat) = [q])) = !decide (c = q) := by simp
    rw [e]
    exact rIf (fun hb => t_and0 (by have := h _ D; rw [hb] at this; exact this)) fun hb => by have := h _ D; rw [hb] at this; exact this
theorem tr_findj {x v post : List Nat} {b : Bool} {c : Nat} {st res bm : Addr} {rv : List Value} {i : Nat} {Q : Flow → Shared → Prop} (D : Led C s₀ L m [(bm, .obj (boundObj res)), (res, .list rv)] s) (T : TM m x st res bm i)
    (hbc : b = false → c ≠ 33) (hv : ∀ e ∈ v, e ≠ 93) (hx : x.drop i = (bang b ++ c :: v) ++ 93 :: post) (hlen : x.length ≤ 100000)
    (h : ∀ (Q' : Flow → Shared → Prop) m s' tj, (∀ s', Q .next s' → Q' .next s') → TM m x st res bm i → m (Str.ofString "j") = some (.int ((i + (bang b ++ c :: v).length : Nat) : Int) tj) → Led C s₀ L m [(bm, .obj (boundObj res)), (res, .list rv)] s' → W prog C A (execs els125 (env125 L)) Q' s') :
    W prog C A (execs brk125 (env125 L)) Q s := by
  generalize hz : bang b ++ c :: v = z at hx h
  have hzl : z.length = (bang b).length + 1 + v.length := by rw [← hz]; simp; exact Nat.le_antisymm (lin [_, _] (.g 1 (.p (.a 0) (.p (.a 1) (.n 1))) (.p (.p (.a 0) (.n 1)) (.a 1))) (.refl true)) (lin [_, _] (.g 1 (.p (.p (.a 0) (.n 1)) (.a 1)) (.p (.a 0) (.p (.a 1) (.n 1)))) (.refl true))
  have hxl : x.length - i = z.length + 1 + post.length := by
    have := congrArg List.length hx
    simp at this; exact Nat.le_antisymm (lin [_, _, _] (.e 1 (.a 0) (.p (.a 1) (.p (.a 2) (.n 1))) <| .g 1 (.a 0) (.p (.p (.a 1) (.n 1)) (.a 2))) (.refl true) this) (lin [_, _, _] (.f 1 (.a 0) (.p (.a 1) (.p (.a 2) (.n 1))) <| .g 1 (.p (.p (.a 1) (.n 1)) (.a 2)) (.a 0)) (.refl true) this)
  have at' : ∀ {t : Nat}, x[i + t]? = (z ++ 93 :: post)[t]? := drop_at hx
  obtain ⟨ti, mi⟩ := T.i
  obtain ⟨tn, mn⟩ := T.n
  refine x_consL ?_
  intro Qs
  refine x_assign <| rName D mi <| rStore D fun s' D => ?_
  have T := T.set (y := Str.ofString "j") (v := .int (i : Int) ti)
  -- the search for the closing sign
  have loop : ∀ {m s'} (t0 : Nat) (tj : Tok), t0 ≤ z.length → (∀ t e, t0 ≤ t → z[t]? = some e → e ≠ 93) → TM m x st res bm i → m (Str.ofString "j") = some (.int ((i + t0 : Nat) : Int) tj) → Led C s₀ L m [(bm, .obj (boundObj res)), (res, .list rv)] s' → W prog C A (execs (brk125.drop 3) (env125 L)) Q s' := by
    intro m s' t0 tj ht0 hno T mj D
    let Inv1 : Nat → Shared → Prop := fun k s'' => Ex3 fun m t tj => And6 (k = z.length - t) (t0 ≤ t) (t ≤ z.length) (TM m x st res bm i) (m (Str.ofString "j") = some (.int ((i + t : Nat) : Int) tj)) (Led C s₀ L m [(bm, .obj (boundObj res)), (res, .list rv)] s'')
    refine x_consL ?_
    intro Qs
    refine x_while Inv1 (z.length - t0) ⟨_, t0, _, rfl, Nat.le_refl _, ht0, T, mj, D⟩ ?_
    rintro k s'' Qb Qi ⟨m, t, tj, rfl, h1, h2, T, mj, D⟩
    by_cases hlt : t < z.length
    · have e : x[i + t]? = some z[t] := by rw [at', List.getElem?_append_left hlt, List.getElem?_eq_getElem hlt]
      refine tr_test (q := 93) (r := true) D T (.inr ⟨rfl, by simp; exact hno t _ h1 (List.getElem?_eq_getElem hlt)⟩) e hlen mj fun s' D => rIfT rfl ?_
      refine x_consL ?_
      intro Qs
      refine x_assign <| e_bin <| rName D mj <| rIntN 1 D fun t' s' D => rAddN D fun t' s' D => rStore D fun s' D => x_nil ?_
      exact ⟨z.length - (t + 1), by exact lin [_, _, _, _] (.h 1 (.a 0) (.p (.a 2) (.a 1)) <| .e 1 (.p (.a 3) (.p (.a 1) (.n 1))) (.a 0) <| .j 1 (.a 3) (.a 2)) (.refl true) (subA _ _) (subC (by exact lin [_, _] (.l 1 (.a 0) (.a 1) <| .g 1 (.p (.a 0) (.n 1)) (.a 1)) (.refl true) hlt)), _, t + 1, _, rfl, by exact lin [_, _] (.h 1 (.a 0) (.a 1) <| .g 1 (.a 0) (.p (.a 1) (.n 1))) (.refl true) h1, hlt, T.set, by exact rfl, D⟩
    · have het : t = z.length := by exact Nat.le_antisymm (h2) (lin [_, _] (.o 1 (.a 0) (.a 1) <| .g 1 (.a 1) (.a 0)) (.refl true) hlt)
      subst het
      have e : x[i + z.length]? = some 93 := by rw [at', List.getElem?_append_right (Nat.le_refl _), Nat.sub_self]; rfl
      refine tr_test (q := 93) (r := false) D T (.inr ⟨rfl, by simp⟩) e hlen mj fun s' D => rIfF rfl ?_
      obtain ⟨tn, mn⟩ := T.n
      refine x_consL ?_
      intro Qs
      refine x_if ?_
      intro Qi
      refine t_cmp <| rName D mj <| rName D mn <| rGeN ⟨_, rfl, rIfF (by simp; omega) ?_⟩
      exact h _ _ _ _ (fun s' q => x_nil q) T mj D
  have b1 : z[(bang b).length]? = some c := by
    rw [← hz, List.getElem?_append_right (Nat.le_refl _), Nat.sub_self]; rfl
  have bv : ∀ t e, (bang b).length + 1 ≤ t → z[t]? = some e → e ≠ 93 := by
    intro t e ht he
    rw [← hz, List.getElem?_append_right (by exact lin [_, _] (.h 1 (.p (.a 0) (.n 1)) (.a 1) <| .g 1 (.a 0) (.a 1)) (.refl true) ht)] at he
    obtain ⟨n, rfl⟩ : ∃ n, t = (bang b).length + 1 + n := ⟨t - ((bang b).length + 1), by exact Nat.le_antisymm (lin [_, _, _] (.h 1 (.a 0) (.p (.a 2) (.p (.a 1) (.n 1))) <| .g 1 (.a 0) (.p (.p (.a 1) (.n 1)) (.a 2))) (.refl true) (subA _ _)) (lin [_, _, _] (.e 1 (.p (.a 1) (.p (.a 0) (.n 1))) (.a 2) <| .g 1 (.p (.p (.a 0) (.n 1)) (.a 1)) (.a 2)) (.refl true) (subC (by exact ht)))⟩
    have e9 : (bang b).length + 1 + n - (bang b).length = n + 1 := by exact Nat.le_antisymm (lin [_, _, _] (.e 1 (.p (.a 1) (.a 0)) (.p (.p (.a 0) (.n 1)) (.a 2)) <| .g 1 (.a 1) (.p (.a 2) (.n 1))) (.refl true) (subC (by exact lin [_, _] (.g 1 (.a 0) (.p (.p (.a 0) (.n 1)) (.a 1))) (.refl true)))) (lin [_, _, _] (.h 1 (.p (.p (.a 0) (.n 1)) (.a 1)) (.p (.a 2) (.a 0)) <| .g 1 (.p (.a 1) (.n 1)) (.a 2)) (.refl true) (subA _ _))
    rw [e9, List.getElem?_cons_succ] at he
    exact hv e (List.mem_of_getElem? he)
  have first1 : ∀ {m s'} (tj : Tok), TM m x st res bm i → m (Str.ofString "j") = some (.int ((i + (bang b).length : Nat) : Int) tj) → Led C s₀ L m [(bm, .obj (boundObj res)), (res, .list rv)] s' → W prog C A (execs (brk125.drop 2) (env125 L)) Q s' := by
    intro m s' tj T mj D
    have e : x[i + (bang b).length]? = some c := by rw [at', List.getElem?_append_left (by exact lin [_, _, _] (.f 1 (.a 0) (.p (.p (.a 1) (.n 1)) (.a 2)) <| .j 1 (.a 1) (.a 0)) (.refl true) hzl), b1]
    refine x_consL ?_
    intro Qs
    refine x_if ?_
    intro Qi
    refine tr_test (q := 93) (r := decide (c = 93)) D T (.inl ⟨rfl, rfl⟩) e hlen mj fun s' D => rIf (fun hb => ?_) (fun hb => ?_)
    · refine x_consL ?_
      intro Qs
      refine x_assign <| e_bin <| rName D mj <| rIntN 1 D fun t' s' D => rAddN D fun t' s' D => rStore D fun s' D => x_nil ?_
      exact loop ((bang b).length + 1) _ (by exact lin [_, _, _] (.f 1 (.a 0) (.p (.p (.a 1) (.n 1)) (.a 2)) <| .g 1 (.p (.a 1) (.n 1)) (.a 0)) (.refl true) hzl) bv T.set (by exact rfl) D
    · refine x_nil <| loop (bang b).length _ (by exact lin [_, _, _] (.f 1 (.a 0) (.p (.p (.a 1) (.n 1)) (.a 2)) <| .g 1 (.a 1) (.a 0)) (.refl true) hzl) (fun t e ht he => ?_) T mj D
      by_cases htb : t = (bang b).length
      · subst htb
        rw [b1] at he; cases he
        exact of_decide_eq_false hb
      · exact bv t e (by exact lin [_, _] (.l 1 (.a 0) (.a 1) <| .g 1 (.p (.a 0) (.n 1)) (.a 1)) (.refl true) (Nat.lt_of_le_of_ne (by exact ht) (Ne.symm htb))) he
  have e0 : ∃ c0, x[i]? = some c0 ∧ decide (c0 = 33) = b := by
    have h0 := at' (t := 0)
    rw [Nat.add_zero] at h0
    rw [h0, ← hz]
    cases b
    · exact ⟨c, rfl, by simpa using hbc rfl⟩
    · exact ⟨33, rfl, rfl⟩
  obtain ⟨c0, hc0, e0⟩ := e0
  refine x_consL ?_
  intro Qs
  refine x_if ?_
  intro Qi
  refine tr_test (q := 33) (r := b) D T (.inl ⟨rfl, e0.symm⟩) hc0 hlen (by exact rfl) fun s' D => rIf (fun hb => ?_) (fun hb => ?_)
  · subst hb
    refine x_consL ?_
    intro Qs
    refine x_assign <| e_bin <| rName D (by exact rfl) <| rIntN 1 D fun t' s' D => rAddN D fun t' s' D => rStore D fun s' D => x_nil ?_
    exact first1 _ T.set (by exact rfl) D
  · subst hb
    exact x_nil <| first1 _ T (by exact rfl) D
end
end Mine
end
-- T10
section
open PySem PySem.Calls PyProof.Rows PySem.W
namespace Mine
noncomputable def okc (c : Nat) : Prop := 32 ≤ c ∧ c < 127
/-- an item that the pattern's reader takes as it is written -/
noncomputable def OkItem : Item → Prop
  | .lit c => okc c ∧ c ≠ 42 ∧ c ≠ 63 ∧ c ≠ 91
  | .any => True
  | .star => True
  | .one b c => okc c ∧ (b = false → c ≠ 33)
  | .rng b c d => okc c ∧ okc d ∧ (b = false → c ≠ 33) ∧ d ≠ 93
noncomputable def pstep (ps : List (Option (List Nat))) (it : Item) : List (Option (List Nat)) := if isStar it then (if ps.getLast? = some none then ps else ps ++ [none]) else ps ++ [some (told it)]
section
variable {prog : Program} {C : Cx} {A : Around} {s₀ s : Shared} {L a : Addr} {m : Str → Option Value} {led : List (Addr × Cell)} {fd : FuncData} {env : Env}
theorem tr_one {x post : List Nat} {b : Bool} {c : Nat} {st res bm : Addr} {rv : List Value} {ps : List (Option (List Nat))} {i : Nat} {Q : Flow → Shared → Prop} (D : Led C s₀ L m [(bm, .obj (boundObj res)), (res, .list rv)] s) (R : Room A 4) (T : TM m x st res bm i)
    (hok : OkItem (.one b c)) (hp : Parts st rv ps) (hr : rv.length ≤ 100000) (hx : x.drop i = (bang b ++ [c]) ++ 93 :: post) (hlen : x.length ≤ 100000)
    (hQ : ∀ m s' rv, TM m x st res bm (i + (bang b).length + 2) → Parts st rv (ps ++ [some (told (.one b c))]) → Led C s₀ L m [(bm, .obj (boundObj res)), (res, .list rv)] s' → Q .next s') :
    W prog C A (execs brk125 (env125 L)) Q s := by
  have hb2 : (bang b).length ≤ 1 := by cases b <;> decide
  obtain ⟨⟨h1, h2⟩, hb⟩ := hok
  have hlx : x.length - i = (bang b).length + 2 + post.length := by
    have := congrArg List.length hx
    simp at this; exact Nat.le_antisymm (lin [_, _, _] (.e 1 (.a 0) (.p (.a 1) (.p (.p (.a 2) (.n 1)) (.n 1))) <| .g 1 (.a 0) (.p (.p (.a 1) (.n 2)) (.a 2))) (.refl true) this) (lin [_, _, _] (.f 1 (.a 0) (.p (.a 1) (.p (.p (.a 2) (.n 1)) (.n 1))) <| .g 1 (.p (.p (.a 1) (.n 2)) (.a 2)) (.a 0)) (.refl true) this)
  have h128 : ∀ e ∈ bang b ++ [c], e < 128 := by
    intro e he
    simp at he
    rcases he with he | rfl
    · cases b <;> simp [bang] at he; exact lin [_] (.e 1 (.a 0) (.n 33) <| .j 1 (.a 0) (.n 128)) (.refl true) he
    · exact lin [_] (.l 1 (.a 0) (.n 127) <| .j 1 (.a 0) (.n 128)) (.refl true) h2
  refine tr_findj (v := []) D T hb (by simp) hx hlen fun Q' m s' tj hq T mj D => ?_
  obtain ⟨tp, mp⟩ := T.pat
  obtain ⟨ti, mi⟩ := T.i
  have ej : i + (bang b ++ [c]).length = i + (bang b).length + 1 := by simp; exact Nat.le_antisymm (lin [_, _] (.g 1 (.p (.a 1) (.p (.a 0) (.n 1))) (.p (.p (.a 1) (.a 0)) (.n 1))) (.refl true)) (lin [_, _] (.g 1 (.p (.p (.a 1) (.a 0)) (.n 1)) (.p (.a 1) (.p (.a 0) (.n 1)))) (.refl true))
  rw [ej] at mj
  have ez : (x.drop i).take (i + (bang b).length + 1 - i) = bang b ++ [c] := by
    rw [hx]
    exact List.take_left' (by simp; exact Nat.le_antisymm (lin [_, _, _] (.h 1 (.p (.p (.a 1) (.a 0)) (.n 1)) (.p (.a 2) (.a 1)) <| .g 1 (.p (.a 0) (.n 1)) (.a 2)) (.refl true) (subA _ _)) (lin [_, _, _] (.e 1 (.p (.a 1) (.a 0)) (.p (.p (.a 0) (.a 2)) (.n 1)) <| .g 1 (.a 1) (.p (.a 2) (.n 1))) (.refl true) (subC (by exact lin [_, _] (.g 1 (.a 0) (.p (.p (.a 0) (.a 1)) (.n 1))) (.refl true)))))
  refine x_consL ?_
  intro Qs
  refine x_assign <| e_sliceS <| rName D mp <| p_some <| rName D mi <| p_some <| rName D mj <| sl_mid D (by simp [sizeLine]; exact lin [_] (.h 1 (.a 0) (.n 100000) <| .g 1 (.a 0) (.n 16777216)) (.refl true) hlen) (by exact lin [_, _] (.g 1 (.a 0) (.p (.p (.a 0) (.a 1)) (.n 1))) (.refl true)) (by omega) fun t s' D => ?_
  rw [ez]
  refine rStore D fun s' D => ?_
  have T := T.set (y := Str.ofString "stuff") (v := .str (S (bang b ++ [c])) t)
  have tail : ∀ {m s' z i'} (tz : Tok), z = (if c = 45 then escC (bang b ++ [c]) else repl 92 [92, 92] (bang b ++ [c])) → TM m x st res bm i' → m (Str.ofString "stuff") = some (.str (S z) tz) → m (Str.ofString "j") = some (.int ((i + (bang b).length + 1 : Nat) : Int) tj) → Led C s₀ L m [(bm, .obj (boundObj res)), (res, .list rv)] s' →
      W prog C A (execs (els125.drop 2) (env125 L)) Q' s' := by
    intro m s' z i' tz hz T ms mj D
    have hzl : z.length ≤ 20 ∧ ∀ e ∈ z, e < 128 := by
      rw [hz]
      split
      · subst_vars
        cases b <;> decide +kernel
      · rw [repl_app]
        have e1 : repl 92 [92, 92] (bang b) = bang b := by cases b <;> rfl
        rw [e1]
        refine ⟨?_, fun e he => ?_⟩
        · have := repl_len 92 [92, 92] [c]
          simp at this ⊢; exact lin [_, _] (.h 1 (.a 0) (.n 1) <| .h 1 (.a 1) (.n 3) <| .g 1 (.p (.a 0) (.a 1)) (.n 20)) (.refl true) hb2 this
        · rcases List.mem_append.mp he with he | he
          · cases b <;> simp [bang] at he; exact lin [_] (.e 1 (.a 0) (.n 33) <| .j 1 (.a 0) (.n 128)) (.refl true) he
          · unfold repl at he
            simp at he
            split at he <;> simp at he <;> (first | exact lin [_] (.e 1 (.a 0) (.n 92) <| .j 1 (.a 0) (.n 128)) (.refl true) he | exact lin [_, _] (.l 1 (.a 0) (.n 127) <| .e 1 (.a 1) (.a 0) <| .j 1 (.a 1) (.n 128)) (.refl true) h2 he)
    refine tr_tail D R T hp (by exact lin [_] (.h 1 (.a 0) (.n 20) <| .g 1 (.a 0) (.n 1000)) (.refl true) hzl.1) hzl.2 hr ms mj fun m s' rv T hp D => hq _ (hQ m s' rv T ?_ D)
    rw [hz, told_one h1 h2 hb] at hp
    exact hp
  refine x_consL ?_
  intro Qs
  refine x_if ?_
  intro Qi
  refine t_cmp <| rStrS [45] D fun t s' D => rName D rfl <| rNotInS ⟨_, rfl, ?_⟩
  have hcon : (bang b ++ [c]).contains 45 = decide (c = 45) := by
    rw [Bool.eq_iff_iff]
    cases b <;> simp [bang, eq_comm]
  rw [hcon]
  refine rIf (fun hb' => ?_) (fun hb' => ?_)
  · have hc : ¬ c = 45 := by simpa using hb'
    refine x_consL ?_
    intro Qs
    refine x_assign <| e_m2 <| rName D rfl <| m_replC (c := 92) (z := [92, 92]) D (by simp; exact lin [_] (.h 1 (.a 0) (.n 1) <| .g 1 (.a 0) (.n 999999)) (.refl true) hb2) (by decide) fun t s' D => rStore D fun s' D => x_nil ?_
    exact tail t (by rw [if_neg hc]) T.set (by exact rfl) (by exact mj) D
  · have hc : c = 45 := by simpa using hb'
    subst hc
    refine tr_one45 (tj := tj) (post := 93 :: post) D R T (by rw [hx]) hlen (by exact mj) fun m s' t T ms mj D => ?_
    exact tail t (by rw [if_pos rfl]) T ms mj D
theorem tr_rng' {x post : List Nat} {b : Bool} {c d : Nat} {st res bm : Addr} {rv : List Value} {ps : List (Option (List Nat))} {i : Nat} {Q : Flow → Shared → Prop} (D : Led C s₀ L m [(bm, .obj (boundObj res)), (res, .list rv)] s) (R : Room A 4) (T : TM m x st res bm i)
    (hok : OkItem (.rng b c d)) (hp : Parts st rv ps) (hr : rv.length ≤ 100000) (hx : x.drop i = (bang b ++ [c, 45, d]) ++ 93 :: post) (hlen : x.length ≤ 100000)
    (hQ : ∀ m s' rv, TM m x st res bm (i + (bang b).length + 4) → Parts st rv (ps ++ [some (told (.rng b c d))]) → Led C s₀ L m [(bm, .obj (boundObj res)), (res, .list rv)] s' → Q .next s') :
    W prog C A (execs brk125 (env125 L)) Q s := by
  have hb2 : (bang b).length ≤ 1 := by cases b <;> decide
  obtain ⟨⟨h1, h2⟩, ⟨h3, h4⟩, hb, hd⟩ := hok
  have hlx : x.length - i = (bang b).length + 4 + post.length := by
    have := congrArg List.length hx
    simp at this; exact Nat.le_antisymm (lin [_, _, _] (.e 1 (.a 0) (.p (.a 1) (.p (.p (.p (.p (.a 2) (.n 1)) (.n 1)) (.n 1)) (.n 1))) <| .g 1 (.a 0) (.p (.p (.a 1) (.n 4)) (.a 2))) (.refl true) this) (lin [_, _, _] (.f 1 (.a 0) (.p (.a 1) (.p (.p (.p (.p (.a 2) (.n 1)) (.n 1)) (.n 1)) (.n 1))) <| .g 1 (.p (.p (.a 1) (.n 4)) (.a 2)) (.a 0)) (.refl true) this)
  refine tr_findj (v := [45, d]) D T hb (by simp [hd]) hx hlen fun Q' m s' tj hq T mj D => ?_
  obtain ⟨tp, mp⟩ := T.pat
  obtain ⟨ti, mi⟩ := T.i
  have ej : i + (bang b ++ [c, 45, d]).length = i + (bang b).length + 3 := by simp; exact Nat.le_antisymm (lin [_, _] (.g 1 (.p (.a 1) (.p (.a 0) (.n 3))) (.p (.p (.a 1) (.a 0)) (.n 3))) (.refl true)) (lin [_, _] (.g 1 (.p (.p (.a 1) (.a 0)) (.n 3)) (.p (.a 1) (.p (.a 0) (.n 3)))) (.refl true))
  rw [ej] at mj
  have ez : (x.drop i).take (i + (bang b).length + 3 - i) = bang b ++ [c, 45, d] := by
    rw [hx]
    exact List.take_left' (by simp; exact Nat.le_antisymm (lin [_, _, _] (.h 1 (.p (.p (.a 1) (.a 0)) (.n 3)) (.p (.a 2) (.a 1)) <| .g 1 (.p (.a 0) (.n 3)) (.a 2)) (.refl true) (subA _ _)) (lin [_, _, _] (.e 1 (.p (.a 1) (.a 0)) (.p (.p (.a 0) (.a 2)) (.n 3)) <| .g 1 (.a 1) (.p (.a 2) (.n 3))) (.refl true) (subC (by exact lin [_, _] (.g 1 (.a 0) (.p (.p (.a 0) (.a 1)) (.n 3))) (.refl true)))))
  refine x_consL ?_
  intro Qs
  refine x_assign <| e_sliceS <| rName D mp <| p_some <| rName D mi <| p_some <| rName D mj <| sl_mid D (by simp [sizeLine]; exact lin [_] (.h 1 (.a 0) (.n 100000) <| .g 1 (.a 0) (.n 16777216)) (.refl true) hlen) (by exact lin [_, _] (.g 1 (.a 0) (.p (.p (.a 0) (.a 1)) (.n 3))) (.refl true)) (by omega) fun t s' D => ?_
  rw [ez]
  refine rStore D fun s' D => ?_
  have T := T.set (y := Str.ofString "stuff") (v := .str (S (bang b ++ [c, 45, d])) t)
  refine x_consL ?_
  intro Qs
  refine x_if ?_
  intro Qi
  refine t_cmp <| rStrS [45] D fun t s' D => rName D rfl <| rNotInS ⟨_, rfl, rIfF (by simp) ?_⟩
  have hej : x.length - (93 :: post).length = i + (bang b).length + 3 := by simp; omega
  have hzl : (rngStuff b c d).length ≤ 100 ∧ ∀ e ∈ rngStuff b c d, e < 128 := by
    unfold rngStuff
    have hbz : (escC (bang b)).length ≤ 1 ∧ ∀ e ∈ escC (bang b), e < 128 := by cases b <;> decide +kernel
    have hone : ∀ c, c < 127 → (escC [c]).length ≤ 9 ∧ ∀ e ∈ escC [c], e < 128 := fun c hc => by
      refine ⟨escC_len [c], fun e he => ?_⟩
      rcases escC_sign c with q | q <;> rw [q] at he <;> simp at he <;> omega
    split
    · rw [escC_app]
      refine ⟨?_, fun e he => ?_⟩
      · have e1 := (hone c h2).1
        have e2 := (hone d h4).1
        simp; exact lin [_, _, _] (.h 1 (.a 0) (.n 1) <| .h 1 (.a 1) (.n 9) <| .h 1 (.a 2) (.n 9) <| .g 1 (.p (.a 0) (.p (.a 1) (.p (.a 2) (.n 1)))) (.n 100)) (.refl true) hbz.1 e1 e2
      · simp only [List.mem_append] at he
        rcases he with ((he | he) | he) | he
        · exact hbz.2 e he
        · exact (hone c h2).2 e he
        · simp at he; exact lin [_] (.e 1 (.a 0) (.n 45) <| .j 1 (.a 0) (.n 128)) (.refl true) he
        · exact (hone d h4).2 e he
    · exact ⟨by exact lin [_] (.h 1 (.a 0) (.n 1) <| .g 1 (.a 0) (.n 100)) (.refl true) hbz.1, hbz.2⟩
  refine tr_rng (post := 93 :: post) D R T hb (by rw [hx]) hlen (by exact mj) fun m s' t i' T ms D mj => ?_
  rw [hej] at mj
  refine tr_tail D R T hp (by exact lin [_] (.h 1 (.a 0) (.n 100) <| .g 1 (.a 0) (.n 1000)) (.refl true) hzl.1) hzl.2 hr ms mj fun m s' rv T hp D => hq _ (hQ m s' rv T ?_ D)
  rw [told_rng h1 h2 h3 h4 hb] at hp
  exact hp
end
end Mine
end
-- T11
section
open PySem PySem.Calls PyProof.Rows PySem.W
namespace Mine
theorem Parts.last {st vs ps} (h : Parts st vs ps) : (ps.getLast? = some none → vs.getLast? = some (.ref st)) ∧ (∀ y, ps.getLast? = some (some y) → ∃ t, vs.getLast? = some (.str (S y) t)) := by
  rw [List.getLast?_eq_getElem?, List.getLast?_eq_getElem?, h.length]
  exact ⟨fun e => h.at_star e, fun y e => h.at_str e⟩
theorem opn_bang (b : Bool) : opn b = 91 :: bang b := by cases b <;> rfl
section
variable {prog : Program} {C : Cx} {A : Around} {s₀ s : Shared} {L a : Addr} {m : Str → Option Value} {led : List (Addr × Cell)} {fd : FuncData} {env : Env}
/-- one turn takes one item -/
theorem tr_turn {it : Item} {x post : List Nat} {st res bm : Addr} {rv : List Value} {ps : List (Option (List Nat))} {i : Nat} {Q : Flow → Shared → Prop} (D : Led C s₀ L m [(bm, .obj (boundObj res)), (res, .list rv)] s) (R : Room A 4) (T : TM m x st res bm i)
    (hok : OkItem it) (hp : Parts st rv ps) (hr : rv.length ≤ 100000) (hx : x.drop i = it.written ++ post) (hlen : x.length ≤ 100000)
    (hQ : ∀ m s' rv, TM m x st res bm (i + it.written.length) → Parts st rv (pstep ps it) → Led C s₀ L m [(bm, .obj (boundObj res)), (res, .list rv)] s' → Q .next s') :
    W prog C A (execs b125 (env125 L)) Q s := by
  have hlx : x.length - i = it.written.length + post.length := by
    have := congrArg List.length hx
    simp at this; exact this
  obtain ⟨tp, mp⟩ := T.pat
  obtain ⟨ti, mi⟩ := T.i
  -- the first sign
  have head : ∀ {c : Nat} {w : List Nat}, it.written = c :: w → (∀ {m s'} (tc : Tok), TM m x st res bm (i + 1) → m (Str.ofString "c") = some (.str (S [c]) tc) → Led C s₀ L m [(bm, .obj (boundObj res)), (res, .list rv)] s' → W prog C A (execs (b125.drop 2) (env125 L)) Q s') → W prog C A (execs b125 (env125 L)) Q s := by
    intro c w hw k
    have hc : x[i]? = some c := by
      have := drop_at (t := 0) hx
      rw [Nat.add_zero] at this
      rw [this, hw]; rfl
    have hi : i < x.length := (List.getElem?_eq_some_iff.mp hc).1
    refine x_consL ?_
    intro Qs
    refine x_assign <| e_itemS <| rName D mp ⟨⟨_, _, rfl⟩, rName D mi <| i_str D hc (by exact lin [_, _] (.h 1 (.a 0) (.n 100000) <| .l 1 (.a 1) (.a 0) <| .j 1 (.a 1) (.n 4611686018427387904)) (.refl true) hlen hi) fun tc s' D => rStore D fun s' D => ?_⟩
    have T := T.set (y := Str.ofString "c") (v := .str (S [c]) tc)
    refine x_consL ?_
    intro Qs
    refine x_assign <| e_bin <| rName D (by exact mi) <| rIntN 1 D fun t s' D => rAddN D fun t s' D => rStore D fun s' D => ?_
    exact k tc (T.setI t) (by exact rfl) D
  have hrl := hp.length
  have brack : ∀ {m s' Q'} (tc : Tok), m (Str.ofString "c") = some (.str (S [91]) tc) → Led C s₀ L m [(bm, .obj (boundObj res)), (res, .list rv)] s' → (∀ s', Led C s₀ L m [(bm, .obj (boundObj res)), (res, .list rv)] s' → W prog C A (execs brk125 (env125 L)) Q' s') → (∀ s', Q' .next s' → Q .next s') → (∀ s' v, Q' (.ret v) s' → False) → (∀ s', Q' .brk s' → False) → (∀ s', Q' .cont s' → False) → W prog C A (execs (b125.drop 2) (env125 L)) Q s' := by
    intro m s' Q' tc mc D k q1 q2 q3 q4
    refine x_consL ?_
    intro Qs
    refine x_if ?_
    intro Qi
    refine t_cmp <| rName D mc <| rStrS [42] D fun t s' D => rEqS ⟨_, rfl, rIfF (by decide) ?_⟩
    refine x_consL ?_
    intro Qs
    refine x_if ?_
    intro Qi
    refine t_cmp <| rName D mc <| rStrS [63] D fun t s' D => rEqS ⟨_, rfl, rIfF (by decide) ?_⟩
    refine x_consL ?_
    intro Qs
    refine x_if ?_
    intro Qi
    refine t_cmp <| rName D mc <| rStrS [91] D fun t s' D => rEqS ⟨_, rfl, rIfT (by decide) ?_⟩
    refine (k _ D).mono fun f s' q => ?_
    cases f with
    | next => exact x_nil <| x_nil <| x_nil <| q1 _ q
    | ret v => exact (q2 _ _ q).elim
    | brk => exact (q3 _ q).elim
    | cont => exact (q4 _ q).elim
  cases it with
  | lit c =>
    obtain ⟨⟨h1, h2⟩, h3, h4, h5⟩ := hok
    refine head (w := []) rfl fun tc T mc D => ?_
    refine x_consL ?_
    intro Qs
    refine x_if ?_
    intro Qi
    refine t_cmp <| rName D mc <| rStrS [42] D fun t s' D => rEqS ⟨_, rfl, rIfF (by simpa using h3) ?_⟩
    refine x_consL ?_
    intro Qs
    refine x_if ?_
    intro Qi
    refine t_cmp <| rName D mc <| rStrS [63] D fun t s' D => rEqS ⟨_, rfl, rIfF (by simpa using h4) ?_⟩
    refine x_consL ?_
    intro Qs
    refine x_if ?_
    intro Qi
    refine t_cmp <| rName D mc <| rStrS [91] D fun t s' D => rEqS ⟨_, rfl, rIfF (by simpa using h5) ?_⟩
    refine x_consL ?_
    intro Qs
    refine x_expr <| e_add D T.add <| e_def D.now g_escape F118.2 <| a_cons <| rName D mc <| a_nil ⟨D.now, escape_spec D.now R h1 h2 fun t s' nx => ?_⟩
    have D := D.step nx
    refine ⟨_, _, _, _, 1, 0, _, _, D, rfl, rfl, by simp [sizeLine]; exact lin [_] (.h 1 (.a 0) (.n 100000) <| .g 1 (.a 0) (.n 16777216)) (.refl true) hr, fun s' D => x_nil <| x_nil <| x_nil <| x_nil ?_⟩
    refine hQ _ _ _ T ?_ D
    have e : told (.lit c) = outer c := by simp [told, Item.pieces]
    show Parts st _ (ps ++ [some (told (.lit c))])
    rw [e]
    exact hp.app (.str _ _ .nil)
  | any =>
    refine head (w := []) rfl fun tc T mc D => ?_
    refine x_consL ?_
    intro Qs
    refine x_if ?_
    intro Qi
    refine t_cmp <| rName D mc <| rStrS [42] D fun t s' D => rEqS ⟨_, rfl, rIfF (by decide) ?_⟩
    refine x_consL ?_
    intro Qs
    refine x_if ?_
    intro Qi
    refine t_cmp <| rName D mc <| rStrS [63] D fun t s' D => rEqS ⟨_, rfl, rIfT (by decide) ?_⟩
    obtain ⟨tq, mq⟩ := T.q
    refine x_consL ?_
    intro Qs
    refine x_expr <| e_add D T.add <| rName D mq ⟨_, _, _, _, 1, 0, _, _, D, rfl, rfl, by simp [sizeLine]; exact lin [_] (.h 1 (.a 0) (.n 100000) <| .g 1 (.a 0) (.n 16777216)) (.refl true) hr, fun s' D => x_nil <| x_nil <| x_nil ?_⟩
    exact hQ _ _ _ T (hp.app (.str _ _ .nil)) D
  | star =>
    refine head (w := []) rfl @fun m2 s2 tc T mc D => ?_
    refine x_consL ?_
    intro Qs
    refine x_if ?_
    intro Qi
    refine t_cmp <| rName D mc <| rStrS [42] D fun t s' D => rEqS ⟨_, rfl, rIfT (by decide) ?_⟩
    have put : ∀ {s' Q'}, ps.getLast? ≠ some none → Led C s₀ L m2 [(bm, .obj (boundObj res)), (res, .list rv)] s' → (∀ s', Q .next s' → Q' .next s') → W prog C A (execs (ifB ((ifB (b125[2]?))[0]?)) (env125 L)) Q' s' := by
      intro s' Q' hl D hq
      refine x_consL ?_
      intro Qs
      refine x_expr <| e_add D T.add <| rName D T.st ⟨_, _, _, _, 1, 0, _, _, D, rfl, rfl, by simp [sizeLine]; exact lin [_] (.h 1 (.a 0) (.n 100000) <| .g 1 (.a 0) (.n 16777216)) (.refl true) hr, fun s' D => x_nil <| hq _ ?_⟩
      refine hQ _ _ _ T ?_ D
      show Parts st _ (if ps.getLast? = some none then ps else ps ++ [none])
      rw [if_neg hl]
      exact hp.app (.star .nil)
    refine x_consL ?_
    intro Qs
    refine x_if ?_
    intro Qi
    refine t_bool <| t_or <| t_not <| t_val <| rName D T.res <| trL D (D.nth 1 rfl) (by simp [sizeLine]; exact lin [_] (.h 1 (.a 0) (.n 100000) <| .g 1 (.a 0) (.n 16777216)) (.refl true) hr) fun s' D => rIf (fun hb => ?_) (fun hb => ?_)
    · have hv : rv = [] := by simpa using hb
      have hps : ps = [] := by rw [hv] at hrl; exact List.length_eq_zero_iff.mp hrl.symm
      exact rIfT rfl (put (by rw [hps]; simp) D fun s' q => x_nil <| x_nil q)
    · have hv : rv ≠ [] := by simpa using hb
      have hps : ps ≠ [] := by
        intro q
        rw [q] at hrl
        exact hv (List.length_eq_zero_iff.mp hrl)
      obtain ⟨l1, l2⟩ := hp.last
      cases hl : ps.getLast? with
      | none => exact absurd (List.getLast?_eq_none_iff.mp hl) hps
      | some o =>
        cases o with
        | none =>
          refine t_or <| t_cmp <| e_item <| rName D T.res <| e_m1i D fun t s' D => i_list_last (D.nth 1 rfl) (l1 hl) <| rName D T.st <| isNot_self ⟨_, rfl, rIfF rfl <| t_or0 <| rIfF rfl <| x_nil <| x_nil <| x_nil ?_⟩
          refine hQ _ _ _ T ?_ D
          show Parts st _ (if ps.getLast? = some none then ps else ps ++ [none])
          rw [if_pos hl]
          exact hp
        | some y =>
          obtain ⟨t0, e0⟩ := l2 y hl
          refine t_or <| t_cmp <| e_item <| rName D T.res <| e_m1i D fun t s' D => i_list_last (D.nth 1 rfl) e0 <| rName D T.st <| isNot_str_ref ⟨_, rfl, rIfT rfl <| rIfT rfl ?_⟩
          exact put (by rw [hl]; simp) D fun s' q => x_nil <| x_nil q
  | one b c =>
    have ew : (Item.one b c).written = 91 :: (bang b ++ [c] ++ [93]) := by show opn b ++ [c] ++ [93] = _; rw [opn_bang]; simp
    refine head ew fun tc T mc D => ?_
    have hx2 : x.drop (i + 1) = (bang b ++ [c]) ++ 93 :: post := by
      rw [← List.drop_drop, hx, ew]; simp
    refine brack (Q' := fun f s' => match f with | .next => Q .next s' | _ => False) tc mc D (fun s' D => tr_one D R T hok hp hr hx2 hlen fun m s' rv T hp D => hQ m s' rv ?_ hp D) (fun _ q => q) (fun _ _ q => q) (fun _ q => q) (fun _ q => q)
    have e : i + (Item.one b c).written.length = i + 1 + (bang b).length + 2 := by rw [ew]; simp; exact Nat.le_antisymm (lin [_, _] (.g 1 (.p (.a 0) (.p (.p (.a 1) (.n 2)) (.n 1))) (.p (.p (.p (.a 0) (.n 1)) (.a 1)) (.n 2))) (.refl true)) (lin [_, _] (.g 1 (.p (.p (.p (.a 0) (.n 1)) (.a 1)) (.n 2)) (.p (.a 0) (.p (.p (.a 1) (.n 2)) (.n 1)))) (.refl true))
    rw [e]; exact T
  | rng b c d =>
    have ew : (Item.rng b c d).written = 91 :: (bang b ++ [c, 45, d] ++ [93]) := by show opn b ++ [c] ++ [45] ++ [d] ++ [93] = _; rw [opn_bang]; simp
    refine head ew fun tc T mc D => ?_
    have hx2 : x.drop (i + 1) = (bang b ++ [c, 45, d]) ++ 93 :: post := by
      rw [← List.drop_drop, hx, ew]; simp
    refine brack (Q' := fun f s' => match f with | .next => Q .next s' | _ => False) tc mc D (fun s' D => tr_rng' D R T hok hp hr hx2 hlen fun m s' rv T hp D => hQ m s' rv ?_ hp D) (fun _ q => q) (fun _ _ q => q) (fun _ q => q) (fun _ q => q)
    have e : i + (Item.rng b c d).written.length = i + 1 + (bang b).length + 4 := by rw [ew]; simp; exact Nat.le_antisymm (lin [_, _] (.g 1 (.p (.a 0) (.p (.p (.a 1) (.n 4)) (.n 1))) (.p (.p (.p (.a 0) (.n 1)) (.a 1)) (.n 4))) (.refl true)) (lin [_, _] (.g 1 (.p (.p (.p (.a 0) (.n 1)) (.a 1)) (.n 4)) (.p (.a 0) (.p (.p (.a 1) (.n 4)) (.n 1)))) (.refl true))
    rw [e]; exact T
end
end Mine
end
-- T12
section
open PySem PySem.Calls PyProof.Rows PySem.W
namespace Mine
noncomputable def flatW (its : List Item) : List Nat := its.flatMap Item.written
noncomputable def partsG (p : List Item × List (List Item)) : List (Option (List Nat)) := (toldG p.1).map some ++ gsParts (p.2.map toldG)
noncomputable def transOf (its : List Item) : List Nat := wrapT ((toldG (grp its).1).flatten ++ jn ((grp its).2.map toldG))
theorem last_or {α : Type} (l : List α) : l = [] ∨ ∃ i x, l = i ++ [x] := by
  cases h : l.getLast? with
  | none => exact .inl (List.getLast?_eq_none_iff.mp h)
  | some x =>
    have hne : l ≠ [] := by rintro rfl; simp at h
    exact .inr ⟨l.dropLast, l.getLast hne, (List.dropLast_concat_getLast hne).symm⟩
theorem gsParts_app (a b : List (List (List Nat))) : gsParts (a ++ b) = gsParts a ++ gsParts b := by simp [gsParts]
theorem gs_star0 {g0 : List Item} {it : Item} (h : isStar it = true) : grpStep (g0, []) it = (g0, [[]]) := by unfold grpStep; rw [if_pos h]; rfl
theorem gs_star1 {g0 : List Item} {init : List (List Item)} {it : Item} (h : isStar it = true) : grpStep (g0, init ++ [[]]) it = (g0, init ++ [[]]) := by
  unfold grpStep; rw [if_pos h]; simp only [List.getLast?_append, List.getLast?_singleton, Option.some_or]
theorem gs_star2 {g0 : List Item} {init : List (List Item)} {g : List Item} {it : Item} (h : isStar it = true) (hg : g ≠ []) : grpStep (g0, init ++ [g]) it = (g0, init ++ [g] ++ [[]]) := by
  unfold grpStep; rw [if_pos h]; simp only [List.getLast?_append, List.getLast?_singleton, Option.some_or]
theorem gs_it0 {g0 : List Item} {it : Item} (h : ¬ isStar it = true) : grpStep (g0, []) it = (g0 ++ [it], []) := by unfold grpStep; rw [if_neg h]; rfl
theorem gs_it1 {g0 : List Item} {init : List (List Item)} {g : List Item} {it : Item} (h : ¬ isStar it = true) : grpStep (g0, init ++ [g]) it = (g0, init ++ [g ++ [it]]) := by
  unfold grpStep; rw [if_neg h]; simp only [List.getLast?_append, List.getLast?_singleton, Option.some_or, List.dropLast_concat]
theorem last_some (X : List (Option (List Nat))) (g : List (List Nat)) (h : X.getLast? ≠ some none ∨ g ≠ []) : (X ++ g.map some).getLast? ≠ some none := by
  rcases last_or g with rfl | ⟨i, y, rfl⟩
  · simpa using h
  · simp
theorem pstep_grp (p : List Item × List (List Item)) (it : Item) : pstep (partsG p) it = partsG (grpStep p it) := by
  obtain ⟨g0, gs⟩ := p
  by_cases hs : isStar it = true
  · rcases last_or gs with rfl | ⟨init, g, rfl⟩
    · rw [gs_star0 hs]
      unfold pstep partsG
      rw [if_pos hs, if_neg]
      · simp [gsParts, toldG]
      · have := last_some [] (toldG g0) (.inl (by simp))
        simpa [gsParts] using this
    · cases g with
      | nil =>
        rw [gs_star1 hs]
        unfold pstep partsG
        rw [if_pos hs, if_pos]
        rw [List.map_append, gsParts_app]
        simp [gsParts, toldG]
      | cons y g =>
        rw [gs_star2 hs (by simp)]
        unfold pstep partsG
        rw [if_pos hs, if_neg]
        · simp [gsParts, toldG]
        · have := last_some ((toldG g0).map some ++ gsParts (init.map toldG) ++ [none]) (toldG (y :: g)) (.inr (by simp [toldG]))
          rw [List.map_append, gsParts_app]
          have e : (toldG g0).map some ++ (gsParts (init.map toldG) ++ gsParts ([y :: g].map toldG)) = (toldG g0).map some ++ gsParts (init.map toldG) ++ [none] ++ (toldG (y :: g)).map some := by simp [gsParts]
          rw [e]; exact this
  · rcases last_or gs with rfl | ⟨init, g, rfl⟩
    · rw [gs_it0 hs]
      unfold pstep partsG
      rw [if_neg hs]
      simp [gsParts, toldG]
    · rw [gs_it1 hs]
      unfold pstep partsG
      rw [if_neg hs]
      simp [gsParts, toldG]
theorem parts_grp : ∀ (its : List Item) (p : List Item × List (List Item)), its.foldl pstep (partsG p) = partsG (its.foldl grpStep p)
  | [], _ => rfl
  | it :: r, p => by rw [List.foldl_cons, List.foldl_cons, pstep_grp, parts_grp r]
theorem parts_of (its : List Item) : its.foldl pstep [] = (toldG (grp its).1).map some ++ gsParts ((grp its).2.map toldG) := parts_grp its ([], [])
theorem grpStep_mid (p : List Item × List (List Item)) (it : Item) (h : ∀ g ∈ p.2.dropLast, g ≠ []) : ∀ g ∈ (grpStep p it).2.dropLast, g ≠ [] := by
  obtain ⟨g0, gs⟩ := p
  by_cases hs : isStar it = true
  · rcases last_or gs with rfl | ⟨init, g, rfl⟩
    · rw [gs_star0 hs]; simp
    · simp only [List.dropLast_concat] at h
      cases g with
      | nil => rw [gs_star1 hs]; simpa using h
      | cons x g =>
        rw [gs_star2 hs (by simp)]
        simp only [List.dropLast_concat]
        intro y hy
        rcases List.mem_append.mp hy with hy | hy
        · exact h y hy
        · simp at hy; rw [hy]; simp
  · rcases last_or gs with rfl | ⟨init, g, rfl⟩
    · rw [gs_it0 hs]; simp
    · rw [gs_it1 hs]; simpa using h
theorem grp_mid' : ∀ (its : List Item) (p : List Item × List (List Item)), (∀ g ∈ p.2.dropLast, g ≠ []) → ∀ g ∈ (its.foldl grpStep p).2.dropLast, g ≠ []
  | [], _, h => h
  | it :: r, p, h => grp_mid' r _ (grpStep_mid p it h)
theorem grp_mid (its : List Item) : ∀ g ∈ ((grp its).2.map toldG).dropLast, g ≠ [] := by
  intro g hg
  rw [← List.map_dropLast] at hg
  obtain ⟨y, hy, rfl⟩ := List.mem_map.mp hg
  have := grp_mid' its ([], []) (by simp) y hy
  simpa [toldG] using this
theorem told_len (it : Item) : (told it).length ≤ 8 := by
  have ho : ∀ c, (outer c).length ≤ 2 := fun c => by unfold outer; split <;> simp
  have hi : ∀ c, (inner c).length ≤ 2 := fun c => by unfold inner; split <;> simp
  have hf : ∀ b c, (first b c).length ≤ 2 := fun b c => by
    unfold first; split
    · simp
    · exact hi c
  have hfr : ∀ b, ((front b).flatten).length ≤ 2 := fun b => by cases b <;> decide
  unfold told
  cases it with
  | lit c => show ([outer c] : List (List Nat)).flatten.length ≤ 8; simpa using Nat.le_trans (ho c) (by decide)
  | any => decide
  | star => decide
  | one b c =>
    have h1 := hf b c
    have h2 := hfr b
    show (front b ++ [first b c, [93]]).flatten.length ≤ 8
    simp only [List.flatten_append, List.length_append]
    simp at h2 ⊢
    exact lin [_, _] (.h 1 (.a 0) (.n 2) <| .h 1 (.a 1) (.n 2) <| .g 1 (.p (.a 1) (.p (.a 0) (.n 1))) (.n 8)) (.refl true) h1 h2
  | rng b c d =>
    have h1 := hf b c
    have h2 := hfr b
    have h3 := hi d
    show (if c ≤ d then front b ++ [first b c, [45], inner d, [93]] else if b then [[46]] else [[40], [63], [33], [41]]).flatten.length ≤ 8
    split
    · simp only [List.flatten_append, List.length_append]
      simp at h2 ⊢
      exact lin [_, _, _] (.h 1 (.a 0) (.n 2) <| .h 1 (.a 1) (.n 2) <| .h 1 (.a 2) (.n 2) <| .g 1 (.p (.a 2) (.p (.a 0) (.p (.p (.a 1) (.n 1)) (.n 1)))) (.n 8)) (.refl true) h1 h3 h2
    · split <;> simp
noncomputable def gsum (p : List Item × List (List Item)) : Nat := (toldG p.1).flatten.length + (p.2.map fun g => (toldG g).flatten.length).sum
theorem gsum_step (p : List Item × List (List Item)) (it : Item) : gsum (grpStep p it) ≤ gsum p + 8 ∧ (grpStep p it).2.length ≤ p.2.length + 1 := by
  obtain ⟨g0, gs⟩ := p
  have ht := told_len it
  by_cases hs : isStar it = true
  · rcases last_or gs with rfl | ⟨init, g, rfl⟩
    · rw [gs_star0 hs]; unfold gsum; simp [toldG]
    · cases g with
      | nil => rw [gs_star1 hs]; unfold gsum; simp
      | cons x g => rw [gs_star2 hs (by simp)]; unfold gsum; simp [toldG]
  · rcases last_or gs with rfl | ⟨init, g, rfl⟩
    · rw [gs_it0 hs]; unfold gsum; simp [toldG]; exact ht
    · rw [gs_it1 hs]; unfold gsum; simp [toldG]; exact lin [_, _, _, _] (.h 1 (.a 0) (.n 8) <| .g 1 (.p (.a 1) (.p (.a 2) (.p (.a 3) (.a 0)))) (.p (.p (.a 1) (.p (.a 2) (.a 3))) (.n 8))) (.refl true) ht
theorem gsum_fold : ∀ (its : List Item) (p : List Item × List (List Item)), gsum (its.foldl grpStep p) ≤ gsum p + 8 * its.length ∧ (its.foldl grpStep p).2.length ≤ p.2.length + its.length
  | [], _ => by simp
  | it :: r, p => by
    have h1 := gsum_step p it
    have h2 := gsum_fold r (grpStep p it)
    rw [List.foldl_cons, List.length_cons]
    constructor <;> (first | exact lin [_, _, _, _] (.h 1 (.a 0) (.p (.a 1) (.n 8)) <| .h 1 (.a 2) (.p (.a 0) (.m 8 (.a 3))) <| .g 1 (.a 2) (.p (.a 1) (.m 8 (.p (.a 3) (.n 1))))) (.refl true) h1.1 h2.1 | exact lin [_, _, _, _] (.h 1 (.a 0) (.p (.a 1) (.n 1)) <| .h 1 (.a 2) (.p (.a 0) (.a 3)) <| .g 1 (.a 2) (.p (.a 1) (.p (.a 3) (.n 1)))) (.refl true) h1.2 h2.2)
theorem jn_len : ∀ gs : List (List (List Nat)), (jn gs).length ≤ (gs.map fun g => g.flatten.length).sum + 7 * gs.length
  | [] => by simp [jn]
  | [g] => by simp [jn]
  | g :: g' :: r => by
    have := jn_len (g' :: r)
    rw [jn]
    simp at this ⊢
    exact lin [_, _, _, _, _] (.h 1 (.a 0) (.p (.p (.a 1) (.a 2)) (.m 7 (.p (.a 3) (.n 1)))) <| .g 1 (.p (.p (.p (.p (.p (.p (.p (.a 4) (.p (.a 0) (.n 1))) (.n 1)) (.n 1)) (.n 1)) (.n 1)) (.n 1)) (.n 1)) (.p (.p (.a 4) (.p (.a 1) (.a 2))) (.m 7 (.p (.p (.a 3) (.n 1)) (.n 1))))) (.refl true) this
theorem trans_len (its : List Item) : (transOf its).length ≤ 15 * its.length + 7 := by
  have h := gsum_fold its ([], [])
  have h2 := jn_len ((grp its).2.map toldG)
  unfold gsum at h
  unfold transOf wrapT
  unfold grp at *
  simp [Function.comp_def, toldG] at h h2 ⊢
  exact lin [_, _, _, _, _] (.h 1 (.p (.a 0) (.a 1)) (.m 8 (.a 2)) <| .h 7 (.a 3) (.a 2) <| .h 1 (.a 4) (.p (.a 1) (.m 7 (.a 3))) <| .g 1 (.p (.a 0) (.p (.a 4) (.n 3))) (.p (.m 15 (.a 2)) (.n 3))) (.refl true) h.1 h.2 h2
end Mine
end
-- T13
section
open PySem PySem.Calls PyProof.Rows PySem.W
namespace Mine
theorem pstep_len (ps : List (Option (List Nat))) (it : Item) : (pstep ps it).length ≤ ps.length + 1 := by
  unfold pstep
  split
  · split <;> simp
  · simp
theorem pfold_len : ∀ (its : List Item) (ps : List (Option (List Nat))), (its.foldl pstep ps).length ≤ ps.length + its.length
  | [], _ => by simp
  | it :: r, ps => by
    have h1 := pstep_len ps it
    have h2 := pfold_len r (pstep ps it)
    rw [List.foldl_cons, List.length_cons]; exact lin [_, _, _, _] (.h 1 (.a 0) (.p (.a 1) (.n 1)) <| .h 1 (.a 2) (.p (.a 0) (.a 3)) <| .g 1 (.a 2) (.p (.a 1) (.p (.a 3) (.n 1)))) (.refl true) h1 h2
section
variable {prog : Program} {C : Cx} {A : Around} {s₀ s : Shared} {L a : Addr} {m : Str → Option Value} {led : List (Addr × Cell)} {fd : FuncData} {env : Env}
theorem trp_spec {its : List Item} {st : Addr} {t tq : Tok} {Q : Value → Shared → Prop} (P : Prog C s) (R : Room A 5) (hok : ∀ it ∈ its, OkItem it) (hn : its.length ≤ 10000) (hlen : (flatW its).length ≤ 100000)
    (h : ∀ res rv L' m' s', Led C s L' m' [(res, .list rv)] s' → Parts st rv (its.foldl pstep []) → Q (.ref res) s') : W prog C A (call (.ref 125) [.str (S (flatW its)) t, .ref st, .str (S [46]) tq]) Q s := by
  refine rEnter (n := 4) (binds := [(Str.ofString "pat", .str (S (flatW its)) t), (Str.ofString "STAR", .ref st), (Str.ofString "QUESTION_MARK", .str (S [46]) tq)]) P R F125.2 rfl (.of_eq rfl) fun s₁ L R D => ?_
  refine x_consL ?_
  intro Qs
  refine x_assign <| e_list <| a_nil ⟨_, _, _, _, D, Nat.zero_le _, fun res s' D => rStore D fun s' D => ?_⟩
  refine x_consL ?_
  intro Qs
  refine x_assign <| e_bound <| rName D rfl ⟨_, _, _, _, _, _, D, rfl, D.nth 0 rfl, fun bm s' D => rStore D fun s' D => ?_⟩
  refine x_consL ?_
  intro Qs
  refine x_swap <| e_tup <| a_cons <| rIntN 0 D fun t s' D => a_cons <| e_bi D.now b_len <| a_cons <| rName D rfl <| a_nil <| rLenS D (by simp [sizeLine]; exact lin [_] (.h 1 (.a 0) (.n 100000) <| .g 1 (.a 0) (.n 16777216)) (.refl true) hlen) fun t s' D => a_nil ⟨_, _, _, _, D, Nat.le_of_ble_eq_true rfl, fun tp s' D => ⟨_, _, _, _, tp, _, _, D, rfl, D.nth 0 rfl, R.hh, fun s' D => rStore D fun s' D => rStore D fun s' D => ?_⟩⟩
  have D := D.forget (led' := [(bm, .obj (boundObj res)), (res, .list [])]) (.cons _ (.refl _))
  generalize hx : flatW its = x at *
  let Inv1 : Nat → Shared → Prop := fun k s' => Ex4 fun m rest done rv => And5 (k = rest.length) (its = done ++ rest) (TM m x st res bm (flatW done).length) (Parts st rv (done.foldl pstep [])) (Led C s L m [(bm, .obj (boundObj res)), (res, .list rv)] s')
  refine x_consL ?_
  intro Qs
  refine x_while Inv1 its.length
    ⟨_, its, [], [], rfl, rfl, ⟨⟨_, rfl⟩, rfl, ⟨_, rfl⟩, rfl, rfl, ⟨_, rfl⟩, ⟨_, rfl⟩⟩, .nil, D⟩ ?_
  rintro k s' Qb Qi ⟨m, rest, done, rv, rfl, hits, T, hp, D⟩
  obtain ⟨ti, mi⟩ := T.i
  obtain ⟨tn, mn⟩ := T.n
  have hxs : x = flatW done ++ flatW rest := by rw [← hx, hits]; simp [flatW]
  have hpl := pfold_len done []
  have hdl : done.length ≤ its.length := by rw [hits]; simp
  have hrl := hp.length
  refine t_cmp <| rName D mi <| rName D mn <| rLtN ⟨_, rfl, ?_⟩
  cases rest with
  | nil =>
    have e1 : (flatW done).length = x.length := by rw [hxs]; simp [flatW]
    refine rIfF (by simp; exact lin [_, _] (.f 1 (.a 0) (.a 1) <| .g 1 (.a 1) (.a 0)) (.refl true) e1) ?_
    refine x_consL ?_
    intro Qs
    refine x_assert <| t_cmp <| rName D mi <| rName D mn <| rEqN ⟨_, rfl, by simp; exact e1, ?_⟩
    refine x_consL ?_
    intro Qs
    refine x_ret <| rName D T.res ?_
    have e2 : its = done := by rw [hits]; simp
    exact h _ _ _ _ _ (D.forget (.cons _ (.refl _))) (by rw [e2]; exact hp)
  | cons it r =>
    have hw : 1 ≤ it.written.length := by cases it <;> simp [Item.written]
    have e1 : x.length = (flatW done).length + it.written.length + (flatW r).length := by rw [hxs]; simp [flatW]; exact Nat.le_antisymm (lin [_, _, _] (.g 1 (.p (.a 1) (.p (.a 0) (.a 2))) (.p (.p (.a 1) (.a 0)) (.a 2))) (.refl true)) (lin [_, _, _] (.g 1 (.p (.p (.a 1) (.a 0)) (.a 2)) (.p (.a 1) (.p (.a 0) (.a 2)))) (.refl true))
    refine rIfT (by simp; exact lin [_, _, _, _] (.h 1 (.n 1) (.a 0) <| .f 1 (.a 1) (.p (.p (.a 2) (.a 0)) (.a 3)) <| .j 1 (.a 2) (.a 1)) (.refl true) hw e1) ?_
    refine tr_turn (post := flatW r) D R T (hok it (by rw [hits]; simp)) hp (by simp at hpl; exact lin [_, _, _, _] (.h 1 (.a 0) (.n 10000) <| .h 1 (.a 1) (.a 0) <| .e 1 (.a 2) (.a 3) <| .h 1 (.a 3) (.a 1) <| .g 1 (.a 2) (.n 100000)) (.refl true) hn hdl hrl hpl) (by rw [hxs, List.drop_left' rfl]; simp [flatW]) (by exact hlen) fun m s' rv T hp D => ?_
    refine ⟨r.length, by simp, m, r, done ++ [it], rv, rfl, by rw [hits]; simp, ?_, by rw [List.foldl_append]; exact hp, D⟩
    have e2 : (flatW (done ++ [it])).length = (flatW done).length + it.written.length := by simp [flatW]
    rw [e2]; exact T
theorem translate_spec {its : List Item} {t : Tok} {Q : Value → Shared → Prop} (P : Prog C s) (R : Room A 6) (hok : ∀ it ∈ its, OkItem it) (hn : its.length ≤ 10000) (hlen : (flatW its).length ≤ 100000)
    (h : ∀ t s', Next C.N s s' → Q (.str (S (transOf its)) t) s') : W prog C A (call (.ref 106) [.str (S (flatW its)) t]) Q s := by
  refine rEnter (n := 5) (binds := [(Str.ofString "pat", .str (S (flatW its)) t)]) P R F106.2 rfl (.of_eq rfl) fun s₁ L R D => ?_
  refine x_consL ?_
  intro Qs
  refine x_assign <| e_ty D.now b_object <| a_nil <| rObject D fun st s' D => rStore D fun s' D => ?_
  refine x_consL ?_
  intro Qs
  refine x_assign <| e_def D.now g_translate1 F125.2 <| a_cons <| rName D rfl <| a_cons <| rName D rfl <| a_cons <| rStrS [46] D fun t s' D => a_nil ⟨D.now, ?_⟩
  refine trp_spec D.now R hok hn hlen fun res rv L' m' s' D' hp => ?_
  have D := D.adopt D'
  refine rStore D fun s' D => ?_
  refine x_consL ?_
  intro Qs
  refine x_ret <| e_def D.now g_jtp F132.2 <| a_cons <| rName D rfl <| a_cons <| rName D rfl <| a_nil ⟨D.now, ?_⟩
  have hl := pfold_len its []
  have hrl := hp.length
  rw [parts_of] at hp
  have hsum := gsum_fold its ([], [])
  have htl := trans_len its
  refine jtp_spec (B := 100000) D.now (R.mono (by decide)) hp (grp_mid its) (D.nth 0 rfl) (by simp at hl; exact lin [_, _, _] (.h 1 (.a 0) (.n 10000) <| .e 1 (.a 1) (.a 2) <| .h 1 (.a 2) (.a 0) <| .g 1 (.a 1) (.n 100000)) (.refl true) hn hrl hl) ?_ (by decide) ?_ fun t s' nx => h t s' (D.next.trans nx)
  · unfold gsum at hsum
    unfold grp
    simp [Function.comp_def, toldG] at hsum ⊢
    exact lin [_, _, _] (.h 8 (.a 0) (.n 10000) <| .h 1 (.p (.a 1) (.a 2)) (.m 8 (.a 0)) <| .g 1 (.a 2) (.n 100000)) (.refl true) hn hsum.1
  · unfold transOf wrapT at htl
    simp at htl ⊢
    exact lin [_, _, _] (.h 15 (.a 0) (.n 10000) <| .h 1 (.p (.a 1) (.p (.a 2) (.n 3))) (.p (.m 15 (.a 0)) (.n 3)) <| .g 1 (.p (.a 1) (.a 2)) (.n 1000000)) (.refl true) hn htl
end
end Mine
end
-- P1
section
open PySem PySem.Calls PyProof.Rows PySem.W
namespace Mine
/-- a piece: one sign, or a backslash and a sign -/
noncomputable def PieceOk (p : List Nat) : Prop := (∃ c, p = [c] ∧ c ≠ 92 ∧ okc c) ∨ ∃ c, p = [92, c] ∧ c ≠ 34 ∧ okc c
noncomputable def lastOf (p : List Nat) : Nat := p.getLastD 0
noncomputable def lasts (ps : List (List Nat)) : List Nat := ps.map lastOf
theorem pk_one {c : Nat} (h : okc c) (h2 : c ≠ 92) : PieceOk [c] := .inl ⟨c, rfl, h2, h⟩
theorem pk_two {c : Nat} (h : okc c) (h2 : c ≠ 34) : PieceOk [92, c] := .inr ⟨c, rfl, h2, h⟩
theorem outer_ok {c : Nat} (h : okc c) : PieceOk (outer c) := by
  unfold outer
  split
  · rename_i hc; exact pk_two h (by rintro rfl; revert hc; decide)
  · rename_i hc; exact pk_one h (by rintro rfl; exact hc (by decide))
theorem inner_ok {c : Nat} (h : okc c) : PieceOk (inner c) := by
  unfold inner
  split
  · rename_i hc; exact pk_two h (by rintro rfl; revert hc; decide)
  · rename_i hc; exact pk_one h (by rintro rfl; exact hc (by decide))
theorem first_ok {b : Bool} {c : Nat} (h : okc c) : PieceOk (first b c) := by
  unfold first
  split
  · rename_i hc
    refine pk_two h ?_
    rintro rfl
    revert hc; cases b <;> decide
  · exact inner_ok h
theorem pieces_ok {it : Item} (h : OkItem it) : ∀ p ∈ it.pieces, PieceOk p := by
  have hs : ∀ c : Nat, 32 ≤ c → c < 127 → c ≠ 92 → PieceOk [c] := fun c h1 h2 h3 => pk_one ⟨h1, h2⟩ h3
  have hf : ∀ b, ∀ p ∈ front b, PieceOk p := by
    intro b p hp
    cases b <;> simp [front] at hp
    · subst hp; exact hs _ (by decide) (by decide) (by decide)
    · rcases hp with rfl | rfl <;> exact hs _ (by decide) (by decide) (by decide)
  cases it with
  | lit c => intro p hp; simp [Item.pieces] at hp; subst hp; exact outer_ok h.1
  | any => intro p hp; simp [Item.pieces] at hp; subst hp; exact hs _ (by decide) (by decide) (by decide)
  | star => intro p hp; simp [Item.pieces] at hp
  | one b c =>
    intro p hp
    rcases List.mem_append.mp (show p ∈ front b ++ [first b c, [93]] from hp) with hp | hp
    · exact hf b p hp
    · simp at hp
      rcases hp with rfl | rfl
      · exact first_ok h.1
      · exact hs _ (by decide) (by decide) (by decide)
  | rng b c d =>
    intro p hp
    have hp : p ∈ (if c ≤ d then front b ++ [first b c, [45], inner d, [93]] else if b then [[46]] else [[40], [63], [33], [41]]) := hp
    split at hp
    · rcases List.mem_append.mp hp with hp | hp
      · exact hf b p hp
      · simp at hp
        rcases hp with rfl | rfl | rfl | rfl
        · exact first_ok h.1
        · exact hs _ (by decide) (by decide) (by decide)
        · exact inner_ok h.2.1
        · exact hs _ (by decide) (by decide) (by decide)
    · split at hp
      · simp at hp; subst hp; exact hs _ (by decide) (by decide) (by decide)
      · simp at hp
        rcases hp with rfl | rfl | rfl | rfl <;> exact hs _ (by decide) (by decide) (by decide)
/-! a row of pieces, read in marks -/
theorem repl34 (x : List Nat) : ∀ {c}, repl 34 [92, 34] (c :: x) = (if c = 34 then [92, 34] else [c]) ++ repl 34 [92, 34] x := rfl
theorem pieces_body : ∀ {ps : List (List Nat)}, (∀ p ∈ ps, PieceOk p) → Body (repl 34 [92, 34] ps.flatten) ∧ unesc (repl 34 [92, 34] ps.flatten) = lasts ps
  | [], _ => ⟨.nil, rfl⟩
  | p :: ps, h => by
    obtain ⟨b, u⟩ := pieces_body (ps := ps) fun q hq => h q (List.mem_cons_of_mem _ hq)
    rw [List.flatten_cons, repl_app]
    rcases h p (List.mem_cons_self ..) with ⟨c, rfl, h1, h2, h3⟩ | ⟨c, rfl, h1, h2, h3⟩
    · by_cases hc : c = 34
      · subst hc
        have e : repl 34 [92, 34] [34] = [92, 34] := rfl
        rw [e]
        refine ⟨.two (by decide) b, ?_⟩
        show unesc (92 :: 34 :: repl 34 [92, 34] ps.flatten) = _
        rw [unesc_two, u]; rfl
      · have e : repl 34 [92, 34] [c] = [c] := by simp [repl, hc]
        rw [e]
        refine ⟨.one h1 hc b, ?_⟩
        show unesc (c :: repl 34 [92, 34] ps.flatten) = _
        rw [unesc_one h1, u]; rfl
    · have e : repl 34 [92, 34] [92, c] = [92, c] := by simp [repl, h1]
      rw [e]
      refine ⟨.two (by exact fun qq => lin [_] (.h 1 (.n 32) (.a 0) <| .e 1 (.a 0) (.n 10) <| .z) (.refl true) h2 qq) b, ?_⟩
      show unesc (92 :: c :: repl 34 [92, 34] ps.flatten) = _
      rw [unesc_two, u]; rfl
theorem pieces_pr {ps : List (List Nat)} (h : ∀ p ∈ ps, PieceOk p) : Pr ps.flatten := by
  intro c hc
  obtain ⟨p, hp, hcp⟩ := List.mem_flatten.mp hc
  rcases h p hp with ⟨d, rfl, _, h2, h3⟩ | ⟨d, rfl, _, h2, h3⟩
  · simp at hcp; subst hcp; exact ⟨h2, h3⟩
  · simp at hcp
    rcases hcp with rfl | rfl
    · decide
    · exact ⟨h2, h3⟩
theorem pieces_cnt : ∀ {ps : List (List Nat)}, (∀ p ∈ ps, PieceOk p) → (∀ c, c ≠ 92 → ps.flatten.count c = (lasts ps).count c) ∧ (lasts ps).count 92 ≤ ps.flatten.count 92 ∧ (lasts ps).length ≤ ps.flatten.length
  | [], _ => ⟨fun _ _ => rfl, Nat.le_refl _, Nat.le_refl _⟩
  | p :: ps, h => by
    obtain ⟨k1, k2, k3⟩ := pieces_cnt (ps := ps) fun q hq => h q (List.mem_cons_of_mem _ hq)
    have el : lasts (p :: ps) = lastOf p :: lasts ps := rfl
    rw [List.flatten_cons, el]
    rcases h p (List.mem_cons_self ..) with ⟨c, rfl, h1, h2, h3⟩ | ⟨c, rfl, h1, h2, h3⟩
    · show (∀ d, d ≠ 92 → (c :: ps.flatten).count d = (c :: lasts ps).count d) ∧ (c :: lasts ps).count 92 ≤ (c :: ps.flatten).count 92 ∧ (c :: lasts ps).length ≤ (c :: ps.flatten).length
      refine ⟨fun d hd => ?_, ?_, by simp only [List.length_cons]; exact lin [_, _] (.h 1 (.a 0) (.a 1) <| .g 1 (.p (.a 0) (.n 1)) (.p (.a 1) (.n 1))) (.refl true) k3⟩
      · rw [List.count_cons, List.count_cons, k1 d hd]
      · rw [List.count_cons, List.count_cons]; exact lin [_, _, _] (.h 1 (.a 0) (.a 1) <| .g 1 (.p (.a 0) (.a 2)) (.p (.a 1) (.a 2))) (.refl true) k2
    · show (∀ d, d ≠ 92 → (92 :: c :: ps.flatten).count d = (c :: lasts ps).count d) ∧ (c :: lasts ps).count 92 ≤ (92 :: c :: ps.flatten).count 92 ∧ (c :: lasts ps).length ≤ (92 :: c :: ps.flatten).length
      refine ⟨fun d hd => ?_, ?_, by simp only [List.length_cons]; exact lin [_, _] (.h 1 (.a 0) (.a 1) <| .g 1 (.p (.a 0) (.n 1)) (.p (.p (.a 1) (.n 1)) (.n 1))) (.refl true) k3⟩
      · rw [List.count_cons, List.count_cons, List.count_cons, k1 d hd]
        have : (92 == d) = false := by simpa using hd.symm
        rw [this]; simp
      · rw [List.count_cons, List.count_cons, List.count_cons]; exact lin [_, _, _, _] (.h 1 (.a 0) (.a 1) <| .g 1 (.p (.a 0) (.a 2)) (.p (.p (.a 1) (.a 2)) (.a 3))) (.refl true) k2
noncomputable def rowOf (its : List Item) : List (List Nat) := row (pieceG (grp its).1) ((grp its).2.map pieceG)
theorem rowOf_flatten (its : List Item) : (rowOf its).flatten = transOf its := by
  unfold rowOf transOf
  rw [row_flatten, told_piece]
  congr 2
  refine jn_congr ?_
  rw [List.map_map, List.map_map]
  exact List.map_congr_left fun g _ => (told_piece g).symm
theorem rowJn_mem : ∀ {gs : List (List (List Nat))} {p : List Nat}, p ∈ rowJn gs → p = [46] ∨ p = [42] ∨ p = [40] ∨ p = [63] ∨ p = [62] ∨ p = [41] ∨ ∃ g ∈ gs, p ∈ g
  | [], p, h => by simp [rowJn] at h
  | [g], p, h => by
    simp [rowJn] at h
    rcases h with rfl | rfl | h
    · simp
    · simp
    · exact .inr (.inr (.inr (.inr (.inr (.inr ⟨g, by simp, h⟩)))))
  | g :: g' :: r, p, h => by
    rw [rowJn] at h
    simp only [List.mem_append] at h
    rcases h with ((h | h) | h) | h
    · simp at h
      rcases h with rfl | rfl | rfl | rfl | rfl | rfl <;> simp
    · exact .inr (.inr (.inr (.inr (.inr (.inr ⟨g, by simp, h⟩)))))
    · simp at h; simp [h]
    · rcases rowJn_mem h with h | h | h | h | h | h | ⟨q, hq, h⟩
      · simp [h]
      · simp [h]
      · simp [h]
      · simp [h]
      · simp [h]
      · simp [h]
      · exact .inr (.inr (.inr (.inr (.inr (.inr ⟨q, List.mem_cons_of_mem _ hq, h⟩)))))
theorem grp_mem : ∀ (its : List Item) (p : List Item × List (List Item)) (Z : Item → Prop), (∀ it ∈ its, Z it) → (∀ it ∈ p.1, Z it) → (∀ g ∈ p.2, ∀ it ∈ g, Z it) → (∀ it ∈ (its.foldl grpStep p).1, Z it) ∧ (∀ g ∈ (its.foldl grpStep p).2, ∀ it ∈ g, Z it)
  | [], _, _, _, h1, h2 => ⟨h1, h2⟩
  | it :: r, (g0, gs), Z, h, h1, h2 => by
    have hr : ∀ it ∈ r, Z it := fun y hy => h y (List.mem_cons_of_mem _ hy)
    have hit : Z it := h it (List.mem_cons_self ..)
    rw [List.foldl_cons]
    by_cases hs : isStar it = true
    · rcases last_or gs with rfl | ⟨init, g, rfl⟩
      · rw [gs_star0 hs]; exact grp_mem r _ Z hr h1 (by simp)
      · cases g with
        | nil => rw [gs_star1 hs]; exact grp_mem r _ Z hr h1 h2
        | cons x g =>
          rw [gs_star2 hs (by simp)]
          refine grp_mem r _ Z hr h1 fun y hy => ?_
          rcases List.mem_append.mp hy with hy | hy
          · exact h2 y hy
          · simp at hy; subst hy; simp
    · rcases last_or gs with rfl | ⟨init, g, rfl⟩
      · rw [gs_it0 hs]
        refine grp_mem r _ Z hr (fun y hy => ?_) (by simp)
        rcases List.mem_append.mp hy with hy | hy
        · exact h1 y hy
        · simp at hy; subst hy; exact hit
      · rw [gs_it1 hs]
        refine grp_mem r _ Z hr h1 fun y hy => ?_
        rcases List.mem_append.mp hy with hy | hy
        · exact h2 y (List.mem_append_left _ hy)
        · simp at hy; subst hy
          intro z hz
          rcases List.mem_append.mp hz with hz | hz
          · exact h2 g (List.mem_append_right _ (by simp)) z hz
          · simp at hz; subst hz; exact hit
theorem rowOf_ok {its : List Item} (h : ∀ it ∈ its, OkItem it) : ∀ p ∈ rowOf its, PieceOk p := by
  obtain ⟨h1, h2⟩ := grp_mem its ([], []) OkItem h (by simp) (by simp)
  have hs : ∀ c : Nat, 32 ≤ c → c < 127 → c ≠ 92 → PieceOk [c] := fun c h1 h2 h3 => pk_one ⟨h1, h2⟩ h3
  have hg : ∀ g : List Item, (∀ it ∈ g, OkItem it) → ∀ p ∈ pieceG g, PieceOk p := by
    intro g hg p hp
    obtain ⟨it, hit, hp⟩ := List.mem_flatMap.mp hp
    exact pieces_ok (hg it hit) p hp
  intro p hp
  unfold rowOf row at hp
  simp only [List.mem_append] at hp
  rcases hp with ((hp | hp) | hp) | hp
  · simp at hp
    rcases hp with rfl | rfl | rfl | rfl <;> exact hs _ (by decide) (by decide) (by decide)
  · exact hg _ h1 p hp
  · rcases rowJn_mem hp with rfl | rfl | rfl | rfl | rfl | rfl | ⟨g, hgm, hp⟩
    · exact hs _ (by decide) (by decide) (by decide)
    · exact hs _ (by decide) (by decide) (by decide)
    · exact hs _ (by decide) (by decide) (by decide)
    · exact hs _ (by decide) (by decide) (by decide)
    · exact hs _ (by decide) (by decide) (by decide)
    · exact hs _ (by decide) (by decide) (by decide)
    · obtain ⟨y, hy, rfl⟩ := List.mem_map.mp hgm
      exact hg y (h2 y hy) p hp
  · simp at hp
    rcases hp with rfl | rfl
    · exact hs _ (by decide) (by decide) (by decide)
    · exact pk_two ⟨by decide, by decide⟩ (by decide)
end Mine
end
-- P2
section
open PySem PySem.Calls PyProof.Rows PySem.W
namespace Mine
noncomputable def ownItem (c : Nat) : Item := if ([42, 63, 91] : List Nat).contains c then .one false c else .lit c
noncomputable def own1 (c : Nat) : List Nat := (ownItem c).written
noncomputable def toldOwn (x : List Nat) : List Nat := (x.map fun c => told (ownItem c)).flatten
noncomputable def byT (x : List Nat) : List Nat := transOf (x.map ownItem)
theorem own_ok {c : Nat} (h : okc c) : OkItem (ownItem c) := by
  unfold ownItem
  split
  · rename_i hc
    exact ⟨h, fun _ => by rintro rfl; revert hc; decide⟩
  · rename_i hc
    refine ⟨h, ?_, ?_, ?_⟩ <;> (rintro rfl; exact hc (by decide))
theorem own_nostar (c : Nat) : isStar (ownItem c) = false := by unfold ownItem; split <;> rfl
theorem grp_nostar : ∀ (its g0 : List Item), (∀ it ∈ its, isStar it = false) → its.foldl grpStep (g0, []) = (g0 ++ its, [])
  | [], g0, _ => by simp
  | it :: r, g0, h => by
    rw [List.foldl_cons, gs_it0 (by rw [h it (List.mem_cons_self ..)]; decide), grp_nostar r _ fun y hy => h y (List.mem_cons_of_mem _ hy)]
    simp
theorem grp_own (x : List Nat) : grp (x.map ownItem) = (x.map ownItem, []) := by
  have := grp_nostar (x.map ownItem) [] (by simp [own_nostar])
  simpa [grp] using this
theorem byT_eq (x : List Nat) : byT x = [40, 63, 115, 58] ++ toldOwn x ++ [41, 92, 90] := by
  unfold byT transOf wrapT
  rw [grp_own]
  simp [toldG, jn, toldOwn, Function.comp_def]
theorem flatW_own (x : List Nat) : flatW (x.map ownItem) = (x.map own1).flatten := by
  unfold flatW
  rw [List.flatMap_map, List.flatMap_def]; rfl
theorem lasts_app (a b : List (List Nat)) : lasts (a ++ b) = lasts a ++ lasts b := by simp [lasts]
theorem last_own (c : Nat) : lasts (ownItem c).pieces = own1 c := by
  unfold own1 ownItem
  split
  · rename_i hc
    simp at hc
    rcases hc with rfl | rfl | rfl <;> decide
  · show [lastOf (outer c)] = [c]
    unfold outer
    split <;> rfl
theorem lasts_own : ∀ x : List Nat, lasts (pieceG (x.map ownItem)) = flatW (x.map ownItem)
  | [] => rfl
  | c :: x => by
    have ih := lasts_own x
    have e1 : pieceG ((c :: x).map ownItem) = (ownItem c).pieces ++ pieceG (x.map ownItem) := rfl
    have e2 : flatW ((c :: x).map ownItem) = own1 c ++ flatW (x.map ownItem) := rfl
    rw [e1, e2, lasts_app, last_own, ih]
theorem lasts_byT (x : List Nat) : lasts (rowOf (x.map ownItem)) = [40, 63, 115, 58] ++ flatW (x.map ownItem) ++ [41, 90] := by
  unfold rowOf row
  rw [grp_own]
  simp only [lasts_app]
  rw [lasts_own]
  show _ ++ _ ++ lasts [] ++ _ = _
  simp [lasts, lastOf]
theorem items_ok {x : List Nat} (h : Pr x) : ∀ it ∈ x.map ownItem, OkItem it := by
  intro it hit
  obtain ⟨c, hc, rfl⟩ := List.mem_map.mp hit
  exact own_ok (h c hc)
theorem byT_pr {x : List Nat} (h : Pr x) : Pr (byT x) := by
  unfold byT
  rw [← rowOf_flatten]
  exact pieces_pr (rowOf_ok (items_ok h))
theorem byT_body {x : List Nat} (h : Pr x) : Body (repl 34 [92, 34] (byT x)) ∧ unesc (repl 34 [92, 34] (byT x)) = [40, 63, 115, 58] ++ flatW (x.map ownItem) ++ [41, 90] := by
  have := pieces_body (rowOf_ok (items_ok h))
  rw [rowOf_flatten, lasts_byT] at this
  exact this
theorem byT_len (x : List Nat) : (byT x).length ≤ 15 * x.length + 7 := by
  have := trans_len (x.map ownItem)
  simpa [byT] using this
theorem own1_len (c : Nat) : (own1 c).length ≤ 3 := by
  unfold own1 ownItem; split
  · show (opn false ++ [c] ++ [93]).length ≤ 3; simp [opn]
  · show ([c] : List Nat).length ≤ 3; simp
theorem sum_le (f : Nat → List Nat) (k : Nat) (hf : ∀ c, (f c).length ≤ k) : ∀ x : List Nat, ((x.map f).map (·.length)).sum ≤ k * x.length
  | [] => by simp
  | c :: x => by
    have h1 := sum_le f k hf x
    have h2 := hf c
    simp only [List.map_cons, List.sum_cons, List.length_cons, Nat.mul_add]
    exact lin [_, _, _, _] (.h 1 (.a 0) (.a 1) <| .h 1 (.a 2) (.a 3) <| .g 1 (.p (.a 2) (.a 0)) (.p (.a 1) (.r (.a 3) 1))) (.refl true) h1 h2
theorem flat_len (f : Nat → List Nat) (k : Nat) (hf : ∀ c, (f c).length ≤ k) (x : List Nat) : ((x.map f).flatten).length ≤ k * x.length := by
  rw [List.length_flatten]; exact sum_le f k hf x
end Mine
end
-- P3
section
open PySem PySem.Calls PyProof.Rows PySem.W
namespace Mine
section
variable {prog : Program} {C : Cx} {A : Around} {s₀ s : Shared} {L a : Addr} {m : Str → Option Value} {led : List (Addr × Cell)} {fd : FuncData} {env : Env}
theorem own1_yes {c : Nat} (h : ([42, 63, 91] : List Nat).contains c = true) : own1 c = [91, c, 93] := by unfold own1 ownItem; rw [if_pos h]; rfl
theorem own1_no {c : Nat} (h : ([42, 63, 91] : List Nat).contains c = false) : own1 c = [c] := by unfold own1 ownItem; rw [if_neg (by rw [h]; decide)]; rfl
theorem byT_spec {x : List Nat} {t : Tok} {Q : Value → Shared → Prop} (P : Prog C s) (R : Room A 8) (hx : Pr x) (hz : x.length ≤ 9000) (h : ∀ t s', Next C.N s s' → Q (.str (S (byT x)) t) s') :
    W prog C A (call (.ref 201) [.str (S x) t]) Q s := by
  have h128 : ∀ c ∈ x, c < 128 := fun c hc => by have := hx c hc; exact lin [_] (.l 1 (.a 0) (.n 127) <| .j 1 (.a 0) (.n 128)) (.refl true) this.2
  refine rEnter (n := 7) (binds := [(Str.ofString "text", .str (S x) t)]) P R F201.2 rfl (.of_eq rfl) fun s₁ L R D => ?_
  obtain ⟨m0, hm0⟩ : ∃ m0 : Str → Option Value, m0 = fun y => [(Str.ofString "text", Value.str (S x) t)].reverse.lookup y := ⟨_, rfl⟩
  rw [← hm0] at D
  have mx0 : m0 (Str.ofString "text") = some (.str (S x) t) := by rw [hm0]; rfl
  clear hm0
  refine x_consL ?_
  intro Qs
  refine x_assign <| e_m1 <| rStrS [] D fun t0 s' D => m_str M_join <| sp_cons <| e_comp <| rName D mx0 <| it_str D h128 fun it s' D => ⟨_, _, _, _, D, fun acc cl s' D => ⟨fun Q q => it_strit D (i := 2) rfl q, ?_⟩⟩
  let Inv2 : Nat → Shared → Prop := fun k s' => Ex4 fun ns av pre rest => And4 (x = pre ++ rest) (k = rest.length) (Strs av (pre.map own1)) (Led C s L m0 [(cl, .ns ns), (acc, .list av), (it, .fld "str_ascii_iterator" [.str (S x) t, .int (pre.length : Int) 0])] s')
  refine cloopN Inv2 x.length ⟨_, [], [], x, rfl, rfl, .nil, D⟩ ?_
  rintro k s' ⟨ns, av, pre, rest, hpr, rfl, hav, D⟩
  have hal : av.length = pre.length := by rw [hav.length]; simp
  have hpl : pre.length ≤ x.length := by rw [hpr]; simp
  cases rest with
  | nil =>
    have hp : x = pre := by rw [hpr]; simp
    refine n_str_end D 2 rfl (by rw [hp]; simp) R.hh fun s' D => ?_
    dsimp only
    refine ⟨_, 0, _, D, rfl, fun s' D => ?_⟩
    subst hp
    have hsum := sum_le own1 3 own1_len x
    refine sp_nil <| rJoin (xs := x.map own1) (sep := []) D (D.nth 0 rfl) hav (by show _ + (x.map own1).length * 0 ≤ _; exact lin [_, _, _] (.h 3 (.a 0) (.n 9000) <| .h 1 (.a 1) (.m 3 (.a 0)) <| .g 1 (.p (.a 1) (.r (.a 2) 0)) (.n 16777216)) (.refl true) hz hsum) fun t1 s' D => ?_
    rw [joinL_nil, ← flatW_own]
    have hol : (flatW (x.map ownItem)).length ≤ 3 * x.length := by rw [flatW_own]; exact flat_len own1 3 own1_len x
    have htl : ∀ y : List Nat, (toldOwn y).length ≤ 8 * y.length := flat_len (fun c => told (ownItem c)) 8 (fun c => told_len _)
    have hbl := byT_len x
    refine rStore D fun s' D => ?_
    have D := D.forget (led' := []) (List.nil_sublist _)
    refine x_consL ?_
    intro Qs
    refine x_assign <| rStrS [] D fun t2 s' D => rStore D fun s' D => ?_
    refine x_consL ?_
    intro Qs
    refine x_for <| rName D (by exact mx0) <| it_str D h128 fun it2 s' D => ?_
    let Inv1 : Nat → Shared → Prop := fun k s' => Ex4 fun m pre rest tt => And6 (x = pre ++ rest) (k = rest.length) (m (Str.ofString "text") = some (.str (S x) t)) (m (Str.ofString "own") = some (.str (S (flatW (x.map ownItem))) t1)) (m (Str.ofString "told") = some (.str (S (toldOwn pre)) tt)) (Led C s L m [(it2, .fld "str_ascii_iterator" [.str (S x) t, .int (pre.length : Int) 0])] s')
    refine loopN Inv1 x.length ⟨_, [], x, _, rfl, rfl, by exact mx0, by exact rfl, by exact rfl, D⟩ ?_
    rintro k s' Qb ⟨m, pre, rest, tt, hpr, rfl, mx, mo, mt, D⟩
    have htp := htl pre
    cases rest with
    | nil =>
      have hp : x = pre := by rw [hpr]; simp
      refine n_str_end D 0 rfl (by rw [hp]; simp) R.hh fun s' D => ?_
      dsimp only
      subst hp
      have D := D.forget (led' := []) (List.nil_sublist _)
      refine x_consL ?_
      intro Qs
      refine x_assign <| e_def D.now g_translate F106.2 <| a_cons <| rName D mo <| a_nil ⟨D.now, translate_spec D.now (R.mono (by decide)) (items_ok hx) (by simp; exact lin [_] (.h 1 (.a 0) (.n 9000) <| .g 1 (.a 0) (.n 10000)) (.refl true) hz) (by exact lin [_, _] (.h 3 (.a 0) (.n 9000) <| .h 1 (.a 1) (.m 3 (.a 0)) <| .g 1 (.a 1) (.n 100000)) (.refl true) hz hol) fun t s' nx => ?_⟩
      have D := D.step nx
      rw [show transOf (x.map ownItem) = byT x from rfl]
      refine rStore D fun s' D => ?_
      refine x_consL ?_
      intro Qs
      refine x_if ?_
      intro Qi
      refine t_cmp <| rName D rfl <| e_bin <| e_bin <| rStrS [40, 63, 115, 58] D fun t s' D => rName D (by exact mt) <| rAddS D (by simp [sizeLine]; exact lin [_, _] (.h 8 (.a 0) (.n 9000) <| .h 1 (.a 1) (.m 8 (.a 0)) <| .g 1 (.p (.n 4) (.a 1)) (.n 16777216)) (.refl true) hz htp) fun t s' D => rStrS [41, 92, 90] D fun t s' D => rAddS D (by simp [sizeLine]; exact lin [_, _] (.h 8 (.a 0) (.n 9000) <| .h 1 (.a 1) (.m 8 (.a 0)) <| .g 1 (.a 1) (.n 16777209)) (.refl true) hz htp) fun t s' D => ?_
      rw [← byT_eq]
      refine rNeS ⟨_, rfl, rIfF (by simp) <| x_nil ?_⟩
      obtain ⟨hb, hu⟩ := byT_body hx
      have hml := repl_len 34 [92, 34] (byT x)
      refine x_consL ?_
      intro Qs
      refine x_ret <| e_ifexp <| t_val <| e_def D.now g_reads F189.2 <| a_cons <| e_def D.now g_marks F196.2 <| a_cons <| rName D rfl <| a_nil ⟨D.now, marks_spec D.now (R.mono (by decide)) (by exact lin [_, _] (.h 15 (.a 0) (.n 9000) <| .h 1 (.a 1) (.p (.m 15 (.a 0)) (.n 7)) <| .g 1 (.a 1) (.n 1000000)) (.refl true) hz hbl) fun t s' nx => ?_⟩
      have D := D.step nx
      refine a_cons <| e_bin <| e_bin <| rStrS [40, 63, 115, 58] D fun t s' D => rName D (by exact mo) <| rAddS D (by simp [sizeLine]; exact lin [_, _] (.h 3 (.a 0) (.n 9000) <| .h 1 (.a 1) (.m 3 (.a 0)) <| .g 1 (.p (.n 4) (.a 1)) (.n 16777216)) (.refl true) hz hol) fun t s' D => rStrS [41, 90] D fun t s' D => rAddS D (by simp [sizeLine]; exact lin [_, _] (.h 3 (.a 0) (.n 9000) <| .h 1 (.a 1) (.m 3 (.a 0)) <| .g 1 (.a 1) (.n 16777210)) (.refl true) hz hol) fun t s' D => a_nil ⟨D.now, ?_⟩
      refine reads_spec D.now (R.mono (by decide)) hb hu (by simp at hml; exact lin [_, _, _] (.h 45 (.a 0) (.n 9000) <| .h 3 (.a 1) (.p (.m 15 (.a 0)) (.n 7)) <| .h 1 (.a 2) (.r (.a 1) 3) <| .g 1 (.a 2) (.n 500000)) (.refl true) hz hbl hml) ?_ fun s' nx => truthy_b <| rIfT rfl ?_
      · intro c hc
        rw [← hu] at hc
        have hpr := byT_pr hx
        have : ∀ (y : List Nat), ∀ c ∈ unesc y, c ∈ y := by
          intro y
          fun_induction unesc y with
          | case1 c r ih => intro d hd; rcases List.mem_cons.mp hd with rfl | hd
                            · simp
                            · simp [ih d hd]
          | case2 c r _ ih => intro d hd; rcases List.mem_cons.mp hd with rfl | hd
                              · simp
                              · simp [ih d hd]
          | case3 => intro d hd; exact hd
        have hc := this _ c hc
        unfold repl at hc
        obtain ⟨d, hd, hc⟩ := List.mem_flatMap.mp hc
        have hdp := hpr d hd
        split at hc <;> simp at hc <;> omega
      · have D := D.step nx
        exact rName D rfl (h _ _ D.next)
    | cons c r =>
      have e : x[pre.length]? = some c := by rw [hpr]; simp
      have hcc : okc c := hx c (by rw [hpr]; simp)
      have hpl2 : pre.length + 1 ≤ x.length := by rw [hpr]; simp
      have et : toldOwn (pre ++ [c]) = toldOwn pre ++ told (ownItem c) := by simp [toldOwn]
      have next : ∀ {m s'} (tt : Tok), m (Str.ofString "text") = some (.str (S x) t) → m (Str.ofString "own") = some (.str (S (flatW (x.map ownItem))) t1) → m (Str.ofString "told") = some (.str (S (toldOwn pre ++ told (ownItem c))) tt) → Led C s L m [(it2, .fld "str_ascii_iterator" [.str (S x) t, .int ((pre.length + 1 : Nat) : Int) 0])] s' →
          Less (c :: r).length Inv1 s' :=
        fun tt mx mo mt D => ⟨r.length, by simp, _, pre ++ [c], r, tt, by rw [hpr]; simp, rfl, mx, mo, by rw [et]; exact mt, by rw [show (pre ++ [c]).length = pre.length + 1 by simp]; exact D⟩
      refine n_str D 0 rfl e fun u s' D => ?_
      dsimp only
      refine rStore D fun s' D => ?_
      refine x_consL ?_
      intro Qs
      refine x_if ?_
      intro Qi
      refine t_cmp <| rName D rfl <| rStrS [42, 63] D fun t s' D => rInS ⟨_, rfl, rIf (fun hb => ?_) (fun hb => ?_)⟩
      · have e1 : told (ownItem c) = [91] ++ [c] ++ [93] := by
          simp at hb
          rcases hb with rfl | rfl <;> decide
        rw [e1] at next
        refine x_consL ?_
        intro Qs
        refine x_aug <| rLoad D (by exact mt) <| e_bin <| e_bin <| rStrS [91] D fun t s' D => rName D rfl <| rAddS D (by simp [sizeLine]) fun t s' D => rStrS [93] D fun t s' D => rAddS D (by simp [sizeLine]) fun t s' D => rIAddS D (by simp [sizeLine]; exact lin [_, _, _] (.h 8 (.a 0) (.n 9000) <| .h 1 (.a 1) (.m 8 (.a 2)) <| .h 8 (.p (.a 2) (.n 1)) (.a 0) <| .g 1 (.a 1) (.n 16777213)) (.refl true) hz htp hpl2) fun t s' D => rStore D fun s' D => ?_
        exact x_nil <| x_nil <| next t (by exact mx) (by exact mo) (by exact rfl) D
      · refine x_consL ?_
        intro Qs
        refine x_if ?_
        intro Qi
        refine t_cmp <| rName D rfl <| rStrS [91] D fun t s' D => rEqS ⟨_, rfl, rIf (fun hb' => ?_) (fun hb' => ?_)⟩
        · have hc : c = 91 := by simpa using hb'
          subst hc
          refine x_consL ?_
          intro Qs
          refine x_aug <| rLoad D (by exact mt) <| rStrS [91, 92, 91, 93] D fun t s' D => rIAddS D (by simp [sizeLine]; exact lin [_, _, _] (.h 8 (.a 0) (.n 9000) <| .h 1 (.a 1) (.m 8 (.a 2)) <| .h 8 (.p (.a 2) (.n 1)) (.a 0) <| .g 1 (.a 1) (.n 16777212)) (.refl true) hz htp hpl2) fun t s' D => rStore D fun s' D => ?_
          exact x_nil <| x_nil <| x_nil <| next t (by exact mx) (by exact mo) (by exact rfl) D
        · have hc : ¬ c = 91 := by simpa using hb'
          have e1 : told (ownItem c) = outer c := by
            unfold ownItem
            rw [if_neg]
            · simp [told, Item.pieces]
            · simp at hb ⊢; exact ⟨hb.1, hb.2, hc⟩
          rw [e1] at next
          have hol2 : (outer c).length ≤ 2 := by unfold outer; split <;> simp
          refine x_consL ?_
          intro Qs
          refine x_aug <| rLoad D (by exact mt) <| e_def D.now g_outer F161.2 <| a_cons <| rName D rfl <| a_nil ⟨D.now, outer_spec D.now (R.mono (by decide)) fun t s' nx => ?_⟩
          have D := D.step nx
          refine rIAddS D (by simp [sizeLine]; exact lin [_, _, _, _] (.h 8 (.a 0) (.n 9000) <| .h 1 (.a 1) (.m 8 (.a 2)) <| .h 8 (.p (.a 2) (.n 1)) (.a 0) <| .h 1 (.a 3) (.n 2) <| .g 1 (.p (.a 1) (.a 3)) (.n 16777216)) (.refl true) hz htp hpl2 hol2) fun t s' D => rStore D fun s' D => ?_
          exact x_nil <| x_nil <| x_nil <| next t (by exact mx) (by exact mo) (by exact rfl) D
  | cons c r =>
    have e : x[pre.length]? = some c := by rw [hpr]; simp
    have hpl2 : pre.length + 1 ≤ x.length := by rw [hpr]; simp
    refine n_str D 2 rfl e fun u s' D => ?_
    dsimp only
    refine cStore D 0 rfl fun s' D => ?_
    have next : ∀ {ns s'} (tt : Tok), Led C s L m0 [(cl, .ns ns), (acc, .list (av ++ [.str (S (own1 c)) tt])), (it, .fld "str_ascii_iterator" [.str (S x) t, .int ((pre.length + 1 : Nat) : Int) 0])] s' → Less (c :: r).length Inv2 s' :=
      fun {ns s'} tt D => ⟨r.length, by simp, ns, av ++ [.str (S (own1 c)) tt], pre ++ [c], r, by rw [hpr]; simp, rfl, by rw [List.map_append]; exact hav.snoc (own1 c) tt, by rw [show (pre ++ [c]).length = pre.length + 1 by simp]; exact D⟩
    refine e_ifexp <| t_cmp <| cName D 0 rfl rfl <| rStrS [42, 63, 91] D fun t s' D => rInS ⟨_, rfl, rIf (fun hb => ?_) (fun hb => ?_)⟩
    · refine e_bin <| e_bin <| rStrS [91] D fun t s' D => cName D 0 rfl rfl <| rAddS D (by simp [sizeLine]) fun t s' D => rStrS [93] D fun t s' D => rAddS D (by simp [sizeLine]) fun t s' D => ?_
      refine rAppend D 1 rfl (by simp [sizeLine]; exact lin [_, _, _] (.h 1 (.a 0) (.n 9000) <| .e 1 (.a 1) (.a 2) <| .h 1 (.p (.a 2) (.n 1)) (.a 0) <| .g 1 (.a 1) (.n 16777216)) (.refl true) hz hal hpl2) fun s' D => next t (by rw [own1_yes hb]; exact D)
    · refine cName D 0 rfl rfl <| rAppend D 1 rfl (by simp [sizeLine]; exact lin [_, _, _] (.h 1 (.a 0) (.n 9000) <| .e 1 (.a 1) (.a 2) <| .h 1 (.p (.a 2) (.n 1)) (.a 0) <| .g 1 (.a 1) (.n 16777216)) (.refl true) hz hal hpl2) fun s' D => next _ (by rw [own1_no hb]; exact D)
end
end Mine
end
-- Q1
section
open PySem PySem.Calls PyProof.Rows PySem.W
namespace Mine
section
variable {prog : Program} {C : Cx} {A : Around} {s₀ s : Shared} {L a : Addr} {m : Str → Option Value} {led : List (Addr × Cell)} {fd : FuncData} {env : Env}
theorem Led.mem (D : Led C s₀ L m led s) {b : Addr} {c : Cell} (h : (b, c) ∈ led) : c.At s.heap b := (D.cells _ h).1
theorem w_setLast {b : Addr} {xs : List Value} {old v : Value} {k : Nat} {t : Tok} {Q : Unit → Shared → Prop} (D : Led C s₀ L m led s) (hk : led[k]? = some (b, .list (xs ++ [old])))
    (h : ∀ s', Led C s₀ L m (led.set k (b, .list (xs ++ [v]))) s' → Q () s') : W prog C A (setItem (.ref b) (.int (-1) t) v) Q s := by
  obtain ⟨n, hn⟩ := D.nth k hk
  have hT : s.TypeIs (.ref b) "list" := ⟨_, hn, rfl⟩
  have fin := h _ (D.setAt k hk (Heap.SameBut.update s.heap b (Obj.mapSeq (·.setIfInBounds xs.length v))) (Cell.upList ⟨n, hn⟩ (by simp)) (Nat.le_refl _))
  have hidx : seqIndex? (-1) (xs ++ [old]).toArray.size = some xs.length := by
    have := PySem.seqIndex_neg (k := -1) (n := (xs ++ [old]).toArray.size) (by omega) (by simp; omega)
    rw [this]; simp; omega
  have hx : (xs ++ [old]).toArray[xs.length]? = some old := by simp
  have hfit : Builtin.List.listFitsIndex (-1) = true := by decide
  clear hk h D
  refine ⟨?_⟩
  unfold setItem
  try with_reducible refine wpAny_holding ?_
  first | refine wpAny_bind (wpAny_pure ?_) | skip
  refine wpAny_bind (wpAny_sequenceKey hT (by decide) ?_)
  refine wpAny_bind (wpAny_callSpecial?_slot (name := Str.ofString "__setitem__") hT PySem.slot_list_setitem
    (wpAny_call_entry PySem.slot_list_setitem hT PySem.entry_list_setitem ?_ (PySem.args_list_setitem _ _ _)))
  show wpAny _ _ (Builtin.List.listSubscript? (.int (-1) t) >>= _) _ _ s
  refine wpAny_bind (wpAny_listSubscript_int hfit ?_)
  clear hfit
  show wpAny _ _ ((Builtin.List.listItems (.ref b) >>= fun xs => pure ((seqIndex? (-1) xs.size).bind fun i => xs[i]?.map (i, ·))) >>= _) _ _ s
  refine wpAny_bind (wpAny_bind ?_)
  show wpAny _ _ (seqItems? (.ref b) >>= _) _ _ s
  refine wpAny_bind (wpAny_seqItems hn rfl (wpAny_pure (wpAny_pure ?_)))
  rw [hidx]
  simp only [Option.bind_some, hx, Option.map_some]
  show wpAny _ _ (setSeqItemAt b xs.length v >>= _) _ _ s
  refine wpAny_bind (wpAny_setSeqItemAt hn rfl ?_)
  first
    | exact wpAny_bind (wpAny_pure (wpAny_pure ⟨.none, rfl, wpAny_pure fin⟩))
    | exact wpAny_pure ⟨.none, rfl, wpAny_pure fin⟩
theorem pick_mid (xs : List Value) : slicePick xs.toArray (some 1) (some (-1)) none = ((xs.drop 1).take (xs.length - 2)).toArray := by
  rw [slicePick_plain]
  have e1 : clipAt xs.toArray.size (1 : Int) = min 1 xs.length := clipAt_nat xs.length 1
  have e2 : clipAt xs.toArray.size (-1 : Int) = xs.length - 1 := clipAt_neg xs.length 1 (Nat.le_refl _)
  simp only [Option.elim, e1, e2]
  congr 1
  cases xs with
  | nil => rfl
  | cons x r => simp [Nat.min_eq_left]
end
end Mine
end
-- Q2
section
open PySem PySem.Calls PyProof.Rows PySem.W
namespace Mine
/-- a pair of an item's text and its pieces -/
noncomputable def ItemAt (h : Heap) (v : Value) (it : Item) : Prop := ∃ b p pv t, v = .ref b ∧ (Cell.tup [.str (S it.written) t, .ref p]).At h b ∧ (Cell.list pv).At h p ∧ Strs pv it.pieces
inductive ItemsAt (h : Heap) : List Value → List Item → Prop
  | nil : ItemsAt h [] []
  | cons {v it vs its} : ItemAt h v it → ItemsAt h vs its → ItemsAt h (v :: vs) (it :: its)
theorem ItemsAt.length {h vs its} (x : ItemsAt h vs its) : vs.length = its.length := by
  induction x with
  | nil => rfl
  | cons _ _ ih => simp [ih]
theorem ItemsAt.get {h vs its} (x : ItemsAt h vs its) : ∀ {i : Nat} {it : Item}, its[i]? = some it → ∃ v, vs[i]? = some v ∧ ItemAt h v it := by
  induction x with
  | nil => intro i it e; simp at e
  | cons y _ ih => intro i it e; cases i with
    | zero => simp at e; subst e; exact ⟨_, rfl, y⟩
    | succ i => simp at e; simpa using ih e
/-- the groups of pieces, the newest first -/
noncomputable def GL (p : List Item × List (List Item)) : List (List (List Nat)) := (p.2.map pieceG).reverse ++ [pieceG p.1]
inductive Grps : List (Addr × Cell) → List Addr → List (List (List Nat)) → Prop
  | nil : Grps [] [] []
  | cons {cs as gs} (a : Addr) (v : List Value) {g : List (List Nat)} : Strs v g → Grps cs as gs → Grps ((a, .list v) :: cs) (a :: as) (g :: gs)
theorem Grps.length {cs as gs} (x : Grps cs as gs) : as.length = gs.length := by
  induction x with
  | nil => rfl
  | cons _ _ _ _ ih => simp [ih]
theorem Grps.get {cs as gs} (x : Grps cs as gs) : ∀ {i : Nat} {g}, gs[i]? = some g → ∃ a v, as[i]? = some a ∧ (a, .list v) ∈ cs ∧ Strs v g := by
  induction x with
  | nil => intro i g e; simp at e
  | cons a v h _ ih => intro i g e; cases i with
    | zero => simp at e; subst e; exact ⟨a, v, rfl, List.mem_cons_self .., h⟩
    | succ i =>
      simp at e
      obtain ⟨a', v', h1, h2, h3⟩ := ih e
      exact ⟨a', v', by simpa using h1, List.mem_cons_of_mem _ h2, h3⟩
theorem pieceG_snoc (g : List Item) (it : Item) : pieceG (g ++ [it]) = pieceG g ++ it.pieces := by simp [pieceG]
theorem GL_it {p : List Item × List (List Item)} {it : Item} (h : ¬ isStar it = true) : ∃ g r, GL p = g :: r ∧ GL (grpStep p it) = (g ++ it.pieces) :: r := by
  obtain ⟨g0, gs⟩ := p
  rcases last_or gs with rfl | ⟨init, g, rfl⟩
  · rw [gs_it0 h]; exact ⟨pieceG g0, [], rfl, by simp [GL, pieceG_snoc]⟩
  · rw [gs_it1 h]; exact ⟨pieceG g, (init.map pieceG).reverse ++ [pieceG g0], by simp [GL], by simp [GL, pieceG_snoc]⟩
/-- the last item was a star -/
noncomputable def open? (p : List Item × List (List Item)) : Prop := ∃ init, p.2 = init ++ [[]]
theorem GL_star {p : List Item × List (List Item)} {it : Item} (h : isStar it = true) : open? (grpStep p it) ∧ (open? p → GL (grpStep p it) = GL p) ∧ (¬ open? p → GL (grpStep p it) = [] :: GL p) := by
  obtain ⟨g0, gs⟩ := p
  rcases last_or gs with rfl | ⟨init, g, rfl⟩
  · rw [gs_star0 h]
    refine ⟨⟨[], rfl⟩, fun ⟨i, e⟩ => ?_, fun _ => by simp [GL, pieceG]⟩
    have := congrArg List.length e
    simp at this
  · cases g with
    | nil => rw [gs_star1 h]; exact ⟨⟨init, rfl⟩, fun _ => rfl, fun q => absurd ⟨init, rfl⟩ q⟩
    | cons y g =>
      rw [gs_star2 h (by simp)]
      refine ⟨⟨_, rfl⟩, fun ⟨i, e⟩ => ?_, fun _ => by simp [GL, pieceG]⟩
      have := congrArg List.getLast? e
      simp at this
theorem open_it {p : List Item × List (List Item)} {it : Item} (h : ¬ isStar it = true) : ¬ open? (grpStep p it) := by
  obtain ⟨g0, gs⟩ := p
  rintro ⟨i, e⟩
  rcases last_or gs with rfl | ⟨init, g, rfl⟩
  · rw [gs_it0 h] at e
    have := congrArg List.length e
    simp at this
  · rw [gs_it1 h] at e
    have := congrArg List.getLast? e
    simp at this
theorem written_star {it : Item} (h : OkItem it) : it.written = [42] ↔ isStar it = true := by
  cases it with
  | lit c => simp [Item.written, isStar]; exact h.2.1
  | any => simp [Item.written, isStar]
  | star => simp [Item.written, isStar]
  | one b c => cases b <;> simp [Item.written, isStar, opn]
  | rng b c d => cases b <;> simp [Item.written, isStar, opn]
theorem written_len (it : Item) : it.written.length ≤ 6 := by
  cases it with
  | lit c => simp [Item.written]
  | any => simp [Item.written]
  | star => simp [Item.written]
  | one b c => cases b <;> simp [Item.written, opn]
  | rng b c d => cases b <;> simp [Item.written, opn]
theorem pieces_len (it : Item) : it.pieces.length ≤ 6 := by
  cases it with
  | lit c => simp [Item.pieces]
  | any => simp [Item.pieces]
  | star => simp [Item.pieces]
  | one b c => cases b <;> simp [Item.pieces, front]
  | rng b c d =>
    unfold Item.pieces
    cases b <;> (simp [front]; split <;> simp)
end Mine
end
-- U1
section
open PySem PySem.Calls PyProof.Rows PySem.W
namespace Mine
/-- the frames under way stand in the heap -/
structure FrOk (A : Around) (N : Nat) (h : Heap) : Prop where
  ex : ∃ l, A.frames = some l ∧ ∀ env ∈ l, env.scope.kind ≠ .module ∧ ∃ L m, env.frame = some L ∧ N ≤ L ∧ h.Ns L m
theorem FrOk.kept {A : Around} {N : Nat} {h h' : Heap} (F : FrOk A N h) (hN : 226 ≤ N) (x : Kept N h h') : FrOk A N h' := by
  obtain ⟨l, e, k⟩ := F.ex
  refine ⟨l, e, fun env he => ?_⟩
  obtain ⟨h1, L, m, h2, h3, h4⟩ := k env he
  exact ⟨h1, L, m, h2, h3, x.ns (tab_high hN h3) h4⟩
section
variable {prog : Program} {C : Cx} {A : Around} {s₀ s : Shared} {L a : Addr} {m : Str → Option Value} {led : List (Addr × Cell)} {fd : FuncData} {env : Env}
theorem FrOk.deeper {f : Addr} (F : FrOk A C.N s₀.heap) (D : Led C s₀ L m led s) (hk : fd.scope.kind ≠ .module) : FrOk (A.deeper (callEnv fd L f)) C.N s.heap := by
  obtain ⟨l, e, k⟩ := (F.kept D.prog.hN D.next.kept).ex
  refine ⟨callEnv fd L f :: l, by show A.frames.map _ = _; rw [e]; rfl, fun env he => ?_⟩
  rcases List.mem_cons.mp he with rfl | he
  · exact ⟨hk, L, m, rfl, Nat.le_trans D.prog.size D.above, D.ns⟩
  · exact k env he
theorem FrOk.step {A : Around} (F : FrOk A C.N s₀.heap) (D : Led C s₀ L m led s) : FrOk A C.N s.heap := F.kept D.prog.hN D.next.kept
theorem FrOk.to {A : Around} {s' : Shared} (F : FrOk A C.N s.heap) (P : Prog C s) (x : Next C.N s s') : FrOk A C.N s'.heap := F.kept P.hN x.kept
theorem ns_dict {h : Heap} {a : Addr} {m : Str → Option Value} {o : Obj} (n : h.Ns a m) (e : h.get? a = some o) : isDict o := by
  obtain ⟨o', es, ep, e', d, _⟩ := n
  rw [e] at e'; cases e'; exact ⟨es, ep, d⟩
theorem fun_frames {h h' : Heap} {N : Nat} (k : ∀ b o, h.get? b = some o → h'.get? b = some o) : ∀ {l : List Env}, (∀ env ∈ l, env.scope.kind ≠ .module ∧ ∃ L m, env.frame = some L ∧ N ≤ L ∧ h.Ns L m) → h'.FunFrames {} l
  | [], _ => trivial
  | env :: l, x => by
    obtain ⟨h1, L, m, h2, h3, h4⟩ := x env (List.mem_cons_self ..)
    have h4' := h4
    obtain ⟨o, es, ep, e, d, _⟩ := h4'
    refine ⟨h1, ⟨L, o, h2, ?_, k _ _ e, fun vs q => by rw [d] at q; cases q⟩, fun_frames k fun env' he => x env' (List.mem_cons_of_mem _ he)⟩
    exact Heap.get?_none_of_le (by show 0 ≤ L; exact Nat.zero_le _)
theorem fun_mem {h : Heap} {N : Nat} {b : Addr} : ∀ {l : List Env}, (∀ env ∈ l, env.scope.kind ≠ .module ∧ ∃ L m, env.frame = some L ∧ N ≤ L ∧ h.Ns L m) → b ∈ l.filterMap (·.frame) → N ≤ b ∧ ∃ m, h.Ns b m := by
  intro l x hb
  obtain ⟨env, he, hf⟩ := List.mem_filterMap.mp hb
  obtain ⟨_, L, m, h2, h3, h4⟩ := x env he
  rw [h2] at hf; cases hf
  exact ⟨h3, m, h4⟩
theorem ve_exc : isSubtype (.type "ValueError") (.type "BaseException") = pure true := by rw [isSubtype_type]; kernel_rfl
theorem ve_tup : isSubtype (.type ((Manifest.find? "ValueError").elim "type" fun x => x.metatype)) (.type "tuple") = pure false := isSubtype_of_subB (by decide +kernel)
theorem ve_self : isSubtype (.type "ValueError") (.type "ValueError") = pure true := by rw [isSubtype_type]; kernel_rfl
theorem caught_next {e : Addr} {h' h₁ h2 : Heap} {tk : Nat} {X : String} {l : List Env} (P : Prog C s) (hF : ∀ env' ∈ l, env'.scope.kind ≠ .module ∧ ∃ L m, env'.frame = some L ∧ C.N ≤ L ∧ s.heap.Ns L m)
    (hx : Heap.NewExc s.heap h' e X) (hs₁ : Heap.SlotsOnly (l.filterMap (·.frame)) h' h₁) (ht : s.toks ≤ tk) (h23 : ∀ b o, s.heap.get? b = some o → h2.get? b = h₁.get? b) : Next C.N s { s with heap := h2, toks := tk } := by
  have same : ∀ b o, s.heap.get? b = some o → b ∉ l.filterMap (·.frame) → h2.get? b = some o := fun b o eb hb => by
    rw [h23 b o eb]
    exact (hs₁.2.1 b hb).trans (hx.keeps b o eb)
  refine ⟨⟨fun b o _ eb => ?_⟩, fun T => T.step (fun b o eb hcl hfl => same b o eb fun hm => ?_) fun Pt hP o eb => same Pt o eb fun hm => ?_, rfl, id, ht⟩
  · by_cases hm : b ∈ l.filterMap (·.frame)
    · obtain ⟨hN, mm, n⟩ := fun_mem hF hm
      obtain ⟨sl, e1⟩ := hs₁.2.2 b o (hx.keeps b o eb)
      exact ⟨_, (h23 b o eb).trans e1, .inr ⟨hN, ns_dict n eb, sl, rfl⟩⟩
    · exact ⟨o, same b o eb hm, .rfl'⟩
  · obtain ⟨_, mm, n⟩ := fun_mem hF hm
    obtain ⟨es, ep, d⟩ := ns_dict n eb
    obtain ⟨vs, d'⟩ := hfl
    rw [d] at d'; cases d'
  · obtain ⟨hN, _⟩ := fun_mem hF hm
    rw [tab_high P.hN hN] at hP; cases hP
/-- an exception that a callee has just raised is caught by this frame's own clause -/
theorem caught {e : Addr} {h' : Heap} {tk : Nat} {t : Expr} {b₀ : Stmt} {suite : List Stmt} {pos : Pos} {outer : List Env} {Lf : Addr} {Q : Flow → Shared → Prop} {E : Value → Shared → Prop}
    (P : Prog C s) (hfr : A.frames = some (env :: outer)) (hF : ∀ env' ∈ env :: outer, env'.scope.kind ≠ .module ∧ ∃ L m, env'.frame = some L ∧ C.N ≤ L ∧ s.heap.Ns L m) (hf : env.frame = some Lf)
    (hx : Heap.NewExc s.heap h' e "ValueError") (ht : s.toks ≤ tk)
    (hname : ∀ s' (Q : Value → Shared → Prop), Prog C s' → Q (.type "ValueError") s' → W prog C (A.mark (some (.ref e))) (eval t env) Q s')
    (k : ∀ h2, Next C.N s { s with heap := h2, toks := tk } → W prog C (A.mark (some (.ref e))) (execs (b₀ :: suite) env) Q { s with heap := h2, toks := tk }) :
    wpAny (model prog C.w) A (noteFrame (.ref e) env) (fun _ s₂ => wpAny (model prog C.w) A (setFlight (.ref e) none) (fun _ s₃ => wpAny (model prog C.w) A (handleBy (.ref e) env [.ExceptHandler (some t) none (b₀ :: suite) pos]) Q E s₃) E s₂) E { s with heap := h', toks := tk } := by
  obtain ⟨ob, t0, he, hc, hd⟩ := hx.there
  have hl : h'.FunFrames {} (env :: outer) := fun_frames hx.keeps hF
  have hene : e ∉ (env :: outer).filterMap (·.frame) := fun hm => by
    obtain ⟨_, m, o, es, ep, e', _⟩ := fun_mem hF hm
    rw [hx.new] at e'; cases e'
  unfold noteFrame
  simp only [hf]
  refine wpAny_bind (wpAny_field he hd rfl ?_)
  rw [if_neg (by simp)]
  refine wpAny_bind (wpAny_frameOf_fun hfr hl hf fun h₁ hs₁ => ?_)
  refine wpAny_bind (wpAny_entryPlaceOf fun pl hpl => ?_)
  unfold EntryCells.newEntry newFields
  refine wpAny_bind (wpAny_newObj_type ?_ (hpl.sizeOk5 _ _ _ _ _))
  have he₁ : h₁.get? e = some ob := (hs₁.2.1 e hene).trans he
  have he₂ := Heap.get?_push_of_some (h := h₁) { cls := .type "traceback", dict := none, data := .fields ([Value.none, .ref Lf, .none, rawInt Lf, .none] ++ (if pl.isEmpty then List.replicate 6 Value.none else pl)).toArray } he₁
  refine wpAny_setField he₂ hd (by simp) ?_
  have hTe : h₁.objs.size ≠ e := Nat.ne_of_gt (Heap.lt_size he₁)
  have hd₃ := Obj.data_mapFields hd (·.setIfInBounds 1 (Value.ref h₁.objs.size))
  have he₃ := Heap.get?_update_self (Obj.mapFields (·.setIfInBounds 1 (Value.ref h₁.objs.size))) he₂ (Obj.isFreed_of_fields hd₃)
  have hT₃ := (Heap.get?_update_other (h₁.push { cls := .type "traceback", dict := none, data := .fields ([Value.none, .ref Lf, .none, rawInt Lf, .none] ++ (if pl.isEmpty then List.replicate 6 Value.none else pl)).toArray })
    (Obj.mapFields (·.setIfInBounds 1 (Value.ref h₁.objs.size))) (Ne.symm hTe)).trans (Heap.get?_push_size h₁ rfl)
  refine wpAny_setFlight_none (tb := h₁.objs.size) he₃ hd₃ (by simp) hT₃ rfl (by simp only [List.size_toArray, List.length_append, List.length_cons, List.length_nil] <;> exact lin [_] (.j 1 (.n 3) (.p (.p (.p (.p (.p (.p (.n 0) (.n 1)) (.n 1)) (.n 1)) (.n 1)) (.n 1)) (.a 0))) (.refl true)) ?_
  have he₄ := (Heap.get?_update_ne _ _ _ (Obj.mapFields (·.setIfInBounds 3 Value.none)) hTe.symm).trans he₃
  have hT₄ := Heap.get?_update_self (Obj.mapFields (·.setIfInBounds 3 Value.none)) hT₃ (Obj.isFreed_of_fields (Obj.data_mapFields rfl _))
  have lt : ∀ b o, s.heap.get? b = some o → b < h₁.objs.size := fun b o eb => by
    obtain ⟨sl, e1⟩ := hs₁.2.2 b o (hx.keeps b o eb)
    exact Heap.lt_size e1
  have ps : ∀ b o ot, s.heap.get? b = some o → (h₁.push ot).get? b = h₁.get? b := fun b o ot eb => by
    obtain ⟨sl, e1⟩ := hs₁.2.2 b o (hx.keeps b o eb)
    exact (Heap.get?_push_of_some _ e1).trans e1.symm
  have hbe : ∀ b o, s.heap.get? b = some o → e ≠ b := fun b o eb q => by rw [← q, hx.new] at eb; cases eb
  refine wpAny_handleBy_builtin (X := "ValueError") (T := "ValueError") (b := true) ve_exc ve_tup ve_self ?_
  refine W.any (hname _ _ (P.next (caught_next P hF hx hs₁ ht fun b o eb => ?_)) ?_)
  · exact (Heap.get?_update_other _ _ (Nat.ne_of_gt (lt b o eb))).trans ((Heap.get?_update_other _ _ (hbe b o eb)).trans (ps b o _ eb))
  refine ⟨rfl, ⟨_, he₄, ?_⟩, ?_⟩
  · exact (Obj.cls_mapFields _ _).trans hc
  rw [if_pos rfl]
  refine wpAny_setFlight_none (tb := h₁.objs.size) he₄ hd₃ (by simp) hT₄ (Obj.data_mapFields rfl _) (by simp only [Array.size_setIfInBounds, List.size_toArray, List.length_append, List.length_cons, List.length_nil] <;> exact lin [_] (.j 1 (.n 3) (.p (.p (.p (.p (.p (.p (.n 0) (.n 1)) (.n 1)) (.n 1)) (.n 1)) (.n 1)) (.a 0))) (.refl true)) ?_
  refine (k _ (caught_next P hF hx hs₁ ht fun b o eb => ?_)).any
  exact (Heap.get?_update_other _ _ (Nat.ne_of_gt (lt b o eb))).trans ((Heap.get?_update_other _ _ (Nat.ne_of_gt (lt b o eb))).trans ((Heap.get?_update_other _ _ (hbe b o eb)).trans (ps b o _ eb)))
end
end Mine
end
-- U2
section
open PySem PySem.Calls PyProof.Rows PySem.W
namespace Mine
theorem Led.perm {C : Cx} {s₀ s : Shared} {L : Addr} {m : Str → Option Value} {led led' : List (Addr × Cell)} (D : Led C s₀ L m led s) (h : led'.Perm led) : Led C s₀ L m led' s :=
  { D with cells := fun p hp => D.cells p (h.subset hp), dist := (List.Perm.pairwise_iff (fun {a b} (x : a.1 ≠ b.1) => x.symm) h).mpr D.dist }
theorem Strs.split {vs : List Value} {ys : List (List Nat)} : ∀ {xs : List (List Nat)}, Strs vs (xs ++ ys) → ∃ v1 v2, vs = v1 ++ v2 ∧ Strs v1 xs ∧ Strs v2 ys := by
  intro xs h
  induction xs generalizing vs with
  | nil => exact ⟨[], vs, rfl, .nil, h⟩
  | cons x xs ih =>
    unfold Strs at h
    generalize hx : (x :: xs ++ ys).map S = zs at h
    cases h with
    | nil => simp at hx
    | cons y t h =>
      simp only [List.cons_append, List.map_cons, List.cons.injEq] at hx
      obtain ⟨hx1, hx2⟩ := hx
      subst hx1 hx2
      obtain ⟨v1, v2, e, h1, h2⟩ := ih h
      exact ⟨.str (S x) t :: v1, v2, by rw [e]; rfl, h1.cons x t, h2⟩
theorem Strs.one {vs : List Value} {x : List Nat} (h : Strs vs [x]) : ∃ t, vs = [.str (S x) t] := by
  have hl := h.length
  obtain ⟨t, ht⟩ := h.get (i := 0) rfl
  cases vs with
  | nil => simp at ht
  | cons v r => cases r with
    | nil => simp at ht; exact ⟨t, by rw [ht]⟩
    | cons => simp at hl
/-- what stands between two turns -/
structure Cnt (x y : List Nat) (k n : Nat) : Prop where
  other : ∀ c, c ≠ 92 → x.count c = y.count c
  bs : y.count 92 ≤ x.count 92
  len : x.length + k = y.length + n
theorem Cnt.hit {x a b : List Nat} {c k n : Nat} (h : Cnt (x ++ [c]) (a ++ c :: b) k n) : Cnt x (a ++ b) k n := by
  obtain ⟨h1, h2, h3⟩ := h
  refine ⟨fun d hd => ?_, ?_, by simp at h3 ⊢; exact Nat.le_antisymm (lin [_, _, _, _, _] (.e 1 (.p (.p (.a 0) (.n 1)) (.a 1)) (.p (.p (.a 2) (.p (.a 3) (.n 1))) (.a 4)) <| .g 1 (.p (.a 0) (.a 1)) (.p (.p (.a 2) (.a 3)) (.a 4))) (.refl true) h3) (lin [_, _, _, _, _] (.f 1 (.p (.p (.a 0) (.n 1)) (.a 1)) (.p (.p (.a 2) (.p (.a 3) (.n 1))) (.a 4)) <| .g 1 (.p (.p (.a 2) (.a 3)) (.a 4)) (.p (.a 0) (.a 1))) (.refl true) h3)⟩
  · have := h1 d hd
    simp only [List.count_append, List.count_cons, List.count_nil] at this ⊢
    exact Nat.le_antisymm (lin [_, _, _, _] (.e 1 (.p (.a 0) (.p (.n 0) (.a 1))) (.p (.a 2) (.p (.a 3) (.a 1))) <| .g 1 (.a 0) (.p (.a 2) (.a 3))) (.refl true) this) (lin [_, _, _, _] (.f 1 (.p (.a 0) (.p (.n 0) (.a 1))) (.p (.a 2) (.p (.a 3) (.a 1))) <| .g 1 (.p (.a 2) (.a 3)) (.a 0)) (.refl true) this)
  · simp only [List.count_append, List.count_cons, List.count_nil] at h2 ⊢
    exact lin [_, _, _, _] (.h 1 (.p (.a 0) (.p (.a 1) (.a 2))) (.p (.a 3) (.p (.n 0) (.a 2))) <| .g 1 (.p (.a 0) (.a 1)) (.a 3)) (.refl true) h2
theorem Cnt.miss {x y : List Nat} {c k n : Nat} (h : Cnt (x ++ [c]) y k n) (hc : c ∉ y) : c = 92 ∧ Cnt x y (k + 1) n := by
  obtain ⟨h1, h2, h3⟩ := h
  have h0 : y.count c = 0 := List.count_eq_zero.mpr hc
  have e : c = 92 := by
    apply Decidable.byContradiction
    intro q
    have := h1 c q
    rw [h0, List.count_append] at this
    simp at this
  subst e
  refine ⟨rfl, fun d hd => ?_, by rw [h0]; exact Nat.zero_le _, by simp at h3 ⊢; exact Nat.le_antisymm (lin [_, _, _, _] (.e 1 (.p (.p (.a 0) (.n 1)) (.a 1)) (.p (.a 2) (.a 3)) <| .g 1 (.p (.a 0) (.p (.a 1) (.n 1))) (.p (.a 2) (.a 3))) (.refl true) h3) (lin [_, _, _, _] (.f 1 (.p (.p (.a 0) (.n 1)) (.a 1)) (.p (.a 2) (.a 3)) <| .g 1 (.p (.a 2) (.a 3)) (.p (.a 0) (.p (.a 1) (.n 1)))) (.refl true) h3)⟩
  have := h1 d hd
  rw [List.count_append] at this
  have hz : List.count d [92] = 0 := List.count_eq_zero.mpr (by simpa using hd)
  exact Nat.le_antisymm (lin [_, _, _] (.e 1 (.p (.a 0) (.a 1)) (.a 2) <| .g 1 (.a 0) (.a 2)) (.refl true) this) (lin [_, _, _] (.f 1 (.p (.a 0) (.a 1)) (.a 2) <| .e 1 (.a 1) (.n 0) <| .g 1 (.a 2) (.a 0)) (.refl true) this hz)
theorem Cnt.done {y : List Nat} {k n : Nat} (h : Cnt [] y k n) : y = [] ∧ k = n := by
  obtain ⟨h1, h2, h3⟩ := h
  have : y = [] := by
    cases y with
    | nil => rfl
    | cons d y =>
      by_cases hd : d = 92
      · subst hd; simp at h2
      · have := h1 d hd; simp at this
  subst this
  simp at h3
  exact ⟨rfl, h3⟩
section
variable {prog : Program} {C : Cx} {A : Around} {s₀ s : Shared} {L a : Addr} {m : Str → Option Value} {led : List (Addr × Cell)} {fd : FuncData} {env : Env}
noncomputable abbrev env147 (L : Addr) : Env := callEnv F147.1 L 147
structure UM (m : Str → Option Value) (ea aa mi : Addr) : Prop where
  e : m (Str.ofString "expected") = some (.ref ea)
  a : m (Str.ofString "actual") = some (.ref aa)
  mi : m (Str.ofString "missing") = some (.ref mi)
theorem frames_now {A' : Around} {env' : Env} {f L' : Addr} {m' m1 : Str → Option Value} {i : Nat} (Fm : FrOk A' C.N s₀.heap) (D : Led C s₀ L' m' led s) (hm : led[i]? = some (L, .ns m1)) (hk : fd.scope.kind ≠ .module) (hk' : env'.scope.kind ≠ .module) (hf' : env'.frame = some L) :
    ∃ fl, ((A'.deeper env').deeper (callEnv fd L' f)).frames = some (callEnv fd L' f :: fl) ∧ ∀ env ∈ callEnv fd L' f :: fl, env.scope.kind ≠ .module ∧ ∃ L m, env.frame = some L ∧ C.N ≤ L ∧ s.heap.Ns L m := by
  obtain ⟨fl, e, k⟩ := (Fm.step D).ex
  refine ⟨env' :: fl, by show (A'.frames.map _).map _ = _; rw [e]; rfl, fun env he => ?_⟩
  rcases List.mem_cons.mp he with rfl | he
  · exact ⟨hk, L', m', rfl, Nat.le_trans D.prog.size D.above, D.ns⟩
  · rcases List.mem_cons.mp he with rfl | he
    · have hc := D.cells _ (List.mem_of_getElem? hm)
      exact ⟨hk', L, m1, hf', Nat.le_trans D.prog.size hc.2.2, hc.1⟩
    · exact k env he
theorem erase_mid {α : Type} (a b : List α) (v : α) : (a ++ v :: b).eraseIdx a.length = a ++ b := by
  rw [List.eraseIdx_append_of_length_le (Nat.le_refl _), Nat.sub_self]; rfl
theorem uld_spec {A' : Around} {env' : Env} {ea aa : Addr} {ev av : List Value} {x y : List Nat} {n : Nat} {Q : Value → Shared → Prop} (D : Led C s₀ L m ((aa, .list av) :: (ea, .list ev) :: led) s) (Fm : FrOk A' C.N s₀.heap) (hk' : env'.scope.kind ≠ .module) (hf' : env'.frame = some L) (R : Room (A'.deeper env') 1)
    (hx : Strs ev (ones x)) (hy : Strs av (ones y)) (hz : x.length ≤ 100000) (hzy : y.length ≤ 100000) (hc : Cnt x y 0 n)
    (h : ∀ tp mi mv s', Led C s₀ L m ((tp, .tup [.ref mi, .ref aa]) :: (mi, .list mv) :: (aa, .list []) :: (ea, .list []) :: led) s' → Strs mv (ones (List.replicate n 92)) → Q (.ref tp) s') :
    W prog C (A'.deeper env') (call (.ref 147) [.ref ea, .ref aa]) Q s := by
  refine rEnterIn (n := 0) (binds := [(Str.ofString "expected", .ref ea), (Str.ofString "actual", .ref aa)]) D R F147.2 rfl (.of_eq rfl) fun s₁ L' R D => ?_
  refine x_consL ?_
  intro Qs
  refine x_assign <| e_list <| a_nil ⟨_, _, _, _, D, Nat.zero_le _, fun mi s' D => rStore D fun s' D => ?_⟩
  let Inv1 : Nat → Shared → Prop := fun j s' => Ex7 fun m' ev av mv x y k => And9 (j = x.length) (UM m' ea aa mi) (Strs ev (ones x)) (Strs av (ones y)) (Strs mv (ones (List.replicate k 92))) (Cnt x y k n) (x.length + k ≤ 100000) (y.length ≤ 100000) (Led C s₀ L' m' ((mi, .list mv) :: (L, .ns m) :: (aa, .list av) :: (ea, .list ev) :: led) s')
  refine x_consL ?_
  intro Qs
  refine x_while Inv1 x.length ⟨_, ev, av, [], x, y, 0, rfl, ⟨rfl, rfl, rfl⟩, hx, hy, .nil, hc, hz, hzy, D⟩ ?_
  rintro j s₂ Qb Qi ⟨m', ev, av, mv, x, y, k, rfl, U, hx, hy, hm, hc, hz, hzy, D⟩
  have lx : ev.length = x.length := by rw [hx.length]; simp
  have ly : av.length = y.length := by rw [hy.length]; simp
  have lm : mv.length = k := by rw [hm.length]; simp
  refine t_val <| rName D U.e <| trL D (D.nth 3 rfl) (by simp [sizeLine]; exact lin [_, _, _] (.h 1 (.p (.a 0) (.a 1)) (.n 100000) <| .e 1 (.a 2) (.a 0) <| .g 1 (.a 2) (.n 16777216)) (.refl true) hz lx) fun s' D => rIf (fun hb => ?_) (fun hb => ?_)
  · have hne : x ≠ [] := by
      rintro rfl
      have : ev = [] := List.length_eq_zero_iff.mp lx
      subst this; simp at hb
    obtain ⟨x', c, rfl⟩ : ∃ x' c, x = x' ++ [c] := ⟨x.dropLast, x.getLast hne, (List.dropLast_concat_getLast hne).symm⟩
    have hx' : Strs ev (ones x' ++ [[c]]) := by simpa [ones] using hx
    obtain ⟨ev', e1, rfl, hx1, hx2⟩ := hx'.split
    obtain ⟨t, rfl⟩ := hx2.one
    refine x_consL ?_
    intro Qs
    refine x_assign <| e_m0 <| rName D U.e <| m_pop D 3 rfl (by simp at lx hz; simp [sizeLine]; exact lin [_, _, _] (.e 1 (.a 0) (.a 1) <| .h 1 (.p (.p (.a 1) (.n 1)) (.a 2)) (.n 100000) <| .j 1 (.a 0) (.n 16777216)) (.refl true) lx hz) fun s' D => rStore D fun s' D => ?_
    have U : UM (upd m' (Str.ofString "item") (.str (S [c]) t)) ea aa mi := ⟨U.e, U.a, U.mi⟩
    by_cases hcy : c ∈ y
    · obtain ⟨a, b, rfl, hna⟩ := List.eq_append_cons_of_mem hcy
      have hy' : Strs av (ones a ++ ([c] :: ones b)) := by simpa [ones] using hy
      obtain ⟨va, v2, rfl, hya, hyb⟩ := hy'.split
      have hyb' : Strs v2 ([[c]] ++ ones b) := hyb
      obtain ⟨v3, vb, rfl, hy3, hyc⟩ := hyb'.split
      obtain ⟨u, rfl⟩ := hy3.one
      have lva : va.length = a.length := by rw [hya.length]; simp
      obtain ⟨nn, hn⟩ := D.nth 2 rfl
      refine x_cons ⟨wpAny_Try_except (wpAny_execs_cons (wpAny_Expr_any (Call_method1 rfl rfl rfl (rName D U.a ?_).any) rfl rfl))⟩
      refine ⟨"list", "list.remove", F.plainAttrs_list, F.slot_list_remove, F.type_list_remove, ⟨_, hn, rfl⟩, fun _ e => by cases e; exact ⟨_, hn, rfl⟩, ?_⟩
      refine P.remove_list (rName D rfl ⟨_, nn, isSign c, va.length, ?_, ?_, hn, isSign_eq hy, ?_, ?_, ?_⟩).any
      · simp
      · simp at ly hzy; simp [sizeLine]; exact lin [_, _, _, _] (.e 1 (.p (.a 0) (.p (.a 1) (.n 1))) (.p (.a 2) (.p (.a 3) (.n 1))) <| .h 1 (.p (.a 2) (.p (.a 3) (.n 1))) (.n 100000) <| .g 1 (.p (.a 0) (.p (.a 1) (.n 1))) (.n 16777216)) (.refl true) ly hzy
      · simp [isSign]
      · intro i hi hlt
        have hia : i < (ones a).length := by rw [← hya.length]; exact hlt
        obtain ⟨w, hw⟩ := hya.get (i := i) (List.getElem?_eq_getElem hia)
        have e1 : (va ++ ([Value.str (S [c]) u] ++ vb))[i]? = some (.str (S (ones a)[i]) w) := by rw [List.getElem?_append_left hlt]; exact hw
        have e2 : (va ++ ([Value.str (S [c]) u] ++ vb)).toArray[i] = .str (S (ones a)[i]) w := by
          have := List.getElem?_eq_some_iff.mp e1
          simpa using this.2
        rw [e2]
        have hia' : i < a.length := by simpa using hia
        have : a[i] ≠ c := fun q => hna (q ▸ List.getElem_mem hia')
        simpa [isSign] using this
      · have D := D.setAt 2 rfl (Heap.SameBut.update ..) (Cell.upList (ys := va ++ vb) (f := fun xs => xs.eraseIdxIfInBounds va.length) ⟨nn, hn⟩ (by
          have e2 : va.length < (va ++ ([Value.str (S [c]) u] ++ vb)).toArray.size := by simp
          rw [Array.eraseIdxIfInBounds, dif_pos e2]
          apply Array.ext'
          rw [Array.toList_eraseIdx]
          exact erase_mid va vb _)) (Nat.le_refl _)
        refine wpAny_execs_nil (wpAny_execs_nil ?_)
        refine (x_nil ⟨x'.length, by simp, _, ev', va ++ vb, mv, x', a ++ b, k, rfl, U, hx1, ?_, hm, hc.hit, by simp at hz ⊢; exact lin [_, _] (.h 1 (.p (.p (.a 1) (.n 1)) (.a 0)) (.n 100000) <| .g 1 (.p (.a 1) (.a 0)) (.n 100000)) (.refl true) hz, by simp at hzy ⊢; exact lin [_, _] (.h 1 (.p (.a 0) (.p (.a 1) (.n 1))) (.n 100000) <| .g 1 (.p (.a 0) (.a 1)) (.n 100000)) (.refl true) hzy, D⟩)
        have := hya.append hyc
        simpa [ones] using this
    · obtain ⟨nn, hn⟩ := D.nth 2 rfl
      refine x_cons ⟨wpAny_Try_except (wpAny_execs_cons (wpAny_Expr_any (Call_method1 rfl rfl rfl (rName D U.a ?_).any) rfl rfl))⟩
      refine ⟨"list", "list.remove", F.plainAttrs_list, F.slot_list_remove, F.type_list_remove, ⟨_, hn, rfl⟩, fun _ e => by cases e; exact ⟨_, hn, rfl⟩, ?_⟩
      refine wpAny_with_toks (Nat.le_refl _) (PySem.seqMethod1_meets F.slot_list_remove F.entry_list_remove (rName D rfl ⟨⟨_, hn, rfl⟩, F.args_list_remove_2 _ _, _, MeetsSeq.list_remove_none aa _ nn _ (isSign c) (isSign_eq hy) ?_, hn, R.hh, fun h' tk e hx ht => ?_⟩).any)
      · intro i hi
        have hia : i < (ones y).length := by rw [← hy.length]; simpa using hi
        obtain ⟨w, hw⟩ := hy.get (i := i) (List.getElem?_eq_getElem hia)
        have e2 : av.toArray[i] = .str (S (ones y)[i]) w := by
          have := List.getElem?_eq_some_iff.mp hw
          simpa using this.2
        rw [e2]
        have hia' : i < y.length := by simpa using hia
        have : y[i] ≠ c := fun q => hcy (q ▸ List.getElem_mem hia')
        simpa [isSign] using this
      · obtain ⟨fl, hfl, hF⟩ := frames_now (fd := F147.1) (f := 147) (i := 1) Fm D rfl (by decide) hk' hf'
        refine caught D.now hfl hF rfl hx ht (fun s' Q P q => gBuilt P b_VE q) fun h2 nx => ?_
        have D := D.step nx
        obtain ⟨rfl, hc9⟩ := hc.miss hcy
        refine x_consL ?_
        intro Qs
        refine x_expr <| e_m1 <| rName D U.mi <| m_append ⟨_, D.nth 0 rfl⟩ <| rName D rfl ⟨_, _, _, _, 0, _, D, rfl, by simp [sizeLine]; exact lin [_, _, _] (.e 1 (.a 0) (.a 1) <| .h 1 (.p (.a 2) (.a 1)) (.n 100000) <| .g 1 (.a 0) (.n 16777216)) (.refl true) lm hz, fun s' D => x_nil <| x_nil ?_⟩
        refine ⟨x'.length, by simp, _, ev', av, _, x', y, k + 1, rfl, U, hx1, hy, ?_, hc9, by simp at hz ⊢; exact lin [_, _] (.h 1 (.p (.p (.a 1) (.n 1)) (.a 0)) (.n 100000) <| .g 1 (.p (.a 1) (.p (.a 0) (.n 1))) (.n 100000)) (.refl true) hz, hzy, D⟩
        have := hm.snoc [92] t
        rw [List.replicate_succ']
        simpa [ones] using this
  · have hx0 : x = [] := by
      have : ev = [] := by simpa using hb
      subst this
      exact List.length_eq_zero_iff.mp lx.symm
    subst hx0
    obtain ⟨rfl, rfl⟩ := hc.done
    have ha : av = [] := List.length_eq_zero_iff.mp ly
    have he : ev = [] := List.length_eq_zero_iff.mp lx
    subst ha he
    refine x_consL ?_
    intro Qs
    refine x_ret <| e_tup <| a_cons <| rName D U.mi <| a_cons <| rName D U.a <| a_nil ⟨_, _, _, _, D, Nat.le_of_ble_eq_true rfl, fun tp s' D => ?_⟩
    have D := ((D.perm (List.perm_middle (l₁ := [_, _])).symm).swap).forget (.cons _ (.refl _))
    exact h _ _ _ _ D hm
end
end Mine
end
-- Q3
section
open PySem PySem.Calls PyProof.Rows PySem.W
namespace Mine
noncomputable def glsum (p : List Item × List (List Item)) : Nat := ((GL p).map (·.length)).sum
theorem glsum_step {p : List Item × List (List Item)} {it : Item} : glsum (grpStep p it) ≤ glsum p + 6 ∧ (GL (grpStep p it)).length ≤ (GL p).length + 1 := by
  have hl := pieces_len it
  unfold glsum
  by_cases h : isStar it = true
  · obtain ⟨_, h1, h2⟩ := GL_star (p := p) h
    by_cases ho : open? p
    · rw [h1 ho]; constructor <;> (first | exact lin [_] (.g 1 (.a 0) (.p (.a 0) (.n 6))) (.refl true) | exact lin [_] (.g 1 (.a 0) (.p (.a 0) (.n 1))) (.refl true))
    · rw [h2 ho]; constructor <;> simp
  · obtain ⟨g, r, e1, e2⟩ := GL_it (p := p) h
    rw [e1, e2]
    simp
    exact lin [_, _, _] (.h 1 (.a 0) (.n 6) <| .g 1 (.p (.p (.a 1) (.a 0)) (.a 2)) (.p (.p (.a 1) (.a 2)) (.n 6))) (.refl true) hl
theorem glsum_fold : ∀ (its : List Item) (p : List Item × List (List Item)), glsum (its.foldl grpStep p) ≤ glsum p + 6 * its.length ∧ (GL (its.foldl grpStep p)).length ≤ (GL p).length + its.length
  | [], _ => by simp
  | it :: r, p => by
    have h1 := glsum_step (p := p) (it := it)
    have h2 := glsum_fold r (grpStep p it)
    rw [List.foldl_cons, List.length_cons]
    constructor <;> (first | exact lin [_, _, _, _] (.h 1 (.a 0) (.p (.a 1) (.n 6)) <| .h 1 (.a 2) (.p (.a 0) (.m 6 (.a 3))) <| .g 1 (.a 2) (.p (.a 1) (.m 6 (.p (.a 3) (.n 1))))) (.refl true) h1.1 h2.1 | exact lin [_, _, _, _] (.h 1 (.a 0) (.p (.a 1) (.n 1)) <| .h 1 (.a 2) (.p (.a 0) (.a 3)) <| .g 1 (.a 2) (.p (.a 1) (.p (.a 3) (.n 1)))) (.refl true) h1.2 h2.2)
theorem len_le_sum {l : List (List (List Nat))} {g : List (List Nat)} (h : g ∈ l) : g.length ≤ (l.map (·.length)).sum := by
  induction l with
  | nil => cases h
  | cons x l ih =>
    rcases List.mem_cons.mp h with rfl | h
    · simp
    · have := ih h; simp; exact lin [_, _, _] (.h 1 (.a 0) (.a 1) <| .g 1 (.a 0) (.p (.a 2) (.a 1))) (.refl true) this
theorem Grps.getR {cs as gs} (x : Grps cs as gs) {i : Nat} {g} (h : gs.reverse[i]? = some g) : ∃ a v, (as.reverse)[i]? = some a ∧ (a, .list v) ∈ cs ∧ Strs v g := by
  have hi : i < gs.length := by
    have := (List.getElem?_eq_some_iff.mp h).1
    simpa using this
  rw [List.getElem?_reverse hi] at h
  obtain ⟨a, v, h1, h2, h3⟩ := x.get h
  refine ⟨a, v, ?_, h2, h3⟩
  rw [List.getElem?_reverse (by rw [x.length]; exact hi), x.length]
  exact h1
theorem Grps.uncons {cs as g gs} (x : Grps cs as (g :: gs)) : ∃ a v cs' as', cs = (a, .list v) :: cs' ∧ as = a :: as' ∧ Strs v g ∧ Grps cs' as' gs := by
  cases x with
  | cons a v h r => exact ⟨a, v, _, _, rfl, rfl, h, r⟩
noncomputable abbrev forB (st : Option Stmt) : List Stmt := match st with | some (.For _ _ b _ _) => b | _ => []
noncomputable def midRow (g : List (List Nat)) : List (List Nat) := [[40], [63], [62], [46], [42], [63]] ++ g ++ [[41]]
theorem rowJn_mid : ∀ (ms : List (List (List Nat))) (g : List (List Nat)), rowJn (ms ++ [g]) = ms.flatMap midRow ++ [[46], [42]] ++ g
  | [], g => by simp [rowJn]
  | [m], g => by simp [rowJn, midRow]
  | m :: m' :: ms, g => by
    have ih := rowJn_mid (m' :: ms) g
    show midRow m ++ rowJn (m' :: ms ++ [g]) = _
    rw [ih]
    simp [List.flatMap_cons]
section
variable {prog : Program} {C : Cx} {A : Around} {s₀ s : Shared} {L a : Addr} {m : Str → Option Value} {led : List (Addr × Cell)} {fd : FuncData} {env : Env}
noncomputable abbrev env182 (L : Addr) : Env := callEnv F182.1 L 182
noncomputable abbrev refs (as : List Addr) : List Value := as.reverse.map Value.ref
theorem pc_loop1 {items gr a0 : Addr} {vs : List Value} {its : List Item} {st0 : Stmt} {Q : Flow → Shared → Prop} {tb : Tok} (D : Led C s₀ L m [(gr, .list [.ref a0]), (a0, .list [])] s) (hl : (Cell.list vs).At s₀.heap items) (hi : ItemsAt s₀.heap vs its) (hok : ∀ it ∈ its, OkItem it) (hn : its.length ≤ 100) (hh : A.handled = none)
    (mi : m (Str.ofString "items") = some (.ref items)) (mg : m (Str.ofString "groups") = some (.ref gr)) (mb : m (Str.ofString "before") = some (.str (S []) tb)) (hst : (bodyOf F182.1)[2]? = some st0)
    (hQ : ∀ m s' cs as, m (Str.ofString "groups") = some (.ref gr) → Grps cs as (GL (grp its)) → Led C s₀ L m ((gr, .list (refs as)) :: cs) s' → Q .next s') :
    W prog C A (exec st0 (env182 L)) Q s := by
  have hvl := hi.length
  obtain rfl : _ = st0 := Option.some.inj hst
  refine x_for <| rName D mi <| it_list D (D.argL hl) fun it s' D _ => ?_
  let Inv1 : Nat → Shared → Prop := fun k s' => Ex7 fun m rest done cs as bx tb => And7 (k = rest.length) (its = done ++ rest) (m (Str.ofString "groups") = some (.ref gr)) (m (Str.ofString "before") = some (.str (S bx) tb)) ((bx = [42] ↔ open? (done.foldl grpStep ([], [])))) (Grps cs as (GL (done.foldl grpStep ([], [])))) (Led C s₀ L m ((it, .fld "list_iterator" [.ref items, .int (done.length : Int) 0]) :: (gr, .list (refs as)) :: cs) s')
  refine loopT Inv1 its.length
    ⟨_, its, [], _, [a0], [], tb, rfl, rfl, mg, mb, ⟨fun q => by simp at q, fun ⟨i, e⟩ => by have := congrArg List.length e; simp at this⟩, .cons a0 [] .nil .nil, D⟩ ?_
  rintro k s₁ Qb ⟨m, rest, done, cs, as, bx, tb, rfl, hits, mg, mb, hbx, hG, D⟩
  have hgl := hG.length
  have hsum := glsum_fold done ([], [])
  have hdl : done.length ≤ its.length := by rw [hits]; simp
  have h0 : glsum ([], []) = 0 := rfl
  have h1 : (GL ([], [])).length = 1 := rfl
  cases rest with
  | nil =>
    have e : its = done := by rw [hits]; simp
    refine n_list_end D 0 rfl (D.argL hl) (List.getElem?_eq_none (by rw [hvl, e]; exact Nat.le_refl _)) hh fun s' D _ => ?_
    dsimp only
    exact hQ _ _ _ _ mg (by unfold grp; rw [e]; exact hG) D
  | cons i r =>
    obtain ⟨v, hv, b, p, pv, tw0, rfl, hb, hp, hpv⟩ := hi.get (i := done.length) (it := i) (by rw [hits]; simp)
    have hoi := hok i (by rw [hits]; simp)
    have hwl := written_len i
    have hpl := pieces_len i
    refine n_list D 0 rfl (D.argL hl) hv fun s' D _ => ?_
    dsimp only
    refine ⟨wpAny_letOwnedTupleGo_listiter (D.nth 0 rfl).2 ?_⟩
    refine t_two D (D.argT hb) hh fun s' D => as_name <| rStore D fun s' D => as_name <| rStore D fun s' D => ?_
    have mg2 : (upd (upd m (Str.ofString "written") (.str (S i.written) tw0)) (Str.ofString "pieces") (.ref p)) (Str.ofString "groups") = some (.ref gr) := mg
    have last : ∀ {m s' cs as tw}, m (Str.ofString "groups") = some (.ref gr) → m (Str.ofString "written") = some (.str (S i.written) tw) → Grps cs as (GL (grpStep (done.foldl grpStep ([], [])) i)) →
        Led C s₀ L m ((it, .fld "list_iterator" [.ref items, .int ((done.length + 1 : Nat) : Int) 0]) :: (gr, .list (refs as)) :: cs) s' → W prog C A (execs ((forB ((bodyOf F182.1)[2]?)).drop 1) (env182 L)) Qb s' := by
      intro m s' cs as tw mg mw hG D
      refine x_consL ?_
      intro Qs
      refine x_assign <| rName D mw <| rStore D fun s' D => x_nil ?_
      refine ⟨r.length, by simp, upd m (Str.ofString "before") (.str (S i.written) tw), r, done ++ [i], cs, as, i.written, tw, rfl, by rw [hits]; simp, by exact mg, by exact rfl, ?_, by rw [List.foldl_append]; exact hG, by rw [show (done ++ [i]).length = done.length + 1 by simp]; exact D⟩
      rw [written_star hoi, List.foldl_append]
      exact ⟨fun h => (GL_star h).1, fun h => Decidable.byContradiction fun q => open_it q h⟩
    refine x_consL ?_
    intro Qs
    refine x_if ?_
    intro Qi
    refine t_cmp <| rName D (by exact rfl) <| rStrS [42] D fun t s' D => rNeS ⟨_, rfl, rIf (fun hb => ?_) (fun hb => ?_)⟩
    · have hns : ¬ isStar i = true := by
        rw [← written_star hoi]
        simpa using hb
      obtain ⟨g, rg, e1, e2⟩ := GL_it (p := done.foldl grpStep ([], [])) hns
      rw [e1] at hG
      have hgs : g.length ≤ 6 * done.length := by
        have := len_le_sum (l := GL (done.foldl grpStep ([], []))) (g := g) (by rw [e1]; simp)
        unfold glsum at hsum h0
        exact lin [_, _, _, _] (.h 1 (.a 0) (.p (.a 1) (.m 6 (.a 2))) <| .e 1 (.a 1) (.n 0) <| .h 1 (.a 3) (.a 0) <| .g 1 (.a 3) (.m 6 (.a 2))) (.refl true) hsum.1 h0 this
      obtain ⟨ga, gv, cs', as', rfl, rfl, hgv, hG'⟩ := hG.uncons
      have er : refs (ga :: as') = refs as' ++ [.ref ga] := by simp [refs]
      rw [er] at D
      have hgvl := hgv.length
      have hpvl := hpv.length
      refine x_consL ?_
      intro Qs
      refine x_setL <| e_bin <| e_item <| rName D (by exact mg) <| e_m1i D fun t s' D => ?_
      refine i_list_last (x := .ref ga) (D.nth 1 rfl) (by simp) ?_
      refine rName D (by exact rfl) ?_
      refine rAddL D (D.nth 2 rfl) (D.argL hp) (by simp [sizeLine]; exact lin [_, _, _, _, _, _] (.h 6 (.a 0) (.n 100) <| .h 6 (.a 1) (.a 0) <| .h 1 (.a 2) (.n 6) <| .h 1 (.a 3) (.m 6 (.a 1)) <| .e 1 (.a 4) (.a 3) <| .e 1 (.a 5) (.a 2) <| .g 1 (.p (.a 4) (.a 5)) (.n 16777216)) (.refl true) hn hdl hpl hgs hgvl hpvl) fun c s' D => ?_
      refine rName D (by exact mg) <| e_m1i D fun t s' D => ?_
      refine w_setLast (k := 2) D rfl fun s' D => x_nil ?_
      have D := (D.forget (.cons_cons _ (.cons_cons _ (.cons_cons _ (.cons _ (.refl _)))))).perm (List.perm_middle (l₁ := [_, _]))
      refine last (as := c :: as') mg2 (by exact rfl) (by rw [e2]; exact .cons c _ (hgv.append hpv) hG') ?_
      have er2 : refs (c :: as') = refs as' ++ [.ref c] := by simp [refs]
      rw [er2]; exact D
    · have hs : isStar i = true := by
        rw [← written_star hoi]
        simpa using hb
      obtain ⟨_, h3, h4⟩ := GL_star (p := done.foldl grpStep ([], [])) hs
      refine x_consL ?_
      intro Qs
      refine x_if ?_
      intro Qi
      refine t_cmp <| rName D (by exact mb) <| rStrS [42] D fun t s' D => rNeS ⟨_, rfl, rIf (fun hb' => ?_) (fun hb' => ?_)⟩
      · have hno : ¬ open? (done.foldl grpStep ([], [])) := by rw [← hbx]; simpa using hb'
        refine x_consL ?_
        intro Qs
        refine x_expr <| e_m1 <| rName D (by exact mg) <| m_append ⟨_, D.nth 1 rfl⟩ <| e_list <| a_nil ⟨_, _, _, _, D, Nat.zero_le _, fun c s' D => ⟨_, _, _, _, 2, _, D, rfl, by simp [refs, sizeLine]; exact lin [_, _, _, _, _] (.h 1 (.a 0) (.n 100) <| .e 1 (.a 1) (.a 2) <| .h 1 (.a 2) (.p (.a 4) (.a 3)) <| .h 1 (.a 3) (.a 0) <| .e 1 (.a 4) (.n 1) <| .g 1 (.a 1) (.n 16777216)) (.refl true) hn hgl hsum.2 hdl h1, fun s' D => x_nil <| x_nil ?_⟩⟩
        have D := D.perm (List.perm_middle (l₁ := [_, _]))
        refine last (as := c :: as) mg2 (by exact rfl) (by rw [h4 hno]; exact .cons c _ .nil hG) ?_
        have er2 : refs (c :: as) = refs as ++ [.ref c] := by simp [refs]
        rw [er2]; exact D
      · have hyes : open? (done.foldl grpStep ([], [])) := by rw [← hbx]; simpa using hb'
        exact x_nil <| x_nil <| last mg2 (by exact rfl) (by rw [h3 hyes]; exact hG) D
end
end Mine
end
-- Q4
section
open PySem PySem.Calls PyProof.Rows PySem.W
namespace Mine
theorem rowOf_split (its : List Item) : ∃ g0 fs, (GL (grp its)).reverse = g0 :: fs ∧ rowOf its = [[40], [63], [115], [58]] ++ g0 ++ rowJn fs ++ [[41], [92, 90]] := by
  refine ⟨pieceG (grp its).1, (grp its).2.map pieceG, ?_, rfl⟩
  simp [GL]
section
variable {prog : Program} {C : Cx} {A : Around} {s₀ s : Shared} {L a : Addr} {m : Str → Option Value} {led : List (Addr × Cell)} {fd : FuncData} {env : Env}
theorem pc_tail {gr : Addr} {cs : List (Addr × Cell)} {as : List Addr} {its : List Item} {Q : Value → Shared → Prop} (D : Led C s₀ L m ((gr, .list (refs as)) :: cs) s) (hG : Grps cs as (GL (grp its))) (hn : its.length ≤ 100) (hh : A.handled = none)
    (mg : m (Str.ofString "groups") = some (.ref gr)) (h : ∀ r rv L' m' s', Led C s₀ L' m' [(r, .list rv)] s' → Strs rv (rowOf its) → Q (.ref r) s') :
    W prog C A (execs ((bodyOf F182.1).drop 3) (env182 L)) (RetQ Q) s := by
  obtain ⟨g0, fs, eG, eR⟩ := rowOf_split its
  have hgl := hG.length
  have hsum := glsum_fold its ([], [])
  have h0 : glsum ([], []) = 0 := rfl
  have h1 : (GL ([], [])).length = 1 := rfl
  have hlen : (refs as).length = fs.length + 1 := by
    have : (GL (grp its)).reverse.length = fs.length + 1 := by rw [eG]; simp
    simp at this
    simp [refs, hgl, this]
  have hfl : fs.length ≤ 101 := by
    have : (GL (grp its)).length = fs.length + 1 := by
      have : (GL (grp its)).reverse.length = fs.length + 1 := by rw [eG]; simp
      simpa using this
    unfold grp at this
    exact lin [_, _, _, _] (.h 1 (.a 0) (.n 100) <| .h 1 (.a 1) (.p (.a 2) (.a 0)) <| .e 1 (.a 2) (.n 1) <| .f 1 (.a 1) (.p (.a 3) (.n 1)) <| .g 1 (.a 3) (.n 101)) (.refl true) hn hsum.2 h1 this
  have hgle : ∀ g, g ∈ g0 :: fs → g.length ≤ 600 := fun g hg => by
    have hg' : g ∈ GL (grp its) := by rw [← List.mem_reverse, eG]; exact hg
    have := len_le_sum hg'
    unfold glsum at hsum h0
    unfold grp at this
    exact lin [_, _, _, _] (.h 6 (.a 0) (.n 100) <| .h 1 (.a 1) (.p (.a 2) (.m 6 (.a 0))) <| .e 1 (.a 2) (.n 0) <| .h 1 (.a 3) (.a 1) <| .g 1 (.a 3) (.n 600)) (.refl true) hn hsum.1 h0 this
  -- a group by its place
  have at' : ∀ {i : Nat} {g}, (g0 :: fs)[i]? = some g → ∃ a v, (refs as)[i]? = some (.ref a) ∧ (a, .list v) ∈ cs ∧ Strs v g := by
    intro i g e
    rw [← eG] at e
    obtain ⟨a, v, e1, e2, e3⟩ := hG.getR e
    exact ⟨a, v, by simp only [refs]; rw [List.getElem?_map, e1]; rfl, e2, e3⟩
  obtain ⟨a0, v0, e0, m0, s0⟩ := at' (i := 0) (g := g0) rfl
  have hv0 := s0.length
  have hg0 := hgle g0 (by simp)
  refine x_consL ?_
  intro Qs
  refine x_assign <| e_bin <| e_list <| a_cons <| rStrS [40] D fun t1 s' D => a_cons <| rStrS [63] D fun t2 s' D => a_cons <| rStrS [115] D fun t3 s' D => a_cons <| rStrS [58] D fun t4 s' D => a_nil ⟨_, _, _, _, D, Nat.le_of_ble_eq_true rfl, fun c s' D => ?_⟩
  refine e_item <| rName D mg <| rIntN 0 D fun t s' D => i_list (D.nth 1 rfl) e0 (by decide) ?_
  refine rAddL D (D.nth 0 rfl) (D.mem (List.mem_cons_of_mem _ (List.mem_cons_of_mem _ m0))) (by simp [sizeLine]; exact lin [_, _] (.e 1 (.a 0) (.a 1) <| .h 1 (.a 1) (.n 600) <| .g 1 (.p (.n 4) (.a 0)) (.n 16777216)) (.refl true) hv0 hg0) fun rw0 s' D => ?_
  refine rStore D fun s' D => ?_
  have D := D.forget (.cons_cons _ (.cons _ (.refl _)))
  have hs4 : Strs [.str (S [40]) t1, .str (S [63]) t2, .str (S [115]) t3, .str (S [58]) t4] [[40], [63], [115], [58]] := .cons _ _ (.cons _ _ (.cons _ _ (.cons _ _ .nil)))
  have hrow := hs4.append s0
  -- the groups in the middle
  refine x_consL ?_
  intro Qs
  refine x_for <| e_sliceL <| rName D (by exact mg) <| p_some <| rIntN 1 D fun t s' D => p_some <| e_m1i D fun t' s' D => ⟨_, _, _, _, gr, refs as, ((refs as).drop 1).take ((refs as).length - 2), some ((1 : Nat) : Int), some (-1), D, rfl, D.nth 1 rfl, by simp [sizeLine]; simp at hlen; exact lin [_, _] (.h 1 (.a 0) (.n 101) <| .e 1 (.a 1) (.p (.a 0) (.n 1)) <| .g 1 (.a 1) (.n 16777216)) (.refl true) hfl hlen, .int _ _, .int _ _, pick_mid _, fun sl s' D => ?_⟩
  refine it_list D (D.nth 0 rfl) fun it s' D _ => ?_
  let Inv1 : Nat → Shared → Prop := fun k s' => Ex5 fun m r rv j ps => And8 (k = (fs.length - 1) - j) (j ≤ fs.length - 1) (m (Str.ofString "groups") = some (.ref gr)) (m (Str.ofString "row") = some (.ref r)) (Strs rv ps) (ps = [[40], [63], [115], [58]] ++ g0 ++ (fs.take j).flatMap midRow) (ps.length ≤ 604 + 607 * j) (Led C s₀ L m ((it, .fld "list_iterator" [.ref sl, .int (j : Int) 0]) :: (sl, .list (((refs as).drop 1).take ((refs as).length - 2))) :: (r, .list rv) :: (gr, .list (refs as)) :: cs) s')
  refine loopN Inv1 (fs.length - 1)
    ⟨_, rw0, _, 0, _, rfl, Nat.zero_le _, by exact mg, by exact rfl, hrow, by simp, by simp; exact hg0, D⟩ ?_
  rintro k s₂ Qb ⟨m, r, rv, j, ps, rfl, hj, mg, mr, hrv, eps, hpl, D⟩
  have hrl := hrv.length
  by_cases hlt : j < fs.length - 1
  · have hjf : j < fs.length := by exact lin [_, _, _] (.l 1 (.a 0) (.a 1) <| .h 1 (.a 1) (.a 2) <| .j 1 (.a 0) (.a 2)) (.refl true) hlt (subB _ _)
    obtain ⟨ag, vg, eg, mgc, sg⟩ := at' (i := j + 1) (g := fs[j]) (by rw [List.getElem?_cons_succ, List.getElem?_eq_getElem hjf])
    have hvg := sg.length
    have hgg := hgle fs[j] (List.mem_cons_of_mem _ (List.getElem_mem hjf))
    have ey : (((refs as).drop 1).take ((refs as).length - 2))[j]? = some (.ref ag) := by
      rw [List.getElem?_take_of_lt (by exact lin [_, _, _, _, _] (.f 1 (.a 0) (.p (.a 1) (.n 1)) <| .l 1 (.a 2) (.a 3) <| .h 1 (.a 0) (.p (.a 4) (.n 2)) <| .e 1 (.p (.a 3) (.n 1)) (.a 1) <| .j 1 (.a 2) (.a 4)) (.refl true) hlen hlt (subA _ _) (subC (by exact lin [_, _] (.l 1 (.a 0) (.a 1) <| .g 1 (.n 1) (.a 1)) (.refl true) hjf))), List.getElem?_drop, Nat.add_comm]; exact eg
    refine n_list D 0 rfl (D.nth 1 rfl) ey fun s' D _ => ?_
    dsimp only
    refine rStore D fun s' D => ?_
    have mgc' : ∀ {x y z u : Addr × Cell}, (ag, Cell.list vg) ∈ x :: y :: z :: u :: cs := List.mem_cons_of_mem _ (List.mem_cons_of_mem _ (List.mem_cons_of_mem _ (List.mem_cons_of_mem _ mgc)))
    refine x_consL ?_
    intro Qs
    refine x_assign <| e_bin <| e_bin <| e_bin <| rName D (by exact mr) <| e_list <| a_cons <| rStrS [40] D fun t1 s' D => a_cons <| rStrS [63] D fun t2 s' D => a_cons <| rStrS [62] D fun t3 s' D => a_cons <| rStrS [46] D fun t4 s' D => a_cons <| rStrS [42] D fun t5 s' D => a_cons <| rStrS [63] D fun t6 s' D => a_nil ⟨_, _, _, _, D, Nat.le_of_ble_eq_true rfl, fun c1 s' D => ?_⟩
    refine rAddL D (D.nth 3 rfl) (D.nth 0 rfl) (by simp [sizeLine]; exact lin [_, _, _, _] (.h 607 (.a 0) (.n 101) <| .h 1 (.a 1) (.p (.n 604) (.m 607 (.a 2))) <| .e 1 (.a 3) (.a 1) <| .l 607 (.a 2) (.a 0) <| .g 1 (.a 3) (.n 16777210)) (.refl true) hfl hpl hrl hjf) fun c2 s' D => ?_
    refine rName D (by exact rfl) ?_
    refine rAddL D (D.nth 0 rfl) (D.mem (List.mem_cons_of_mem _ (List.mem_cons_of_mem _ mgc'))) (by simp [sizeLine]; exact lin [_, _, _, _, _, _] (.h 607 (.a 0) (.n 101) <| .h 1 (.a 1) (.p (.n 604) (.m 607 (.a 2))) <| .e 1 (.a 3) (.a 1) <| .l 607 (.a 2) (.a 0) <| .e 1 (.a 4) (.a 5) <| .h 1 (.a 5) (.n 600) <| .g 1 (.p (.p (.a 3) (.n 6)) (.a 4)) (.n 16777216)) (.refl true) hfl hpl hrl hjf hvg hgg) fun c3 s' D => ?_
    refine e_list <| a_cons <| rStrS [41] D fun t7 s' D => a_nil ⟨_, _, _, _, D, Nat.le_of_ble_eq_true rfl, fun c4 s' D => ?_⟩
    refine rAddL D (D.nth 1 rfl) (D.nth 0 rfl) (by simp [sizeLine]; exact lin [_, _, _, _, _, _] (.h 607 (.a 0) (.n 101) <| .h 1 (.a 1) (.p (.n 604) (.m 607 (.a 2))) <| .e 1 (.a 3) (.a 1) <| .l 607 (.a 2) (.a 0) <| .e 1 (.a 4) (.a 5) <| .h 1 (.a 5) (.n 600) <| .g 1 (.p (.a 3) (.p (.p (.p (.p (.p (.p (.a 4) (.n 1)) (.n 1)) (.n 1)) (.n 1)) (.n 1)) (.n 1))) (.n 16777215)) (.refl true) hfl hpl hrl hjf hvg hgg) fun c5 s' D => ?_
    refine rStore D fun s' D => x_nil ?_
    have hm : Strs [.str (S [40]) t1, .str (S [63]) t2, .str (S [62]) t3, .str (S [46]) t4, .str (S [42]) t5, .str (S [63]) t6] [[40], [63], [62], [46], [42], [63]] := .cons _ _ (.cons _ _ (.cons _ _ (.cons _ _ (.cons _ _ (.cons _ _ .nil)))))
    have h7 : Strs [.str (S [41]) t7] [[41]] := .cons _ _ .nil
    have hnew := ((hrv.append hm).append sg).append h7
    have D := (D.forget (led' := (c5, _) :: (it, _) :: (sl, _) :: (gr, _) :: cs) (.cons_cons _ (.cons _ (.cons _ (.cons _ (.cons _ (.cons_cons _ (.cons_cons _ (.cons _ (.refl _))))))))))
    have D := D.perm (List.perm_middle (l₁ := [_, _]))
    refine ⟨fs.length - 1 - (j + 1), by exact lin [_, _, _, _] (.h 1 (.a 0) (.p (.a 2) (.a 1)) <| .e 1 (.p (.a 3) (.p (.a 1) (.n 1))) (.a 0) <| .j 1 (.a 3) (.a 2)) (.refl true) (subA _ _) (subC (by exact lin [_, _] (.l 1 (.a 0) (.a 1) <| .g 1 (.p (.a 0) (.n 1)) (.a 1)) (.refl true) hlt)), _, c5, _, j + 1, _, rfl, by exact lin [_, _] (.l 1 (.a 0) (.a 1) <| .g 1 (.p (.a 0) (.n 1)) (.a 1)) (.refl true) hlt, by exact mg, by exact rfl, hnew, ?_, ?_, D⟩
    · rw [eps, List.take_succ_eq_append_getElem hjf, List.flatMap_append]
      simp [midRow]
    · simp; exact lin [_, _, _] (.h 1 (.a 0) (.p (.n 604) (.m 607 (.a 1))) <| .h 1 (.a 2) (.n 600) <| .g 1 (.p (.a 0) (.p (.p (.p (.p (.p (.p (.p (.a 2) (.n 1)) (.n 1)) (.n 1)) (.n 1)) (.n 1)) (.n 1)) (.n 1))) (.p (.n 604) (.m 607 (.p (.a 1) (.n 1))))) (.refl true) hpl hgg
  · have hje : j = fs.length - 1 := by exact Nat.le_antisymm (hj) (lin [_, _] (.o 1 (.a 0) (.a 1) <| .g 1 (.a 1) (.a 0)) (.refl true) hlt)
    refine n_list_end D 0 rfl (D.nth 1 rfl) (List.getElem?_eq_none (by rw [List.length_take, List.length_drop, hlen]; omega)) hh fun s' D _ => ?_
    dsimp only
    -- the last group
    refine x_consL ?_
    intro Qs
    refine x_if ?_
    intro Qi
    refine t_cmp <| e_bi D.now b_len <| a_cons <| rName D mg <| a_nil <| rLenL D (D.nth 2 rfl) (by rw [hlen]; simp [sizeLine]; exact lin [_] (.h 1 (.a 0) (.n 101) <| .g 1 (.a 0) (.n 16777215)) (.refl true) hfl) fun t s' D => rIntN 1 D fun t s' D => rGtN ⟨_, rfl, ?_⟩
    have fin : ∀ {m r rv s' ps led'}, m (Str.ofString "row") = some (.ref r) → Strs rv ps → ps.length ≤ 100000 → ps = [[40], [63], [115], [58]] ++ g0 ++ rowJn fs → Led C s₀ L m ((r, .list rv) :: led') s' → W prog C A (execs ((bodyOf F182.1).drop 6) (env182 L)) (RetQ Q) s' := by
      intro m r rv s' ps led' mr hrv hpl eps D
      have hrl := hrv.length
      refine x_consL ?_
      intro Qs
      refine x_ret <| e_bin <| rName D mr <| e_list <| a_cons <| rStrS [41] D fun t1 s' D => a_cons <| rStrS [92, 90] D fun t2 s' D => a_nil ⟨_, _, _, _, D, Nat.le_of_ble_eq_true rfl, fun c s' D => ?_⟩
      refine rAddL D (D.nth 1 rfl) (D.nth 0 rfl) (by simp [sizeLine]; exact lin [_, _] (.h 1 (.a 0) (.n 100000) <| .e 1 (.a 1) (.a 0) <| .g 1 (.a 1) (.n 16777214)) (.refl true) hpl hrl) fun c2 s' D => ?_
      have h2 : Strs [.str (S [41]) t1, .str (S [92, 90]) t2] [[41], [92, 90]] := .cons _ _ (.cons _ _ .nil)
      refine h _ _ _ _ _ (D.forget (.cons_cons _ (List.nil_sublist _))) ?_
      rw [eR, ← eps]
      exact hrv.append h2
    rcases last_or fs with rfl | ⟨ms, gl, rfl⟩
    · have D2 := D.perm (led' := (r, Cell.list rv) :: (sl, Cell.list (((refs as).drop 1).take ((refs as).length - 2))) :: (gr, Cell.list (refs as)) :: cs) (List.Perm.swap _ _ _)
      exact rIfF (by rw [hlen]; simp) <| x_nil <| fin (r := r) (rv := rv) (ps := ps) mr hrv (by simp at hje; exact lin [_, _] (.h 1 (.a 0) (.p (.n 604) (.m 607 (.a 1))) <| .e 607 (.a 1) (.n 0) <| .g 1 (.a 0) (.n 100000)) (.refl true) hpl hje) (by rw [eps]; simp [rowJn]) D2
    · refine rIfT (by rw [hlen]; simp) ?_
      obtain ⟨ag, vg, eg, mgc, sg⟩ := at' (i := ms.length + 1) (g := gl) (by rw [List.getElem?_cons_succ]; simp)
      have hvg := sg.length
      have hgg := hgle gl (by simp)
      have elast : (refs as).getLast? = some (.ref ag) := by
        rw [List.getLast?_eq_getElem?, hlen]
        simpa using eg
      refine x_consL ?_
      intro Qs
      refine x_assign <| e_bin <| e_bin <| rName D (by exact mr) <| e_list <| a_cons <| rStrS [46] D fun t1 s' D => a_cons <| rStrS [42] D fun t2 s' D => a_nil ⟨_, _, _, _, D, Nat.le_of_ble_eq_true rfl, fun c1 s' D => ?_⟩
      have hj2 : j = ms.length := by rw [hje]; simp
      refine rAddL D (D.nth 2 rfl) (D.nth 0 rfl) (by simp [sizeLine]; exact lin [_, _, _, _, _] (.h 1 (.a 0) (.p (.n 604) (.m 607 (.a 1))) <| .e 1 (.a 2) (.a 0) <| .h 607 (.a 3) (.n 101) <| .h 607 (.a 1) (.a 4) <| .h 607 (.a 4) (.a 3) <| .g 1 (.a 2) (.n 16777214)) (.refl true) hpl hrl hfl hj (subB _ _)) fun c2 s' D => ?_
      refine e_item <| rName D (by exact mg) <| e_m1i D fun t s' D => ?_
      refine i_list_last (x := .ref ag) (D.nth 4 rfl) elast ?_
      refine rAddL D (D.nth 0 rfl) (D.mem (List.mem_cons_of_mem _ (List.mem_cons_of_mem _ (List.mem_cons_of_mem _ (List.mem_cons_of_mem _ (List.mem_cons_of_mem _ mgc)))))) (by simp [sizeLine]; exact lin [_, _, _, _, _, _, _] (.h 1 (.a 0) (.p (.n 604) (.m 607 (.a 1))) <| .e 1 (.a 2) (.a 0) <| .h 607 (.a 3) (.n 101) <| .h 607 (.a 1) (.a 4) <| .e 1 (.a 5) (.a 6) <| .h 1 (.a 6) (.n 600) <| .h 607 (.a 4) (.a 3) <| .g 1 (.p (.p (.a 2) (.n 2)) (.a 5)) (.n 16777216)) (.refl true) hpl hrl hfl hj hvg hgg (subB _ _)) fun c3 s' D => ?_
      refine rStore D fun s' D => x_nil ?_
      have h2 : Strs [.str (S [46]) t1, .str (S [42]) t2] [[46], [42]] := .cons _ _ (.cons _ _ .nil)
      refine fin (by exact rfl) ((hrv.append h2).append sg) (by simp at hfl ⊢; exact lin [_, _, _, _] (.h 1 (.a 0) (.p (.n 604) (.m 607 (.a 1))) <| .h 1 (.a 2) (.n 600) <| .e 607 (.a 1) (.a 3) <| .h 607 (.a 3) (.n 100) <| .g 1 (.p (.a 0) (.p (.p (.a 2) (.n 1)) (.n 1))) (.n 100000)) (.refl true) hpl hgg hj2 hfl) ?_ D
      rw [rowJn_mid, eps, hj2]
      simp
theorem lpieces_spec {items : Addr} {vs : List Value} {its : List Item} {Q : Value → Shared → Prop} (P : Prog C s) (R : Room A 1) (hl : (Cell.list vs).At s.heap items) (hi : ItemsAt s.heap vs its) (hok : ∀ it ∈ its, OkItem it) (hn : its.length ≤ 100)
    (h : ∀ r rv L' m' s', Led C s L' m' [(r, .list rv)] s' → Strs rv (rowOf its) → Q (.ref r) s') : W prog C A (call (.ref 182) [.ref items]) Q s := by
  refine rEnter (n := 0) (binds := [(Str.ofString "items", .ref items)]) P R F182.2 rfl (.of_eq rfl) fun s₁ L R D => ?_
  refine x_consL ?_
  intro Qs
  refine x_assign <| e_list <| a_cons <| e_list <| a_nil ⟨_, _, _, _, D, Nat.zero_le _, fun a0 s' D => a_nil ⟨_, _, _, _, D, Nat.le_of_ble_eq_true rfl, fun gr s' D => rStore D fun s' D => ?_⟩⟩
  refine x_consL ?_
  intro Qs
  refine x_assign <| rStrS [] D fun t s' D => rStore D fun s' D => ?_
  refine x_consL ?_
  intro Qs
  refine pc_loop1 D hl hi hok hn R.hh rfl rfl rfl rfl fun m s' cs as mg hG D => ?_
  exact pc_tail D hG hn R.hh mg h
end
end Mine
end
-- Q5
section
open PySem PySem.Calls PyProof.Rows PySem.W
namespace Mine
section
variable {prog : Program} {C : Cx} {A : Around} {s₀ s : Shared} {L a : Addr} {m : Str → Option Value} {led : List (Addr × Cell)} {fd : FuncData} {env : Env}
theorem mul_base {prog : Program} {w : World} {A : Around} {E : Value → Shared → Prop} {s : Shared} {l : Addr} {items : Array Value} {k : Nat} {x : Int} {u : Tok} {Q : Value → Shared → Prop} (hk : s.heap.get? l = some { cls := .type "list", data := .seq items k })
    (c0 : ¬(!Builtin.List.listFitsIndex x) = true) (c1 : ¬items.size * x.toNat > (2 ^ 63 - 1) / 8) (c2 : ¬Builtin.List.listTooLong (items.size * x.toNat) = true)
    (h : Q (.ref s.heap.objs.size) { s with heap := s.heap.push { cls := Value.type "list", data := Data.seq (List.foldl (fun x1 x2 => x1 ++ x2) #[] (List.replicate (if items.isEmpty = true then 0 else x.toNat) items)) } }) :
    wpAny (model prog w) A (binaryOp .Mult (.ref l) (.int x u)) Q E s :=
  wpAny_binaryOp_repeat_ref (T := "list") (U := "int") (by decide) ⟨_, hk, rfl⟩ (fun s' => typeIs_int s' x u) noFill_list_mul F.fills_int_mul F.slot_int_rmul repeat_list F.slot_int_index.lookup
    (call_meets F.slot_int_rmul (typeIs_int s x u) F.entry_int_rmul (F.args_int_rmul_2 _ _) (int___rmul___int_list x u l items k)
      ⟨hk, rfl, ⟨_, hk, rfl⟩, call_meets F.slot_list_mul ⟨_, hk, rfl⟩ F.entry_list_mul (F.args_list_mul_2 _ _)
        (AutoListH.list___mul___list_int_3 l items k x u c0 c1 c2)
        ⟨hk, h⟩⟩)
theorem rMulL {l : Addr} {v : Value} {n : Nat} {u : Tok} {Q : Value → Shared → Prop} (D : Led C s₀ L m led s) (hl : (Cell.list [v]).At s.heap l) (hn : n ≤ 1000000) (h : ∀ c s', Led C s₀ L m ((c, .list (List.replicate n v)) :: led) s' → Q (.ref c) s') :
    W prog C A (binaryOp .Mult (.ref l) (.int (n : Int) u)) Q s := by
  obtain ⟨k, hk⟩ := hl
  have e : List.foldl (fun x1 x2 => x1 ++ x2) #[] (List.replicate (if ([v] : List Value).toArray.isEmpty = true then 0 else ((n : Int)).toNat) ([v] : List Value).toArray) = (List.replicate n v).toArray := by
    rw [if_neg (by simp), listMul_foldl]
    simp
  have hx : (([v] : List Value).toArray).size * ((n : Int)).toNat = n := by simp
  have c0 : ¬(!Builtin.List.listFitsIndex (n : Int)) = true := by rw [fitsIndex_of (by omega) (by omega)]; decide
  have c1 : ¬(([v] : List Value).toArray).size * ((n : Int)).toNat > (2 ^ 63 - 1) / 8 := by rw [hx]; omega
  have c2 : ¬Builtin.List.listTooLong ((([v] : List Value).toArray).size * ((n : Int)).toNat) = true := by rw [hx]; simp [Builtin.List.listTooLong, sizeLine]; exact lin [_] (.h 1 (.a 0) (.n 1000000) <| .g 1 (.a 0) (.n 16777216)) (.refl true) hn
  clear hx hn
  refine ⟨mul_base hk c0 c1 c2 ?_⟩
  rw [e]
  exact h _ _ (D.new (.list (List.replicate n v)) (tk := s.toks) (fun _ _ e => Heap.get?_push_of_some _ e) (Nat.le_refl _) ⟨0, Heap.get?_push_size _ rfl⟩ (Nat.le_refl _))
theorem rListS {x : List Nat} {t : Tok} {Q : Value → Shared → Prop} (D : Led C s₀ L m led s) (hh : A.handled = none) (hz : x.length ≤ sizeLine) (h : ∀ c xv s', Led C s₀ L m ((c, .list xv) :: led) s' → Strs xv (ones x) → Q (.ref c) s') :
    W prog C A (call (.type "list") [.str (S x) t]) Q s := by
  refine W.tk ⟨call_list_str hh (S x) t (fun h' tk acc' c' hk hg hacc hle => ?_) (by simpa using hz)⟩
  refine h _ acc'.toList _ (D.new (.list acc'.toList) (tk := tk) hk (Nat.le_refl _) ⟨c', by simpa using hg⟩ hle) ?_
  have key : ∀ (y : List Nat) (vs : List Value), vs.length = y.length → (∀ (j : Nat) (v : Value), vs[j]? = some v → ∃ (c : Nat) (u : Tok), y[j]? = some c ∧ v = Value.str (S [c]) u) → Strs vs (ones y) := by
    intro y
    induction y with
    | nil => intro vs hl _; rw [List.length_eq_zero_iff.mp hl]; exact .nil
    | cons c y ih =>
      intro vs hl hv
      cases vs with
      | nil => simp at hl
      | cons v vs =>
        obtain ⟨d, u, e1, e2⟩ := hv 0 v rfl
        simp at e1
        subst e1 e2
        exact (ih vs (by simpa using hl) fun j w hw => by
          obtain ⟨d, u, e1, e2⟩ := hv (j + 1) w (by simpa using hw)
          exact ⟨d, u, by simpa using e1, e2⟩).cons [c] u
  refine key x _ ?_ ?_
  · have := hacc.1
    simpa using this
  · intro j v hv
    obtain h9 := hacc.2 j v (by simpa using hv)
    obtain ⟨c, u, e1, e2⟩ := h9
    exact ⟨c, u, by simpa using e1, e2⟩
end
end Mine
end
-- Q6
section
open PySem PySem.Calls PyProof.Rows PySem.W
namespace Mine
section
variable {prog : Program} {C : Cx} {A : Around} {s₀ s : Shared} {L a : Addr} {m : Str → Option Value} {led : List (Addr × Cell)} {fd : FuncData} {env : Env}
/-- some objects of the ledger moved, told anew; new ones come -/
theorem Led.redo {gone gone' nw : List (Addr × Cell)} {s' : Shared} (D : Led C s₀ L m (gone ++ led) s) (hk : ∀ b o, (∀ p ∈ gone, b ≠ p.1) → s.heap.get? b = some o → s'.heap.get? b = some o) (ht : s.toks ≤ s'.toks)
    (hos : s'.os = s.os) (hg : AllBare s.gens → AllBare s'.gens) (ha : gone'.map (·.1) = gone.map (·.1)) (hc : ∀ p ∈ gone', p.2.At s'.heap p.1) (hn : ∀ p ∈ nw, s.heap.objs.size ≤ p.1 ∧ p.2.At s'.heap p.1) (hd : (nw.map (·.1)).Pairwise (· ≠ ·)) :
    Led C s₀ L m (nw ++ (gone' ++ led)) s' := by
  have B := D.dropN hk ht hos hg
  have old : ∀ p ∈ gone ++ led, p.1 < s.heap.objs.size := fun p hp => by
    obtain ⟨o, e, _⟩ := (D.cells p hp).1.get
    exact Heap.lt_size e
  have gn : ∀ p ∈ gone', ∃ q ∈ gone, q.1 = p.1 := fun p hp => by
    have : p.1 ∈ gone.map (·.1) := by rw [← ha]; exact List.mem_map_of_mem hp
    obtain ⟨q, hq, e⟩ := List.mem_map.mp this
    exact ⟨q, hq, e⟩
  refine { B with cells := fun p hp => ?_, dist := ?_ }
  · rcases List.mem_append.mp hp with hp | hp
    · have h := hn p hp
      exact ⟨h.2, Nat.ne_of_gt (Nat.lt_of_lt_of_le D.ns.lt h.1), Nat.le_trans (Nat.le_trans D.above (Nat.le_of_lt D.ns.lt)) h.1⟩
    · rcases List.mem_append.mp hp with hp | hp
      · obtain ⟨q, hq, e⟩ := gn p hp
        have h := (D.cells q (List.mem_append_left _ hq)).2
        rw [e] at h
        exact ⟨hc p hp, h⟩
      · exact B.cells p hp
  · rw [← List.pairwise_map (f := fun p : Addr × Cell => p.1) (R := (· ≠ ·)), List.map_append, List.map_append, ha, ← List.map_append]
    have hD := List.pairwise_map.mpr D.dist
    refine List.pairwise_append.mpr ⟨hd, hD, fun x hx y hy e => ?_⟩
    obtain ⟨p, hp, rfl⟩ := List.mem_map.mp hx
    obtain ⟨q, hq, rfl⟩ := List.mem_map.mp hy
    have h1 := (hn p hp).1
    have h2 := old q hq
    have e' : p.1 = q.1 := e
    rw [e'] at h1
    exact absurd (Nat.lt_of_lt_of_le h2 h1) (Nat.lt_irrefl _)
noncomputable abbrev enumObj (it : Addr) (i : Nat) (old : Value) : Obj := { cls := .type "enumerate", data := .fields #[.none, .bool false, .ref it, rawInt (i : Int), .none, old] }
noncomputable abbrev enumOut (it : Addr) (i : Nat) (item : Value) (tp : Addr) : Obj := { cls := .type "enumerate", data := .fields #[rawInt (tp : Nat), .bool false, .ref it, rawInt (i : Int), .none, item] }
theorem rEnum {l : Addr} {xs : List Value} {Q : Value → Shared → Prop} (D : Led C s₀ L m led s) (hl : (Cell.list xs).At s.heap l)
    (h : ∀ e it s', Led C s₀ L m ((e, .obj (enumObj it 0 .none)) :: (it, .fld "list_iterator" [.ref l, .int ((0 : Nat) : Int) 0]) :: led) s' → Q (.ref e) s') : W prog C A (call (.type "enumerate") [.ref l]) Q s := by
  refine ⟨call_enumerate_list hl.isList fun h' he hit hsz hk => h _ s.heap.objs.size _ ?_⟩
  refine Led.redo (gone := []) (gone' := []) (nw := [(s.heap.objs.size + 1, .obj (enumObj s.heap.objs.size 0 .none)), (s.heap.objs.size, .fld "list_iterator" [.ref l, .int ((0 : Nat) : Int) 0])]) D (fun b o _ e => hk b o e) (Nat.le_refl _) rfl id rfl (fun p hp => nomatch hp) (fun p hp => ?_) (by simp)
  simp at hp
  rcases hp with rfl | rfl
  · exact ⟨Nat.le_succ _, he, (fun ⟨_, _, e⟩ => nomatch e), by simp⟩
  · exact ⟨Nat.le_refl _, by simp, hit⟩
theorem n_enum {e it l : Addr} {i : Nat} {xs : List Value} {x old : Value} {Q : Option Value → Shared → Prop} (D : Led C s₀ L m ((e, .obj (enumObj it i old)) :: (it, .fld "list_iterator" [.ref l, .int (i : Int) 0]) :: led) s) (hl : (Cell.list xs).At s.heap l) (hx : xs[i]? = some x)
    (h : ∀ tp t s', Led C s₀ L m ((tp, .tup [.int (i : Int) t, x]) :: (e, .obj (enumOut it (i + 1) x tp)) :: (it, .fld "list_iterator" [.ref l, .int ((i + 1 : Nat) : Int) 0]) :: led) s' → Q (some (.ref tp)) s') : W prog C A (pyNext (.ref e)) Q s := by
  have hne : e ≠ it := D.ne (i := 0) (j := 1) rfl rfl (by decide)
  obtain ⟨_, o, ho, hc, hd⟩ := D.nth 1 rfl
  refine W.tk ⟨wpAny_pyNext_enum_item (D.nth 0 rfl).1 ⟨o, ho, hc, hd⟩ hl.isList (by simpa using hx) hne fun h' he hit htp hsz hk hle => h _ s.toks _ ?_⟩
  refine Led.redo (gone := [(e, .obj (enumObj it i old)), (it, .fld "list_iterator" [.ref l, .int (i : Int) 0])]) (gone' := [(e, .obj (enumOut it (i + 1) x s.heap.objs.size)), (it, .fld "list_iterator" [.ref l, .int ((i + 1 : Nat) : Int) 0])]) (nw := [(s.heap.objs.size, .tup [.int (i : Int) s.toks, x])]) D
    (fun b o hb eo => hk b o (hb _ (List.mem_cons_self ..)) (hb _ (List.mem_cons_of_mem _ (List.mem_cons_self ..))) eo) hle rfl id rfl (fun p hp => ?_) (fun p hp => ?_) (by simp)
  · simp only [List.mem_cons, List.not_mem_nil, or_false] at hp
    rcases hp with rfl | rfl
    · exact ⟨he, (fun ⟨_, _, e⟩ => nomatch e), by simp⟩
    · obtain ⟨o', ho', hc', hd'⟩ := hit
      exact ⟨by simp, o', ho', hc', hd'⟩
  · simp at hp
    subst hp
    exact ⟨Nat.le_refl _, 0, htp⟩
theorem go_enum {elts : List Expr} {x1 : Nat} {pos : Pos} {e it tp : Addr} {i : Nat} {x : Value} {k : Nat} {Q : Unit → Shared → Prop} (D : Led C s₀ L m led s) (hk : led[k]? = some (e, .obj (enumOut it i x tp))) (h : ∀ s', Led C s₀ L m (led.set k (e, .obj (enumObj it i x))) s' → Q () s') :
    W prog C A (letOwnedTupleGo (.Tuple elts x1 pos) (.ref e) (.ref tp)) Q s :=
  ⟨wpAny_letOwnedTupleGo_enum (D.nth k hk).1 fun h' he hs' => h _ (D.setAt k hk hs' ⟨he, (fun ⟨_, _, e⟩ => nomatch e), by simp⟩ (Nat.le_refl _))⟩
theorem n_enum_end {e it l : Addr} {i : Nat} {xs : List Value} {old : Value} {Q : Option Value → Shared → Prop} (D : Led C s₀ L m ((e, .obj (enumObj it i old)) :: (it, .fld "list_iterator" [.ref l, .int (i : Int) 0]) :: led) s) (hl : (Cell.list xs).At s.heap l) (hx : xs[i]? = none) (hh : A.handled = none)
    (h : ∀ s', Led C s₀ L m ((e, .obj (enumObj it i old)) :: led) s' → Q none s') : W prog C A (pyNext (.ref e)) Q s := by
  obtain ⟨_, o, ho, hc, hd⟩ := D.nth 1 rfl
  exact ⟨wpAny_pyNext_enum_end hh (D.nth 0 rfl).1 ⟨o, ho, hc, hd⟩ hl.isList (by simpa using hx) fun h' he' => h _ (D.dropX 1 rfl he' (Nat.le_refl _))⟩
theorem e_callS {v i : Expr} {sp pos : Pos} {args : List Expr} {Q : Value → Shared → Prop}
    (h : W prog C A (eval (.Subscript v i sp) env) (fun f s₁ => W prog C A (callWith pos f [] (backTo pos (starEach args env)) []) Q s₁) s) : W prog C A (eval (.Call (.Subscript v i sp) args [] pos) env) Q s :=
  ⟨by
    show wpAny _ _ (do callWith pos (← eval (.Subscript v i sp) env) [] (backTo pos (starEach args env)) (backToKw pos (keywordEach [] env))) _ _ s
    exact wpAny_bind h.o1⟩
theorem rPowN {i j : Nat} {t u : Tok} {Q : Value → Shared → Prop} (D : Led C s₀ L m led s) (hi : i ≤ 10) (hj : j ≤ 1000) (h : ∀ t s', Led C s₀ L m led s' → Q (.int ((i ^ j : Nat) : Int) t) s') : W prog C A (binaryOp .Pow (.int (i : Int) t) (.int (j : Int) u)) Q s :=
  ⟨pow_int_small (by omega) (by omega) (by omega) (by
    have e : ((i : Int)) ^ ((j : Int)).toNat = ((i ^ j : Nat) : Int) := by simp
    rw [e]; exact h _ _ D.tok1)⟩
theorem rIsNone {x : Str} {t : Tok} {Q : Value → Shared → Prop} (h : Q (.bool false) s) : W prog C A (compareOp .Is (.str x t) .none) Q s := ⟨is_str_none h⟩
end
/-! the three writers -/
noncomputable def wrt (k : Nat) (x : List Nat) : List Nat := if k = 0 then byT x else if k = 1 then reprL x else byJoin x
noncomputable def wa (k : Nat) : Addr := if k = 0 then 201 else if k = 1 then 208 else 215
structure Fit (x : List Nat) (n : Nat) : Prop where
  pr : Pr x
  no : ∃ c ∈ x, isTok c = false
  len : x.length ≤ n
theorem tok40 : isTok 40 = false := by decide +kernel
theorem tok34 : isTok 34 = false := by decide +kernel
theorem escQ_pr {x : List Nat} (h : Pr x) (q : Nat) : Pr (escQ q x) := by
  intro c hc
  unfold escQ at hc
  obtain ⟨d, hd, hc⟩ := List.mem_flatMap.mp hc
  have := h d hd
  split at hc <;> simp at hc <;> omega
theorem escQ_mem {x : List Nat} {c q : Nat} (h : c ∈ x) : c ∈ escQ q x := by
  unfold escQ
  refine List.mem_flatMap.mpr ⟨c, h, ?_⟩
  split <;> simp
theorem quote_ok (x : List Nat) : quoteOf x = 34 ∨ quoteOf x = 39 := by unfold quoteOf; split <;> simp
theorem escJ_pr {x : List Nat} (h : Pr x) : Pr (escJ x) := by
  intro c hc
  unfold escJ escBy at hc
  obtain ⟨d, hd, hc⟩ := List.mem_flatMap.mp hc
  have := h d hd
  split at hc <;> simp at hc <;> omega
theorem wr_fit {k n : Nat} {x : List Nat} (h : Fit x n) : Fit (wrt k x) (15 * n + 7) := by
  obtain ⟨hp, ⟨c, hc, hn⟩, hl⟩ := h
  unfold wrt
  split
  · have := byT_len x
    exact ⟨byT_pr hp, ⟨40, by rw [byT_eq]; simp, tok40⟩, by exact lin [_, _, _] (.h 15 (.a 0) (.a 1) <| .h 1 (.a 2) (.p (.m 15 (.a 0)) (.n 7)) <| .g 1 (.a 2) (.p (.m 15 (.a 1)) (.n 7))) (.refl true) hl this⟩
  · split
    · have := reprL_len x
      refine ⟨?_, ⟨c, by unfold reprL; simp [escQ_mem hc], hn⟩, by exact lin [_, _, _] (.h 2 (.a 0) (.a 1) <| .h 1 (.a 2) (.p (.m 2 (.a 0)) (.n 2)) <| .g 1 (.a 2) (.p (.m 15 (.a 1)) (.n 7))) (.refl true) hl this⟩
      unfold reprL
      have hq : Pr [quoteOf x] := by
        intro d hd
        simp at hd; subst hd
        rcases quote_ok x with e | e <;> rw [e] <;> decide
      exact (hq.app (escQ_pr hp _)).app hq
    · have := escJ_len x
      refine ⟨?_, ⟨34, by unfold byJoin; simp, tok34⟩, by unfold byJoin; simp; exact lin [_, _, _] (.h 2 (.a 0) (.a 1) <| .h 1 (.a 2) (.m 2 (.a 0)) <| .g 1 (.a 2) (.p (.m 15 (.a 1)) (.n 3))) (.refl true) hl this⟩
      unfold byJoin
      refine Pr.app (Pr.app ?_ (escJ_pr hp)) ?_
      · intro d hd; simp at hd; rcases hd with rfl | rfl | rfl <;> decide
      · intro d hd; simp at hd; subst hd; decide
section
variable {prog : Program} {C : Cx} {A : Around} {s₀ s : Shared} {L a : Addr} {m : Str → Option Value} {led : List (Addr × Cell)} {fd : FuncData} {env : Env}
theorem wr_spec {k : Nat} {x : List Nat} {t : Tok} {Q : Value → Shared → Prop} (hk : k < 3) (P : Prog C s) (R : Room A 8) (hx : Fit x 9000) (h : ∀ t s', Next C.N s s' → Q (.str (S (wrt k x)) t) s') :
    (∃ fd, s.heap.get? (wa k) = some (fobj fd)) ∧ W prog C A (call (.ref (wa k)) [.str (S x) t]) Q s := by
  match k, hk with
  | 0, _ => exact ⟨⟨_, P.fn F201.2⟩, byT_spec P R hx.pr hx.len h⟩
  | 1, _ => exact ⟨⟨_, P.fn F208.2⟩, byRepr_spec P R hx.pr hx.no (by have := hx.len; exact lin [_] (.h 1 (.a 0) (.n 9000) <| .g 1 (.a 0) (.n 100000)) (.refl true) this) h⟩
  | 2, _ => exact ⟨⟨_, P.fn F215.2⟩, byJoin_spec P R hx.pr hx.no (by have := hx.len; exact lin [_] (.h 1 (.a 0) (.n 9000) <| .g 1 (.a 0) (.n 100000)) (.refl true) this) h⟩
end
end Mine
end
-- Q7
section
open PySem PySem.Calls PyProof.Rows PySem.W
namespace Mine
theorem pow3 : ∀ {i : Nat}, i < 3 → 3 ^ i ≤ 9
  | 0, _ => by decide
  | 1, _ => by decide
  | 2, _ => by decide
noncomputable def wfd (k : Nat) : FuncData := if k = 0 then F201.1 else if k = 1 then F208.1 else F215.1
section
variable {prog : Program} {C : Cx} {A : Around} {s₀ s : Shared} {L a : Addr} {m : Str → Option Value} {led : List (Addr × Cell)} {fd : FuncData} {env : Env}
theorem wr_fn {k : Nat} (hk : k < 3) (P : Prog C s) : s.heap.get? (wa k) = some (fobj (wfd k)) := by
  match k, hk with
  | 0, _ => exact P.fn F201.2
  | 1, _ => exact P.fn F208.2
  | 2, _ => exact P.fn F215.2
noncomputable abbrev env220 (L : Addr) : Env := callEnv F220.1 L 220
noncomputable abbrev writers : List Value := [.ref 201, .ref 208, .ref 215]
theorem wr_get {k : Nat} (hk : k < 3) : writers[k]? = some (.ref (wa k)) := by
  match k, hk with
  | 0, _ => rfl
  | 1, _ => rfl
  | 2, _ => rfl
theorem rg_loop {x : List Nat} {af : Nat} {ws : Addr} {tx ta : Tok} {st0 : Stmt} {Q : Flow → Shared → Prop} (D : Led C s₀ L m [(ws, .list writers)] s) (R : Room A 8) (hx : Fit x 67) (haf : af < 1000000)
    (mx : m (Str.ofString "text") = some (.str (S x) tx)) (ma : m (Str.ofString "after") = some (.int (af : Int) ta)) (mw : m (Str.ofString "writers") = some (.ref ws)) (hst : (bodyOf F220.1)[8]? = some st0)
    (hQ : ∀ m s', Led C s₀ L m [] s' → Q .next s') : W prog C A (exec st0 (env220 L)) Q s := by
  obtain rfl : _ = st0 := Option.some.inj hst
  refine x_for <| e_ty D.now b_enumerate <| a_cons <| rName D mw <| a_nil <| rEnum D (D.nth 0 rfl) fun e it s' D => ⟨wpAny_pyIter_enum (D.nth 0 rfl).1 ?_⟩
  let Inv1 : Nat → Shared → Prop := fun k s' => Ex3 fun m i old => And6 (k = 3 - i) (i ≤ 3) (m (Str.ofString "text") = some (.str (S x) tx)) (m (Str.ofString "after") = some (.int (af : Int) ta)) (m (Str.ofString "writers") = some (.ref ws)) (Led C s₀ L m [(e, .obj (enumObj it i old)), (it, .fld "list_iterator" [.ref ws, .int (i : Int) 0]), (ws, .list writers)] s')
  refine loopT Inv1 3 ⟨_, 0, _, rfl, by decide, mx, ma, mw, D⟩ ?_
  rintro k s' Qb ⟨m, i, old, rfl, hi, mx, ma, mw, D⟩
  by_cases h3 : i < 3
  · refine n_enum D (D.nth 2 rfl) (wr_get h3) fun tp t s' D => ?_
    dsimp only
    refine go_enum (k := 1) D rfl fun s' D => ?_
    refine t_two D (D.nth 0 rfl) R.hh fun s' D => as_name <| rStore D fun s' D => as_name <| rStore D fun s' D => ?_
    have D := D.forget (.cons _ (.refl _))
    refine x_consL ?_
    intro Qs
    refine x_assign <| e_callN <| rName D (by exact rfl) <| c_fn (fd := wfd i) <| a_cons <| rName D (by exact mx) <| a_nil ⟨wr_fn h3 D.now, (wr_spec h3 D.now R ⟨hx.pr, hx.no, by have := hx.len; exact lin [_] (.h 1 (.a 0) (.n 67) <| .g 1 (.a 0) (.n 9000)) (.refl true) this⟩ fun t s' nx => ?_).2⟩
    have D := D.step nx
    have hf := wr_fit (k := i) hx
    generalize wrt i x = g at hf
    refine rStore D fun s' D => ?_
    refine x_consL ?_
    intro Qs
    refine x_if ?_
    intro Qi
    refine t_cmp <| rName D (by exact rfl) <| rNone <| rIsNone ⟨_, rfl, rIfF rfl <| x_nil ?_⟩
    have hk : af / 3 ^ i % 3 < 3 := Nat.mod_lt _ (by decide)
    have h3i := pow3 h3
    refine x_consL ?_
    intro Qs
    refine x_if ?_
    intro Qi
    refine t_cmp <| e_callS <| e_item <| rName D (by exact mw) <| e_bin <| e_bin <| rName D (by exact ma) <| e_bin <| rIntN 3 D fun t s' D => rName D (by exact rfl) <| rPowN D (by decide) (by exact lin [_] (.l 1 (.a 0) (.n 3) <| .g 1 (.a 0) (.n 1000)) (.refl true) h3) fun t s' D => ?_
    refine rDivN D (Nat.ne_of_gt (Nat.pow_pos (by decide))) (by exact lin [_] (.l 1 (.a 0) (.n 1000000) <| .j 1 (.a 0) (.n 536870912)) (.refl true) haf) (by exact lin [_] (.h 1 (.a 0) (.n 9) <| .j 1 (.a 0) (.n 536870912)) (.refl true) h3i) fun t s' D => rIntN 3 D fun t s' D => rModN D (by decide) fun t s' D => ?_
    refine i_list (D.nth 2 rfl) (wr_get hk) (by exact lin [_] (.l 1 (.a 0) (.n 3) <| .j 1 (.a 0) (.n 4611686018427387904)) (.refl true) hk) ?_
    refine c_fn (fd := wfd (af / 3 ^ i % 3)) <| a_cons <| rName D (by exact rfl) <| a_nil ⟨wr_fn hk D.now, (wr_spec hk D.now R ⟨hf.pr, hf.no, by have := hf.len; exact lin [_] (.h 1 (.a 0) (.p (.m 15 (.n 67)) (.n 7)) <| .g 1 (.a 0) (.n 9000)) (.refl true) this⟩ fun t s' nx => ?_).2⟩
    have D := D.step nx
    refine rNone <| rIsNone ⟨_, rfl, rIfF rfl <| x_nil <| x_nil ?_⟩
    exact ⟨3 - (i + 1), by exact lin [_, _, _] (.h 1 (.n 3) (.p (.a 1) (.a 0)) <| .e 1 (.p (.a 2) (.p (.a 0) (.n 1))) (.n 3) <| .j 1 (.a 2) (.a 1)) (.refl true) (subA _ _) (subC (by exact lin [_] (.l 1 (.a 0) (.n 3) <| .g 1 (.p (.a 0) (.n 1)) (.n 3)) (.refl true) h3)), _, i + 1, _, rfl, by exact lin [_] (.l 1 (.a 0) (.n 3) <| .g 1 (.p (.a 0) (.n 1)) (.n 3)) (.refl true) h3, by exact mx, by exact ma, by exact mw, D⟩
  · have h3 : i = 3 := by exact Nat.le_antisymm (hi) (lin [_] (.o 1 (.a 0) (.n 3) <| .g 1 (.n 3) (.a 0)) (.refl true) h3)
    subst h3
    refine n_enum_end D (D.nth 2 rfl) rfl R.hh fun s' D => ?_
    exact hQ _ _ (D.forget (List.nil_sublist _))
end
end Mine
end
-- Q8
section
open PySem PySem.Calls PyProof.Rows PySem.W
namespace Mine
noncomputable abbrev bsD : PyData := .str (S [92])
noncomputable abbrev lostD (n : Nat) : PyData := .tuple [.list (List.replicate n bsD), .list []]
theorem bs_ok : PyData.strOk (S [92]) = true := by decide +kernel
theorem bs_lay : bsD.canLay0 = true := by simp only [PyData.canLay0, bs_ok]
theorem rep_lay : ∀ n, PyData.canLayAll0 (List.replicate n bsD) = true
  | 0 => by simp [PyData.canLayAll0]
  | n + 1 => by rw [List.replicate_succ]; simp only [PyData.canLayAll0, rep_lay n, bs_lay]; rfl
theorem rep_weight : ∀ n, PyData.weightAll (List.replicate n bsD) ≤ 3 * n
  | 0 => by simp [PyData.weightAll]
  | n + 1 => by
    have := rep_weight n
    rw [List.replicate_succ]
    simp only [PyData.weightAll, PyData.weight, List.size_toArray, List.length_cons, List.length_nil]
    exact lin [_, _] (.h 1 (.a 0) (.m 3 (.a 1)) <| .g 1 (.p (.p (.p (.n 0) (.n 1)) (.n 1)) (.a 0)) (.m 3 (.p (.a 1) (.n 1)))) (.refl true) this
theorem rep_depth : ∀ n, PyData.depthAll (List.replicate n bsD) ≤ 1
  | 0 => by simp [PyData.depthAll]
  | n + 1 => by
    have := rep_depth n
    rw [List.replicate_succ]
    simp only [PyData.depthAll, PyData.depth]
    omega
theorem reads_rep {h : Heap} : ∀ (n : Nat) {vs : List Value}, Strs vs (ones (List.replicate n 92)) → ∃ as, ReadsAll h vs (List.replicate n bsD) as
  | 0, vs, x => by
    have : vs = [] := List.length_eq_zero_iff.mp (by rw [x.length]; rfl)
    subst this; exact ⟨_, .nil⟩
  | n + 1, vs, x => by
    have x' : Strs vs ([[92]] ++ ones (List.replicate n 92)) := x
    obtain ⟨v1, v2, rfl, h1, h2⟩ := x'.split
    obtain ⟨t, rfl⟩ := h1.one
    obtain ⟨as, r⟩ := reads_rep n h2
    exact ⟨_, .cons (.str _ _) r⟩
theorem lost_lay {n : Nat} (h : n ≤ 1000) : (lostD n).layable0 = true := by
  have c : (lostD n).canLay0 = true := by
    simp only [PyData.canLay0, PyData.canLayAll0, rep_lay n]; rfl
  have w : (lostD n).weight ≤ 2 ^ 20 := by
    have := rep_weight n
    simp only [PyData.weight, PyData.weightAll]
    exact lin [_, _] (.h 3 (.a 0) (.n 1000) <| .h 1 (.a 1) (.m 3 (.a 0)) <| .g 1 (.p (.p (.a 1) (.n 1)) (.p (.p (.n 0) (.n 1)) (.n 0))) (.n 1048576)) (.refl true) h this
  have d := rep_depth n
  unfold PyData.layable0
  rw [c, decide_eq_true w]
  simp only [PyData.depth, PyData.depthAll]
  simp
  exact lin [_] (.h 1 (.a 0) (.n 1) <| .g 1 (.a 0) (.n 62)) (.refl true) d
theorem reads_lost {h : Heap} {tp mi aa : Addr} {mv : List Value} {n : Nat} (h1 : (Cell.tup [.ref mi, .ref aa]).At h tp) (h2 : (Cell.list mv).At h mi) (h3 : (Cell.list []).At h aa) (hm : Strs mv (ones (List.replicate n 92))) : ∃ as, Reads h (.ref tp) (lostD n) as := by
  obtain ⟨n1, e1⟩ := h1
  obtain ⟨n2, e2⟩ := h2
  obtain ⟨n3, e3⟩ := h3
  obtain ⟨as, r⟩ := reads_rep (h := h) n hm
  exact ⟨_, Reads.tuple e1 rfl rfl (ReadsAll.cons (Reads.list e2 rfl rfl r) (ReadsAll.cons (Reads.list e3 rfl rfl .nil) .nil))⟩
theorem strs_rep (n : Nat) (t : Tok) : Strs (List.replicate n (.str (S [92]) t)) (ones (List.replicate n 92)) := by
  induction n with
  | zero => exact .nil
  | succ n ih => rw [List.replicate_succ, List.replicate_succ]; exact ih.cons [92] t
section
variable {prog : Program} {C : Cx} {A : Around} {s₀ s : Shared} {L a : Addr} {m : Str → Option Value} {led : List (Addr × Cell)} {fd : FuncData} {env : Env}
theorem ItemAt.step {v : Value} {it : Item} (x : ItemAt s₀.heap v it) (D : Led C s₀ L m led s) : ItemAt s.heap v it := by
  obtain ⟨b, p, pv, t, e, h1, h2, h3⟩ := x
  exact ⟨b, p, pv, t, e, D.argT h1, D.argL h2, h3⟩
theorem ItemsAt.step {vs : List Value} {its : List Item} (x : ItemsAt s₀.heap vs its) (D : Led C s₀ L m led s) : ItemsAt s.heap vs its := by
  induction x with
  | nil => exact .nil
  | cons y _ ih => exact .cons (y.step D) ih
end
end Mine
end
-- Q9
section
open PySem PySem.Calls PyProof.Rows PySem.W
namespace Mine
theorem piece_split {p : List Nat} (h : PieceOk p) : ∃ x, p = x ++ [lastOf p] ∧ x.length ≤ 1 := by
  rcases h with ⟨c, rfl, _⟩ | ⟨c, rfl, _⟩
  · exact ⟨[], rfl, by decide⟩
  · exact ⟨[92], rfl, by decide⟩
theorem ones_flat (x : List Nat) : (ones x).flatten = x := by
  induction x with
  | nil => rfl
  | cons c x ih => simp [ones] at ih ⊢; exact ih
theorem ones_sum (x : List Nat) : ((ones x).map (·.length)).sum = x.length := by
  induction x with
  | nil => rfl
  | cons c x ih => simp [ones] at ih ⊢; exact Nat.le_antisymm (lin [_, _] (.e 1 (.a 0) (.a 1) <| .g 1 (.p (.n 1) (.a 0)) (.p (.a 1) (.n 1))) (.refl true) ih) (lin [_, _] (.f 1 (.a 0) (.a 1) <| .g 1 (.p (.a 1) (.n 1)) (.p (.n 1) (.a 0))) (.refl true) ih)
section
variable {prog : Program} {C : Cx} {A : Around} {s₀ s : Shared} {L a : Addr} {m : Str → Option Value} {led : List (Addr × Cell)} {fd : FuncData} {env : Env}
/-- from the comparison with translate on -/
theorem rg_mid {items : Addr} {vs : List Value} {its : List Item} {af : Nat} {tx tb ta : Tok} {Q : Value → Shared → Prop} (D : Led C s₀ L m [] s) (Fm : FrOk A C.N s₀.heap) (R : Room (A.deeper (env220 L)) 9) (hl : (Cell.list vs).At s₀.heap items) (hi : ItemsAt s₀.heap vs its) (hok : ∀ it ∈ its, OkItem it) (hn : its.length ≤ 4) (haf : af < 1000000)
    (mi : m (Str.ofString "items") = some (.ref items)) (mx : m (Str.ofString "text") = some (.str (S (transOf its)) tx)) (mb : m (Str.ofString "bare") = some (.str (S (lasts (rowOf its))) tb)) (ma : m (Str.ofString "after") = some (.int (af : Int) ta))
    (h : ∀ s', Next C.N s₀ s' → Q (.bool true) s') :
    W prog C (A.deeper (env220 L)) (execs ((bodyOf F220.1).drop 3) (env220 L)) (RetQ Q) s := by
  have hvl := hi.length
  have htl := trans_len its
  have hpo := rowOf_ok hok
  obtain ⟨hb, hu⟩ := pieces_body hpo
  obtain ⟨c1, c2, c3⟩ := pieces_cnt hpo
  have hpr := pieces_pr hpo
  rw [rowOf_flatten] at hb hu c1 c2 c3 hpr
  have hfit : Fit (transOf its) 67 := ⟨hpr, ⟨40, by unfold transOf wrapT; simp, tok40⟩, by exact lin [_, _] (.h 15 (.a 0) (.n 4) <| .h 1 (.a 1) (.p (.m 15 (.a 0)) (.n 7)) <| .g 1 (.a 1) (.n 67)) (.refl true) hn htl⟩
  have hwl : (flatW its).length ≤ 24 := by
    have : ∀ l : List Item, (flatW l).length ≤ 6 * l.length := by
      intro l
      induction l with
      | nil => simp [flatW]
      | cons i l ih =>
        have := written_len i
        simp [flatW] at ih ⊢
        exact lin [_, _, _] (.h 1 (.a 0) (.n 6) <| .h 1 (.a 1) (.m 6 (.a 2)) <| .g 1 (.p (.a 0) (.a 1)) (.m 6 (.p (.a 2) (.n 1)))) (.refl true) this ih
    have := this its
    exact lin [_, _] (.h 6 (.a 0) (.n 4) <| .h 1 (.a 1) (.m 6 (.a 0)) <| .g 1 (.a 1) (.n 24)) (.refl true) hn this
  refine x_consL ?_
  intro Qs
  refine x_if ?_
  intro Qi
  refine t_cmp <| e_def D.now g_translate F106.2 <| a_cons <| e_m1 <| rStrS [] D fun t0 s' D => m_str M_join <| sp_cons <| e_comp <| rName D mi <| it_list D (D.argL hl) fun it s' D _ => ⟨_, _, _, _, D, fun acc cl s' D => ⟨fun Q q => it_listit D (i := 2) rfl q, ?_⟩⟩
  refine cloop (fun k s' => ∃ ns av i, k = its.length - i ∧ i ≤ its.length ∧ Strs av ((its.take i).map Item.written) ∧ Led C s₀ L m [(cl, .ns ns), (acc, .list av), (it, .fld "list_iterator" [.ref items, .int (i : Int) 0])] s') its.length ⟨_, [], 0, rfl, Nat.zero_le _, .nil, D⟩ ?_
  rintro k s' ⟨ns, av, i, rfl, hi', hav, D⟩
  have hal : av.length ≤ 4 := by rw [hav.length]; simp; omega
  by_cases hlt : i < its.length
  · obtain ⟨v, hv, b, p, pv, t, rfl, hbt, hp, hpv⟩ := hi.get (List.getElem?_eq_getElem hlt)
    refine n_list D 2 rfl (D.argL hl) hv fun s' D _ => ?_
    dsimp only
    refine ⟨wpAny_letOwnedTupleGo_listiter (D.nth 2 rfl).2 ?_⟩
    refine t_two D (D.argT hbt) R.hh fun s' D => as_name <| cStore D 0 rfl fun s' D => as_name <| cStore D 0 rfl fun s' D => ?_
    refine cName D 0 rfl (by exact rfl) <| rAppend D 1 rfl (by simp [sizeLine]; exact lin [_] (.h 1 (.a 0) (.n 4) <| .g 1 (.a 0) (.n 16777216)) (.refl true) hal) fun s' D => ?_
    refine ⟨its.length - (i + 1), by exact lin [_, _, _, _] (.h 1 (.a 0) (.p (.a 2) (.a 1)) <| .e 1 (.p (.a 3) (.p (.a 1) (.n 1))) (.a 0) <| .j 1 (.a 3) (.a 2)) (.refl true) (subA _ _) (subC (by exact lin [_, _] (.l 1 (.a 0) (.a 1) <| .g 1 (.p (.a 0) (.n 1)) (.a 1)) (.refl true) hlt)), _, _, i + 1, rfl, hlt, ?_, D⟩
    rw [List.take_succ_eq_append_getElem hlt, List.map_append]
    exact hav.snoc _ _
  refine n_list_end D 2 rfl (D.argL hl) (List.getElem?_eq_none (by rw [hvl]; exact lin [_, _] (.o 1 (.a 0) (.a 1) <| .g 1 (.a 1) (.a 0)) (.refl true) hlt)) R.hh fun s' D _ => ?_
  dsimp only
  refine ⟨_, 0, _, D, rfl, fun s' D => ?_⟩
  have hie : i = its.length := by exact Nat.le_antisymm (hi') (lin [_, _] (.o 1 (.a 0) (.a 1) <| .g 1 (.a 1) (.a 0)) (.refl true) hlt)
  subst hie
  rw [List.take_length] at hav
  have ef : (its.map Item.written).flatten = flatW its := by unfold flatW; rw [List.flatMap_def]
  have es : ((its.map Item.written).map (·.length)).sum = (flatW its).length := by rw [← ef, List.length_flatten]
  refine sp_nil <| rJoin (xs := its.map Item.written) (sep := []) D (D.nth 0 rfl) hav (by rw [es]; show (flatW its).length + (its.map Item.written).length * 0 ≤ _; exact lin [_, _] (.h 1 (.a 0) (.n 24) <| .g 1 (.p (.a 0) (.r (.a 1) 0)) (.n 16777216)) (.refl true) hwl) fun t1 s' D => ?_
  rw [joinL_nil, ef]
  refine a_nil ⟨D.now, translate_spec D.now (R.mono (by decide)) hok (by exact lin [_] (.h 1 (.a 0) (.n 4) <| .g 1 (.a 0) (.n 10000)) (.refl true) hn) (by exact lin [_] (.h 1 (.a 0) (.n 24) <| .g 1 (.a 0) (.n 100000)) (.refl true) hwl) fun t s' nx => ?_⟩
  have D := (D.step nx).forget (led' := []) (List.nil_sublist _)
  refine rName D mx <| rNeS ⟨_, rfl, rIfF (by simp) <| x_nil ?_⟩
  -- read in marks
  have hml := repl_len 34 [92, 34] (transOf its)
  refine x_consL ?_
  intro Qs
  refine x_if ?_
  intro Qi
  refine t_not <| t_val <| e_def D.now g_reads F189.2 <| a_cons <| e_def D.now g_marks F196.2 <| a_cons <| rName D mx <| a_nil ⟨D.now, marks_spec D.now (R.mono (by decide)) (by exact lin [_, _] (.h 15 (.a 0) (.n 4) <| .h 1 (.a 1) (.p (.m 15 (.a 0)) (.n 7)) <| .g 1 (.a 1) (.n 1000000)) (.refl true) hn htl) fun t s' nx => ?_⟩
  have D := D.step nx
  refine a_cons <| rName D mb <| a_nil ⟨D.now, ?_⟩
  refine reads_spec D.now (R.mono (by decide)) hb hu (by simp at hml; exact lin [_, _, _] (.h 45 (.a 0) (.n 4) <| .h 3 (.a 1) (.p (.m 15 (.a 0)) (.n 7)) <| .h 1 (.a 2) (.r (.a 1) 3) <| .g 1 (.a 2) (.n 500000)) (.refl true) hn htl hml) (fun c hc => ?_) fun s' nx => truthy_b <| rIfF rfl <| x_nil ?_
  · have hc' : 0 < (lasts (rowOf its)).count c := List.count_pos_iff.mpr hc
    by_cases h92 : c = 92
    · exact lin [_] (.e 1 (.a 0) (.n 92) <| .j 1 (.a 0) (.n 128)) (.refl true) h92
    · rw [← c1 c h92] at hc'
      have := hpr c (List.count_pos_iff.mp hc')
      exact lin [_] (.l 1 (.a 0) (.n 127) <| .j 1 (.a 0) (.n 128)) (.refl true) this.2
  have D := D.step nx
  -- the signs that are lost
  generalize hbare : lasts (rowOf its) = bare at *
  generalize htext : transOf its = text at *
  refine x_consL ?_
  intro Qs
  refine x_assign <| e_bin <| e_list <| a_cons <| rStrS [92] D fun tl s' D => a_nil ⟨_, _, _, _, D, Nat.le_of_ble_eq_true rfl, fun b1 s' D => ?_⟩
  refine e_bin <| e_bi D.now b_len <| a_cons <| rName D mx <| a_nil <| rLenS D (by simp [sizeLine]; exact lin [_, _] (.h 15 (.a 0) (.n 4) <| .h 1 (.a 1) (.p (.m 15 (.a 0)) (.n 7)) <| .g 1 (.a 1) (.n 16777216)) (.refl true) hn htl) fun t s' D => e_bi D.now b_len <| a_cons <| rName D mb <| a_nil <| rLenS D (by simp [sizeLine]; exact lin [_, _, _] (.h 15 (.a 0) (.n 4) <| .h 1 (.a 1) (.p (.m 15 (.a 0)) (.n 7)) <| .h 1 (.a 2) (.a 1) <| .g 1 (.a 2) (.n 16777216)) (.refl true) hn htl c3) fun t s' D => rSubN D c3 fun t s' D => ?_
  refine rMulL D (D.nth 0 rfl) (by exact lin [_, _, _] (.h 15 (.a 0) (.n 4) <| .h 1 (.a 1) (.p (.m 15 (.a 0)) (.n 7)) <| .h 1 (.a 2) (.a 1) <| .g 1 (.a 2) (.n 1000000)) (.refl true) hn htl (subB _ _)) fun lo s' D => rStore D fun s' D => ?_
  have hcnt : Cnt text bare 0 (text.length - bare.length) := ⟨c1, c2, by exact Nat.le_antisymm (lin [_, _, _] (.h 1 (.a 0) (.p (.a 2) (.a 1)) <| .g 1 (.p (.a 0) (.n 0)) (.p (.a 1) (.a 2))) (.refl true) (subA _ _)) (lin [_, _, _] (.e 1 (.p (.a 1) (.a 0)) (.a 2) <| .g 1 (.p (.a 0) (.a 1)) (.p (.a 2) (.n 0))) (.refl true) (subC (by exact c3)))⟩
  refine x_consL ?_
  intro Qs
  refine x_if ?_
  intro Qi
  refine t_cmp <| e_def D.now g_uld F147.2 <| a_cons <| e_ty D.now b_list <| a_cons <| rName D (by exact mx) <| a_nil <| rListS D R.hh (by simp [sizeLine]; exact lin [_, _] (.h 15 (.a 0) (.n 4) <| .h 1 (.a 1) (.p (.m 15 (.a 0)) (.n 7)) <| .g 1 (.a 1) (.n 16777216)) (.refl true) hn htl) fun ea ev s' D hev => ?_
  refine a_cons <| e_ty D.now b_list <| a_cons <| rName D (by exact mb) <| a_nil <| rListS D R.hh (by simp [sizeLine]; exact lin [_, _, _] (.h 15 (.a 0) (.n 4) <| .h 1 (.a 1) (.p (.m 15 (.a 0)) (.n 7)) <| .h 1 (.a 2) (.a 1) <| .g 1 (.a 2) (.n 16777216)) (.refl true) hn htl c3) fun aa av s' D hav => ?_
  refine a_nil ⟨D.now, uld_spec D Fm (by show F220.1.scope.kind ≠ .module; decide) rfl (R.mono (by decide)) hev hav (by exact lin [_, _] (.h 15 (.a 0) (.n 4) <| .h 1 (.a 1) (.p (.m 15 (.a 0)) (.n 7)) <| .g 1 (.a 1) (.n 100000)) (.refl true) hn htl) (by exact lin [_, _, _] (.h 15 (.a 0) (.n 4) <| .h 1 (.a 1) (.p (.m 15 (.a 0)) (.n 7)) <| .h 1 (.a 2) (.a 1) <| .g 1 (.a 2) (.n 100000)) (.refl true) hn htl c3) hcnt fun tp mi2 mv s' D hmv => ?_⟩
  refine e_tup <| a_cons <| rName D (by exact rfl) <| a_cons <| e_list <| a_nil ⟨_, _, _, _, D, Nat.zero_le _, fun el s' D => a_nil ⟨_, _, _, _, D, Nat.le_of_ble_eq_true rfl, fun tp2 s' D => ?_⟩⟩
  obtain ⟨as, r1⟩ := reads_lost (n := text.length - bare.length) (D.nth 2 rfl) (D.nth 3 rfl) (D.nth 4 rfl) hmv
  obtain ⟨bs, r2⟩ := reads_lost (n := text.length - bare.length) (D.nth 0 rfl) (D.nth 6 rfl) (D.nth 1 rfl) (strs_rep _ tl)
  have hlay : (lostD (text.length - bare.length)).layable0 = true := lost_lay (by exact lin [_, _, _] (.h 15 (.a 0) (.n 4) <| .h 1 (.a 1) (.p (.m 15 (.a 0)) (.n 7)) <| .h 1 (.a 2) (.a 1) <| .g 1 (.a 2) (.n 1000)) (.refl true) hn htl (subB _ _))
  refine ⟨ne_dataS r1 r2 hlay hlay (by have := R.un; exact lin [_, _] (.l 1 (.p (.a 0) (.m 16 (.n 9))) (.a 1) <| .j 1 (.p (.a 0) (.n 64)) (.a 1)) (.refl true) this) ?_⟩
  rw [SeqAt.eqv_refl _ (by unfold PyData.layable0 at hlay; simp only [Bool.and_eq_true] at hlay; exact hlay.1.1)]
  refine ⟨_, rfl, rIfF rfl <| x_nil ?_⟩
  have D := D.forget (led' := []) (List.nil_sublist _)
  refine x_consL ?_
  intro Qs
  refine x_assign <| e_list <| a_cons <| gGlob D.now g_byT <| a_cons <| gGlob D.now g_byR <| a_cons <| gGlob D.now g_byJ <| a_nil ⟨_, _, _, _, D, Nat.le_of_ble_eq_true rfl, fun ws s' D => rStore D fun s' D => ?_⟩
  refine x_consL ?_
  intro Qs
  refine rg_loop D (R.mono (by decide)) hfit haf (by exact mx) (by exact ma) (by exact rfl) rfl fun m s' D => ?_
  refine x_consL ?_
  intro Qs
  exact x_ret <| rBoolC <| h _ D.next
end
end Mine
end
-- Q10
section
open PySem PySem.Calls PyProof.Rows PySem.W
namespace Mine
section
variable {prog : Program} {C : Cx} {A : Around} {s₀ s : Shared} {L a : Addr} {m : Str → Option Value} {led : List (Addr × Cell)} {fd : FuncData} {env : Env}
theorem rowOf_len {its : List Item} (h : ∀ it ∈ its, OkItem it) (hn : its.length ≤ 4) : (rowOf its).length ≤ 67 := by
  have h1 := pieces_cnt (rowOf_ok h)
  rw [rowOf_flatten] at h1
  have h2 := trans_len its
  have h3 : (lasts (rowOf its)).length = (rowOf its).length := by simp [lasts]
  have := h1.2.2
  exact lin [_, _, _, _] (.h 15 (.a 0) (.n 4) <| .h 1 (.a 1) (.a 2) <| .h 1 (.a 2) (.p (.m 15 (.a 0)) (.n 7)) <| .f 1 (.a 1) (.a 3) <| .g 1 (.a 3) (.n 67)) (.refl true) hn h1.2.2 h2 h3
theorem right_spec {items : Addr} {vs : List Value} {its : List Item} {af : Nat} {ta : Tok} {Q : Value → Shared → Prop} (P : Prog C s) (Fm : FrOk A C.N s.heap) (R : Room A 10) (hl : (Cell.list vs).At s.heap items) (hi : ItemsAt s.heap vs its) (hok : ∀ it ∈ its, OkItem it) (hn : its.length ≤ 4) (haf : af < 1000000)
    (h : ∀ s', Next C.N s s' → Q (.bool true) s') : W prog C A (call (.ref 220) [.ref items, .int (af : Int) ta]) Q s := by
  refine rEnter (n := 9) (binds := [(Str.ofString "items", .ref items), (Str.ofString "after", .int (af : Int) ta)]) P R F220.2 rfl (.of_eq rfl) fun s₁ L R D => ?_
  have hrl := rowOf_len hok hn
  have hpo := rowOf_ok hok
  have htl := trans_len its
  refine x_consL ?_
  intro Qs
  refine x_assign <| e_def D.now g_pieces F182.2 <| a_cons <| rName D rfl <| a_nil ⟨D.now, lpieces_spec D.now (R.mono (by decide)) (D.argL hl) (hi.step D) hok (by exact lin [_] (.h 1 (.a 0) (.n 4) <| .g 1 (.a 0) (.n 100)) (.refl true) hn) fun pc pv L' m' s' D' hpv => ?_⟩
  have D := D.adopt D'
  have hpl := hpv.length
  refine rStore D fun s' D => ?_
  have esum : ((rowOf its).map (·.length)).sum = (transOf its).length := by rw [← rowOf_flatten, List.length_flatten]
  refine x_consL ?_
  intro Qs
  refine x_assign <| e_m1 <| rStrS [] D fun t0 s' D => m_str M_join <| sp_cons <| rName D (by exact rfl) <| sp_nil <| rJoin (xs := rowOf its) (sep := []) D (D.nth 0 rfl) hpv (by rw [esum]; show (transOf its).length + (rowOf its).length * 0 ≤ _; exact lin [_, _, _] (.h 15 (.a 0) (.n 4) <| .h 1 (.a 1) (.p (.m 15 (.a 0)) (.n 7)) <| .g 1 (.p (.a 1) (.r (.a 2) 0)) (.n 16777216)) (.refl true) hn htl) fun tx s' D => ?_
  rw [joinL_nil, rowOf_flatten]
  refine rStore D fun s' D => ?_
  obtain ⟨m0, hm0⟩ : ∃ m0 : Str → Option Value, m0 = upd (upd (fun y => [(Str.ofString "items", Value.ref items), (Str.ofString "after", Value.int (af : Int) ta)].reverse.lookup y) (Str.ofString "pieces") (.ref pc)) (Str.ofString "text") (.str (S (transOf its)) tx) := ⟨_, rfl⟩
  have D : Led C s L m0 [(pc, .list pv)] s' := by rw [hm0]; exact D
  have mi : m0 (Str.ofString "items") = some (.ref items) := by rw [hm0]; rfl
  have ma : m0 (Str.ofString "after") = some (.int (af : Int) ta) := by rw [hm0]; rfl
  have mp : m0 (Str.ofString "pieces") = some (.ref pc) := by rw [hm0]; rfl
  have mx : m0 (Str.ofString "text") = some (.str (S (transOf its)) tx) := by rw [hm0]; rfl
  clear hm0
  generalize hps : rowOf its = ps at *
  refine x_consL ?_
  intro Qs
  refine x_assign <| e_m1 <| rStrS [] D fun t0 s' D => m_str M_join <| sp_cons <| e_comp <| rName D mp <| it_list D (D.nth 0 rfl) fun it s' D _ => ⟨_, _, _, _, D, fun acc cl s' D => ⟨fun Q q => it_listit D (i := 2) rfl q, ?_⟩⟩
  let Inv1 : Nat → Shared → Prop := fun k s' => Ex3 fun ns av i => And4 (k = ps.length - i) (i ≤ ps.length) (Strs av (ones (lasts (ps.take i)))) (Led C s L m0 [(cl, .ns ns), (acc, .list av), (it, .fld "list_iterator" [.ref pc, .int (i : Int) 0]), (pc, .list pv)] s')
  refine cloopN Inv1 ps.length ⟨_, [], 0, rfl, Nat.zero_le _, .nil, D⟩ ?_
  rintro k s' ⟨ns, av, i, rfl, hi', hav, D⟩
  have hal : av.length ≤ 67 := by rw [hav.length]; simp [lasts]; omega
  by_cases hlt : i < ps.length
  · obtain ⟨t, ht⟩ := hpv.get (List.getElem?_eq_getElem hlt)
    obtain ⟨x, ex, hxl⟩ := piece_split (hpo _ (List.getElem_mem hlt))
    generalize hlast : lastOf ps[i] = c at ex
    rw [ex] at ht
    refine n_list D 2 rfl (D.nth 3 rfl) ht fun s' D _ => ?_
    dsimp only
    refine cStore D 0 rfl fun s' D => ?_
    refine e_itemS <| cName D 0 rfl (by exact rfl) ⟨⟨_, _, rfl⟩, e_m1i D fun t s' D => ?_⟩
    refine i_str_last D fun u s' D => ?_
    refine rAppend D 1 rfl (by simp [sizeLine]; exact lin [_] (.h 1 (.a 0) (.n 67) <| .g 1 (.a 0) (.n 16777216)) (.refl true) hal) fun s' D => ?_
    refine ⟨ps.length - (i + 1), by exact lin [_, _, _, _] (.h 1 (.a 0) (.p (.a 2) (.a 1)) <| .e 1 (.p (.a 3) (.p (.a 1) (.n 1))) (.a 0) <| .j 1 (.a 3) (.a 2)) (.refl true) (subA _ _) (subC (by exact lin [_, _] (.l 1 (.a 0) (.a 1) <| .g 1 (.p (.a 0) (.n 1)) (.a 1)) (.refl true) hlt)), _, _, i + 1, rfl, hlt, ?_, D⟩
    have e9 : ones (lasts (ps.take (i + 1))) = ones (lasts (ps.take i)) ++ [[c]] := by
      rw [List.take_succ_eq_append_getElem hlt, lasts_app]
      simp [lasts, ones, hlast]
    rw [e9]
    exact hav.snoc [c] u
  refine n_list_end D 2 rfl (D.nth 3 rfl) (List.getElem?_eq_none (by rw [hpl]; exact lin [_, _] (.o 1 (.a 0) (.a 1) <| .g 1 (.a 1) (.a 0)) (.refl true) hlt)) R.hh fun s' D _ => ?_
  dsimp only
  refine ⟨_, 0, _, D, rfl, fun s' D => ?_⟩
  have hie : i = ps.length := by exact Nat.le_antisymm (hi') (lin [_, _] (.o 1 (.a 0) (.a 1) <| .g 1 (.a 1) (.a 0)) (.refl true) hlt)
  subst hie
  rw [List.take_length] at hav
  have hll : (lasts ps).length = ps.length := by simp [lasts]
  refine sp_nil <| rJoin (xs := ones (lasts ps)) (sep := []) D (D.nth 0 rfl) hav (by rw [ones_sum]; show (lasts ps).length + (ones (lasts ps)).length * 0 ≤ _; exact lin [_, _, _] (.h 1 (.a 0) (.n 67) <| .e 1 (.a 1) (.a 0) <| .g 1 (.p (.a 1) (.r (.a 2) 0)) (.n 16777216)) (.refl true) hrl hll) fun tb s' D => ?_
  rw [joinL_nil, ones_flat]
  refine rStore D fun s' D => ?_
  exact rg_mid (D.forget (List.nil_sublist _)) Fm R hl hi hok hn haf (by exact mi) (by exact mx) (by rw [hps]; exact rfl) (by exact ma) h
end
end Mine
end
-- V1
section
open PySem PySem.Calls PyProof.Rows PySem.W
namespace Mine
inductive Nums : List Value → List Nat → Prop
  | nil : Nums [] []
  | cons {vs ns} (n : Nat) (t : Tok) : Nums vs ns → Nums (.int (n : Int) t :: vs) (n :: ns)
theorem Nums.length {vs ns} (h : Nums vs ns) : vs.length = ns.length := by
  induction h with
  | nil => rfl
  | cons _ _ _ ih => simp [ih]
theorem Nums.app {vs ns ws ms} (h : Nums vs ns) (h' : Nums ws ms) : Nums (vs ++ ws) (ns ++ ms) := by
  induction h with
  | nil => exact h'
  | cons n t _ ih => exact .cons n t ih
theorem Nums.get {vs ns} (h : Nums vs ns) : ∀ {i : Nat} {n : Nat}, ns[i]? = some n → ∃ t, vs[i]? = some (.int (n : Int) t) := by
  induction h with
  | nil => intro i n e; simp at e
  | cons m t _ ih => intro i n e; cases i with
    | zero => simp at e; subst e; exact ⟨t, rfl⟩
    | succ i => simp at e; simpa using ih e
theorem Nums.drop {vs ns} (h : Nums vs ns) : ∀ k, Nums (vs.drop k) (ns.drop k) := by
  induction h with
  | nil => intro k; cases k <;> exact .nil
  | cons n t h ih => intro k; cases k with
    | zero => exact .cons n t h
    | succ k => simpa using ih k
theorem ints_at {vs : List Value} {ns : List Int} (h : IntsAre vs ns) : ∀ {i : Nat} {v : Value}, vs[i]? = some v → ∃ k t, v = .int k t := by
  induction h with
  | nil => intro i v e; simp at e
  | cons n t _ ih => intro i v e; cases i with
    | zero => simp at e; subst e; exact ⟨n, t, rfl⟩
    | succ i => simp at e; exact ih e
inductive ItCells : List (Addr × Cell) → List Value → List Item → Prop
  | nil : ItCells [] [] []
  | snoc {cs av its} (b p : Addr) (pv : List Value) (t : Tok) (it : Item) : Strs pv it.pieces → ItCells cs av its → ItCells ((b, .tup [.str (S it.written) t, .ref p]) :: (p, .list pv) :: cs) (av ++ [.ref b]) (its ++ [it])
theorem ItemsAt.snoc {h : Heap} {vs its v it} (x : ItemsAt h vs its) (y : ItemAt h v it) : ItemsAt h (vs ++ [v]) (its ++ [it]) := by
  induction x with
  | nil => exact .cons y .nil
  | cons z _ ih => exact .cons z ih
theorem ItCells.at {h : Heap} {cs av its} (x : ItCells cs av its) (k : ∀ q ∈ cs, q.2.At h q.1) : ItemsAt h av its := by
  induction x with
  | nil => exact .nil
  | snoc b p pv t it hs _ ih =>
    exact (ih fun q hq => k q (List.mem_cons_of_mem _ (List.mem_cons_of_mem _ hq))).snoc ⟨b, p, pv, t, rfl, k _ (List.mem_cons_self ..), k _ (List.mem_cons_of_mem _ (List.mem_cons_self ..)), hs⟩
theorem ItCells.length {cs av its} (x : ItCells cs av its) : av.length = its.length := by
  induction x with
  | nil => rfl
  | snoc _ _ _ _ _ _ _ ih => simp [ih]
theorem signs_ok : ∀ c ∈ signs, 32 ≤ c ∧ c < 127 := by decide +kernel
theorem sign_ok (n : Nat) : okc (sign n) := signs_ok _ (List.mem_of_getElem? (sign_at n))
theorem item_ok (n : Nat) : OkItem (item n) := by
  unfold item
  have h1 := sign_ok (n / 8)
  have h2 := sign_ok (n / 256)
  generalize sign (n / 8) = one at h1
  generalize sign (n / 256) = two at h2
  dsimp only
  split
  · trivial
  split
  · trivial
  split
  · rename_i h
    have := h.2
    simp at this
    exact ⟨h1, this.1, this.2.1, this.2.2⟩
  have hc : okc (if one = 33 ∧ (decide (n % 8 = 5) || decide (n % 8 = 7)) = false then 97 else one) ∧ ((decide (n % 8 = 5) || decide (n % 8 = 7)) = false → (if one = 33 ∧ (decide (n % 8 = 5) || decide (n % 8 = 7)) = false then 97 else one) ≠ 33) := by
    split
    · exact ⟨⟨by decide, by decide⟩, fun _ => by decide⟩
    · rename_i h
      exact ⟨h1, fun hb q => h ⟨q, hb⟩⟩
  have hd : okc (if two = 93 then 97 else two) ∧ (if two = 93 then 97 else two) ≠ 93 := by
    split
    · exact ⟨⟨by decide, by decide⟩, by decide⟩
    · rename_i h; exact ⟨h2, h⟩
  split
  · exact ⟨hc.1, hc.2⟩
  · exact ⟨hc.1, hd.1, hc.2, hd.2⟩
section
variable {prog : Program} {C : Cx} {A : Around} {s₀ s : Shared} {L a : Addr} {m : Str → Option Value} {led : List (Addr × Cell)} {fd : FuncData} {env : Env}
theorem e_sliceI {value : Expr} {lower upper : Option Expr} {p pos : Pos} {Q : Value → Shared → Prop}
    (h : W prog C A (eval value env) (fun o s₁ => W prog C A (evalPart lower env) (fun vl s₂ => W prog C A (evalPart upper env) (fun vu s₃ =>
      ∃ s₀ L m led b xs ys lo hi, Led C s₀ L m led s₃ ∧ o = .ref b ∧ s₃.heap.IsList b (List.toArray xs) ∧ xs.length ≤ sizeLine ∧ IsPart vl lo ∧ IsPart vu hi ∧ slicePick xs.toArray lo hi none = ys.toArray ∧
        (∀ c s', Led C s₀ L m ((c, .list ys) :: led) s' → Q (.ref c) s')) s₂) s₁) s) :
    W prog C A (eval (.Subscript value (.Slice lower upper none p) pos) env) Q s := by
  refine ⟨?_⟩
  rw [eval_Subscript]
  refine wpAny_bind (wpAny_mono h.out (fun o s₁ h₁ => wpAny_bind (wpAny_holding (wpAny_mono (wpAny_Slice (Q := fun i s₂ => s₂.TypeIs o "list" ∧ wpAny (model prog C.w) A (getItem o i) Q NoE s₂)
    (wpAny_mono h₁.out (fun vl s₂ h₂ => wpAny_mono h₂.out (fun vu s₃ h₃ => ?_) fun _ _ e => e) fun _ _ e => e)) (fun i s₂ h₂ => wpAny_bind (wpAny_standAt ?_)) fun _ _ x => x)))
    fun _ _ x => x)
  · obtain ⟨s₀, L, m, led, b, xs, ys, lo, hi, D, rfl, hb, hz, pl, pu, hy, hQ⟩ := h₃
    rw [evalPart_none]
    refine wpAny_pure ⟨(hb.push _).typeIs, wpAny_getItem_list_slice (hb.push _) (Heap.IsSliceOf.new ..) pl pu .none (by simp) (hQ _ _ ?_) (by simpa using hz)⟩
    rw [hy]
    have D1 := D.step (Next.keeps (N := C.N) (h' := s₃.heap.push { cls := .type "slice", data := .fields #[vl, vu, .none] }) (tk := s₃.toks) (fun _ _ e => Heap.get?_push_of_some _ e) (Nat.le_refl _))
    exact D1.new (.list ys) (tk := s₃.toks) (fun _ _ e => Heap.get?_push_of_some _ e) (Nat.le_refl _) ⟨0, Heap.get?_push_size _ rfl⟩ (Nat.le_refl _)
  · have fin : wpAny (model prog C.w) A (operate [i, o] (getItem o i)) (fun r s₃ => wpAny (model prog C.w) A (letTemporaryGo value o r >>= fun _ => pure r) Q NoE s₃) NoE s₂ :=
      wpAny_operating (wpAny_mono h₂.2 (fun r s₃ h₃ => wpAny_bind (wpAny_letTemporaryGo (wpAny_pure h₃))) fun _ _ x => x)
    refine wpAny_bind ?_
    rw [getitemInPython_of_ne h₂.1.not_modules]
    refine wpAny_bind (wpAny_specialOf h₂.1 list_getitem_lookup ?_)
    exact wpAny_pure (wpAny_bind fin)
theorem rModI {i : Int} {j : Nat} {t u : Tok} {Q : Value → Shared → Prop} (D : Led C s₀ L m led s) (hj : j ≠ 0) (h : ∀ t s', Led C s₀ L m led s' → Q (.int (((i % (j : Int)).toNat : Nat) : Int) t) s') :
    W prog C A (binaryOp .Mod (.int i t) (.int (j : Int) u)) Q s := ⟨PyProof.Rows.mod_int (by omega) (by
      have e : (i.fmod (j : Int)) = (((i % (j : Int)).toNat : Nat) : Int) := by
        rw [Int.fmod_eq_emod_of_nonneg _ (by omega), Int.toNat_of_nonneg (Int.emod_nonneg _ (by omega))]
      rw [e]; exact h _ _ D.tok1)⟩
theorem Led.isList {b : Addr} {xs : Array Value} (D : Led C s₀ L m led s) (h : s₀.heap.IsList b xs) : s.heap.IsList b xs := by
  obtain ⟨o, e, hc, n, hd⟩ := h
  refine ⟨o, D.next.kept.obj (D.prog.tabFree e (by rw [hc]; simp)) (fun ⟨_, _, q⟩ => by rw [hd] at q; cases q) e, hc, n, hd⟩
end
end Mine
end
-- V0
section
open PySem PySem.Calls PyProof.Rows PySem.W
namespace Mine
section
variable {prog : Program} {C : Cx} {A : Around} {s₀ s : Shared} {L a : Addr} {m : Str → Option Value} {led : List (Addr × Cell)} {fd : FuncData} {env : Env}
/-- y = [elt for x in iter], on one row: the name is bound before the loop's names are let go -/
theorem x_comp {y : Str} {py pos spos : Pos} {elt target iter : Expr} {scope : Scope} {Q : Flow → Shared → Prop}
    (h : W prog C A (eval iter env) (fun x s₁ => W prog C A (pyIter x) (fun it s₂ => ∃ s₀ L m led, Led C s₀ L m led s₂ ∧
      ∀ acc cl s', Led C s₀ L m ((cl, .ns fun _ => none) :: (acc, .list []) :: led) s' →
        (∀ Q : Value → Shared → Prop, Q it s' → W prog C A (pyIter it) Q s') ∧
        CLoop prog C A (.ListComp elt [⟨target, iter, [], 0⟩] scope pos) it (.ref acc) (compEnv scope cl env) (fun s₃ => W prog C A (storeName env y (.ref acc)) (fun _ s₄ => ∃ m', CFin C s₀ L m' cl (Q .next) s₄) s₃) s') s₁) s)
    (hsw : swapsWith (.ListComp elt [⟨target, iter, [], 0⟩] scope pos) (some (.Name y py)) spos.line env = pure true := by rfl)
    (hfree : (scope.names.all fun x => decide (x.2 ≠ .free)) = true := by rfl) (hcell : (scope.names.all fun x => decide (x.2 ≠ .cell)) = true := by rfl) (hkind : scope.kind = .function := by rfl)
    (hnames : (scope.names.all fun x => decide (x.2 = .local → scope.names.lookup x.1 = some .local)) = true := by rfl)
    (hs : ∀ x, foldedSetIterable iter env x = pure x := by intro _; rfl) : W prog C A (exec (.Assign [.Name y py] (.ListComp elt [⟨target, iter, [], 0⟩] scope pos) spos) env) Q s := by
  constructor
  rw [exec_Assign_Name_used _ _ _ _ hsw]
  refine wpAny_bind (wpAny_standAt (wpAny_bind ?_))
  show wpAny _ A (do let _ ← comprehension (.ListComp elt [⟨target, iter, [], 0⟩] scope pos) scope env _ (newList []) false (eval iter env) (some (assign (.Name y py) env))) _ _ s
  refine wpAny_bind (wpAny_mono (wpAny_comprehension_use (u := assign (.Name y py) env) (Q := fun _ s' => Q .next s') rfl hs (fun x hx => of_decide_eq_true (List.all_eq_true.mp hfree x hx)) hkind (fun x hx => of_decide_eq_true (List.all_eq_true.mp hnames x hx))
    (wpAny_mono h.out (fun x s₁ h₁ => wpAny_mono h₁.out (fun it s₂ h₂ => ?_) fun _ _ e => e) fun _ _ e => e)) (fun _ s' hq => wpAny_pure (wpAny_pure hq)) fun _ _ e => e)
  obtain ⟨s₀, L, m, led, D, hq⟩ := h₂
  refine wpAny_newList ?_ (by simp)
  refine wpAny_newFunctionEnv (fun x hx => of_decide_eq_true (List.all_eq_true.mp hcell x hx)) (by simp) (fun h' hn hs' => ?_) hkind
  have D1 := D.new (.list []) (tk := s₂.toks) (h' := s₂.heap.push { cls := .type "list", data := .seq ([] : List Value).toArray }) (fun _ _ e => Heap.get?_push_of_some _ e) (Nat.le_refl _) ⟨0, Heap.get?_push_size _ rfl⟩ (Nat.le_refl _)
  have D2 := D1.new (.ns fun _ => none) (tk := s₂.toks + ([] : List (Str × Value)).length) (h' := h') (fun b o e => by
      have e2 := Heap.get?_push_of_some { cls := .type (if (some env).isSome then "dict" else "frame"), data := .dict #[] } e
      exact (hs'.2 b (Nat.ne_of_lt (Heap.lt_size e))).trans e2) (Nat.le_refl _) hn (Nat.le_refl _)
  obtain ⟨k2, k1⟩ := hq _ _ _ D2
  have k3 := codeAny_compStart_list k1.out (k2 _ k1.out).any
  refine codeAny_mono k3 fun r s₅ h₅ => ?_
  obtain ⟨e, h₅⟩ := h₅
  subst e
  refine wpAny_assign_Name (wpAny_mono h₅.out (fun _ s₆ h₆ => ?_) fun _ _ x => x)
  obtain ⟨m', led', i, ns, D5, hi, hfin⟩ := h₆
  exact ⟨ns, D5.nth i hi, fun h₆ hb => hfin _ (D5.dropX i hi hb.extBut (Nat.le_refl _))⟩
end
end Mine
end
-- V2
section
open PySem PySem.Calls PyProof.Rows PySem.W
namespace Mine
section
variable {prog : Program} {C : Cx} {A : Around} {s₀ s : Shared} {L a : Addr} {m : Str → Option Value} {led : List (Addr × Cell)} {fd : FuncData} {env : Env}
noncomputable abbrev env225 (L : Addr) : Env := callEnv F225.1 L 225
theorem nums_five (t0 t1 t2 t3 t4 : Tok) : Nums [.int ((0 : Nat) : Int) t0, .int ((3 : Nat) : Int) t1, .int ((4646 : Nat) : Int) t2, .int ((16 : Nat) : Int) t3, .int ((5 : Nat) : Int) t4] [0, 3, 4646, 16, 5] :=
  .cons _ _ (.cons _ _ (.cons _ _ (.cons _ _ (.cons _ _ .nil))))
/-- from the items on -/
theorem law_tail {nm : Addr} {nv : List Value} {nn : List Nat} {Q : Value → Shared → Prop} (D : Led C s₀ L m [(nm, .list nv)] s) (Fm : FrOk A C.N s₀.heap) (R : Room (A.deeper (env225 L)) 11) (hn : Nums nv nn) (h5 : nn.length = 5) (hb : ∀ n ∈ nn, n < 1000000)
    (mn : m (Str.ofString "numbers") = some (.ref nm)) (h : ∀ s', Next C.N s₀ s' → Q (.bool true) s') :
    W prog C (A.deeper (env225 L)) (execs ((bodyOf F225.1).drop 2) (env225 L)) (RetQ Q) s := by
  have hvl := hn.length
  refine x_consL ?_
  intro Qs
  refine x_ret <| e_def D.now g_right F220.2 <| a_cons <| e_comp <| e_sliceI <| rName D mn <| p_none <| p_some <| rIntN 4 D fun t s' D => ⟨_, _, _, _, nm, nv, nv.take 4, none, some ((4 : Nat) : Int), D, rfl, (D.nth 0 rfl).isList, by simp [sizeLine]; exact lin [_, _] (.e 1 (.a 0) (.n 5) <| .e 1 (.a 1) (.a 0) <| .g 1 (.a 1) (.n 16777216)) (.refl true) h5 hvl, .none, .int _ _, slicePick_upto' _ 4, fun sl s' D => ?_⟩
  refine it_list D (D.nth 0 rfl) fun it s' D _ => ⟨_, _, _, _, D, fun acc cl s' D => ⟨fun Q q => it_listit D (i := 2) rfl q, ?_⟩⟩
  let Inv1 : Nat → Shared → Prop := fun k s' => Ex5 fun ns av its cs i => And6 (k = 4 - i) (i ≤ 4) (its.length = i) (ItCells cs av its) ((∀ x ∈ its, OkItem x)) (Led C s₀ L m ([(cl, .ns ns), (acc, .list av), (it, .fld "list_iterator" [.ref sl, .int (i : Int) 0]), (sl, .list (nv.take 4)), (nm, .list nv)] ++ cs) s')
  refine cloopN Inv1 4 ⟨_, [], [], [], 0, rfl, by decide, rfl, .nil, by simp, D⟩ ?_
  rintro k s' ⟨ns, av, its, cs, i, rfl, hi, hil, hI, hok, D⟩
  have hal := hI.length
  by_cases hlt : i < 4
  · have hin : i < nn.length := by exact lin [_, _] (.f 1 (.a 0) (.n 5) <| .l 1 (.a 1) (.n 4) <| .j 1 (.a 1) (.a 0)) (.refl true) h5 hlt
    obtain ⟨t, ht⟩ := hn.get (List.getElem?_eq_getElem hin)
    have hy : (nv.take 4)[i]? = some (.int ((nn[i] : Nat) : Int) t) := by rw [List.getElem?_take_of_lt hlt]; exact ht
    have hni := hb _ (List.getElem_mem hin)
    generalize nn[i] = n at hy hni
    refine n_list D 2 rfl (D.nth 3 rfl) hy fun s' D _ => ?_
    dsimp only
    refine cStore D 0 rfl fun s' D => ?_
    refine e_def D.now g_item F175.2 <| a_cons <| cName D 0 rfl (by exact rfl) <| a_nil ⟨D.now, item_spec D.now (R.mono (by decide)) hni fun b p pv tw L' m' s' D' hpv => ?_⟩
    have D := D.adopt D'
    refine rAppend D 3 rfl (by simp [sizeLine]; exact lin [_, _, _] (.e 1 (.a 0) (.a 1) <| .e 1 (.a 2) (.a 0) <| .l 1 (.a 1) (.n 4) <| .g 1 (.a 2) (.n 16777216)) (.refl true) hil hal hlt) fun s' D => ?_
    have D := D.perm (List.perm_append_comm_assoc [_, _, _, _, _] [_, _] cs)
    exact ⟨4 - (i + 1), by exact lin [_, _, _] (.h 1 (.n 4) (.p (.a 1) (.a 0)) <| .e 1 (.p (.a 2) (.p (.a 0) (.n 1))) (.n 4) <| .j 1 (.a 2) (.a 1)) (.refl true) (subA _ _) (subC (by exact lin [_] (.l 1 (.a 0) (.n 4) <| .g 1 (.p (.a 0) (.n 1)) (.n 4)) (.refl true) hlt)), _, _, its ++ [item n], _, i + 1, rfl, hlt, by simp [hil], .snoc b p pv tw (item n) hpv hI, by
      intro x hx
      rcases List.mem_append.mp hx with hx | hx
      · exact hok x hx
      · simp at hx; rw [hx]; exact item_ok n, D⟩
  have hie : i = 4 := by exact Nat.le_antisymm (hi) (lin [_] (.o 1 (.a 0) (.n 4) <| .g 1 (.n 4) (.a 0)) (.refl true) hlt)
  subst hie
  refine n_list_end D 2 rfl (D.nth 3 rfl) (List.getElem?_eq_none (by simp; omega)) R.hh fun s' D _ => ?_
  dsimp only
  refine ⟨_, 0, _, D, rfl, fun s' D => ?_⟩
  have D : Led C s₀ L m ([(acc, .list av), (sl, .list (nv.take 4)), (nm, .list nv)] ++ cs) s' := D
  obtain ⟨t4, h4⟩ := hn.get (i := 4) (n := nn[4]) (List.getElem?_eq_getElem (by exact lin [_] (.f 1 (.a 0) (.n 5) <| .j 1 (.n 4) (.a 0)) (.refl true) h5))
  have hb4 := hb nn[4] (List.getElem_mem (by exact lin [_] (.f 1 (.a 0) (.n 5) <| .j 1 (.n 4) (.a 0)) (.refl true) h5))
  refine a_cons <| e_item <| rName D mn <| rIntN 4 D fun t s' D => i_list (D.nth 2 rfl) h4 (by decide) <| a_nil ⟨D.now, ?_⟩
  have hit := hI.at (h := s'.heap) fun q hq => (D.cells q (List.mem_append_right _ hq)).1
  exact right_spec D.now (Fm.deeper D (by decide)) (R.mono (by decide)) (D.nth 0 rfl) hit hok (by exact lin [_] (.e 1 (.a 0) (.n 4) <| .g 1 (.a 0) (.n 4)) (.refl true) hil) hb4 fun s' nx => h _ (D.next.trans nx)
theorem law_spec {l : Addr} {vs : List Value} {ns : List Int} {Q : Value → Shared → Prop} (P : Prog0 C s) (Fm : FrOk A C.N s.heap) (R : Room A 12) (hl : s.heap.IsList l vs.toArray) (hi : IntsAre vs ns) (hz : ns.length ≤ 63)
    (h : ∀ s', Next C.N s s' → Q (.bool true) s') : W prog C A (call (.ref 225) [.ref l]) Q s := by
  have hvl : vs.length = ns.length := hi.length
  refine rEnter0 (n := 11) (binds := [(Str.ofString "script", .ref l)]) P R F225.2 (Nat.succ_pos _) rfl (.of_eq rfl) fun s₁ L R D => ?_
  obtain ⟨m0, hm0⟩ : ∃ m0 : Str → Option Value, m0 = fun y => [(Str.ofString "script", Value.ref l)].reverse.lookup y := ⟨_, rfl⟩
  rw [← hm0] at D
  have ms : m0 (Str.ofString "script") = some (.ref l) := by rw [hm0]; rfl
  clear hm0
  refine x_consL ?_
  intro Qs
  refine x_comp <| e_sliceI <| rName D ms <| p_none <| p_some <| rIntN 5 D fun t s' D => ⟨_, _, _, _, l, vs, vs.take 5, none, some ((5 : Nat) : Int), D, rfl, D.isList hl, by simp [sizeLine]; exact lin [_, _] (.h 1 (.a 0) (.n 63) <| .e 1 (.a 1) (.a 0) <| .g 1 (.a 1) (.n 16777216)) (.refl true) hz hvl, .none, .int _ _, slicePick_upto' _ 5, fun sl s' D => ?_⟩
  refine it_list D (D.nth 0 rfl) fun it s' D _ => ⟨_, _, _, _, D, fun acc cl s' D => ⟨fun Q q => it_listit D (i := 2) rfl q, ?_⟩⟩
  let Inv2 : Nat → Shared → Prop := fun k s' => Ex4 fun ns av dn i => And6 (k = (vs.take 5).length - i) (i ≤ (vs.take 5).length) (dn.length = i) (Nums av dn) ((∀ n ∈ dn, n < 1000000)) (Led C s L m0 [(cl, .ns ns), (acc, .list av), (it, .fld "list_iterator" [.ref sl, .int (i : Int) 0]), (sl, .list (vs.take 5))] s')
  refine cloopN Inv2 (vs.take 5).length ⟨_, [], [], 0, rfl, Nat.zero_le _, rfl, .nil, by simp, D⟩ ?_
  rintro k s' ⟨ns', av, dn, i, rfl, hi', hdl, hN, hlt9, D⟩
  have hal := hN.length
  have h5 : (vs.take 5).length ≤ 5 := by simp; omega
  by_cases hlt : i < (vs.take 5).length
  · have hy : (vs.take 5)[i]? = some (vs.take 5)[i] := List.getElem?_eq_getElem hlt
    have hy2 : vs[i]? = some (vs.take 5)[i] := by rw [← hy, List.getElem?_take_of_lt (by exact lin [_, _] (.h 1 (.a 0) (.n 5) <| .l 1 (.a 1) (.a 0) <| .j 1 (.a 1) (.n 5)) (.refl true) h5 hlt)]
    obtain ⟨k, tk, e⟩ := ints_at hi hy2
    rw [e] at hy
    refine n_list D 2 rfl (D.nth 3 rfl) hy fun s' D _ => ?_
    dsimp only
    refine cStore D 0 rfl fun s' D => ?_
    refine e_bin <| cName D 0 rfl (by exact rfl) <| e_bin <| rIntN 10 D fun t s' D => rIntN 6 D fun t s' D => rPowN D (by decide) (by decide) fun t s' D => ?_
    refine rModI D (by decide) fun t s' D => ?_
    refine rAppend D 1 rfl (by simp [sizeLine]; exact lin [_, _, _, _] (.e 1 (.a 0) (.a 1) <| .e 1 (.a 2) (.a 0) <| .h 1 (.a 3) (.n 5) <| .l 1 (.a 1) (.a 3) <| .g 1 (.a 2) (.n 16777216)) (.refl true) hdl hal h5 hlt) fun s' D => ?_
    have hm : (k % ((10 ^ 6 : Nat) : Int)).toNat < 1000000 := by
      have h1 := Int.emod_nonneg k (b := ((10 ^ 6 : Nat) : Int)) (by decide)
      have h2 := Int.emod_lt_of_pos k (b := ((10 ^ 6 : Nat) : Int)) (by decide)
      have h3 : ((10 ^ 6 : Nat) : Int) = 1000000 := by decide
      rw [h3] at h1 h2 ⊢
      omega
    exact ⟨(vs.take 5).length - (i + 1), by exact lin [_, _, _, _] (.h 1 (.a 0) (.p (.a 2) (.a 1)) <| .e 1 (.p (.a 3) (.p (.a 1) (.n 1))) (.a 0) <| .j 1 (.a 3) (.a 2)) (.refl true) (subA _ _) (subC (by exact lin [_, _] (.l 1 (.a 0) (.a 1) <| .g 1 (.p (.a 0) (.n 1)) (.a 1)) (.refl true) hlt)), _, _, dn ++ [(k % ((10 ^ 6 : Nat) : Int)).toNat], i + 1, rfl, hlt, by simp [hdl], hN.app (.cons _ _ .nil), by
      intro n hn
      rcases List.mem_append.mp hn with hn | hn
      · exact hlt9 n hn
      · simp only [List.mem_singleton] at hn; rw [hn]; exact hm, D⟩
  refine n_list_end D 2 rfl (D.nth 3 rfl) (List.getElem?_eq_none (by exact lin [_, _] (.o 1 (.a 0) (.a 1) <| .g 1 (.a 1) (.a 0)) (.refl true) hlt)) R.hh fun s' D _ => ?_
  dsimp only
  refine rStore D fun s' D => ⟨_, _, 0, _, D, rfl, fun s' D => ?_⟩
  have D := D.forget (led' := [(acc, .list av)]) (.cons_cons _ (List.nil_sublist _))
  -- the last ones of the row
  refine x_consL ?_
  intro Qs
  refine x_assign <| e_bin <| rName D (by exact rfl) <| e_sliceI <| e_list <| a_cons <| rIntN 0 D fun t0 s' D => a_cons <| rIntN 3 D fun t1 s' D => a_cons <| rIntN 4646 D fun t2 s' D => a_cons <| rIntN 16 D fun t3 s' D => a_cons <| rIntN 5 D fun t4 s' D => a_nil ⟨_, _, _, _, D, Nat.le_of_ble_eq_true rfl, fun fv s' D => ?_⟩
  refine p_some <| e_bi D.now b_len <| a_cons <| rName D (by exact rfl) <| a_nil <| rLenL D (D.nth 1 rfl) (by simp [sizeLine]; exact lin [_, _, _, _] (.h 1 (.a 0) (.a 1) <| .e 1 (.a 2) (.a 0) <| .e 1 (.a 3) (.a 2) <| .h 1 (.a 1) (.n 5) <| .g 1 (.a 3) (.n 16777216)) (.refl true) hi' hdl hal h5) fun t s' D => p_none ⟨_, _, _, _, fv, _, _, some ((av.length : Nat) : Int), none, D, rfl, (D.nth 0 rfl).isList, Nat.le_of_ble_eq_true rfl, .int _ _, .none, slicePick_from' _ av.length, fun c s' D => ?_⟩
  have hnew := hN.app ((nums_five t0 t1 t2 t3 t4).drop av.length)
  refine rAddL D (D.nth 2 rfl) (D.nth 0 rfl) (by simp [sizeLine]; exact lin [_, _, _, _, _] (.h 1 (.a 0) (.a 1) <| .e 1 (.a 2) (.a 0) <| .e 1 (.a 3) (.a 2) <| .h 1 (.a 1) (.n 5) <| .h 1 (.a 4) (.n 5) <| .g 1 (.p (.a 3) (.a 4)) (.n 16777216)) (.refl true) hi' hdl hal h5 (subB _ _)) fun nm s' D => rStore D fun s' D => ?_
  have D := D.forget (led' := [(nm, _)]) (.cons_cons _ (List.nil_sublist _))
  refine law_tail D Fm R hnew (by simp; exact Nat.le_antisymm (lin [_, _, _] (.f 1 (.a 0) (.a 1) <| .e 1 (.p (.a 2) (.a 0)) (.n 5) <| .g 1 (.p (.a 1) (.a 2)) (.n 5)) (.refl true) hal (subC (by exact lin [_, _, _, _] (.h 1 (.a 0) (.a 1) <| .e 1 (.a 2) (.a 0) <| .e 1 (.a 3) (.a 2) <| .h 1 (.a 1) (.n 5) <| .g 1 (.a 3) (.n 5)) (.refl true) hi' hdl hal h5))) (lin [_, _, _] (.e 1 (.a 0) (.a 1) <| .h 1 (.n 5) (.p (.a 2) (.a 0)) <| .g 1 (.n 5) (.p (.a 1) (.a 2))) (.refl true) hal (subA _ _))) (fun n hn => ?_) (by exact rfl) h
  rcases List.mem_append.mp hn with hn | hn
  · exact hlt9 n hn
  · have := List.mem_of_mem_drop hn
    simp at this
    omega
end
end Mine
end
-- V3
section
open PySem PySem.Calls PyProof.Rows PySem.W
namespace Mine
section
variable {p : Program} {loose : List Str} {mean : ExcName → Option Value} {mg mb : Str → Option Value} {w : World} {s s' : Shared}
theorem lookTab {P : Params} {b : Addr} (h : tab b = true) : (K0 P).lookup b = none := by
  unfold tab at h
  rcases Bool.or_eq_true_iff.mp h with h | h
  · rcases Bool.or_eq_true_iff.mp h with h | h
    · rw [eq_of_beq h]; rfl
    · rw [eq_of_beq h]; rfl
  · rw [eq_of_beq h]; rfl
theorem look225 {P : Params} : ∃ o, (K0 P).lookup 225 = some o := ⟨_, rfl⟩
theorem tabIs {b : Addr} (h : tab b = true) : ∃ q ∈ [((86 : Addr), (82 : Addr)), (69, 65), (124, 120)], q.2 = b := by
  unfold tab at h
  rcases Bool.or_eq_true_iff.mp h with h | h
  · rcases Bool.or_eq_true_iff.mp h with h | h
    · exact ⟨(69, 65), by simp, (eq_of_beq h).symm⟩
    · exact ⟨(86, 82), by simp, (eq_of_beq h).symm⟩
  · exact ⟨(124, 120), by simp, (eq_of_beq h).symm⟩
theorem tabOk_of {h : Heap} {c P : Addr} (x : CodeHd h c P ∧ h.get? P = some (tabObj #[])) : TabOk h c P := by
  refine ⟨#[], x.1.code x.2 ?_, x.2, ?_, ?_⟩
  · exact trivial
  · obtain ⟨o, _, _, _, _, _, _, _, _, e, c, _⟩ := x.1
    exact ⟨o, e, c⟩
  · intro pos cv e
    cases e
theorem prog0_of (KX : (K0 w.params).In s.heap) (T : Top p loose mean mg mb s.heap) (hT : TabsAt [(86, 82), (69, 65), (124, 120)] s.heap) : Prog0 ⟨w, s.heap.objs.size, mg, mb⟩ s where
  hN := by
    obtain ⟨o, e⟩ := look225 (P := w.params)
    exact Heap.lt_size (KX _ _ e)
  size := Nat.le_refl _
  X := KX
  low := fun b o e => ⟨Heap.lt_size (KX b o e), by
    cases h : tab b with
    | false => rfl
    | true => rw [lookTab h] at e; cases e⟩
  lim := T.nolimit
  g := T.g
  b := T.b
  bb := T.builtins
  tabs := ⟨tabOk_of (hT (86, 82) (by simp)), tabOk_of (hT (69, 65) (by simp)), tabOk_of (hT (124, 120) (by simp))⟩
  bm := by
    obtain ⟨b, ob, h1, h2, h3, h4, h5, h6⟩ := T.bmain
    refine ⟨b, ob, h1, h2, ?_, h3, h4, h5, h6⟩
    cases h : tab b with
    | false => rfl
    | true =>
      obtain ⟨q, hq, e⟩ := tabIs h
      have := (hT q hq).2
      rw [e, h3] at this
      cases this
      cases h4
theorem old_of (hT : TabsAt [(86, 82), (69, 65), (124, 120)] s.heap) (P : Prog0 ⟨w, s.heap.objs.size, mg, mb⟩ s) (x : Next s.heap.objs.size s s') : OldK s.heap s'.heap := by
  have key : ∀ b o, s.heap.get? b = some o → (s'.heap.get? b = some o) ∨ (isCodeTable s.heap b ∧ o.cls = .none ∧ ∃ vs more, o.data = .fields vs ∧ s'.heap.get? b = some { o with data := .fields (vs ++ more) }) := by
    intro b o e
    cases h : tab b with
    | false => exact .inl (x.kept.low h (Heap.lt_size e) e)
    | true =>
      obtain ⟨q, hq, rfl⟩ := tabIs h
      have hh := hT q hq
      have e2 := hh.2
      rw [e] at e2
      obtain rfl := Option.some.inj e2
      have t' := x.tabs P.tabs
      have : ∃ ps, s'.heap.get? q.2 = some (tabObj ps) := by
        simp only [List.mem_cons, List.not_mem_nil, or_false] at hq
        rcases hq with rfl | rfl | rfl
        · obtain ⟨ps, _, hp, _⟩ := t'.1; exact ⟨ps, hp⟩
        · obtain ⟨ps, _, hp, _⟩ := t'.2.1; exact ⟨ps, hp⟩
        · obtain ⟨ps, _, hp, _⟩ := t'.2.2; exact ⟨ps, hp⟩
      obtain ⟨ps, hp⟩ := this
      exact .inr ⟨(hh.1.tab hh.2).isCodeTable, rfl, #[], ps, rfl, by rw [hp]; simp⟩
  refine ⟨fun b o e => ?_, fun b o e => ?_⟩
  · rcases key b o e with h | h
    · exact .inl h
    · exact .inr (.inl h)
  · rcases key b o e with h | ⟨_, _, _, _, _, h⟩
    · exact ⟨_, h⟩
    · exact ⟨_, h⟩
theorem good_of {c : ClaimW} {cl : Str → Option Addr} {mean : ExcName → Option Value} {args : List WData} (hT : TabsAt [(86, 82), (69, 65), (124, 120)] s.heap) (P : Prog0 ⟨w, s.heap.objs.size, mg, mb⟩ s) (hg : s.gens = #[]) (x : Next s.heap.objs.size s s')
    (hr : ∀ cls, c.raises args cls = false) (hp : c.post args (.bool true) args = true) : GoodWG c cl mean args s (.ok (.ret (.bool true))) s' :=
  ⟨.inl ⟨_, _, [], rfl, hr, ReadsW.bool true, hp, fun _ => ⟨List.nodup_nil, fun _ hm => (nomatch hm)⟩⟩, old_of hT P x, x.os, x.gens (.of_eq hg)⟩
theorem room0 : Room callerA 12 := ⟨rfl, by decide +kernel, by decide +kernel⟩
theorem frOk0 {N : Nat} {h : Heap} : FrOk callerA N h := ⟨[], rfl, fun _ h => (nomatch h)⟩
end
end Mine
end
-- V5
section
open PySem PySem.Calls PyProof.Rows PySem.W
set_option Elab.async true
namespace Mine
noncomputable def head.tw13412022041919118725 : Unit := ()
noncomputable def head.tw6474009502463322548 : Unit := ()
noncomputable def head.tw4105119120572824291 : Unit := ()
noncomputable def head.tw1617047413883878950 : Unit := ()
noncomputable def head.tw13335025841360890868 : Unit := ()
noncomputable def head.tw9267399956468080217 : Unit := ()
noncomputable def head.tw15156642090968518577 : Unit := ()
noncomputable def head.tw1449419506689548295 : Unit := ()
noncomputable def head.tw7064576912131800416 : Unit := ()
noncomputable def head.tw9056860215390897720 : Unit := ()
noncomputable def head.tw16858415682749746768 : Unit := ()
noncomputable def head.tw10918805792032235851 : Unit := ()
noncomputable def head.tw2418714467272084401 : Unit := ()
noncomputable def head.tw15782500743966263059 : Unit := ()
noncomputable def head.tw10608895561498820177 : Unit := ()
noncomputable def head.tw13297540025232092148 : Unit := ()
noncomputable def head.tw15493778577238641531 : Unit := ()
noncomputable def head.tw8123758894001490243 : Unit := ()
noncomputable def head.tw2349265364154346715 : Unit := ()
noncomputable def head.tw13695525827329720240 : Unit := ()
noncomputable def head.tw14139502460874162764 : Unit := ()
noncomputable def head.tw13294958713779813728 : Unit := ()
noncomputable def head.tw6176345250416243184 : Unit := ()
noncomputable def head.tw7802898811600756450 : Unit := ()
noncomputable def head.tw11484358847640170188 : Unit := ()
noncomputable def head.tw11296743742662292762 : Unit := ()
noncomputable def head.tw6110071263904590700 : Unit := ()
noncomputable def head.tw2096541523181747872 : Unit := ()
noncomputable def head.tw7417405269818204032 : Unit := ()
noncomputable def head.tw14982685227137828758 : Unit := ()
noncomputable def head.tw12604462930493870256 : Unit := ()
noncomputable def head.tw18410590092159124921 : Unit := ()
noncomputable def head.tw3088210815446039105 : Unit := ()
noncomputable def head.tw7253898381062576733 : Unit := ()
noncomputable def head.tw15539854500240908086 : Unit := ()
noncomputable def head.tw9196398404247428943 : Unit := ()
noncomputable def head.tw17674571679781333832 : Unit := ()
noncomputable def head.tw16172356507618199906 : Unit := ()
noncomputable def head.tw16172288393029767808 : Unit := ()
noncomputable def head.tw18416563613846182222 : Unit := ()
noncomputable def head.tw13353151263460963528 : Unit := ()
noncomputable def head.tw3496171461512900480 : Unit := ()
noncomputable def head.tw37620276538422747 : Unit := ()
noncomputable def head.tw5508695066786827253 : Unit := ()
noncomputable def head.tw4415685298772064003 : Unit := ()
noncomputable def head.tw5141578139466067413 : Unit := ()
noncomputable def head.tw16050388347410925577 : Unit := ()
noncomputable def head.tw9280153536138602973 : Unit := ()
noncomputable def head.tw17619409864816609055 : Unit := ()
noncomputable def head.tw16111715859725283846 : Unit := ()
noncomputable def head.tw8097174177036852075 : Unit := ()
noncomputable def head.tw17646911460466567920 : Unit := ()
noncomputable def head.tw12398312691204496596 : Unit := ()
noncomputable def head.tw9980544069675776137 : Unit := ()
noncomputable def head.tw5141380973458375857 : Unit := ()
noncomputable def head.tw5870146547769353613 : Unit := ()
noncomputable def head.tw4975070653579243887 : Unit := ()
noncomputable def head.tw533756555076263647 : Unit := ()
noncomputable def head.tw18227723713731065979 : Unit := ()
noncomputable def head.tw10898857373019930491 : Unit := ()
noncomputable def head.tw10519217271611395807 : Unit := ()
noncomputable def head.tw12478146576626367362 : Unit := ()
noncomputable def head.tw3998768129134768690 : Unit := ()
noncomputable def head.tw15894371620910866019 : Unit := ()
noncomputable def head.tw8895791426145780158 : Unit := ()
noncomputable def head.tw15919025892595252471 : Unit := ()
noncomputable def head.tw10015159338476511836 : Unit := ()
noncomputable def head.tw8187629637223713605 : Unit := ()
noncomputable def head.tw1748456618969930982 : Unit := ()
noncomputable def head.tw15468718075485040107 : Unit := ()
noncomputable def head.tw16874305072444578374 : Unit := ()
noncomputable def head.tw2249667046024356820 : Unit := ()
noncomputable def head.tw5973763720392745831 : Unit := ()
noncomputable def head.tw14512941343882779238 : Unit := ()
noncomputable def head.tw9495540839478616804 : Unit := ()
noncomputable def head.tw7758381527925395934 : Unit := ()
noncomputable def head.tw9702098958229961203 : Unit := ()
noncomputable def head.tw16847831306532103052 : Unit := ()
noncomputable def head.tw10366927770000222440 : Unit := ()
noncomputable def head.tw12773685731770592110 : Unit := ()
noncomputable def head.tw4307260679431091991 : Unit := ()
noncomputable def head.tw1919001801439425371 : Unit := ()
noncomputable def head.tw15193194302506122181 : Unit := ()
noncomputable def head.tw12397968759161991312 : Unit := ()
noncomputable def head.tw12520968677606412118 : Unit := ()
noncomputable def head.tw4433315090154635215 : Unit := ()
noncomputable def head.tw15785421084128741142 : Unit := ()
noncomputable def head.tw6100774026682323163 : Unit := ()
noncomputable def head.tw7658410731251134818 : Unit := ()
noncomputable def head.tw14676189674455941282 : Unit := ()
noncomputable def head.tw6388477656530123435 : Unit := ()
noncomputable def head.tw12024539317367501503 : Unit := ()
noncomputable def head.tw4746297304354101679 : Unit := ()
noncomputable def head.tw17297054508065495485 : Unit := ()
noncomputable def head.tw6121141971511671821 : Unit := ()
noncomputable def head.tw10047393819957995408 : Unit := ()
noncomputable def head.tw11544532188706048022 : Unit := ()
noncomputable def head.tw5319049981483164881 : Unit := ()
noncomputable def head.tw4972248218790579157 : Unit := ()
noncomputable def head.tw17113217626458354986 : Unit := ()
noncomputable def head.tw2203363585012173787 : Unit := ()
noncomputable def head.tw14527164170590304321 : Unit := ()
noncomputable def head.tw12147184966966947637 : Unit := ()
noncomputable def head.tw3690969761935527329 : Unit := ()
noncomputable def head.tw1319983325249436295 : Unit := ()
noncomputable def head.tw3749026756887285471 : Unit := ()
noncomputable def head.tw17789423225533864492 : Unit := ()
noncomputable def head.tw4160124254940468481 : Unit := ()
noncomputable def head.tw17882926463437270604 : Unit := ()
noncomputable def head.tw262713603470380999 : Unit := ()
noncomputable def head.tw8451290768687142514 : Unit := ()
noncomputable def head.tw6684978435548883818 : Unit := ()
noncomputable def head.tw11124748197601291601 : Unit := ()
noncomputable def head.tw5081542570693909779 : Unit := ()
noncomputable def head.tw14882813523228863612 : Unit := ()
noncomputable def head.tw851385035628625539 : Unit := ()
noncomputable def head.tw15506723302920939300 : Unit := ()
noncomputable def head.tw1824787226957235617 : Unit := ()
noncomputable def head.tw3973953319845086491 : Unit := ()
noncomputable def head.tw930087139818521243 : Unit := ()
noncomputable def head.tw10668533816033670360 : Unit := ()
noncomputable def head.tw14999265807660949796 : Unit := ()
noncomputable def head.tw6133374836822340032 : Unit := ()
noncomputable def head.tw10706776884845955466 : Unit := ()
noncomputable def head.tw17243387458012846398 : Unit := ()
noncomputable def head.tw12352672977532951062 : Unit := ()
noncomputable def head.tw11290360913936777911 : Unit := ()
set_option maxHeartbeats 8000000 in
theorem head : PySem.Challenge.rw_in0221_01.Holds := by
  w_on; o_law; k_head
  (case hw => w_witness2)
  w_strict (
  k_fill
  intro w s₀ s₁ mg mb G Y fa o pm cd doc dV kV ho hd hcd hD hmg hg args vals as hpre hlay hrd hwl hlo
  have KY := km_in_of Y
  km_tabs Y
  have X := (Ground.X G).1
  have V := (Ground.X G).2
  refine Ground.open G ?_
  intro T B D TE TW
  try (refine guard_noD D (by decide +kernel) ?_; clear D)
  km_lay T hmg ho hd cd
  wrow_args hpre hlay hrd hwl hlo
  rename_i ns _ _ _ _ _ _ _ l vs _ hL _ _ _ hI _ hc _
  have KX : (K0 w.params).In s₁.heap := KY
  have P := prog0_of KX T hT9
  have e225 : mg (Str.ofString "law") = some (.ref 225) := mg_of KX T.g (by rfl)
  have hfa : mg (Str.ofString "law") = some (.ref fa) := hmg
  have ef : fa = 225 := by
    rw [e225] at hfa
    exact (Value.ref.inj (Option.some.inj hfa)).symm
  rw [ef]
  refine wpAny_mono (law_spec (Q := fun v s' => v = .bool true ∧ Next s₁.heap.objs.size s₁ s') P frOk0 room0 hL hI (by omega) fun s' x => ⟨rfl, x⟩).out (fun v s' h => ?_) fun _ _ x => x.elim
  obtain ⟨rfl, x⟩ := h
  refine good_of hT9 P hg x (fun _ => rfl) ?_
  wrow_post)
end Mine
end
theorem PySem.Challenge.cw_in0221_01_holds : PySem.Challenge.rw_in0221_01.Holds :=
  Mine.head
