import PyProof.Rows.All
import Wide.All
import OpenK.AllK
import Wide.FinOn
import PySem.Challenge.RW_op0114_01
set_option Elab.async false
section
open PySem PySem.W PyProof.Rows
namespace Mine
set_option maxRecDepth 100000
set_option maxHeartbeats 8000000
open_top hd for PySem.Challenge.rw_op0114_01
end Mine
end
section
open PySem PySem.StrLaws PySem.Builtin PySem.Builtin.Str
namespace Mine

/-- the text with these signs -/
abbrev ofL (l : List Nat) : Str := ⟨l.toArray⟩

/-- one sign replaced -/
def one (c : Nat) (z : List Nat) (d : Nat) : List Nat := if d = c then z else [d]

/-- left to right; `k` signs are still to be skipped -/
def rep (p z : List Nat) : Nat → List Nat → List Nat
  | _, [] => []
  | 0, c :: r => if p.isPrefixOf (c :: r) then z ++ rep p z (p.length - 1) r else c :: rep p z 0 r
  | k + 1, _ :: r => rep p z k r

theorem rep_skip (p z : List Nat) : ∀ (k : Nat) (l : List Nat), rep p z k l = rep p z 0 (l.drop k)
  | 0, l => by simp
  | k + 1, [] => by simp [rep]
  | k + 1, c :: r => by rw [rep, rep_skip p z k r, List.drop_succ_cons]

theorem rep_hit {p z l : List Nat} (hp : 1 ≤ p.length) (h : p.isPrefixOf l = true) : rep p z 0 l = z ++ rep p z 0 (l.drop p.length) := by
  cases l with
  | nil =>
    cases p with
    | nil => simp at hp
    | cons a p => simp at h
  | cons c r =>
    rw [rep, if_pos h, rep_skip]
    congr 2
    obtain ⟨n, hn⟩ : ∃ n, p.length = n + 1 := ⟨p.length - 1, by omega⟩
    rw [hn, List.drop_succ_cons]; simp
theorem rep_miss {p z r : List Nat} {c : Nat} (h : p.isPrefixOf (c :: r) = false) : rep p z 0 (c :: r) = c :: rep p z 0 r := by
  rw [rep, if_neg (by rw [h]; exact Bool.false_ne_true)]

theorem at_iff (x y : Str) (i : Nat) (hi : i ≤ x.length) : At x y x.length i ↔ y.cps.toList.isPrefixOf (x.cps.toList.drop i) = true := by
  unfold At
  rw [subAt_eq, List.isPrefixOf_iff_prefix]
  constructor
  · rintro ⟨_, h⟩
    have h' := eq_of_beq h
    rw [← h']
    exact List.take_prefix _ _
  · intro h
    have hl := h.length_le
    rw [List.length_drop] at hl
    have e1 : y.cps.toList.length = y.length := by simp [Str.length]
    have e2 : x.cps.toList.length = x.length := by simp [Str.length]
    refine ⟨by omega, ?_⟩
    rw [List.prefix_iff_eq_take] at h
    rw [e1] at h
    exact beq_iff_eq.mpr h.symm

theorem rep_gap (x y : Str) (z : List Nat) (n a : Nat) (han : a + n ≤ x.length) (hn : ∀ k, a ≤ k → k < a + n → ¬ At x y x.length k) :
    rep y.cps.toList z 0 (x.cps.toList.drop a) = (x.cps.toList.drop a).take n ++ rep y.cps.toList z 0 (x.cps.toList.drop (a + n)) := by
  induction n generalizing a with
  | zero => simp
  | succ n ih =>
    have e2 : x.cps.toList.length = x.length := by simp [Str.length]
    have hlt : a < x.cps.toList.length := by omega
    rw [List.drop_eq_getElem_cons hlt]
    have hm : y.cps.toList.isPrefixOf (x.cps.toList[a] :: x.cps.toList.drop (a + 1)) = false := by
      cases hb : y.cps.toList.isPrefixOf (x.cps.toList[a] :: x.cps.toList.drop (a + 1)) with
      | false => rfl
      | true => exact absurd ((at_iff x y a (by omega)).mpr (by rw [List.drop_eq_getElem_cons hlt]; exact hb)) (hn a (Nat.le_refl _) (by omega))
    rw [rep_miss hm, ih (a + 1) (by omega) (fun k h1 h2 => hn k (by omega) (by omega)), List.take_succ_cons, List.cons_append]
    rw [show a + 1 + n = a + (n + 1) by omega]

theorem join_parts_rep (x y z : Str) (hw : 1 ≤ y.length) : ∀ (cuts : List Nat) (a f : Nat), a ≤ x.length → ChainG x y x.length a cuts f → (∀ k, f ≤ k → ¬ At x y x.length k) →
    (Str.join z (partsFrom x y.length a cuts)).cps.toList = rep y.cps.toList z.cps.toList 0 (x.cps.toList.drop a)
  | [], a, f, ha, h, hn => by
    have e : f = a := h
    subst e
    have e2 : x.cps.toList.length = x.length := by simp [Str.length]
    rw [rep_gap x y z.cps.toList (x.length - f) f (by omega) (fun k h1 _ => hn k h1)]
    show (strSub x f x.length).cps.toList = _
    rw [strSub_toList, show f + (x.length - f) = x.length by omega, List.drop_of_length_le (l := x.cps.toList) (i := x.length) (by omega)]
    simp [rep]
  | c :: r, a, f, ha, h, hn => by
    obtain ⟨h1, h2, h3, h4⟩ := h
    have e1 : y.cps.toList.length = y.length := by simp [Str.length]
    have hc : c + y.length ≤ x.length := h2.1
    have ih := join_parts_rep x y z hw r (c + y.length) f hc h4 hn
    rw [rep_gap x y z.cps.toList (c - a) a (by omega) (fun k q1 q2 => h3 k q1 (by omega)), show a + (c - a) = c by omega]
    rw [rep_hit (by omega) ((at_iff x y c (by omega)).mp h2), e1, List.drop_drop, ← ih]
    show (Str.join z (strSub x a c :: partsFrom x y.length (c + y.length) r)).cps.toList = _
    cases hr : partsFrom x y.length (c + y.length) r with
    | nil => cases r <;> cases hr
    | cons q qs =>
      show (strSub x a c ++ z ++ Str.join z (q :: qs)).cps.toList = _
      simp only [Str.cps_append, Array.toList_append, strSub_toList, List.append_assoc]

theorem replace_rep (x y z : Str) (hw : 1 ≤ y.length) : (Txt.replace x y z).cps.toList = rep y.cps.toList z.cps.toList 0 x.cps.toList := by
  obtain ⟨f, hG, hn⟩ := occ_tight x y hw
  have key := join_parts_rep x y z hw _ 0 f (Nat.zero_le _) hG hn
  rw [List.drop_zero] at key
  have hy0 : (y.length == 0) = false := by
    cases e : y.length == 0 with
    | false => rfl
    | true => rw [beq_iff_eq] at e; omega
  unfold Txt.replace
  rw [hy0, Bool.false_and, Bool.or_false]
  cases he : (Builtin.Str.occurrences x y 0 x.length (x.length + 1)).isEmpty
  · rw [if_neg Bool.false_ne_true, glued_eq_join, partsBetween_eq]
    exact key
  · rw [if_pos rfl]
    rw [List.isEmpty_iff.mp he] at key
    rw [← key]
    show _ = (strSub x 0 x.length).cps.toList
    rw [strSub_toList]
    have e2 : x.cps.toList.length = x.length := by simp [Str.length]
    simp [List.take_of_length_le (Nat.le_of_eq e2)]

theorem replace_ofL (l p z : List Nat) (hp : 1 ≤ p.length) : Txt.replace (ofL l) (ofL p) (ofL z) = ofL (rep p z 0 l) := by
  have h := replace_rep (ofL l) (ofL p) (ofL z) (by simpa [Str.length] using hp)
  apply Str.ext'
  simpa using congrArg List.toArray h

theorem rep_one (c : Nat) (z : List Nat) : ∀ l : List Nat, rep [c] z 0 l = l.flatMap (one c z)
  | [] => rfl
  | d :: r => by
    rw [List.flatMap_cons, ← rep_one c z r]
    by_cases h : d = c
    · subst h
      rw [rep_hit (by simp) (by simp)]
      simp [one]
    · rw [rep_miss (by simp [List.isPrefixOf]; exact fun e => h e.symm)]
      simp [one, h]

/-- whatever follows, the two part within both -/
def apart : List Nat → List Nat → Bool
  | a :: as, b :: bs => a != b || apart as bs
  | _, _ => false
/-- no place within `t` where `p` could begin, whatever follows -/
def clear (p : List Nat) : List Nat → Bool
  | [] => true
  | c :: r => apart p (c :: r) && clear p r

theorem apart_app {p : List Nat} : ∀ {t : List Nat} (rest : List Nat), apart p t = true → p.isPrefixOf (t ++ rest) = false := by
  induction p with
  | nil => intro t rest h; simp [apart] at h
  | cons a p ih =>
    intro t rest h
    cases t with
    | nil => simp [apart] at h
    | cons b t =>
      simp only [apart, Bool.or_eq_true, bne_iff_ne, ne_eq] at h
      rw [List.cons_append, List.isPrefixOf_cons_cons]
      rcases h with h | h
      · simp [h]
      · rw [ih rest h, Bool.and_false]

theorem rep_clear {p : List Nat} (z : List Nat) : ∀ {t : List Nat} (rest : List Nat), clear p t = true → rep p z 0 (t ++ rest) = t ++ rep p z 0 rest
  | [], rest, _ => rfl
  | c :: r, rest, h => by
    simp only [clear, Bool.and_eq_true] at h
    rw [List.cons_append, rep_miss (by rw [← List.cons_append]; exact apart_app rest h.1), rep_clear z rest h.2, List.cons_append]

theorem rep_toks {p : List Nat} (hp : 1 ≤ p.length) (z : List Nat) (g : Nat → List Nat) : ∀ l : List Nat, (∀ c ∈ l, g c = p ∨ clear p (g c) = true) →
    rep p z 0 (l.flatMap g) = l.flatMap fun c => if g c = p then z else g c
  | [], _ => rfl
  | c :: r, h => by
    have ih := rep_toks hp z g r fun d hd => h d (List.mem_cons_of_mem _ hd)
    rw [List.flatMap_cons, List.flatMap_cons, ← ih]
    by_cases e : g c = p
    · rw [if_pos e, e, rep_hit hp (by rw [List.isPrefixOf_iff_prefix]; exact List.prefix_append _ _)]
      rw [List.drop_left]
    · rw [if_neg e]
      rcases h c (List.mem_cons_self ..) with q | q
      · exact absurd q e
      · exact rep_clear z _ q
end Mine
end
section
open PySem
namespace Mine

def psi (a c : Nat) : List Nat := if c = a then [a] else [a, c]
def led1 (a : Nat) (t : List Nat) : List Nat := t.flatMap (psi a) ++ [a]
def red (w : List Nat) : List Nat := w.foldr led1 []
def pal (l : List Nat) : Bool := l == l.reverse
def least : List Nat → Nat
  | [] => 0
  | c :: r => if pal (c :: r) then 0 else least r + 1
def close1 (t : List Nat) (a : Nat) : List Nat := (t ++ [a]) ++ ((t ++ [a]).take (least (t ++ [a]))).reverse
def closeL (w : List Nat) : List Nat := w.foldl close1 []

section
variable {f : Nat → Nat} (hf : ∀ x y, f x = f y → x = y)
include hf
theorem map_inj {l r : List Nat} (h : l.map f = r.map f) : l = r := by
  induction l generalizing r with
  | nil => cases r with
    | nil => rfl
    | cons => simp at h
  | cons a l ih => cases r with
    | nil => simp at h
    | cons b r =>
      simp only [List.map_cons, List.cons.injEq] at h
      rw [hf _ _ h.1, ih h.2]
theorem pal_map (l : List Nat) : pal (l.map f) = pal l := by
  unfold pal
  rw [← List.map_reverse, Bool.eq_iff_iff, beq_iff_eq, beq_iff_eq]
  exact ⟨map_inj hf, fun e => by rw [← e]⟩
theorem least_map : ∀ l : List Nat, least (l.map f) = least l
  | [] => rfl
  | c :: r => by
    have h := pal_map hf (c :: r)
    rw [List.map_cons] at h
    rw [List.map_cons, least, least, h, least_map r]
theorem close1_map (t : List Nat) (a : Nat) : close1 (t.map f) (f a) = (close1 t a).map f := by
  unfold close1
  have e : t.map f ++ [f a] = (t ++ [a]).map f := by simp
  rw [e, least_map hf, ← List.map_take, ← List.map_reverse, ← List.map_append]
theorem closeL_map (w : List Nat) : closeL (w.map f) = (closeL w).map f := by
  have key : ∀ (w t : List Nat), (w.map f).foldl close1 (t.map f) = (w.foldl close1 t).map f := by
    intro w
    induction w with
    | nil => intro t; rfl
    | cons a w ih => intro t; rw [List.map_cons, List.foldl_cons, List.foldl_cons, close1_map hf, ih]
  exact key w []
theorem psi_map (a c : Nat) : psi (f a) (f c) = (psi a c).map f := by
  unfold psi
  by_cases h : c = a
  · simp [h]
  · rw [if_neg h, if_neg fun e => h (hf _ _ e)]; simp
theorem led1_map (a : Nat) (t : List Nat) : led1 (f a) (t.map f) = (led1 a t).map f := by
  unfold led1
  rw [List.map_append, List.map_cons, List.map_nil, List.flatMap_map, List.map_flatMap]
  congr 1
  exact congrArg (fun g => List.flatMap g t) (funext fun c => psi_map hf a c)
theorem red_map : ∀ w : List Nat, red (w.map f) = (red w).map f
  | [] => rfl
  | a :: w => by
    show led1 (f a) (red (w.map f)) = (led1 a (red w)).map f
    rw [red_map w, led1_map hf]
end

theorem canon5 : ∀ (b : Fin 2) (c : Fin 3) (d : Fin 4) (e : Fin 5), closeL [0, b.1, c.1, d.1, e.1] = red [0, b.1, c.1, d.1, e.1] := by decide +kernel

def rename (a b c d e x : Nat) : Nat := if x = a then 0 else if x = b then 1 else if x = c then 2 else if x = d then 3 else if x = e then 4 else x + 5
theorem rename_inj (a b c d e : Nat) : ∀ x y, rename a b c d e x = rename a b c d e y → x = y := by
  intro x y h
  unfold rename at h
  split at h <;> split at h <;> (try split at h) <;> (try split at h) <;> (try split at h) <;> (try split at h) <;> (try split at h) <;> (try split at h) <;> (try split at h) <;> (try split at h) <;> omega

theorem justin5 (a b c d e : Nat) : closeL [a, b, c, d, e] = red [a, b, c, d, e] := by
  have hi := rename_inj a b c d e
  apply map_inj hi
  rw [← closeL_map hi, ← red_map hi]
  have h1 : rename a b c d e a = 0 := by simp [rename]
  have h2 : rename a b c d e b < 2 := by unfold rename; split <;> (try split) <;> omega
  have h3 : rename a b c d e c < 3 := by unfold rename; split <;> (try split) <;> (try split) <;> omega
  have h4 : rename a b c d e d < 4 := by unfold rename; split <;> (try split) <;> (try split) <;> (try split) <;> omega
  have h5 : rename a b c d e e < 5 := by unfold rename; split <;> (try split) <;> (try split) <;> (try split) <;> (try split) <;> omega
  simp only [List.map_cons, List.map_nil, h1]
  exact canon5 ⟨_, h2⟩ ⟨_, h3⟩ ⟨_, h4⟩ ⟨_, h5⟩

/-- sign, and what stands behind & for it -/
def pairsOf : Nat → List (Nat × List Nat)
  | 0 => [(38, [97, 109, 112, 59]), (60, [108, 116, 59]), (62, [103, 116, 59])]
  | 1 => [(38, [97, 109, 112, 59]), (60, [108, 116, 59]), (62, [103, 116, 59]), (34, [113, 117, 111, 116, 59]), (13, [35, 49, 51, 59]), (10, [35, 49, 48, 59]), (9, [35, 48, 57, 59])]
  | 2 => [(38, [97, 109, 112, 59]), (62, [103, 116, 59]), (34, [113, 117, 111, 116, 59])]
  | 3 => [(38, [97, 109, 112, 59]), (60, [108, 116, 59]), (62, [103, 116, 59]), (13, [35, 120, 68, 59])]
  | _ => [(38, [97, 109, 112, 59]), (60, [108, 116, 59]), (34, [113, 117, 111, 116, 59]), (9, [35, 120, 57, 59]), (10, [35, 120, 65, 59]), (13, [35, 120, 68, 59])]
def lettersOf (k : Nat) : List Nat := (pairsOf k).map (·.1)

abbrev Rep := List Nat × List Nat
def stepG (g : Nat → List Nat) (q : Rep) (c : Nat) : List Nat := if g c = q.1 then q.2 else g c
def okG (La : List Nat) : (Nat → List Nat) → List Rep → Bool
  | _, [] => true
  | g, q :: r => decide (1 ≤ q.1.length) && La.all (fun c => g c == q.1 || clear q.1 (g c)) && okG La (stepG g q) r
theorem fold_toks {La : List Nat} {l : List Nat} (hl : ∀ c ∈ l, c ∈ La) : ∀ (qs : List Rep) (g : Nat → List Nat), okG La g qs = true →
    qs.foldl (fun x q => rep q.1 q.2 0 x) (l.flatMap g) = l.flatMap (qs.foldl stepG g)
  | [], g, _ => rfl
  | q :: r, g, h => by
    simp only [okG, Bool.and_eq_true, decide_eq_true_eq] at h
    rw [List.foldl_cons, List.foldl_cons, rep_toks h.1.1 q.2 g l fun c hc => ?_]
    · exact fold_toks hl r (stepG g q) h.2
    · have := List.all_eq_true.mp h.1.2 c (hl c hc)
      simpa using this

def escSteps (k : Nat) : List Rep := (pairsOf k).map fun p => ([p.1], 38 :: p.2)
def decSteps (k a : Nat) : List Rep := (pairsOf k).reverse.map fun p => (38 :: p.2, psi a p.1)

theorem steps_ok : ∀ k : Fin 5, ∀ a ∈ lettersOf k.1, okG (lettersOf k.1) (fun c => [c]) (escSteps k.1 ++ decSteps k.1 a) = true ∧
    ∀ c ∈ lettersOf k.1, (escSteps k.1 ++ decSteps k.1 a).foldl stepG (fun c => [c]) c = psi a c := by decide +kernel

theorem flat_singles (l : List Nat) : l.flatMap (fun c => [c]) = l := by
  induction l with
  | nil => rfl
  | cons a l ih => rw [List.flatMap_cons, ih]; rfl

theorem dec_esc {k a : Nat} {l : List Nat} (hk : k < 5) (ha : a ∈ lettersOf k) (hl : ∀ c ∈ l, c ∈ lettersOf k) :
    (decSteps k a).foldl (fun x q => rep q.1 q.2 0 x) ((escSteps k).foldl (fun x q => rep q.1 q.2 0 x) l) = l.flatMap (psi a) := by
  have h := steps_ok ⟨k, hk⟩ a ha
  have e := fold_toks hl _ _ h.1
  rw [flat_singles, List.foldl_append] at e
  rw [e]
  have q : ∀ (r : List Nat) (f g : Nat → List Nat), (∀ c ∈ r, f c = g c) → r.flatMap f = r.flatMap g := by
    intro r f g hr
    induction r with
    | nil => rfl
    | cons c r ih => rw [List.flatMap_cons, List.flatMap_cons, hr c (List.mem_cons_self ..), ih fun d hd => hr d (List.mem_cons_of_mem _ hd)]
  exact q l _ _ fun c hc => h.2 c (hl c hc)
end Mine
end
section
open PySem PySem.W PyProof.Rows
set_option maxRecDepth 100000
namespace Mine

section
variable {prog : Program} {w : World} {A : Around} {E : Value → Shared → Prop} {s : Shared} {x y z : Str} {t u v : Tok} {Q : Value → Shared → Prop}

theorem replT (hu : u ≠ 0) (hv : v ≠ 0) (huv : u ≠ v) (hyz : (y == z) = false) (hb : x.length + (x.length + 1) * z.length ≤ 16777216)
    (hq : ∀ t' k, s.toks ≤ k → Q (.str (Txt.replace x y z) t') { s with toks := k }) :
    wpAny (model prog w) A (call (.builtin "str.replace") [.str x t, .str y u, .str z v]) Q E s :=
  wpAny_with_toks (Nat.le_refl _) (SC.replace hu hv huv hyz hb fun t' k hk => hq t' k hk)

theorem addT (hx : (x.length == 0) = false) (hy : (y.length == 0) = false) (hsz : x.length + y.length ≤ sizeLine)
    (h : Q (.str (x ++ y) s.toks) { s with toks := s.toks + 1 }) :
    wpAny (model prog w) A (binaryOp .Add (.str x t) (.str y u)) Q E s :=
  P.add_str (by
    rw [if_neg (by rw [hx]; exact Bool.false_ne_true), if_neg (by rw [hy]; exact Bool.false_ne_true)]
    exact ⟨by rw [Str.length_append]; exact hsz, h⟩)

theorem addM (hsz : x.length + y.length ≤ sizeLine) (h : ∀ t' k, s.toks ≤ k → Q (.str (x ++ y) t') { s with toks := k }) :
    wpAny (model prog w) A (binaryOp .Add (.str x t) (.str y u)) Q E s :=
  wpAny_with_toks (Nat.le_refl _) (SB.add (fun t' k hk => h t' k hk) hsz)
end

open PySem.Builtin PySem.Builtin.Str PySem.StrLaws in
theorem replace_free {x y z : Str} (h : (occurrences x y 0 x.length 1).isEmpty = true) : Txt.replace x y z = x := by
  unfold Txt.replace
  have e : (occurrences x y 0 x.length (x.length + 1)).isEmpty = true := by
    rcases occ_head x y 1 (Nat.le_refl _) with ⟨_, hn⟩ | ⟨i, r, e1, _⟩
    · rcases occ_head x y (x.length + 1) (by omega) with ⟨e2, _⟩ | ⟨i, r, _, h2, _⟩
      · rw [e2]; rfl
      · exact absurd h2 (hn i)
    · rw [e1] at h; cases h
  rw [e]; simp

theorem flat_len (g : Nat → List Nat) (n : Nat) (h : ∀ c, (g c).length ≤ n) : ∀ l : List Nat, (l.flatMap g).length ≤ n * l.length
  | [] => by simp
  | c :: r => by
    have h1 := h c
    have h2 := flat_len g n h r
    rw [List.flatMap_cons, List.length_append, List.length_cons, Nat.mul_add]
    omega
theorem len_rep1 {x y z : Str} {c : Nat} (hy : y = ⟨#[c]⟩) (_h1 : 1 ≤ z.length) (h6 : z.length ≤ 6) : (Txt.replace x y z).length ≤ 6 * x.length := by
  subst hy
  have e := replace_rep x ⟨#[c]⟩ z (Nat.le_refl _)
  have e' : (⟨#[c]⟩ : Str).cps.toList = [c] := rfl
  rw [e', rep_one] at e
  have l := congrArg List.length e
  have b := flat_len (one c z.cps.toList) 6 (fun d => by
    unfold one; split
    · simpa [Str.length] using h6
    · simp) x.cps.toList
  have q1 : (Txt.replace x ⟨#[c]⟩ z).cps.toList.length = (Txt.replace x ⟨#[c]⟩ z).length := by simp [Str.length]
  have q2 : x.cps.toList.length = x.length := by simp [Str.length]
  omega
theorem rep_len {p z : List Nat} (h : z.length ≤ p.length) : ∀ (n : Nat) (l : List Nat), l.length ≤ n → (rep p z 0 l).length ≤ l.length
  | _, [], _ => by simp [rep]
  | 0, _ :: _, hn => by simp at hn
  | n + 1, c :: r, hn => by
    by_cases hp : p.isPrefixOf (c :: r) = true
    · rw [rep, if_pos hp, rep_skip, List.length_append]
      have h1 : p.length ≤ (c :: r).length := (List.isPrefixOf_iff_prefix.mp hp).length_le
      have h2 := rep_len (p := p) (z := z) h n (r.drop (p.length - 1)) (by rw [List.length_drop]; simp at hn; omega)
      rw [List.length_drop] at h2
      simp only [List.length_cons] at h1 hn ⊢
      by_cases h0 : p.length = 0
      · omega
      · omega
    · rw [rep_miss (Bool.eq_false_iff.mpr hp)]
      have h2 := rep_len (p := p) (z := z) h n r (by simp at hn; omega)
      simp only [List.length_cons]
      omega
theorem len_repS {x y z : Str} (hy : 1 ≤ y.length) (h : z.length ≤ y.length) : (Txt.replace x y z).length ≤ x.length := by
  have e := replace_rep x y z hy
  have l := congrArg List.length e
  have b := rep_len (p := y.cps.toList) (z := z.cps.toList) (by simpa [Str.length] using h) x.cps.toList.length x.cps.toList (Nat.le_refl _)
  have q1 : (Txt.replace x y z).cps.toList.length = (Txt.replace x y z).length := by simp [Str.length]
  have q2 : x.cps.toList.length = x.length := by simp [Str.length]
  omega

theorem sz_rep {a b : Nat} (hb : a ≤ 2396744) (h6 : b ≤ 6) : a + (a + 1) * b ≤ 16777216 := by
  have : (a + 1) * b ≤ (a + 1) * 6 := Nat.mul_le_mul_left _ h6
  omega

theorem upd_same {m : Str → Option Value} {n : Str} {v : Value} (h : m n = some v) : (fun y => if y = n then some v else m y) = m := by
  funext y
  by_cases e : y = n
  · simp [e, h]
  · simp [e]

section
variable {prog : Program} {w : World} {A : Around} {E : Value → Shared → Prop} {s : Shared} {x y z : Str} {t u v : Tok}
  {name : Str} {scope : Scope} {L a : Addr} {cd : Value} {h₀ : Heap} {m : Str → Option Value} {news : List (Addr × Obj)}

theorem esc_if {Q : Flow → Shared → Prop} {k1 k2 k3 : Nat} {p1 p2 p3 p4 p5 p6 p7 p8 p9 p10 p11 : Pos}
    (F : Fr h₀ L s.heap m) (N : News h₀ L s.heap news) (hm : m (Str.ofString "text") = some (.str x t)) (hs : 1 ≤ s.toks) (hyz : (y == z) = false)
    {c : Nat} (hy : y = ⟨#[c]⟩) (h1 : 1 ≤ z.length) (h6 : z.length ≤ 6) (hb : x.length ≤ 2396744)
    (h : ∀ t' h' tk', Fr h₀ L h' (fun n => if n = Str.ofString "text" then some (.str (Txt.replace x y z) t') else m n) → News h₀ L h' news → s.toks ≤ tk' → (Txt.replace x y z).length ≤ 6 * x.length → Q .next { s with heap := h', toks := tk' })
    (hk : scope.kind = .function) (hl : (envOf name scope L a cd).kindOf (Str.ofString "text") = some .local) {pl : Sem Bool}
    (he : eval (.Call (.Attribute (.Name (Str.ofString "text") p5) (Str.ofString "replace") p6) [.Constant (.str y) k2 p7, .Constant (.str z) k3 p8] [] p9) (envOf name scope L a cd) = (do
      let ov ← eval (.Name (Str.ofString "text") p5) (envOf name scope L a cd)
      standAt p6.atName
      let (f, first) ← holding [ov] (getMethod ov (Str.ofString "replace") pl)
      callWith p9 f first (backTo p9 (starEach [.Constant (.str y) k2 p7, .Constant (.str z) k3 p8] (envOf name scope L a cd))) [])) :
    wpAny (model prog w) A (exec (.If (.Compare (.Constant (.str y) k1 p1) [.In] [.Name (Str.ofString "text") p2] p3)
      [.Assign [.Name (Str.ofString "text") p4] (.Call (.Attribute (.Name (Str.ofString "text") p5) (Str.ofString "replace") p6) [.Constant (.str y) k2 p7, .Constant (.str z) k3 p8] [] p9) p10] [] p11)
      (envOf name scope L a cd)) Q E s := by
  refine wpAny_If (wpAny_isTrue_Compare1 (wpAny_Constant_str (ld F hm ?_ hk hl (by decide)) ))
  refine P.in_str (wpAny_truthy_bool ?_)
  cases ho : (Builtin.Str.occurrences x y 0 x.length 1).isEmpty
  · simp only [Bool.not_false, if_true]
    refine wpAny_execs_cons (wpAny_Assign_Name (MethodCall_ (ld F hm (GM.replace ?_) hk hl (by decide)) he))
    refine callWith_method1 (spliced_more (wpAny_Constant_str (spliced_more (wpAny_Constant_str (spliced_none ?_)))))
    refine replT (by show s.toks + 1 ≠ 0; omega) (by show s.toks + 1 + 1 ≠ 0; omega) (by show s.toks + 1 ≠ s.toks + 1 + 1; omega) hyz (sz_rep hb h6) fun t' k hk' => ?_
    refine stN F N (fun h' F' N' => ?_) hk hl
    exact wpAny_execs_nil (h t' h' _ F' N' (by show s.toks ≤ k + 1; have : s.toks + 1 + 1 + 1 ≤ k := hk'; omega) (len_rep1 hy h1 h6))
  · simp only [Bool.not_true, Bool.false_eq_true, if_false]
    refine wpAny_execs_nil ?_
    refine h t s.heap _ ?_ N (Nat.le_succ _) (len_rep1 hy h1 h6)
    rw [replace_free ho, upd_same hm]
    exact F
end
end Mine
end
section
open PySem PySem.W PyProof.Rows
set_option maxRecDepth 100000
namespace Mine

theorem str_ne_len {y z : Str} (h : y.length ≠ z.length) : (y == z) = false := by
  cases e : y == z with
  | false => rfl
  | true => exact absurd (congrArg Str.length (eq_of_beq e)) h

section
variable {prog : Program} {w : World} {A : Around} {E : Value → Shared → Prop} {s : Shared} {x y z : Str} {t u v : Tok}
  {cn : Str} {cs : Scope} {L a : Addr} {ccd : Value} {cl : List (Str × Addr)} {h₀ : Heap} {m : Str → Option Value} {news : List (Addr × Obj)}

/-- what a reference is turned into -/
def mean (sg ot : Str) : Str := if ot == sg then sg else sg ++ ot

theorem dec_stmt {Q : Flow → Shared → Prop} {tl ot sg : Str} {t1 t2 ts : Tok} {k1 : Nat} {p1 p2 p3 p4 p5 p6 p7 p8 p9 p10 p11 p12 p13 p14 p15 p16 : Pos} {pl : Sem Bool}
    (F : Fr h₀ L s.heap m) (N : News h₀ L s.heap news) (hled : m (Str.ofString "led") = some (.str x t)) (htl : m (Str.ofString "tail") = some (.str tl t1))
    (hot : m (Str.ofString "other") = some (.str ot t2)) (hsg : m (Str.ofString "sign") = some (.str sg ts)) (hts0 : ts ≠ 0) (hts : ts ≤ s.toks)
    (lt1 : 2 ≤ tl.length) (lt2 : tl.length ≤ 6) (lo : ot.length = 1) (lsg : sg.length = 1) (hb : x.length ≤ 2396744)
    (h : ∀ t' h' tk', Fr h₀ L h' (fun n => if n = Str.ofString "led" then some (.str (Txt.replace x (Str.ofString "&" ++ tl) (mean sg ot)) t') else m n) → News h₀ L h' news → s.toks ≤ tk' →
      (Txt.replace x (Str.ofString "&" ++ tl) (mean sg ot)).length ≤ x.length → Q .next { s with heap := h', toks := tk' })
    (hk : cs.kind = .function) (h1 : (envX cn cs L a ccd cl).kindOf (Str.ofString "led") = some .local) (h2 : (envX cn cs L a ccd cl).kindOf (Str.ofString "tail") = some .local)
    (h3 : (envX cn cs L a ccd cl).kindOf (Str.ofString "other") = some .local) (h4 : (envX cn cs L a ccd cl).kindOf (Str.ofString "sign") = some .local)
    (he : eval (.Call (.Attribute (.Name (Str.ofString "led") p2) (Str.ofString "replace") p3) [.BinOp (.Constant (.str (Str.ofString "&")) k1 p4) .Add (.Name (Str.ofString "tail") p5) p6,
        .IfExp (.Compare (.Name (Str.ofString "other") p7) [.Eq] [.Name (Str.ofString "sign") p8] p9) (.Name (Str.ofString "sign") p10) (.BinOp (.Name (Str.ofString "sign") p11) .Add (.Name (Str.ofString "other") p12) p13) p14] [] p15) (envX cn cs L a ccd cl) = (do
      let ov ← eval (.Name (Str.ofString "led") p2) (envX cn cs L a ccd cl)
      standAt p3.atName
      let (f, first) ← holding [ov] (getMethod ov (Str.ofString "replace") pl)
      callWith p15 f first (backTo p15 (starEach [.BinOp (.Constant (.str (Str.ofString "&")) k1 p4) .Add (.Name (Str.ofString "tail") p5) p6,
        .IfExp (.Compare (.Name (Str.ofString "other") p7) [.Eq] [.Name (Str.ofString "sign") p8] p9) (.Name (Str.ofString "sign") p10) (.BinOp (.Name (Str.ofString "sign") p11) .Add (.Name (Str.ofString "other") p12) p13) p14] (envX cn cs L a ccd cl))) [])) :
    wpAny (model prog w) A (exec (.Assign [.Name (Str.ofString "led") p1] (.Call (.Attribute (.Name (Str.ofString "led") p2) (Str.ofString "replace") p3) [.BinOp (.Constant (.str (Str.ofString "&")) k1 p4) .Add (.Name (Str.ofString "tail") p5) p6,
        .IfExp (.Compare (.Name (Str.ofString "other") p7) [.Eq] [.Name (Str.ofString "sign") p8] p9) (.Name (Str.ofString "sign") p10) (.BinOp (.Name (Str.ofString "sign") p11) .Add (.Name (Str.ofString "other") p12) p13) p14] [] p15) p16) (envX cn cs L a ccd cl)) Q E s := by
  have ha : (Str.ofString "&").length = 1 := by decide +kernel
  have hy : (Str.ofString "&" ++ tl).length = 1 + tl.length := by rw [Str.length_append, ha]
  have hsz : sizeLine = 16777216 := sizeLine_eq
  refine wpAny_Assign_Name (MethodCall_ (nameX_L F hled (GM.replace ?_) hk h1 (by decide)) he)
  refine callWith_method1 (spliced_more (wpAny_BinOp (wpAny_Constant_str (nameX_L F htl ?_ hk h2 (by decide)))))
  refine addT (by rw [ha]; rfl) (by cases e : tl.length == 0 with | false => rfl | true => rw [beq_iff_eq] at e; omega) (by rw [ha]; omega) ?_
  refine spliced_more (wpAny_IfExp (wpAny_isTrue_Compare1 (nameX_L F hot (nameX_L F hsg (PyProof.Rows.eq_str (wpAny_truthy_bool ?_)) hk h4 (by decide)) hk h3 (by decide))))
  have hz : (mean sg ot).length ≤ 2 := by unfold mean; split <;> (try rw [Str.length_append]) <;> omega
  have fin : ∀ (k₀ : Nat) (v' : Tok), s.toks ≤ k₀ → v' ≠ 0 → s.toks + 1 ≠ v' → wpAny (model prog w) A (call (.builtin "str.replace") ([.str x t] ++ [.str (Str.ofString "&" ++ tl) (s.toks + 1), .str (mean sg ot) v']))
      (fun v s₁ => wpAny (model prog w) A (storeName (envX cn cs L a ccd cl) (Str.ofString "led") v) (fun _ => Q .next) E s₁) E { s with toks := k₀ } := fun k₀ v' hk0 hv0 huv => by
    refine replT (s := { s with toks := k₀ }) (Nat.succ_ne_zero _) hv0 huv (str_ne_len (by omega)) (sz_rep hb (by omega)) fun t' k hk' => ?_
    refine storeX_L F N (fun h' F' N' => ?_) hk h1
    exact h t' h' _ F' N' (by show s.toks ≤ k + 1; have : k₀ ≤ k := hk'; omega) (len_repS (by omega) (by omega))
  cases e : ot == sg
  · simp only [Bool.false_eq_true, if_false]
    refine wpAny_BinOp (nameX_L F hsg (nameX_L F hot ?_ hk h3 (by decide)) hk h4 (by decide))
    refine addT (by rw [lsg]; rfl) (by rw [lo]; rfl) (by omega) ?_
    refine spliced_none ?_
    have em : sg ++ ot = mean sg ot := by unfold mean; rw [e]; rfl
    rw [em]
    exact fin _ _ (by show s.toks ≤ s.toks + 1 + 1 + 1; omega) (Nat.succ_ne_zero _) (by show s.toks + 1 ≠ s.toks + 1 + 1; omega)
  · simp only [if_true]
    refine nameX_L F hsg ?_ hk h4 (by decide)
    refine spliced_none ?_
    have em : sg = mean sg ot := by unfold mean; rw [e]; rfl
    have f := fin (s.toks + 1 + 1) ts (by omega) hts0 (Nat.ne_of_gt (Nat.lt_succ_of_le hts))
    rw [← em] at f
    exact f
end
end Mine
end
section
open PySem PySem.W PyProof.Rows
set_option maxRecDepth 100000
namespace Mine

section
variable {prog : Program} {w : World} {A : Around} {E : Value → Shared → Prop} {s : Shared} {env : Env} {h₀ : Heap} {m : Str → Option Value} {news : List (Addr × Obj)} {target : Expr} {body : List Stmt} {I ax : Addr} {items : Array Value}

/-- a turn's end: nothing but the frame is changed -/
def TEnd (h₀ : Heap) (L : Addr) (s : Shared) (news : List (Addr × Obj)) (J : (Str → Option Value) → Prop) (f : Flow) (s₃ : Shared) : Prop :=
  f = .next ∧ ∃ h' tk m', s₃ = { s with heap := h', toks := tk } ∧ Fr h₀ L h' m' ∧ News h₀ L h' news ∧ J m'
theorem TEnd.intro {L : Addr} {J : (Str → Option Value) → Prop} {h' : Heap} {tk : Nat} {m' : Str → Option Value} (F : Fr h₀ L h' m') (N : News h₀ L h' news) (hJ : J m') : TEnd h₀ L s news J .next { s with heap := h', toks := tk } :=
  ⟨rfl, h', tk, m', rfl, F, N, hJ⟩

/-- a for over a list's iterator, by what holds of the frame ahead of turn i; the tokens only grow -/
theorem loopT {R : Result → Shared → Prop} (hh : A.handled = none) (hne : ax ≠ I) (hLI : env.locals ≠ I) (hI0 : h₀.get? I = none) (hnI : ∀ p ∈ news, p.1 ≠ I) (src : LCg.SrcAt h₀ ax items news)
    (hst : s.heap.IsListIter I ax 0) (F : Fr h₀ env.locals s.heap m) (N : News h₀ env.locals s.heap news) (J : Nat → (Str → Option Value) → Prop) (h0 : J 0 m)
    (step : ∀ i v m₁ h₁ tk₁ oI, items[i]? = some v → J i m₁ → s.toks ≤ tk₁ → Fr h₀ env.locals h₁ m₁ → News h₀ env.locals h₁ ((I, oI) :: news) →
      wpAny (model prog w) A (assign target env v) (fun _ s₂ => wpAny (model prog w) A (execs body env) (TEnd h₀ env.locals s ((I, oI) :: news) (J (i + 1))) (fun _ _ => False) s₂) (fun _ _ => False) { s with heap := h₁, toks := tk₁ })
    (hR : ∀ h' tk m', s.toks ≤ tk → Fr h₀ env.locals h' m' → News h₀ env.locals h' news → J items.size m' → R (.ok .next) { s with heap := h', toks := tk }) :
    codeAny (model prog w) A (.forLoop target (.ref I) body [] env) R s := by
  have W := Walks.list (prog := prog) (w := w) hh I ax hne items
  refine codeAny_forLoop_any (fun k s' => ∃ i h' tk m', s' = { s with heap := h', toks := tk } ∧ s.toks ≤ tk ∧ h'.IsListIter I ax i ∧ Fr h₀ env.locals h' m' ∧ News h₀ env.locals h' news ∧ J i m' ∧ i ≤ items.size ∧ k = items.size + 1 - i) ?_ (items.size + 1)
    ⟨0, s.heap, s.toks, m, rfl, Nat.le_refl _, hst, F, N, h0, Nat.zero_le _, rfl⟩
  rintro k s' ⟨i, h', tk, m', rfl, htk, hit, F', N', hJ, hi, rfl⟩
  have keepF : ∀ h₁ : Heap, (∀ b o, b ∉ [I] → h'.get? b = some o → h₁.get? b = some o) → Fr h₀ env.locals h₁ m' ∧ News h₀ env.locals h₁ news := fun h₁ hk =>
    ⟨LCg.fr_but F' hk hLI hI0, LCg.news_but N' hk hnI⟩
  by_cases hlt : i < items.size
  · refine wpAny_with_toks (n := s.toks) htk (W.item i _ _ _ hlt ⟨hit, src.list F'.keep N'⟩ fun v h₁ tk₁ hP hst₁ hk₁ htk₁ => ?_)
    obtain ⟨F₁, N₁⟩ := keepF h₁ hk₁
    refine letGo_listiter hst₁.1 ?_
    obtain ⟨oI, hoI, hoc, hod⟩ := hst₁.1
    have NI : News h₀ env.locals h₁ ((I, oI) :: news) := fun p hp => by
      rcases List.mem_cons.mp hp with rfl | hp
      · exact ⟨hoI, Ne.symm hLI, hI0⟩
      · exact N₁ p hp
    refine wpAny_mono (wpAny_toks_of (n := s.toks) htk₁ (step i v m' h₁ tk₁ oI hP hJ htk₁ F₁ NI)) (fun _ s₂ h₂ => ?_) fun _ _ e => e.2.elim
    refine wpAny_mono (wpAny_toks_of (n := s.toks) h₂.1 h₂.2) (fun f s₃ h₃ => ?_) fun _ _ e => e.2.elim
    obtain ⟨htk₃, rfl, h₄, tk₄, m₄, rfl, F₄, N₄, hJ₄⟩ := h₃
    exact ⟨items.size + 1 - (i + 1), by omega, i + 1, h₄, tk₄, m₄, rfl, htk₃, ⟨oI, (N₄ _ (List.mem_cons_self ..)).1, hoc, hod⟩, F₄, fun p hp => N₄ p (List.mem_cons_of_mem _ hp), hJ₄, hlt, rfl⟩
  · have hin : i = items.size := by omega
    subst hin
    refine wpAny_with_toks (n := s.toks) htk (W.done _ _ _ ⟨hit, src.list F'.keep N'⟩ fun h₁ tk₁ hk₁ htk₁ => wpAny_execs_nil ?_)
    obtain ⟨F₁, N₁⟩ := keepF h₁ hk₁
    exact hR h₁ tk₁ m' htk₁ F₁ N₁ hJ

/-- the same from the list itself -/
theorem iterT {Q : Flow → Shared → Prop} (hh : A.handled = none) (src : LCg.SrcAt h₀ ax items news) (F : Fr h₀ env.locals s.heap m) (N : News h₀ env.locals s.heap news) (J : Nat → (Str → Option Value) → Prop) (h0 : J 0 m)
    (step : ∀ I, (∀ p ∈ news, p.1 < I) → ∀ i v m₁ h₁ tk₁ oI, items[i]? = some v → J i m₁ → s.toks ≤ tk₁ → Fr h₀ env.locals h₁ m₁ → News h₀ env.locals h₁ ((I, oI) :: news) →
      wpAny (model prog w) A (assign target env v) (fun _ s₂ => wpAny (model prog w) A (execs body env) (TEnd h₀ env.locals s ((I, oI) :: news) (J (i + 1))) (fun _ _ => False) s₂) (fun _ _ => False) { s with heap := h₁, toks := tk₁ })
    (hR : ∀ h' tk m', s.toks ≤ tk → Fr h₀ env.locals h' m' → News h₀ env.locals h' news → J items.size m' → Q .next { s with heap := h', toks := tk }) :
    wpAny (model prog w) A (pyIter (.ref ax)) (fun it s₂ => codeAny (model prog w) A (.forLoop target it body [] env) (fun r s' => match r with | .ok f => Q f s' | .error e => cameBackBy (model prog w) A env E e s') s₂) E s := by
  have hl := src.list F.keep N
  have hlt : ax < s.heap.objs.size := by obtain ⟨_, e, _⟩ := hl; exact Heap.lt_size e
  refine wpAny_pyIter_list hl ?_
  refine loopT (s := { s with heap := s.heap.push { cls := .type "list_iterator", data := .fields #[.ref ax, .int 0 0] } }) hh (Nat.ne_of_lt hlt) (Nat.ne_of_lt F.ns.lt) (next_is_new F) (fun p hp => Nat.ne_of_lt (Heap.lt_size (N p hp).1)) src ⟨_, Heap.get?_push_size _ rfl, rfl, rfl⟩
    (F.push _) (fun p hp => ⟨Heap.get?_push_of_some _ (N p hp).1, (N p hp).2⟩) J h0 (step _ fun p hp => Heap.lt_size (N p hp).1) hR
end
end Mine
end
section
open PySem PySem.W PyProof.Rows
set_option maxRecDepth 100000
namespace Mine

/-- the items are pairs of texts -/
def TupsAre (news : List (Addr × Obj)) (items : Array Value) (ps : List (Str × Str)) : Prop :=
  items.size = ps.length ∧ ∀ (i : Nat) (v : Value), items[i]? = some v → ∃ (p : Str × Str) (T : Addr) (o : Obj) (n : Nat) (t1 t2 : Tok), ps[i]? = some p ∧ v = .ref T ∧ (T, o) ∈ news ∧ o.cls = .type "tuple" ∧ o.data = .seq #[.str p.1 t1, .str p.2 t2] n
def decF (x : Str) (sg : Str) (ps : List (Str × Str)) : Str := ps.foldl (fun x p => Txt.replace x (Str.ofString "&" ++ p.2) (mean sg p.1)) x

section
variable {prog : Program} {w : World} {A : Around} {E : Value → Shared → Prop} {s : Shared}
  {cn : Str} {cs : Scope} {L a : Addr} {ccd : Value} {cl : List (Str × Addr)} {h₀ : Heap} {m : Str → Option Value} {news : List (Addr × Obj)}

theorem unpack2 {Q : Unit → Shared → Prop} {x y : Str} {p1 p2 p3 : Pos} {k : Nat} {T : Addr} {o : Obj} {n : Nat} {v1 v2 : Value} (F : Fr h₀ L s.heap m) (N : News h₀ L s.heap news)
    (hT : (T, o) ∈ news) (hc : o.cls = .type "tuple") (hd : o.data = .seq #[v1, v2] n) (hh : A.handled = none)
    (hk : cs.kind = .function) (hx : (envX cn cs L a ccd cl).kindOf x = some .local) (hy : (envX cn cs L a ccd cl).kindOf y = some .local)
    (h : ∀ h' tk', Fr h₀ L h' (fun z => if z = y then some v2 else if z = x then some v1 else m z) → News h₀ L h' news → s.toks ≤ tk' → Q () { s with heap := h', toks := tk' }) :
    wpAny (model prog w) A (assign (.Tuple [.Name x p1, .Name y p2] k p3) (envX cn cs L a ccd cl) (.ref T)) Q E s := by
  refine unpackN_ (env := envX cn cs L a ccd cl) F N ⟨o, (N _ hT).1, hc, n, hd⟩ hh rfl rfl fun h' F' N' => ?_
  refine assignInOrder_cons (wpAny_assign_Name (storeX_L F' N' (fun h₁ F₁ N₁ => ?_) hk hx))
  refine assignInOrder_cons (wpAny_assign_Name (storeX_L F₁ N₁ (fun h₂ F₂ N₂ => ?_) hk hy))
  refine assignInOrder_nil ?_
  exact h h₂ _ F₂ N₂ (by show s.toks ≤ s.toks + 1 + 1; omega)

theorem decF_snoc {x sg : Str} {ps : List (Str × Str)} {i : Nat} {p : Str × Str} (h : ps[i]? = some p) : decF x sg (ps.take (i + 1)) = Txt.replace (decF x sg (ps.take i)) (Str.ofString "&" ++ p.2) (mean sg p.1) := by
  rw [List.take_add_one, h]
  unfold decF
  rw [List.foldl_append]
  rfl

theorem led_iter {Q : Flow → Shared → Prop} {ax : Addr} {items : Array Value} {ps : List (Str × Str)} {x sg : Str} {t ts : Tok} {k0 k1 : Nat} {q1 q2 q3 p1 p2 p3 p4 p5 p6 p7 p8 p9 p10 p11 p12 p13 p14 p15 p16 : Pos} {pl : Sem Bool}
    (hh : A.handled = none) (src : LCg.SrcAt h₀ ax items news) (F : Fr h₀ L s.heap m) (N : News h₀ L s.heap news) (hT : TupsAre news items ps) (hps : ∀ p ∈ ps, p.1.length = 1 ∧ 2 ≤ p.2.length ∧ p.2.length ≤ 6)
    (hled : m (Str.ofString "led") = some (.str x t)) (hsg : m (Str.ofString "sign") = some (.str sg ts)) (hts0 : ts ≠ 0) (hts : ts ≤ s.toks) (lsg : sg.length = 1) (hb : x.length ≤ 2396744)
    (h : ∀ (m' : Str → Option Value) t' h' tk', Fr h₀ L h' (fun n => if n = Str.ofString "led" then some (.str (decF x sg ps) t') else if n = Str.ofString "sign" then some (.str sg ts) else m' n) → News h₀ L h' news → s.toks ≤ tk' →
      (decF x sg ps).length ≤ x.length → Q .next { s with heap := h', toks := tk' })
    (hk : cs.kind = .function) (h1 : (envX cn cs L a ccd cl).kindOf (Str.ofString "led") = some .local) (h2 : (envX cn cs L a ccd cl).kindOf (Str.ofString "tail") = some .local)
    (h3 : (envX cn cs L a ccd cl).kindOf (Str.ofString "other") = some .local) (h4 : (envX cn cs L a ccd cl).kindOf (Str.ofString "sign") = some .local)
    (he : eval (.Call (.Attribute (.Name (Str.ofString "led") p2) (Str.ofString "replace") p3) [.BinOp (.Constant (.str (Str.ofString "&")) k1 p4) .Add (.Name (Str.ofString "tail") p5) p6,
        .IfExp (.Compare (.Name (Str.ofString "other") p7) [.Eq] [.Name (Str.ofString "sign") p8] p9) (.Name (Str.ofString "sign") p10) (.BinOp (.Name (Str.ofString "sign") p11) .Add (.Name (Str.ofString "other") p12) p13) p14] [] p15) (envX cn cs L a ccd cl) = (do
      let ov ← eval (.Name (Str.ofString "led") p2) (envX cn cs L a ccd cl)
      standAt p3.atName
      let (f, first) ← holding [ov] (getMethod ov (Str.ofString "replace") pl)
      callWith p15 f first (backTo p15 (starEach [.BinOp (.Constant (.str (Str.ofString "&")) k1 p4) .Add (.Name (Str.ofString "tail") p5) p6,
        .IfExp (.Compare (.Name (Str.ofString "other") p7) [.Eq] [.Name (Str.ofString "sign") p8] p9) (.Name (Str.ofString "sign") p10) (.BinOp (.Name (Str.ofString "sign") p11) .Add (.Name (Str.ofString "other") p12) p13) p14] (envX cn cs L a ccd cl))) [])) :
    wpAny (model prog w) A (pyIter (.ref ax)) (fun it s₂ => codeAny (model prog w) A (.forLoop (.Tuple [.Name (Str.ofString "other") q1, .Name (Str.ofString "tail") q2] k0 q3) it
      [.Assign [.Name (Str.ofString "led") p1] (.Call (.Attribute (.Name (Str.ofString "led") p2) (Str.ofString "replace") p3) [.BinOp (.Constant (.str (Str.ofString "&")) k1 p4) .Add (.Name (Str.ofString "tail") p5) p6,
        .IfExp (.Compare (.Name (Str.ofString "other") p7) [.Eq] [.Name (Str.ofString "sign") p8] p9) (.Name (Str.ofString "sign") p10) (.BinOp (.Name (Str.ofString "sign") p11) .Add (.Name (Str.ofString "other") p12) p13) p14] [] p15) p16] [] (envX cn cs L a ccd cl))
      (fun r s' => match r with | .ok f => Q f s' | .error e => cameBackBy (model prog w) A (envX cn cs L a ccd cl) E e s') s₂) E s := by
  have n1 : Str.ofString "led" ≠ Str.ofString "tail" := by decide +kernel
  have n2 : Str.ofString "led" ≠ Str.ofString "other" := by decide +kernel
  have n3 : Str.ofString "sign" ≠ Str.ofString "tail" := by decide +kernel
  have n4 : Str.ofString "sign" ≠ Str.ofString "other" := by decide +kernel
  have n5 : Str.ofString "other" ≠ Str.ofString "tail" := by decide +kernel
  have n6 : Str.ofString "sign" ≠ Str.ofString "led" := by decide +kernel
  refine iterT (env := envX cn cs L a ccd cl) hh src F N
    (fun i m' => (∃ t', m' (Str.ofString "led") = some (.str (decF x sg (ps.take i)) t')) ∧ m' (Str.ofString "sign") = some (.str sg ts) ∧ (decF x sg (ps.take i)).length ≤ x.length)
    ⟨⟨t, by simpa [decF] using hled⟩, hsg, by simp [decF]⟩ ?_ ?_
  · rintro I hI i v m₁ h₁ tk₁ oI hv ⟨⟨t', hl'⟩, hs', hlen⟩ htk F₁ N₁
    obtain ⟨p, T, o, n, t1, t2, hp, rfl, hTm, hoc, hod⟩ := hT.2 i v hv
    obtain ⟨lp1, lp2, lp3⟩ := hps p (List.mem_of_getElem? hp)
    refine unpack2 (s := { s with heap := h₁, toks := tk₁ }) F₁ N₁ (List.mem_cons_of_mem _ hTm) hoc hod hh hk h3 h2 fun h' tk' F' N' htk' => ?_
    refine wpAny_execs_cons ?_
    have htk'' : s.toks ≤ tk' := Nat.le_trans htk htk'
    refine dec_stmt (s := { s with heap := h', toks := tk' }) (x := decF x sg (ps.take i)) (tl := p.2) (ot := p.1) (sg := sg) (ts := ts) F' N' (by rw [if_neg n1, if_neg n2]; exact hl') (if_pos rfl) (by rw [if_neg n5, if_pos rfl]) (by rw [if_neg n3, if_neg n4]; exact hs') hts0 (Nat.le_trans hts htk'') lp2 lp3 lp1 lsg (by omega)
      (fun t3 h3' tk3 F3 N3 htk3 hlen3 => ?_) hk h1 h2 h3 h4 he
    refine wpAny_execs_nil (TEnd.intro F3 N3 ⟨⟨t3, ?_⟩, ?_, ?_⟩)
    · simp [decF_snoc hp]
    · show (if Str.ofString "sign" = Str.ofString "led" then _ else _) = _
      rw [if_neg n6, if_neg n3, if_neg n4]; exact hs'
    · rw [decF_snoc hp]; omega
  · rintro h' tk m' htk F' N' ⟨⟨t', hl'⟩, hs', hlen⟩
    have ht : ps.take items.size = ps := by rw [hT.1]; exact List.take_length
    rw [ht] at hl' hlen
    refine h m' t' h' tk ?_ N' htk hlen
    have e : (fun n => if n = Str.ofString "led" then some (Value.str (decF x sg ps) t') else if n = Str.ofString "sign" then some (.str sg ts) else m' n) = m' := by
      funext n
      by_cases a1 : n = Str.ofString "led"
      · rw [if_pos a1, a1, hl']
      · rw [if_neg a1]
        by_cases a2 : n = Str.ofString "sign"
        · rw [if_pos a2, a2, hs']
        · rw [if_neg a2]
    rw [e]; exact F'
end
end Mine
end
section
open PySem PySem.W PyProof.Rows
set_option maxRecDepth 100000
namespace Mine
theorem allLt_at {d : Nat} {l : List (Addr × Obj)} (h : AllLt d l) : ∀ q ∈ l, q.1 < d := by
  induction l with
  | nil => intro q hq; cases hq
  | cons p r ih =>
    intro q hq
    rcases List.mem_cons.mp hq with e | hq
    · rw [e]; exact h.1
    · exact ih h.2 q hq
theorem is_str_ref {M : Model} {A : Around} {E : Value → Shared → Prop} {s : Shared} {x : Str} {t : Tok} {a : Addr} {Q : Value → Shared → Prop} (h : Q (.bool false) s) : wpAny M A (compareOp .Is (.str x t) (.ref a)) Q E s := by
  show wpAny M A (do return .bool (← isSame (.str x t) (.ref a))) Q E s
  refine wpAny_bind ?_
  show wpAny M A (pure (Value.str x t == Value.ref a)) _ _ _
  exact wpAny_pure (wpAny_pure h)
section
variable {prog : Program} {w : World} {A : Around} {E : Value → Shared → Prop} {s : Shared} {h₀ : Heap} {L ax : Addr} {m : Str → Option Value} {news : List (Addr × Obj)} {items : Array Value} {n : Nat}
theorem iter_listN {Q : Value → Shared → Prop} (F : Fr h₀ L s.heap m) (N : News h₀ L s.heap news) (hm : (ax, listOf items n) ∈ news)
    (h : ∀ (I : Addr) (h' : Heap), Fr h₀ L h' m → News h₀ L h' ((I, { cls := .type "list_iterator", data := .fields #[.ref ax, .int 0 0] }) :: news) → (∀ p ∈ news, p.1 < I) → Q (.ref I) { s with heap := h' }) :
    wpAny (model prog w) A (call (.builtin "iter") [.ref ax]) Q E s := by
  refine Calls.call_function_entry (by decide +kernel) (by decide +kernel) kdk_entry_iter (kdk_args_iter _) ?_
  unfold Builtin.«iter»
  refine wpAny_bind (m := someArgs "iter" 1 2 _) (wpAny_of_eq (a := [Value.ref ax]) (by first | rfl | kernel_rfl!) ?_)
  show wpAny _ _ (pyIter (.ref ax) >>= _) _ _ _
  refine wpAny_bind (wpAny_pyIter_list (News.isList N hm) ?_)
  exact wpAny_pure ⟨_, rfl, h _ _ (F.push _) (News.push F N _ rfl) (fun q hq => Heap.lt_size (N q hq).1)⟩

/-- a for over a list's iterator that is at hand -/
theorem selfT {Q : Flow → Shared → Prop} {env : Env} {target : Expr} {body : List Stmt} {I : Addr} (hh : A.handled = none) (hne : ax ≠ I) (hLI : env.locals ≠ I) (hI0 : h₀.get? I = none) (hnI : ∀ p ∈ news, p.1 ≠ I) (src : LCg.SrcAt h₀ ax items news)
    (hst : s.heap.IsListIter I ax 0) (F : Fr h₀ env.locals s.heap m) (N : News h₀ env.locals s.heap news) (J : Nat → (Str → Option Value) → Prop) (h0 : J 0 m)
    (step : ∀ i v m₁ h₁ tk₁ oI, items[i]? = some v → J i m₁ → s.toks ≤ tk₁ → Fr h₀ env.locals h₁ m₁ → News h₀ env.locals h₁ ((I, oI) :: news) →
      wpAny (model prog w) A (assign target env v) (fun _ s₂ => wpAny (model prog w) A (execs body env) (TEnd h₀ env.locals s ((I, oI) :: news) (J (i + 1))) (fun _ _ => False) s₂) (fun _ _ => False) { s with heap := h₁, toks := tk₁ })
    (hR : ∀ h' tk m', s.toks ≤ tk → Fr h₀ env.locals h' m' → News h₀ env.locals h' news → J items.size m' → Q .next { s with heap := h', toks := tk }) :
    wpAny (model prog w) A (pyIter (.ref I)) (fun it s₂ => codeAny (model prog w) A (.forLoop target it body [] env) (fun r s' => match r with | .ok f => Q f s' | .error e => cameBackBy (model prog w) A env E e s') s₂) E s :=
  wpAny_pyIter_listiter hst (loopT hh hne hLI hI0 hnI src hst F N J h0 step hR)
end

theorem named2 {h₀ h : Heap} {L : Addr} {m : Str → Option Value} {x y : Str} {v u : Value} (hx : m x = some v) (hy : m y = some u) (F : Fr h₀ L h m) :
    Fr h₀ L h (fun n => if n = x then some v else if n = y then some u else m n) := by
  have e : (fun n => if n = x then some v else if n = y then some u else m n) = m := by
    funext n
    by_cases a1 : n = x
    · rw [if_pos a1, a1, hx]
    · rw [if_neg a1]
      by_cases a2 : n = y
      · rw [if_pos a2, a2, hy]
      · rw [if_neg a2]
  rw [e]; exact F
end Mine
end
section
open PySem PySem.W PyProof.Rows
set_option maxRecDepth 100000
namespace Mine
theorem named1 {h₀ h : Heap} {L : Addr} {m : Str → Option Value} {x : Str} {v : Value} (hx : m x = some v) (F : Fr h₀ L h m) :
    Fr h₀ L h (fun n => if n = x then some v else m n) := by rw [upd_same hx]; exact F

theorem least_le : ∀ l : List Nat, least l ≤ l.length
  | [] => Nat.le_refl _
  | c :: r => by
    have := least_le r
    unfold least
    split
    · omega
    · simp only [List.length_cons]; omega
theorem least_drop {l : List Nat} {k : Nat} (h : pal (l.drop k) = false) : k < l.length ∧ least (l.drop k) = least (l.drop (k + 1)) + 1 := by
  have hk : k < l.length := by
    rcases Nat.lt_or_ge k l.length with h1 | h1
    · exact h1
    · rw [List.drop_of_length_le h1] at h; exact absurd h (by decide)
  refine ⟨hk, ?_⟩
  rw [List.drop_eq_getElem_cons hk] at h ⊢
  rw [least, h]; simp
theorem least_pal {l : List Nat} (h : pal l = true) : least l = 0 := by
  cases l with
  | nil => rfl
  | cons c r => rw [least, if_pos h]

section
variable {prog : Program} {w : World} {A : Around} {E : Value → Shared → Prop} {s : Shared} {env : Env} {h₀ : Heap} {L : Addr} {m : Str → Option Value} {news : List (Addr × Obj)} {test : Expr} {body : List Stmt} {pos : Pos}
/-- what a test leaves: the frame as it was, and the answer -/
def TestEnd (h₀ : Heap) (L : Addr) (s : Shared) (news : List (Addr × Obj)) (m : Str → Option Value) (b' : Bool) (b : Bool) (s₂ : Shared) : Prop :=
  b = b' ∧ ∃ h' tk, s₂ = { s with heap := h', toks := tk } ∧ Fr h₀ L h' m ∧ News h₀ L h' news
theorem TestEnd.intro {b b' : Bool} {h' : Heap} {tk : Nat} (e : b = b') (F : Fr h₀ L h' m) (N : News h₀ L h' news) : TestEnd h₀ L s news m b' b { s with heap := h', toks := tk } := ⟨e, h', tk, rfl, F, N⟩

theorem while_pal {Q : Flow → Shared → Prop} {X : Str} {t t0 : Tok} (F : Fr h₀ L s.heap m) (N : News h₀ L s.heap news) (_hlong : m (Str.ofString "longer") = some (.str X t)) (hk : m (Str.ofString "k") = some (.int 0 t0))
    (turn : ∀ (kk : Nat) (t' : Tok) (h₁ : Heap) (tk₁ : Nat), kk ≤ X.length → Fr h₀ L h₁ (fun y => if y = Str.ofString "k" then some (.int kk t') else m y) → News h₀ L h₁ news →
      wpAny (model prog w) A (isTrue test env (eval test env)) (TestEnd h₀ L s news (fun y => if y = Str.ofString "k" then some (.int kk t') else m y) (!pal (X.cps.toList.drop kk))) (fun _ _ => False) { s with heap := h₁, toks := tk₁ })
    (hbody : ∀ (kk : Nat) (t' : Tok) (h₁ : Heap) (tk₁ : Nat), kk ≤ X.length → Fr h₀ L h₁ (fun y => if y = Str.ofString "k" then some (.int kk t') else m y) → News h₀ L h₁ news →
      wpAny (model prog w) A (execs body env) (TEnd h₀ L s news (fun m' => ∃ t₂, m' = fun y => if y = Str.ofString "k" then some (.int ((kk + 1 : Nat) : Int) t₂) else m y)) (fun _ _ => False) { s with heap := h₁, toks := tk₁ })
    (h : ∀ (t' : Tok) (h' : Heap) (tk' : Nat), least X.cps.toList ≤ X.length → Fr h₀ L h' (fun y => if y = Str.ofString "k" then some (.int ((least X.cps.toList : Nat) : Int) t') else m y) → News h₀ L h' news → Q .next { s with heap := h', toks := tk' }) :
    wpAny (model prog w) A (exec (.While test body [] pos) env) Q E s := by
  have hX : X.cps.toList.length = X.length := by simp [Str.length]
  refine wpAny_While (codeAny_whileLoop (fun n s' => ∃ (h₁ : Heap) (tk₁ kk : Nat) (t' : Tok), s' = { s with heap := h₁, toks := tk₁ } ∧ Fr h₀ L h₁ (fun y => if y = Str.ofString "k" then some (.int kk t') else m y) ∧ News h₀ L h₁ news ∧ kk ≤ X.length ∧ n = least (X.cps.toList.drop kk) ∧ kk + n = least X.cps.toList) ?_ (least X.cps.toList)
    ⟨s.heap, s.toks, 0, t0, rfl, named1 (by simpa using hk) F, N, Nat.zero_le _, by simp, by simp⟩)
  rintro n s' ⟨h₁, tk₁, kk, t', rfl, F₁, N₁, hkk, hn, hs⟩
  refine wpAny_mono (turn kk t' h₁ tk₁ hkk F₁ N₁) (fun b s₂ h₂ => ?_) fun _ _ e => e.elim
  obtain ⟨rfl, h₂, tk₂, rfl, F₂, N₂⟩ := h₂
  cases hp : pal (X.cps.toList.drop kk) with
  | true =>
    simp only [Bool.not_true, Bool.false_eq_true, if_false]
    have e0 := least_pal hp
    refine wpAny_execs_nil ?_
    refine h t' h₂ tk₂ (hX ▸ least_le _) ?_ N₂
    have ek : least X.cps.toList = kk := by omega
    rw [ek]; exact F₂
  | false =>
    simp only [Bool.not_false, if_true]
    obtain ⟨h1, h2⟩ := least_drop hp
    refine wpAny_mono (hbody kk t' h₂ tk₂ hkk F₂ N₂) (fun f s₃ h₃ => ?_) fun _ _ e => e.elim
    obtain ⟨rfl, h₄, tk₄, m₄, rfl, F₄, N₄, t₂, rfl⟩ := h₃
    exact ⟨least (X.cps.toList.drop (kk + 1)), by omega, h₄, tk₄, kk + 1, t₂, rfl, F₄, N₄, by omega, rfl, by omega⟩
end
theorem slice_from (l : List Nat) (k : Nat) (h : k ≤ l.length) : Txt.slice (ofL l) (some (k : Int)) none = ofL (l.drop k) := by
  have hl : (ofL l).length = l.length := by simp [Str.length]
  rw [slice_from_eq (x := ofL l) (b := ((ofL l).length : Int)) (by omega) (by rw [hl]; omega) rfl]
  congr 1
  have e : ((ofL l).length - (k : Int)).toNat = l.length - k := by rw [hl]; omega
  simp only [Int.toNat_natCast, e]
  rw [List.take_of_length_le (by simp)]
theorem slice_upto (l : List Nat) (k : Nat) (h : k ≤ l.length) : Txt.slice (ofL l) none (some (k : Int)) = ofL (l.take k) := by
  have hl : (ofL l).length = l.length := by simp [Str.length]
  rw [beq_iff_eq.mp (slice_closes_toL (x := ofL l) (j := (k : Int)) (by omega) (by rw [hl]; omega))]
  simp
theorem slice_mid (l : List Nat) (i j : Nat) (h : i ≤ j) (h2 : j ≤ l.length) : Txt.slice (ofL l) (some (i : Int)) (some (j : Int)) = ofL ((l.drop i).take (j - i)) := by
  have hl : (ofL l).length = l.length := by simp [Str.length]
  rw [beq_iff_eq.mp (slice_closesL (x := ofL l) (i := (i : Int)) (j := (j : Int)) (by omega) (by omega) (by rw [hl]; omega))]
  congr 1
  have e : ((j : Int) - (i : Int)).toNat = j - i := by omega
  simp [e]
theorem slice_rev (l : List Nat) (u : Tok) : Txt.sliceBy (ofL l) none none (-1, u) = ofL l.reverse := by
  have hl : (ofL l).length = l.length := by simp [Str.length]
  apply Str.ext'
  have e := step_rev_list (ofL l) u
  rw [hl] at e
  have e2 : (List.range l.length).map (fun k => (ofL l).cps.getD (l.length - 1 - k) 0) = l.reverse := by
    apply List.ext_getElem
    · simp
    · intro i h1 h2
      simp at h1
      have h3 : l.length - 1 - i < l.length := by omega
      simp [List.getElem_reverse, h3]
  rw [e2] at e
  simpa using congrArg List.toArray e

theorem least_lt : ∀ l : List Nat, l ≠ [] → least l + 1 ≤ l.length
  | [], h => absurd rfl h
  | [c], _ => by simp [least, pal]
  | c :: d :: r, _ => by
    have := least_lt (d :: r) (by simp)
    unfold least
    split
    · simp
    · simp only [List.length_cons] at this ⊢; omega
theorem close1_len (t : List Nat) (a : Nat) : (close1 t a).length ≤ 2 * t.length + 1 := by
  unfold close1
  have h := least_lt (t ++ [a]) (by simp)
  simp only [List.length_append, List.length_reverse, List.length_take, List.length_cons, List.length_nil] at h ⊢
  omega
/-- what stands after i signs -/
def closeP (ls : List Nat) (i : Nat) : List Nat := (ls.take i).foldl close1 []
theorem closeP_snoc {ls : List Nat} {i : Nat} {a : Nat} (h : ls[i]? = some a) : closeP ls (i + 1) = close1 (closeP ls i) a := by
  unfold closeP
  rw [List.take_add_one, h, List.foldl_append]
  rfl
theorem closeP_len (ls : List Nat) : ∀ i, (closeP ls i).length + 1 ≤ 2 ^ i
  | 0 => by simp [closeP]
  | i + 1 => by
    have ih := closeP_len ls i
    rw [Nat.pow_succ]
    cases h : ls[i]? with
    | none =>
      have e : closeP ls (i + 1) = closeP ls i := by
        unfold closeP
        rw [List.take_add_one, h]; simp
      rw [e]; omega
    | some a =>
      rw [closeP_snoc h]
      have := close1_len (closeP ls i) a
      omega
theorem ofL_app (A B : List Nat) : ofL A ++ ofL B = ofL (A ++ B) := by
  apply Str.ext'
  rw [Str.cps_append]
  simp
theorem bne_ofL (A B : List Nat) : (ofL A != ofL B) = !(A == B) := by
  have : (ofL A == ofL B) = (A == B) := by
    rw [Bool.eq_iff_iff, beq_iff_eq, beq_iff_eq]
    constructor
    · intro h; simpa using congrArg (fun s : Str => s.cps.toList) h
    · rintro rfl; rfl
  show (!(ofL A == ofL B)) = _
  rw [this]
theorem test_pal (A B : List Nat) (kk : Nat) (u : Tok) (h : kk ≤ (ofL A ++ ofL B).length) :
    (Txt.slice (ofL A ++ ofL B) (some (kk : Int)) none != Txt.sliceBy (Txt.slice (ofL A ++ ofL B) (some (kk : Int)) none) none none (-1, u)) = !pal ((ofL A ++ ofL B).cps.toList.drop kk) := by
  rw [ofL_app] at h ⊢
  have h' : kk ≤ (A ++ B).length := by simpa [Str.length] using h
  rw [slice_from _ _ h', slice_rev, bne_ofL]
  rfl
theorem step_close (A : List Nat) (c : Nat) (u : Tok) :
    (ofL A ++ ofL [c]) ++ Txt.sliceBy (Txt.slice (ofL A ++ ofL [c]) none (some ((least (ofL A ++ ofL [c]).cps.toList : Nat) : Int))) none none (-1, u) = ofL (close1 A c) := by
  rw [ofL_app A [c]]
  have e : (ofL (A ++ [c])).cps.toList = A ++ [c] := by simp
  rw [e, slice_upto _ _ (least_le _), slice_rev, ofL_app]
  rfl
theorem upd_k {x : Str} {kk : Nat} {t : Tok} {u : Option Value} {f : Str → Option Value} :
    (fun y => if y = x then some (Value.int ((kk : Int) + 1) t) else if y = x then u else f y) = fun y => if y = x then some (.int ((kk + 1 : Nat) : Int) t) else f y := by
  funext y
  by_cases h : y = x
  · simp [h]
  · simp [h]
theorem ex_str {m : Str → Option Value} {n X Y : Str} {t : Tok} (h : m n = some (.str X t)) (e : X = Y) : ∃ t, m n = some (.str Y t) := ⟨t, by rw [h, e]⟩
end Mine
end
section
open PySem PySem.W PyProof.Rows
set_option maxRecDepth 100000
namespace Mine
section
variable {prog : Program} {w : World} {A : Around} {E : Value → Shared → Prop} {s : Shared}

theorem nextOf_tup_item {it t : Addr} {i : Nat} {items : Array Value} {x : Value} {Q : Value → Shared → Prop} (hit : IsTupIter s.heap it t i)
    (ht : IsTup s.heap t items) (hx : items[i]? = some x)
    (hQ : ∀ h', IsTupIter h' it t (i + 1) → Heap.SameBut it s.heap h' → Q x { s with heap := h' }) :
    wpAny (model prog w) A (Builtin.SmallTypes.nextOf (.ref it)) Q E s := by
  obtain ⟨o, ho, hc, hd⟩ := id hit
  obtain ⟨ol, hol, _, nl, hdl⟩ := ht
  unfold Builtin.SmallTypes.nextOf
  refine wpAny_bind (wpAny_callSpecial?_slot (name := Str.ofString "__next__") hit.typeIs slot_tupleiter_next
    (wpAny_call_entry slot_tupleiter_next hit.typeIs entry_tupleiter_next ?_ (args_tupleiter_next _)))
  show wpAny _ _ (field (.ref it) 0 >>= _) _ _ s
  refine wpAny_bind (wpAny_field ho hd (x := .ref t) rfl ?_)
  show wpAny _ _ (if (Value.ref t == Value.none) = true then _ else _) _ _ s
  rw [if_neg (show ¬ ((Value.ref t == Value.none) = true) from Bool.false_ne_true)]
  show wpAny _ _ (field (.ref it) 1 >>= _) _ _ s
  refine wpAny_bind (wpAny_field ho hd (x := .int i 0) rfl ?_)
  show wpAny _ _ (seqItems? (.ref t) >>= _) _ _ s
  refine wpAny_bind (wpAny_seqItems hol hdl ?_)
  simp only [Int.toNat_natCast, hx]
  refine wpAny_bind (wpAny_setField ho hd (by simp) (wpAny_pure ⟨x, rfl, wpAny_pure (hQ _ ?_ (Heap.SameBut.update ..))⟩))
  exact ⟨_, Heap.get?_update_self _ ho (Obj.isFreed_of_fields (Obj.data_mapFields hd _)), (Obj.cls_mapFields ..).trans hc, by
    rw [Obj.data_mapFields hd]; simp [rawInt]⟩

theorem nextOf_tup_end {it t : Addr} {i : Nat} {items : Array Value} {Q : Value → Shared → Prop} (hh : A.handled = none)
    (hit : IsTupIter s.heap it t i) (ht : IsTup s.heap t items) (hx : items[i]? = none)
    (hE : ∀ h' e, Heap.ExtBut it s.heap h' → (∃ o, h'.get? e = some o ∧ o.cls = .type "StopIteration") → E (.ref e) { s with heap := h' }) :
    wpAny (model prog w) A (Builtin.SmallTypes.nextOf (.ref it)) Q E s := by
  obtain ⟨o, ho, hc, hd⟩ := id hit
  obtain ⟨ol, hol, _, nl, hdl⟩ := ht
  unfold Builtin.SmallTypes.nextOf
  refine wpAny_bind (wpAny_callSpecial?_slot (name := Str.ofString "__next__") hit.typeIs slot_tupleiter_next
    (wpAny_call_entry slot_tupleiter_next hit.typeIs entry_tupleiter_next ?_ (args_tupleiter_next _)))
  show wpAny _ _ (field (.ref it) 0 >>= _) _ _ s
  refine wpAny_bind (wpAny_field ho hd (x := .ref t) rfl ?_)
  show wpAny _ _ (if (Value.ref t == Value.none) = true then _ else _) _ _ s
  rw [if_neg (show ¬ ((Value.ref t == Value.none) = true) from Bool.false_ne_true)]
  show wpAny _ _ (field (.ref it) 1 >>= _) _ _ s
  refine wpAny_bind (wpAny_field ho hd (x := .int i 0) rfl ?_)
  show wpAny _ _ (seqItems? (.ref t) >>= _) _ _ s
  refine wpAny_bind (wpAny_seqItems hol hdl ?_)
  simp only [Int.toNat_natCast, hx]
  refine wpAny_bind (wpAny_rule (wpAny_bind (wpAny_setField ho hd (by simp) ?_)))
  show wpAny _ _ (newExc (.type "StopIteration") [] >>= _) _ _ _
  refine wpAny_bind ?_
  simp only [newExc, newTuple]
  refine wpAny_bind (wpAny_newObj_type ?_ (by size_fits))
  refine wpAny_bind (m := firstArgMember _ _) (wpAny_of_eq (a := Value.none) (by first | rfl | (simp only [firstArgMember]; rfl)) ?_)
  refine wpAny_newObj_type ?_ (by size_fits)
  simp only [raiseNew]
  refine wpAny_bind (wpAny_handled ?_)
  first | rw [show A.in1.handled = none from hh] | rw [hh]
  refine wpAny_bind (wpAny_pure (wpAny_throw ?_))
  exact hE _ _ (((Heap.SameBut.update ..).extBut.push _).push _) ⟨_, Heap.get?_push_size _ rfl, rfl⟩
end

theorem drawsTup {prog : Program} {w : World} {A : Around} (hh : A.handled = none) (it t : Addr) (hne : t ≠ it) (items : Array Value) :
    Draws prog w A it [it, t] items.size (fun i v => items[i]? = some v) (fun i h => IsTupIter h it t i ∧ IsTup h t items) where
  live := fun _ _ st => let ⟨o, ho, _⟩ := st.1; ⟨o, ho⟩
  frame := fun _ _ _ st hk => ⟨let ⟨o, ho, r⟩ := st.1; ⟨o, hk it (by simp) o ho, r⟩, let ⟨o, ho, r⟩ := st.2; ⟨o, hk t (by simp) o ho, r⟩⟩
  item := fun i s Q E hi st hQ => by
    refine nextOf_tup_item st.1 st.2 (x := items[i]) (by simp [hi]) fun h' hit' hs' => ?_
    exact hQ _ h' s.toks (by simp [hi]) ⟨hit', let ⟨o, ho, r⟩ := st.2; ⟨o, (hs'.2 t hne).trans ho, r⟩⟩ hs'
  done := fun s Q E st hE => nextOf_tup_end hh st.1 st.2 (by simp) hE

open AutoSeq1 (wpAny_loadPart') in
theorem enumerate_newT (l : Addr) (items : Array Value) (n : Nat) (dct : Option Addr) (sl : Array (Option Value)) :
    Meets (Builtin.«enumerate.__new__» ⟨[.type "enumerate", .ref l], []⟩) (fun _ R s => s.heap.get? l = some { cls := .type "tuple", dict := dct, data := .seq items n, slots := sl } ∧
      R (.ok (.ret (.ref (s.heap.push { cls := .type "tuple_iterator", data := .fields #[.ref l, .int 0 0] }).objs.size)))
        { s with heap := (s.heap.push { cls := .type "tuple_iterator", data := .fields #[.ref l, .int 0 0] }).push { cls := .type "enumerate", data := .fields #[.none, .bool false, .ref s.heap.objs.size, rawInt 0, .none, .none] } }) :=
  .of_wp fun prog w A R s h => by
    obtain ⟨hp, g, d, tk, os⟩ := s; obtain ⟨hl, h⟩ := h
    have hsub := sub_enumerate
    have hL : IsTup (Shared.heap ⟨hp, g, d, tk, os⟩) l items := ⟨_, hl, rfl, n, rfl⟩
    wp_walk using wpAny_loadPart' hl
    refine wpAny_stack_any fun st => wpAny_pure ?_
    split
    · rename_i c _ _ _ _ _
      cases (c == Value.type "enumerate")
      · wp_walk using wpAny_loadPart' hl, iter_tuple hL
        exact ⟨_, rfl, h⟩
      · wp_walk using wpAny_loadPart' hl, iter_tuple hL
        exact ⟨_, rfl, h⟩
    · wp_walk using wpAny_loadPart' hl, iter_tuple hL
      exact ⟨_, rfl, h⟩
end Mine
end
section
open PySem PySem.W PyProof.Rows
set_option maxRecDepth 100000
namespace Mine
/-- a tuple of the base whose items are pairs of an int and a text -/
def PairsAt (h : Heap) (tab : Addr) (ps : List (Int × Str)) : Prop :=
  ∃ items : Array Value, h.IsTuple tab items ∧ items.size = ps.length ∧ ∀ (i : Nat) (v : Value), items[i]? = some v → ∃ (p : Int × Str) (T : Addr) (t1 t2 : Tok), ps[i]? = some p ∧ v = .ref T ∧ h.IsTuple T #[.int p.1 t1, .str p.2 t2]

section
variable {prog : Program} {w : World} {A : Around} {E : Value → Shared → Prop} {s : Shared}
  {cn : Str} {cs : Scope} {L a : Addr} {ccd : Value} {cl : List (Str × Addr)} {h₀ : Heap} {m : Str → Option Value} {news : List (Addr × Obj)}

theorem unpackT {Q : Unit → Shared → Prop} {x y : Str} {p1 p2 p3 : Pos} {k : Nat} {T : Addr} {v1 v2 : Value} (F : Fr h₀ L s.heap m) (N : News h₀ L s.heap news)
    (hT : s.heap.IsTuple T #[v1, v2]) (hh : A.handled = none)
    (hk : cs.kind = .function) (hx : (envX cn cs L a ccd cl).kindOf x = some .local) (hy : (envX cn cs L a ccd cl).kindOf y = some .local)
    (h : ∀ h' tk', Fr h₀ L h' (fun z => if z = y then some v2 else if z = x then some v1 else m z) → News h₀ L h' news → Q () { s with heap := h', toks := tk' }) :
    wpAny (model prog w) A (assign (.Tuple [.Name x p1, .Name y p2] k p3) (envX cn cs L a ccd cl) (.ref T)) Q E s := by
  refine unpackN_ (env := envX cn cs L a ccd cl) F N hT hh rfl rfl fun h' F' N' => ?_
  refine assignInOrder_cons (wpAny_assign_Name (storeX_L F' N' (fun h₁ F₁ N₁ => ?_) hk hx))
  refine assignInOrder_cons (wpAny_assign_Name (storeX_L F₁ N₁ (fun h₂ F₂ N₂ => ?_) hk hy))
  refine assignInOrder_nil ?_
  exact h h₂ _ F₂ N₂

/-- a turn of a search: found and left, or on -/
def SEnd (h₀ : Heap) (L : Addr) (s : Shared) (P : Addr) (vs : List Value) (n : Nat) (rest : List (Addr × Obj)) (Keep : (Str → Option Value) → Prop) (c : Bool) (found : Str) (f : Flow) (s₃ : Shared) : Prop :=
  ∃ h' tk m', s₃ = { s with heap := h', toks := tk } ∧ Keep m' ∧ Fr h₀ L h' m' ∧
    ((c = true ∧ f = .brk ∧ ∃ t, News h₀ L h' ((P, listOf (vs.toArray.push (.str found t)) (n + 1)) :: rest)) ∨ (c = false ∧ f = .next ∧ News h₀ L h' ((P, listOf vs.toArray n) :: rest)))

def EEnd (h₀ : Heap) (L : Addr) (s : Shared) (P : Addr) (vs : List Value) (n : Nat) (rest : List (Addr × Obj)) (Keep : (Str → Option Value) → Prop) (dflt : Str) (f : Flow) (s₃ : Shared) : Prop :=
  f = .next ∧ ∃ h' tk m' t, s₃ = { s with heap := h', toks := tk } ∧ Keep m' ∧ Fr h₀ L h' m' ∧ News h₀ L h' ((P, listOf (vs.toArray.push (.str dflt t)) (n + 1)) :: rest)

def foundIn (cond : Int × Str → Bool) (dflt : Str) (ps : List (Int × Str)) : Str := ((ps.find? cond).map (·.2)).getD dflt

theorem searchCore {R : Result → Shared → Prop} {tab P I : Addr} {items : Array Value} {tail : List (Addr × Obj)} {vs : List Value} {n : Nat} {ps : List (Int × Str)} {x y : Str} {body orelse : List Stmt} {p1 p2 p3 : Pos} {k0 : Nat}
    (cond : Int × Str → Bool) (dflt : Str) (Keep : (Str → Option Value) → Prop)
    (hh : A.handled = none) (hTi : h₀.IsTuple tab items) (hsz : items.size = ps.length) (hit : ∀ (i : Nat) (v : Value), items[i]? = some v → ∃ (p : Int × Str) (T : Addr) (t1 t2 : Tok), ps[i]? = some p ∧ v = .ref T ∧ h₀.IsTuple T #[.int p.1 t1, .str p.2 t2])
    (hne : tab ≠ I) (hLI : L ≠ I) (hI0 : h₀.get? I = none) (hPI : I ≠ P) (htI : ∀ q ∈ tail, q.1 ≠ I) (hst : s.heap.IsTupleIter I tab 0)
    (F : Fr h₀ L s.heap m) (N : News h₀ L s.heap ((P, listOf vs.toArray n) :: tail)) (hK : Keep m)
    (hk : cs.kind = .function) (hx : (envX cn cs L a ccd cl).kindOf x = some .local) (hy : (envX cn cs L a ccd cl).kindOf y = some .local)
    (turn : ∀ (b : Int) (c : Str) (t1 t2 : Tok) (oI : Obj) (m₁ : Str → Option Value) (h₁ : Heap) (tk₁ : Nat), (b, c) ∈ ps → Keep m₁ → Fr h₀ L h₁ (fun z => if z = y then some (.str c t2) else if z = x then some (.int b t1) else m₁ z) →
      News h₀ L h₁ ((P, listOf vs.toArray n) :: (I, oI) :: tail) →
      wpAny (model prog w) A (execs body (envX cn cs L a ccd cl)) (SEnd h₀ L s P vs n ((I, oI) :: tail) Keep (cond (b, c)) c) (fun _ _ => False) { s with heap := h₁, toks := tk₁ })
    (els : ∀ (m₁ : Str → Option Value) (h₁ : Heap) (tk₁ : Nat), Keep m₁ → Fr h₀ L h₁ m₁ → News h₀ L h₁ ((P, listOf vs.toArray n) :: tail) →
      wpAny (model prog w) A (execs orelse (envX cn cs L a ccd cl)) (EEnd h₀ L s P vs n tail Keep dflt) (fun _ _ => False) { s with heap := h₁, toks := tk₁ })
    (h : ∀ (m' : Str → Option Value) (h' : Heap) (tk' : Nat) (t : Tok), Keep m' → Fr h₀ L h' m' → News h₀ L h' ((P, listOf (vs.toArray.push (.str (foundIn cond dflt ps) t)) (n + 1)) :: tail) → R (.ok .next) { s with heap := h', toks := tk' }) :
    codeAny (model prog w) A (.forLoop (.Tuple [.Name x p1, .Name y p2] k0 p3) (.ref I) body orelse (envX cn cs L a ccd cl)) R s := by
  have W := Walks.tuple (prog := prog) (w := w) hh I tab hne items
  have hnI : ∀ q ∈ (P, listOf vs.toArray n) :: tail, q.1 ≠ I := fun q hq => by
    rcases List.mem_cons.mp hq with rfl | hq
    · exact Ne.symm hPI
    · exact htI q hq
  refine codeAny_forLoop_any (fun k s' => ∃ i h' tk m', s' = { s with heap := h', toks := tk } ∧ h'.IsTupleIter I tab i ∧ Keep m' ∧ Fr h₀ L h' m' ∧ News h₀ L h' ((P, listOf vs.toArray n) :: tail) ∧ i ≤ items.size ∧ (∀ p ∈ ps.take i, cond p = false) ∧ k = items.size + 1 - i) ?_ (items.size + 1)
    ⟨0, s.heap, s.toks, m, rfl, hst, hK, F, N, Nat.zero_le _, by simp, rfl⟩
  rintro k s' ⟨i, h', tk, m', rfl, hst', hK', F', N', hi, hno, rfl⟩
  have keepF : ∀ h₁ : Heap, (∀ b o, b ∉ [I] → h'.get? b = some o → h₁.get? b = some o) → Fr h₀ L h₁ m' ∧ News h₀ L h₁ ((P, listOf vs.toArray n) :: tail) := fun h₁ hk =>
    ⟨LCg.fr_but F' hk hLI hI0, LCg.news_but N' hk hnI⟩
  by_cases hlt : i < items.size
  · refine W.item i _ _ _ hlt ⟨hst', hTi.at fun o e => F'.keep tab o e⟩ fun v h₁ tk₁ hP hst₁ hk₁ => ?_
    obtain ⟨F₁, N₁⟩ := keepF h₁ hk₁
    refine letGo_tupleiter hst₁.1 ?_
    obtain ⟨oI, hoI, hoc, hod⟩ := hst₁.1
    obtain ⟨p, T, t1, t2, hp, rfl, hTT⟩ := hit i v hP
    have NI : News h₀ L h₁ ((P, listOf vs.toArray n) :: (I, oI) :: tail) := fun q hq => by
      rcases List.mem_cons.mp hq with rfl | hq
      · exact N₁ _ (List.mem_cons_self ..)
      · rcases List.mem_cons.mp hq with rfl | hq
        · exact ⟨hoI, Ne.symm hLI, hI0⟩
        · exact N₁ q (List.mem_cons_of_mem _ hq)
    refine unpackT (s := { s with heap := h₁, toks := tk₁ }) F₁ NI (hTT.at fun o e => F₁.keep T o e) hh hk hx hy fun h₂ tk₂ F₂ N₂ => ?_
    refine wpAny_mono (turn p.1 p.2 t1 t2 oI m' h₂ tk₂ (List.mem_of_getElem? hp) hK' F₂ N₂) (fun f s₃ h₃ => ?_) fun _ _ e => e.elim
    obtain ⟨h₄, tk₄, m₄, rfl, hK₄, F₄, hcase⟩ := h₃
    rcases hcase with ⟨hc, rfl, t, N₄⟩ | ⟨hc, rfl, N₄⟩
    · have ef : foundIn cond dflt ps = p.2 := by
        have e1 : ps.find? cond = some p := by
          have hps : ps = ps.take i ++ ps.drop i := (List.take_append_drop i ps).symm
          have hil : i < ps.length := by omega
          have hpi : ps[i] = p := by
            have := hp; rw [List.getElem?_eq_getElem hil] at this; exact Option.some.inj this
          rw [hps, List.find?_append, List.find?_eq_none.mpr (fun q hq => by rw [hno q hq]; exact Bool.false_ne_true), Option.none_or, List.drop_eq_getElem_cons hil, hpi, List.find?_cons, hc]
        unfold foundIn; rw [e1]; rfl
      refine h m₄ h₄ tk₄ t hK₄ F₄ fun q hq => ?_
      rw [ef] at hq
      rcases List.mem_cons.mp hq with rfl | hq
      · exact N₄ _ (List.mem_cons_self ..)
      · exact N₄ q (List.mem_cons_of_mem _ (List.mem_cons_of_mem _ hq))
    · refine ⟨items.size + 1 - (i + 1), by omega, i + 1, h₄, tk₄, m₄, rfl, ⟨oI, (N₄ _ (List.mem_cons_of_mem _ (List.mem_cons_self ..))).1, hoc, hod⟩, hK₄, F₄, fun q hq => ?_, hlt, ?_, rfl⟩
      · rcases List.mem_cons.mp hq with rfl | hq
        · exact N₄ _ (List.mem_cons_self ..)
        · exact N₄ q (List.mem_cons_of_mem _ (List.mem_cons_of_mem _ hq))
      · intro q hq
        rw [List.take_add_one, hp] at hq
        rcases List.mem_append.mp hq with hq | hq
        · exact hno q hq
        · have : q = p := by simpa using hq
          rw [this]; exact hc
  · have hin : i = items.size := by omega
    subst hin
    refine W.done _ _ _ ⟨hst', hTi.at fun o e => F'.keep tab o e⟩ fun h₁ tk₁ hk₁ => ?_
    obtain ⟨F₁, N₁⟩ := keepF h₁ hk₁
    refine wpAny_mono (els m' h₁ tk₁ hK' F₁ N₁) (fun f s₃ h₃ => ?_) fun _ _ e => e.elim
    obtain ⟨rfl, h₄, tk₄, m₄, t, rfl, hK₄, F₄, N₄⟩ := h₃
    have ef : foundIn cond dflt ps = dflt := by
      unfold foundIn
      rw [List.find?_eq_none.mpr (fun q hq => by rw [hno q (by rw [hsz, List.take_length]; exact hq)]; exact Bool.false_ne_true)]; rfl
    exact h m₄ h₄ tk₄ t hK₄ F₄ (by rw [ef]; exact N₄)

theorem searchT {Q : Flow → Shared → Prop} {tab P : Addr} {tail : List (Addr × Obj)} {vs : List Value} {n : Nat} {ps : List (Int × Str)} {x y : Str} {body orelse : List Stmt} {p1 p2 p3 : Pos} {k0 : Nat}
    (cond : Int × Str → Bool) (dflt : Str) (Keep : (Str → Option Value) → Prop)
    (hh : A.handled = none) (hT : PairsAt h₀ tab ps) (F : Fr h₀ L s.heap m) (N : News h₀ L s.heap ((P, listOf vs.toArray n) :: tail)) (hK : Keep m)
    (hk : cs.kind = .function) (hx : (envX cn cs L a ccd cl).kindOf x = some .local) (hy : (envX cn cs L a ccd cl).kindOf y = some .local)
    (turn : ∀ (b : Int) (c : Str) (t1 t2 : Tok) (I : Addr) (oI : Obj) (m₁ : Str → Option Value) (h₁ : Heap) (tk₁ : Nat), (b, c) ∈ ps → Keep m₁ → I ≠ P → (∀ q ∈ tail, q.1 ≠ I) → Fr h₀ L h₁ (fun z => if z = y then some (.str c t2) else if z = x then some (.int b t1) else m₁ z) →
      News h₀ L h₁ ((P, listOf vs.toArray n) :: (I, oI) :: tail) →
      wpAny (model prog w) A (execs body (envX cn cs L a ccd cl)) (SEnd h₀ L s P vs n ((I, oI) :: tail) Keep (cond (b, c)) c) (fun _ _ => False) { s with heap := h₁, toks := tk₁ })
    (els : ∀ (m₁ : Str → Option Value) (h₁ : Heap) (tk₁ : Nat), Keep m₁ → Fr h₀ L h₁ m₁ → News h₀ L h₁ ((P, listOf vs.toArray n) :: tail) →
      wpAny (model prog w) A (execs orelse (envX cn cs L a ccd cl)) (EEnd h₀ L s P vs n tail Keep dflt) (fun _ _ => False) { s with heap := h₁, toks := tk₁ })
    (h : ∀ (m' : Str → Option Value) (h' : Heap) (tk' : Nat) (t : Tok), Keep m' → Fr h₀ L h' m' → News h₀ L h' ((P, listOf (vs.toArray.push (.str (foundIn cond dflt ps) t)) (n + 1)) :: tail) → Q .next { s with heap := h', toks := tk' }) :
    wpAny (model prog w) A (pyIter (.ref tab)) (fun it s₂ => codeAny (model prog w) A (.forLoop (.Tuple [.Name x p1, .Name y p2] k0 p3) it body orelse (envX cn cs L a ccd cl))
      (fun r s' => match r with | .ok f => Q f s' | .error e => cameBackBy (model prog w) A (envX cn cs L a ccd cl) E e s') s₂) E s := by
  obtain ⟨items, hTi, hsz, hit⟩ := hT
  have hl : s.heap.IsTuple tab items := hTi.at fun o e => F.keep tab o e
  have hlt : tab < s.heap.objs.size := by obtain ⟨_, e, _⟩ := hl; exact Heap.lt_size e
  refine wpAny_pyIter_tuple hl ?_
  have htI : ∀ q ∈ tail, q.1 ≠ s.heap.objs.size := fun q hq => Nat.ne_of_lt (Heap.lt_size (N q (.tail _ hq)).1)
  have hPI : s.heap.objs.size ≠ P := Nat.ne_of_gt (Heap.lt_size (N _ (.head _)).1)
  refine searchCore (s := { s with heap := s.heap.push { cls := .type "tuple_iterator", data := .fields #[.ref tab, .int 0 0] } }) cond dflt Keep hh hTi hsz hit (Nat.ne_of_lt hlt) (Nat.ne_of_lt F.ns.lt) (next_is_new F) hPI htI ⟨_, Heap.get?_push_size _ rfl, rfl, rfl⟩
    (F.push _) (fun p hp => ⟨Heap.get?_push_of_some _ (N p hp).1, (N p hp).2⟩) hK hk hx hy (fun b c t1 t2 oI m₁ h₁ tk₁ hb hK₁ F₁ N₁ => turn b c t1 t2 _ oI m₁ h₁ tk₁ hb hK₁ hPI htI F₁ N₁) els h
end
end Mine
end
section
open PySem PySem.W PyProof.Rows
set_option maxRecDepth 100000
namespace Mine
section
variable {prog : Program} {w : World} {A : Around} {E : Value → Shared → Prop} {s : Shared}
  {cn : Str} {cs : Scope} {L a : Addr} {ccd : Value} {cl : List (Str × Addr)} {h₀ : Heap} {m : Str → Option Value} {news : List (Addr × Obj)}

theorem callEnumT {l : Addr} {items : Array Value} {Q : Value → Shared → Prop} (hL : s.heap.IsTuple l items)
    (h : ∀ h', IsEnum h' (s.heap.objs.size + 1) s.heap.objs.size 0 .none → IsTupIter h' s.heap.objs.size l 0 → h'.objs.size = s.heap.objs.size + 2 →
      (∀ b o, s.heap.get? b = some o → h'.get? b = some o) → Q (.ref (s.heap.objs.size + 1)) { s with heap := h' }) :
    wpAny (model prog w) A (call (.type "enumerate") [.ref l]) Q E s := by
  obtain ⟨⟨c, dct, dt, sl⟩, hl, hc, n, hd⟩ := hL
  replace hc : c = .type "tuple" := hc
  replace hd : dt = .seq items n := hd
  subst hc hd
  refine callType_new PySem.F.called_enumerate (by decide) (PySem.F.typeCall_enumerate_1 _) (PySem.F.newCall_enumerate_1 _) (fun obj => PySem.F.args_object_init_2 obj _) PySem.F.entry_enumerate_new
    (enumerate_newT l items n dct sl) ⟨hl, ?_⟩
  have hz : (s.heap.push { cls := .type "tuple_iterator", data := .fields #[.ref l, .int 0 0] }).objs.size = s.heap.objs.size + 1 := Heap.size_push ..
  show _ ∧ _
  rw [hz]
  have he : IsEnum ((s.heap.push { cls := .type "tuple_iterator", data := .fields #[.ref l, .int 0 0] }).push
      { cls := .type "enumerate", data := .fields #[.none, .bool false, .ref s.heap.objs.size, rawInt 0, .none, .none] }) (s.heap.objs.size + 1) s.heap.objs.size 0 .none := by
    have := Heap.get?_push_size (s.heap.push { cls := .type "tuple_iterator", data := .fields #[.ref l, .int 0 0] })
      (o := { cls := .type "enumerate", data := .fields #[.none, .bool false, .ref s.heap.objs.size, rawInt 0, .none, .none] }) rfl
    rw [hz] at this; exact this
  refine ⟨⟨_, he, rfl⟩, h _ he ⟨_, Heap.get?_push_of_some _ (Heap.get?_push_size _ rfl), rfl, rfl⟩ (by rw [Heap.size_push, hz]) fun b o x => Heap.get?_push_of_some _ (Heap.get?_push_of_some _ x)⟩

/-- a turn's end where one list has been grown -/
def PEnd (h₀ : Heap) (L : Addr) (s : Shared) (P : Addr) (rest : List (Addr × Obj)) (J : (Str → Option Value) → Obj → Prop) (f : Flow) (s₃ : Shared) : Prop :=
  f = .next ∧ ∃ h' tk m' o', s₃ = { s with heap := h', toks := tk } ∧ Fr h₀ L h' m' ∧ News h₀ L h' ((P, o') :: rest) ∧ J m' o'
theorem PEnd.intro {P : Addr} {rest : List (Addr × Obj)} {J : (Str → Option Value) → Obj → Prop} {h' : Heap} {tk : Nat} {m' : Str → Option Value} {o' : Obj} (F : Fr h₀ L h' m') (N : News h₀ L h' ((P, o') :: rest)) (hJ : J m' o') :
    PEnd h₀ L s P rest J .next { s with heap := h', toks := tk } := ⟨rfl, h', tk, m', o', rfl, F, N, hJ⟩

theorem enumCore {R : Result → Shared → Prop} {l e it P : Addr} {ob : Obj} {items : Array Value} {x y : Str} {body : List Stmt} {p1 p2 p3 : Pos} {k0 : Nat}
    (hh : A.handled = none) (hl : h₀.IsTuple l items) (hei : e ≠ it) (hle : l ≠ e) (hli : l ≠ it) (hLe : L ≠ e) (hLi : L ≠ it) (he0 : h₀.get? e = none) (hi0 : h₀.get? it = none) (hn : ∀ q ∈ (P, ob) :: news, q.1 ≠ e ∧ q.1 ≠ it)
    (hst : (∃ old, IsEnum s.heap e it 0 old) ∧ IsTupIter s.heap it l 0) (F : Fr h₀ L s.heap m) (N : News h₀ L s.heap ((P, ob) :: news)) (J : Nat → (Str → Option Value) → Obj → Prop) (h0 : J 0 m ob)
    (hk : cs.kind = .function) (hx : (envX cn cs L a ccd cl).kindOf x = some .local) (hy : (envX cn cs L a ccd cl).kindOf y = some .local)
    (step : ∀ (i : Nat) (v : Value) (t : Tok) (m₁ : Str → Option Value) (o₁ oe oi : Obj) (h₁ : Heap) (tk₁ : Nat), items[i]? = some v → J i m₁ o₁ → (∀ q ∈ (e, oe) :: (it, oi) :: news, q.1 ≠ P) → Fr h₀ L h₁ (fun z => if z = y then some v else if z = x then some (.int i t) else m₁ z) → News h₀ L h₁ ((P, o₁) :: (e, oe) :: (it, oi) :: news) →
      wpAny (model prog w) A (execs body (envX cn cs L a ccd cl)) (PEnd h₀ L s P ((e, oe) :: (it, oi) :: news) (J (i + 1))) (fun _ _ => False) { s with heap := h₁, toks := tk₁ })
    (hnP : ∀ q ∈ news, q.1 ≠ P)
    (hR : ∀ h' tk m' o', Fr h₀ L h' m' → News h₀ L h' ((P, o') :: news) → J items.size m' o' → R (.ok .next) { s with heap := h', toks := tk }) :
    codeAny (model prog w) A (.forLoop (.Tuple [.Name x p1, .Name y p2] k0 p3) (.ref e) body [] (envX cn cs L a ccd cl)) R s := by
  have W := WalksT.enumerateD (drawsTup (prog := prog) (w := w) (A := A.in1) hh it l hli items) e hei (by simp [hei, Ne.symm hle]) (by simp)
  refine codeAny_forLoop_any (fun k s' => ∃ (i : Nat) (h' : Heap) (tk : Nat) (m' : Str → Option Value) (o' : Obj), s' = { s with heap := h', toks := tk } ∧ ((∃ old, IsEnum h' e it i old) ∧ IsTupIter h' it l i) ∧ Fr h₀ L h' m' ∧ News h₀ L h' ((P, o') :: news) ∧ J i m' o' ∧ i ≤ items.size ∧ k = items.size + 1 - i) ?_ (items.size + 1)
    ⟨0, s.heap, s.toks, m, ob, rfl, hst, F, N, h0, Nat.zero_le _, rfl⟩
  rintro k s' ⟨i, h', tk, m', o', rfl, hst', F', N', hJ, hi, rfl⟩
  have hPe : P ≠ e ∧ P ≠ it := hn (P, ob) (List.mem_cons_self ..)
  have hn' : ∀ q ∈ (P, o') :: news, q.1 ≠ e ∧ q.1 ≠ it := fun q hq => by
    rcases List.mem_cons.mp hq with rfl | hq
    · exact hPe
    · exact hn q (List.mem_cons_of_mem _ hq)
  have keepF : ∀ h₁ : Heap, (∀ b o, b ∉ [e, it] → h'.get? b = some o → h₁.get? b = some o) → Fr h₀ L h₁ m' ∧ News h₀ L h₁ ((P, o') :: news) := fun h₁ hk =>
    ⟨⟨F'.ns.at' fun o q => hk L o (by simp [hLe, hLi]) q, fun b o q => hk b o (by
        intro hb
        rcases List.mem_cons.mp hb with rfl | hb
        · rw [he0] at q; cases q
        · rw [List.mem_singleton.mp hb, hi0] at q; cases q) (F'.keep b o q), F'.above⟩,
     fun q hq => ⟨hk q.1 q.2 (by simp [hn' q hq]) (N' q hq).1, (N' q hq).2⟩⟩
  have hl' : IsTup h' l items := hl.at fun o q => F'.keep l o q
  by_cases hlt : i < items.size
  · refine W.item i _ _ _ hlt ⟨hst'.1, hst'.2, hl'⟩ fun T vals h₁ tk₁ hP _ hT hmid hk₁ => ?_
    obtain ⟨t, v, hv, rfl⟩ := hP
    refine W.go _ _ _ i T _ _ _ hmid fun h₂ hst₂ hk₂ => ?_
    obtain ⟨F₂, N₂⟩ := keepF h₂ fun b o hb q => hk₂ b o hb (hk₁ b o hb q)
    obtain ⟨⟨old, heo⟩, ⟨oi, hoi, hoc, hod⟩, _⟩ := hst₂
    have hT₂ : h₂.IsTuple T #[.int i t, v] := hT.at fun o q => hk₂ T o (W.apart i T _ hmid) q
    have NI : ∀ oe, h₂.get? e = some oe → News h₀ L h₂ ((P, o') :: (e, oe) :: (it, oi) :: news) := fun oe hoe q hq => by
      rcases List.mem_cons.mp hq with rfl | hq
      · exact N₂ _ (List.mem_cons_self ..)
      · rcases List.mem_cons.mp hq with rfl | hq
        · exact ⟨hoe, Ne.symm hLe, he0⟩
        · rcases List.mem_cons.mp hq with rfl | hq
          · exact ⟨hoi, Ne.symm hLi, hi0⟩
          · exact N₂ q (List.mem_cons_of_mem _ hq)
    refine unpackT (s := { s with heap := h₂, toks := tk₁ }) F₂ (NI _ heo) hT₂ hh hk hx hy fun h₃ tk₃ F₃ N₃ => ?_
    refine wpAny_mono (step i v t m' o' _ oi h₃ tk₃ hv hJ (fun q hq => ?_) F₃ N₃) (fun f s₃ h₃ => ?_) fun _ _ q => q.elim
    · rcases List.mem_cons.mp hq with rfl | hq
      · exact Ne.symm hPe.1
      · rcases List.mem_cons.mp hq with rfl | hq
        · exact Ne.symm hPe.2
        · exact hnP q hq
    · obtain ⟨rfl, h₄, tk₄, m₄, o₄, rfl, F₄, N₄, hJ₄⟩ := h₃
      refine ⟨items.size + 1 - (i + 1), by omega, i + 1, h₄, tk₄, m₄, o₄, rfl, ⟨⟨old, (N₄ _ (.tail _ (.head _))).1⟩, ⟨oi, (N₄ _ (.tail _ (.tail _ (.head _)))).1, hoc, hod⟩⟩, F₄, fun q hq => ?_, hJ₄, hlt, rfl⟩
      rcases List.mem_cons.mp hq with rfl | hq
      · exact N₄ _ (.head _)
      · exact N₄ q (.tail _ (.tail _ (.tail _ hq)))
  · have hin : i = items.size := by omega
    subst hin
    refine W.done _ _ _ ⟨hst'.1, hst'.2, hl'⟩ fun h₁ tk₁ hk₁ => wpAny_execs_nil ?_
    obtain ⟨F₁, N₁⟩ := keepF h₁ hk₁
    exact hR h₁ tk₁ m' o' F₁ N₁ hJ

theorem enumT {Q : Flow → Shared → Prop} {l P : Addr} {ob : Obj} {items : Array Value} {x y : Str} {body : List Stmt} {p1 p2 p3 : Pos} {k0 : Nat}
    (hh : A.handled = none) (hl : h₀.IsTuple l items) (F : Fr h₀ L s.heap m) (N : News h₀ L s.heap ((P, ob) :: news)) (hnP : ∀ q ∈ news, q.1 ≠ P) (J : Nat → (Str → Option Value) → Obj → Prop) (h0 : J 0 m ob)
    (hk : cs.kind = .function) (hx : (envX cn cs L a ccd cl).kindOf x = some .local) (hy : (envX cn cs L a ccd cl).kindOf y = some .local)
    (step : ∀ (e it : Addr) (i : Nat) (v : Value) (t : Tok) (m₁ : Str → Option Value) (o₁ oe oi : Obj) (h₁ : Heap) (tk₁ : Nat), items[i]? = some v → J i m₁ o₁ → (∀ q ∈ (e, oe) :: (it, oi) :: news, q.1 ≠ P) → Fr h₀ L h₁ (fun z => if z = y then some v else if z = x then some (.int i t) else m₁ z) → News h₀ L h₁ ((P, o₁) :: (e, oe) :: (it, oi) :: news) →
      wpAny (model prog w) A (execs body (envX cn cs L a ccd cl)) (PEnd h₀ L s P ((e, oe) :: (it, oi) :: news) (J (i + 1))) (fun _ _ => False) { s with heap := h₁, toks := tk₁ })
    (hR : ∀ h' tk m' o', Fr h₀ L h' m' → News h₀ L h' ((P, o') :: news) → J items.size m' o' → Q .next { s with heap := h', toks := tk }) :
    wpAny (model prog w) A (call (.type "enumerate") [.ref l]) (fun xv s₁ => wpAny (model prog w) A (pyIter xv) (fun it s₂ => codeAny (model prog w) A (.forLoop (.Tuple [.Name x p1, .Name y p2] k0 p3) it body [] (envX cn cs L a ccd cl))
      (fun r s' => match r with | .ok f => Q f s' | .error e => cameBackBy (model prog w) A (envX cn cs L a ccd cl) E e s') s₂) E s₁) E s := by
  have hls : s.heap.IsTuple l items := hl.at fun o q => F.keep l o q
  have hlt : l < s.heap.objs.size := by obtain ⟨_, q, _⟩ := hls; exact Heap.lt_size q
  have hLs : L < s.heap.objs.size := F.ns.lt
  have new : ∀ b, s.heap.objs.size ≤ b → h₀.get? b = none := fun b hb => ktu_new F hb
  refine callEnumT hls fun h' hE hI hsz hkp => ?_
  refine wpAny_pyIter_enum hE ?_
  refine enumCore (s := { s with heap := h' }) (e := s.heap.objs.size + 1) (it := s.heap.objs.size) hh hl (Nat.succ_ne_self _) (ktu_ne 1 hlt) (Nat.ne_of_lt hlt) (ktu_ne 1 hLs) (Nat.ne_of_lt hLs) (new _ (Nat.le_succ _)) (new _ (Nat.le_refl _))
    (fun q hq => ⟨ktu_ne 1 (Heap.lt_size (N q hq).1), Nat.ne_of_lt (Heap.lt_size (N q hq).1)⟩) ⟨⟨_, hE⟩, hI⟩ (F.keeps hkp) (N.grown hkp) J h0 hk hx hy (step _ _) hnP hR
theorem enumE {Q : Flow → Shared → Prop} {l P : Addr} {ob : Obj} {items : Array Value} {x y : Str} {body : List Stmt} {p1 p2 p3 : Pos} {k0 : Nat} {env : Env} (henv : env = envX cn cs L a ccd cl)
    (hh : A.handled = none) (hl : h₀.IsTuple l items) (F : Fr h₀ L s.heap m) (N : News h₀ L s.heap ((P, ob) :: news)) (hnP : ∀ q ∈ news, q.1 ≠ P) (J : Nat → (Str → Option Value) → Obj → Prop) (h0 : J 0 m ob)
    (hk : cs.kind = .function) (hx : env.kindOf x = some .local) (hy : env.kindOf y = some .local)
    (step : ∀ (e it : Addr) (i : Nat) (v : Value) (t : Tok) (m₁ : Str → Option Value) (o₁ oe oi : Obj) (h₁ : Heap) (tk₁ : Nat), items[i]? = some v → J i m₁ o₁ → (∀ q ∈ (e, oe) :: (it, oi) :: news, q.1 ≠ P) → Fr h₀ L h₁ (fun z => if z = y then some v else if z = x then some (.int i t) else m₁ z) → News h₀ L h₁ ((P, o₁) :: (e, oe) :: (it, oi) :: news) →
      wpAny (model prog w) A (execs body env) (PEnd h₀ L s P ((e, oe) :: (it, oi) :: news) (J (i + 1))) (fun _ _ => False) { s with heap := h₁, toks := tk₁ })
    (hR : ∀ h' tk m' o', Fr h₀ L h' m' → News h₀ L h' ((P, o') :: news) → J items.size m' o' → Q .next { s with heap := h', toks := tk }) :
    wpAny (model prog w) A (call (.type "enumerate") [.ref l]) (fun xv s₁ => wpAny (model prog w) A (pyIter xv) (fun it s₂ => codeAny (model prog w) A (.forLoop (.Tuple [.Name x p1, .Name y p2] k0 p3) it body [] env)
      (fun r s' => match r with | .ok f => Q f s' | .error e => cameBackBy (model prog w) A env E e s') s₂) E s₁) E s := by
  subst henv
  exact enumT hh hl F N hnP J h0 hk hx hy step hR

theorem searchE {Q : Flow → Shared → Prop} {tab P : Addr} {tail : List (Addr × Obj)} {vs : List Value} {n : Nat} {ps : List (Int × Str)} {x y : Str} {body orelse : List Stmt} {p1 p2 p3 : Pos} {k0 : Nat} {env : Env} (henv : env = envX cn cs L a ccd cl)
    (cond : Int × Str → Bool) (dflt : Str) (Keep : (Str → Option Value) → Prop)
    (hh : A.handled = none) (hT : PairsAt h₀ tab ps) (F : Fr h₀ L s.heap m) (N : News h₀ L s.heap ((P, listOf vs.toArray n) :: tail)) (hK : Keep m)
    (hk : cs.kind = .function) (hx : env.kindOf x = some .local) (hy : env.kindOf y = some .local)
    (turn : ∀ (b : Int) (c : Str) (t1 t2 : Tok) (I : Addr) (oI : Obj) (m₁ : Str → Option Value) (h₁ : Heap) (tk₁ : Nat), (b, c) ∈ ps → Keep m₁ → I ≠ P → (∀ q ∈ tail, q.1 ≠ I) → Fr h₀ L h₁ (fun z => if z = y then some (.str c t2) else if z = x then some (.int b t1) else m₁ z) →
      News h₀ L h₁ ((P, listOf vs.toArray n) :: (I, oI) :: tail) →
      wpAny (model prog w) A (execs body env) (SEnd h₀ L s P vs n ((I, oI) :: tail) Keep (cond (b, c)) c) (fun _ _ => False) { s with heap := h₁, toks := tk₁ })
    (els : ∀ (m₁ : Str → Option Value) (h₁ : Heap) (tk₁ : Nat), Keep m₁ → Fr h₀ L h₁ m₁ → News h₀ L h₁ ((P, listOf vs.toArray n) :: tail) →
      wpAny (model prog w) A (execs orelse env) (EEnd h₀ L s P vs n tail Keep dflt) (fun _ _ => False) { s with heap := h₁, toks := tk₁ })
    (h : ∀ (m' : Str → Option Value) (h' : Heap) (tk' : Nat) (t : Tok), Keep m' → Fr h₀ L h' m' → News h₀ L h' ((P, listOf (vs.toArray.push (.str (foundIn cond dflt ps) t)) (n + 1)) :: tail) → Q .next { s with heap := h', toks := tk' }) :
    wpAny (model prog w) A (pyIter (.ref tab)) (fun it s₂ => codeAny (model prog w) A (.forLoop (.Tuple [.Name x p1, .Name y p2] k0 p3) it body orelse env)
      (fun r s' => match r with | .ok f => Q f s' | .error e => cameBackBy (model prog w) A env E e s') s₂) E s := by
  subst henv
  exact searchT cond dflt Keep hh hT F N hK hk hx hy turn els h
end
end Mine
end
section
open PySem PySem.W PyProof.Rows
set_option maxRecDepth 100000
set_option maxHeartbeats 8000000
namespace Mine
/-- a call's contract: the answer, the ledger as it was, the tokens grown -/
def Clm (w : World) (p : Program) (loose : List Str) (mean : ExcName → Option Value) (mg mb : Str → Option Value) (n : Nat) (f : Addr) (news : List (Addr × Obj)) (pre : Nat → Prop) (vs : List Value) (R : Tok → Value) : Prop :=
  ∀ (dp un : Nat) (gd : Option (List Code)) (cn : Str) (cs : Scope) (a : Addr) (ccd : Value) (cl : List (Str × Addr)) (outer : List Env) (A₀ : Around) (base h₀ : Heap) (L : Addr) (m : Str → Option Value) (s : Shared) (Q E : Value → Shared → Prop),
    Below A₀ base outer h₀ → Fr h₀ L s.heap m → (hd.heap_39 w.params).In h₀ → News h₀ L s.heap news → Top p loose mean mg mb h₀ → cs.kind = .function → pre s.toks → dp + n < recursionLimit → un + 8 * n < cLine →
    (∀ (t : Tok) (h' : Heap) (tk' : Nat), s.toks ≤ tk' → Fr h₀ L h' m → News h₀ L h' news → Q (R t) { s with heap := h', toks := tk' }) →
    wpAny (model PySem.Challenge.rw_op0114_01.row.prog w) (ktrTop dp un gd cn cs L a ccd cl outer) (call (.ref f) vs) Q E s

section
variable {h₀ : Heap} {L : Addr} {m : Str → Option Value} {news : List (Addr × Obj)} {s : Shared} {Q : Value → Shared → Prop} {h' : Heap} {tk' : Nat}
theorem clm_str {x y : Str} {t : Tok}
    (hret : ∀ (t : Tok) (h' : Heap) (tk' : Nat), s.toks ≤ tk' → Fr h₀ L h' m → News h₀ L h' news → Q (.str x t) { s with heap := h', toks := tk' }) (e : y = x) (hk : s.toks ≤ tk')
    (F : Fr h₀ L h' m) (N : News h₀ L h' news) : Q (.str y t) { s with heap := h', toks := tk' } := by
  subst e
  exact hret t h' tk' hk F N
theorem clm_int {x y : Int} {t : Tok}
    (hret : ∀ (t : Tok) (h' : Heap) (tk' : Nat), s.toks ≤ tk' → Fr h₀ L h' m → News h₀ L h' news → Q (.int x t) { s with heap := h', toks := tk' }) (e : y = x) (hk : s.toks ≤ tk')
    (F : Fr h₀ L h' m) (N : News h₀ L h' news) : Q (.int y t) { s with heap := h', toks := tk' } := by
  subst e
  exact hret t h' tk' hk F N
end

def escS (k : Nat) (x : Str) : Str := (escSteps k).foldl (fun x q => Txt.replace x (ofL q.1) (ofL q.2)) x

theorem wp_gen {α : Type} {M : Model} {A : Around} {T : Sem α} {Q : α → Shared → Prop} {E : Value → Shared → Prop} {hp : Heap} {g d o} {n : Nat}
    (h : ∀ k, n ≤ k → wpAny M A T Q E ⟨hp, g, d, k, o⟩) : wpAny M A T Q E ⟨hp, g, d, n, o⟩ := h n (Nat.le_refl _)

local macro_rules | `(tactic| walk_at "execs cons") => `(tactic| (k_here; (with_reducible show wpAny _ _ _ _ _ (Shared.mk _ _ _ (_ + _) _)); with_reducible refine wp_gen ?_; intro tk9 htk9; (try dsimp only at htk9)))
local macro_rules | `(tactic| walk_at "exec If") => `(tactic| (k_here; k_dflt (refine' esc_if ?F ?N ?m ?s ?yz ?y1 ?z1 ?z6 ?b ?_ ?k ?l ?e; (case F => k_asm); (case N => k_asm); (case m => rfl); (case s => ((try dsimp only); omega)); (case yz => decide); (case y1 => rfl); (case z1 => decide); (case z6 => decide); (case b => omega); (case k => rfl); (case l => rfl); (case e => with_unfolding_all rfl)); intro t' h' tk' F' N' htk' hlen'; (try dsimp only at htk')))

theorem c_esc0 {w p loose mean mg mb} {news} (x : Str) (t : Tok) (hx : x.length ≤ 31) : Clm w p loose mean mg mb 2 28 news (fun n => 1 ≤ n) [Value.str x t] (fun t => Value.str (escS 0 x) t) := by
  unfold Clm
  k_fill
  intro dp un gd cn cs a ccd cl outer A₀ base h₀ L m s Q E B F X N T hk hpre hd hu hret
  refine wpAny_call ?_
  k_dflt cell_enter
  k_steps
  exact clm_str hret (by kernel_rfl) (by omega) (by assumption) (by assumption)
theorem c_esc1 {w p loose mean mg mb} {news} (x : Str) (t : Tok) (hx : x.length ≤ 31) : Clm w p loose mean mg mb 2 35 news (fun n => 1 ≤ n) [Value.str x t] (fun t => Value.str (escS 1 x) t) := by
  unfold Clm
  k_fill
  intro dp un gd cn cs a ccd cl outer A₀ base h₀ L m s Q E B F X N T hk hpre hd hu hret
  refine wpAny_call ?_
  k_dflt cell_enter
  k_steps
  exact clm_str hret (by kernel_rfl) (by omega) (by assumption) (by assumption)
theorem c_esc2 {w p loose mean mg mb} {news} (x : Str) (t : Tok) (hx : x.length ≤ 31) : Clm w p loose mean mg mb 2 42 news (fun n => 1 ≤ n) [Value.str x t] (fun t => Value.str (escS 2 x) t) := by
  unfold Clm
  k_fill
  intro dp un gd cn cs a ccd cl outer A₀ base h₀ L m s Q E B F X N T hk hpre hd hu hret
  refine wpAny_call ?_
  k_dflt cell_enter
  k_steps
  exact clm_str hret (by kernel_rfl) (by omega) (by assumption) (by assumption)
theorem c_esc3 {w p loose mean mg mb} {news} (x : Str) (t : Tok) (hx : x.length ≤ 31) : Clm w p loose mean mg mb 2 49 news (fun n => 1 ≤ n) [Value.str x t] (fun t => Value.str (escS 3 x) t) := by
  unfold Clm
  k_fill
  intro dp un gd cn cs a ccd cl outer A₀ base h₀ L m s Q E B F X N T hk hpre hd hu hret
  refine wpAny_call ?_
  k_dflt cell_enter
  k_steps
  exact clm_str hret (by kernel_rfl) (by omega) (by assumption) (by assumption)
theorem c_esc4 {w p loose mean mg mb} {news} (x : Str) (t : Tok) (hx : x.length ≤ 31) : Clm w p loose mean mg mb 2 56 news (fun n => 1 ≤ n) [Value.str x t] (fun t => Value.str (escS 4 x) t) := by
  unfold Clm
  k_fill
  intro dp un gd cn cs a ccd cl outer A₀ base h₀ L m s Q E B F X N T hk hpre hd hu hret
  refine wpAny_call ?_
  k_dflt cell_enter
  k_steps
  exact clm_str hret (by kernel_rfl) (by omega) (by assumption) (by assumption)
end Mine
end
section
open PySem PySem.W PyProof.Rows
set_option maxRecDepth 100000
set_option maxHeartbeats 8000000
namespace Mine
theorem Clm.use {w : World} {p : Program} {loose : List Str} {mean : ExcName → Option Value} {mg mb : Str → Option Value} {n : Nat} {f : Addr} {news : List (Addr × Obj)} {pre : Nat → Prop} {vs : List Value} {R : Tok → Value}
    {dp un : Nat} {gd : Option (List Code)} {cn : Str} {cs : Scope} {a : Addr} {ccd : Value} {cl : List (Str × Addr)} {outer : List Env} {A₀ : Around} {base h₀ : Heap} {L : Addr} {m : Str → Option Value} {s : Shared} {Q E : Value → Shared → Prop}
    (C : Clm w p loose mean mg mb n f news pre vs R) (B : Below A₀ base outer h₀) (F : Fr h₀ L s.heap m) (X : (hd.heap_39 w.params).In h₀) (N : News h₀ L s.heap news) (T : Top p loose mean mg mb h₀) (hk : cs.kind = .function) (hp : pre s.toks) (hd : dp + n < recursionLimit) (hu : un + 8 * n < cLine)
    (ret : ∀ (t : Tok) (h' : Heap) (tk' : Nat), s.toks ≤ tk' → Fr h₀ L h' m → News h₀ L h' news → Q (R t) { s with heap := h', toks := tk' }) :
    wpAny (model PySem.Challenge.rw_op0114_01.row.prog w) (ktrTop dp un gd cn cs L a ccd cl outer) (call (.ref f) vs) Q E s :=
  C _ _ _ _ _ _ _ _ _ _ _ _ _ _ _ _ _ B F X N T hk hp hd hu ret
local macro_rules | `(tactic| walk_at "execs cons") => `(tactic| (k_here; (with_reducible show wpAny _ _ _ _ _ (Shared.mk _ _ _ (_ + _) _)); with_reducible refine wp_gen ?_; intro tk9 htk9; (try dsimp only at htk9)))
local macro_rules | `(tactic| walk_at "execs nil") => `(tactic| (k_here; (with_reducible show wpAny _ _ _ _ _ (Shared.mk _ _ _ (_ + _) _)); with_reducible refine wp_gen ?_; intro tk9 htk9; (try dsimp only at htk9)))
local macro_rules | `(tactic| walk_at "call ref") => `(tactic| (k_here; k_dflt (refine' Clm.use (c_esc0 _ _ ?hx) ?B ?F ?X ?N ?T ?k ?pre ?d ?u ?_; (case hx => omega); (case B => k_asm); (case F => k_asm); (case X => k_asm); (case N => k_asm); (case T => k_asm); (case k => rfl); (case pre => ((try dsimp only); omega)); (case d => ktr_room); (case u => ktr_units)); intro t9 h9 tk9 htk9 F9 N9; (try dsimp only at htk9); (try dsimp only); (try k_fold)))
local macro_rules | `(tactic| walk_at "call ref") => `(tactic| (k_here; k_dflt (refine' Clm.use (c_esc1 _ _ ?hx) ?B ?F ?X ?N ?T ?k ?pre ?d ?u ?_; (case hx => omega); (case B => k_asm); (case F => k_asm); (case X => k_asm); (case N => k_asm); (case T => k_asm); (case k => rfl); (case pre => ((try dsimp only); omega)); (case d => ktr_room); (case u => ktr_units)); intro t9 h9 tk9 htk9 F9 N9; (try dsimp only at htk9); (try dsimp only); (try k_fold)))
local macro_rules | `(tactic| walk_at "call ref") => `(tactic| (k_here; k_dflt (refine' Clm.use (c_esc2 _ _ ?hx) ?B ?F ?X ?N ?T ?k ?pre ?d ?u ?_; (case hx => omega); (case B => k_asm); (case F => k_asm); (case X => k_asm); (case N => k_asm); (case T => k_asm); (case k => rfl); (case pre => ((try dsimp only); omega)); (case d => ktr_room); (case u => ktr_units)); intro t9 h9 tk9 htk9 F9 N9; (try dsimp only at htk9); (try dsimp only); (try k_fold)))
local macro_rules | `(tactic| walk_at "call ref") => `(tactic| (k_here; k_dflt (refine' Clm.use (c_esc3 _ _ ?hx) ?B ?F ?X ?N ?T ?k ?pre ?d ?u ?_; (case hx => omega); (case B => k_asm); (case F => k_asm); (case X => k_asm); (case N => k_asm); (case T => k_asm); (case k => rfl); (case pre => ((try dsimp only); omega)); (case d => ktr_room); (case u => ktr_units)); intro t9 h9 tk9 htk9 F9 N9; (try dsimp only at htk9); (try dsimp only); (try k_fold)))
local macro_rules | `(tactic| walk_at "call ref") => `(tactic| (k_here; k_dflt (refine' Clm.use (c_esc4 _ _ ?hx) ?B ?F ?X ?N ?T ?k ?pre ?d ?u ?_; (case hx => omega); (case B => k_asm); (case F => k_asm); (case X => k_asm); (case N => k_asm); (case T => k_asm); (case k => rfl); (case pre => ((try dsimp only); omega)); (case d => ktr_room); (case u => ktr_units)); intro t9 h9 tk9 htk9 F9 N9; (try dsimp only at htk9); (try dsimp only); (try k_fold)))
theorem c_wri0 {w p loose mean mg mb} {news} (x : Str) (t t2 : Tok) (hx : x.length ≤ 31) : Clm w p loose mean mg mb 4 119 news (fun n => 1 ≤ n) [Value.int 0 t2, Value.str x t] (fun t => Value.str (escS 0 x) t) := by
  unfold Clm
  k_fill
  intro dp un gd cn cs a ccd cl outer A₀ base h₀ L m s Q E B F X N T hk hpre hd hu hret
  refine wpAny_call ?_
  k_dflt cell_enter
  k_steps
  exact clm_str hret rfl (by omega) (by assumption) (by assumption)
theorem c_wri1 {w p loose mean mg mb} {news} (x : Str) (t t2 : Tok) (hx : x.length ≤ 31) : Clm w p loose mean mg mb 4 119 news (fun n => 1 ≤ n) [Value.int 1 t2, Value.str x t] (fun t => Value.str (escS 1 x) t) := by
  unfold Clm
  k_fill
  intro dp un gd cn cs a ccd cl outer A₀ base h₀ L m s Q E B F X N T hk hpre hd hu hret
  refine wpAny_call ?_
  k_dflt cell_enter
  k_steps
  exact clm_str hret rfl (by omega) (by assumption) (by assumption)
theorem c_wri2 {w p loose mean mg mb} {news} (x : Str) (t t2 : Tok) (hx : x.length ≤ 31) : Clm w p loose mean mg mb 4 119 news (fun n => 1 ≤ n) [Value.int 2 t2, Value.str x t] (fun t => Value.str (escS 2 x) t) := by
  unfold Clm
  k_fill
  intro dp un gd cn cs a ccd cl outer A₀ base h₀ L m s Q E B F X N T hk hpre hd hu hret
  refine wpAny_call ?_
  k_dflt cell_enter
  k_steps
  exact clm_str hret rfl (by omega) (by assumption) (by assumption)
theorem c_wri3 {w p loose mean mg mb} {news} (x : Str) (t t2 : Tok) (hx : x.length ≤ 31) : Clm w p loose mean mg mb 4 119 news (fun n => 1 ≤ n) [Value.int 3 t2, Value.str x t] (fun t => Value.str (escS 3 x) t) := by
  unfold Clm
  k_fill
  intro dp un gd cn cs a ccd cl outer A₀ base h₀ L m s Q E B F X N T hk hpre hd hu hret
  refine wpAny_call ?_
  k_dflt cell_enter
  k_steps
  exact clm_str hret rfl (by omega) (by assumption) (by assumption)
theorem c_wri4 {w p loose mean mg mb} {news} (x : Str) (t t2 : Tok) (hx : x.length ≤ 31) : Clm w p loose mean mg mb 4 119 news (fun n => 1 ≤ n) [Value.int 4 t2, Value.str x t] (fun t => Value.str (escS 4 x) t) := by
  unfold Clm
  k_fill
  intro dp un gd cn cs a ccd cl outer A₀ base h₀ L m s Q E B F X N T hk hpre hd hu hret
  refine wpAny_call ?_
  k_dflt cell_enter
  k_steps
  exact clm_str hret rfl (by omega) (by assumption) (by assumption)
end Mine
end
section
open PySem PySem.W PyProof.Rows
set_option maxRecDepth 100000
set_option maxHeartbeats 8000000
namespace Mine
local macro_rules | `(tactic| walk_at "execs cons") => `(tactic| (k_here; (with_reducible show wpAny _ _ _ _ _ (Shared.mk _ _ _ (_ + _) _)); with_reducible refine wp_gen ?_; intro tk9 htk9; (try dsimp only at htk9)))
local macro_rules | `(tactic| walk_at "execs nil") => `(tactic| (k_here; (with_reducible show wpAny _ _ _ _ _ (Shared.mk _ _ _ (_ + _) _)); with_reducible refine wp_gen ?_; intro tk9 htk9; (try dsimp only at htk9)))

/-- what the escape of this k gives -/
structure WriOk (w : World) (p : Program) (loose : List Str) (mean : ExcName → Option Value) (mg mb : Str → Option Value) (kv : Int) (esc : Str → Str) : Prop where
  use : ∀ (news : List (Addr × Obj)) (x : Str) (t t2 : Tok), x.length ≤ 31 → Clm w p loose mean mg mb 4 119 news (fun n => 1 ≤ n) [Value.int kv t2, Value.str x t] (fun t => Value.str (esc x) t)
  len : ∀ x : Str, x.length ≤ 31 → (esc x).length ≤ 2396744
theorem WriOk.call {w : World} {p : Program} {loose : List Str} {mean : ExcName → Option Value} {mg mb : Str → Option Value} {kv : Int} {esc : Str → Str}
    {dp un : Nat} {gd : Option (List Code)} {cn : Str} {cs : Scope} {a : Addr} {ccd : Value} {cl : List (Str × Addr)} {outer : List Env} {A₀ : Around} {base h₀ : Heap} {L : Addr} {m : Str → Option Value} {news : List (Addr × Obj)} {s : Shared} {x : Str} {t t2 : Tok} {Q E : Value → Shared → Prop}
    (C : WriOk w p loose mean mg mb kv esc) (hx : x.length ≤ 31) (B : Below A₀ base outer h₀) (F : Fr h₀ L s.heap m) (X : (hd.heap_39 w.params).In h₀) (N : News h₀ L s.heap news) (T : Top p loose mean mg mb h₀) (hk : cs.kind = .function) (hp : 1 ≤ s.toks) (hd : dp + 4 < recursionLimit) (hu : un + 8 * 4 < cLine)
    (ret : ∀ (t : Tok) (h' : Heap) (tk' : Nat), s.toks ≤ tk' → (esc x).length ≤ 2396744 → Fr h₀ L h' m → News h₀ L h' news → Q (.str (esc x) t) { s with heap := h', toks := tk' }) :
    wpAny (model PySem.Challenge.rw_op0114_01.row.prog w) (ktrTop dp un gd cn cs L a ccd cl outer) (PySem.call (.ref 119) [.int kv t2, .str x t]) Q E s :=
  Clm.use (C.use news x t t2 hx) B F X N T hk hp hd hu fun t' h' tk' a b c => ret t' h' tk' a (C.len x hx) b c
local macro_rules | `(tactic| walk_at "call ref") => `(tactic| (k_here; k_dflt (refine' WriOk.call ?C ?hx ?B ?F ?X ?N ?T ?k ?pre ?d ?u ?_; (case C => assumption); (case hx => omega); (case B => k_asm); (case F => k_asm); (case X => k_asm); (case N => k_asm); (case T => k_asm); (case k => rfl); (case pre => ((try dsimp only); omega)); (case d => ktr_room); (case u => ktr_units)); intro t9 h9 tk9 htk9 hlen9 F9 N9; (try dsimp only at htk9); (try dsimp only); (try k_fold)))

/-- a function object that leads a text by a sign -/
def CallsTo (w : World) (p : Program) (loose : List Str) (mean : ExcName → Option Value) (mg mb : Str → Option Value) (need : List (Addr × Obj)) (f : Addr) (G : Str → Str → Str) : Prop :=
  ∀ (dp un : Nat) (gd : Option (List Code)) (cn : Str) (cs : Scope) (a : Addr) (ccd : Value) (cl : List (Str × Addr)) (outer : List Env) (A₀ : Around) (base h₀ : Heap) (L : Addr) (m : Str → Option Value) (news : List (Addr × Obj)) (s : Shared) (x y : Str) (t ty : Tok) (Q E : Value → Shared → Prop),
    Below A₀ base outer h₀ → Fr h₀ L s.heap m → (hd.heap_39 w.params).In h₀ → News h₀ L s.heap news → (∀ q ∈ need, q ∈ news) → Top p loose mean mg mb h₀ → cs.kind = .function → x.length ≤ 31 → y.length = 1 → ty ≠ 0 → @LE.le Nat _ ty s.toks → 1 ≤ s.toks → dp + 6 < recursionLimit → un + 8 * 6 < cLine →
    (∀ (t : Tok) (h' : Heap) (tk' : Nat), s.toks ≤ tk' → Fr h₀ L h' m → News h₀ L h' news → Q (.str (G x y) t) { s with heap := h', toks := tk' }) →
    wpAny (model PySem.Challenge.rw_op0114_01.row.prog w) (ktrTop dp un gd cn cs L a ccd cl outer) (call (.ref f) [.str x t, .str y ty]) Q E s

theorem TupsAre.mono {news news' : List (Addr × Obj)} {items : Array Value} {ps : List (Str × Str)} (h : TupsAre news items ps) (hs : ∀ q ∈ news, q ∈ news') : TupsAre news' items ps :=
  ⟨h.1, fun i v hv => by
    obtain ⟨p, T, o, n, t1, t2, a, b, c, d⟩ := h.2 i v hv
    exact ⟨p, T, o, n, t1, t2, a, b, hs _ c, d⟩⟩

/-- the table of the codes that a def has made: none yet, or this one -/
def TabSt (news : List (Addr × Obj)) (pos : Pos) (qual : Str) (tb : Array Value) : Prop :=
  tb = #[] ∨ ∃ (c : Addr) (oc : Obj) (vs : Array Value) (t : Tok), tb = #[rawInt pos.line, rawInt pos.col, .ref c] ∧ (c, oc) ∈ news ∧ oc.data = .fields vs ∧ vs[1]? = some (.str qual t)

section
variable {M : Model} {A : Around} {E : Value → Shared → Prop} {s : Shared} {h₀ : Heap} {L a c P : Addr} {m mg mb : Str → Option Value} {cn : Str} {cs : Scope} {ccd : Value} {cl : List (Str × Addr)} {news : List (Addr × Obj)} {g : Obj → List (Addr × Obj)}
  {p : Program} {loose : List Str} {mean : ExcName → Option Value} {name qual : Str} {params : Arguments} {body : List Stmt} {scope : Scope} {ps : Array Value} {pos : Pos} {firstLine : Nat} {clos : List (Str × Addr)}
theorem nestAny {Q : Value → Shared → Prop} {sub : List (Addr × Obj)} (hsub : ∀ q ∈ sub, q ∈ news) (F : Fr h₀ L s.heap m) (N : News h₀ L s.heap news) (T : Top p loose mean mg mb h₀) (C : CodeHd h₀ c P) (hcd : ccd = .ref c) (U : UpdF P (tabObj ps) news g) (st : TabSt sub pos qual ps)
    (hcl : closureFor scope (envX cn cs L a ccd cl) = pure clos)
    (h : ∀ f c' oc vs t ctv doc h' tk, Fr h₀ L h' m →
      News h₀ L h' ((f, fnMade name qual params body scope clos doc ((mg "__name__").getD .none) c' ctv) :: (c', oc) :: g (tabObj #[rawInt pos.line, rawInt pos.col, .ref c'])) →
      oc.data = .fields vs → vs[1]? = some (.str qual t) → ((∀ q ∈ news, q.1 < c') ∨ (c', oc) ∈ sub) → (∀ q ∈ news, q.1 < f) → Q (.ref f) { s with heap := h', toks := tk }) :
    wpAny M A (makeFunction name qual params (.stmts body) scope (envX cn cs L a ccd cl) [] [] [] pos firstLine) Q E s := by
  rcases st with rfl | ⟨c', oc, vs, t, rfl, hm, hd, hv⟩
  · refine nest_K F N T C hcd U trivial rfl hcl fun f c' oc vs t ctv doc h' tk F' N' hd hv l1 l2 => ?_
    exact h f c' oc vs t ctv doc h' tk F' (by simpa using N') hd hv (.inl l1) fun q hq => Nat.lt_trans (l1 q hq) l2
  · obtain ⟨pre, post, e1, e2, _, _⟩ := U.split
    refine nestHit_K F N T C hcd (by rw [e1]; exact List.mem_append_right _ (.head _)) (by simp [TriplesOk, rawInt]) (by simp [codeAmong, rawInt]; rfl) hcl fun f ctv doc h' tk F' N' l1 => ?_
    refine h f c' oc vs t ctv doc h' tk F' (fun q hq => ?_) hd hv (.inr hm) l1
    rw [e2, ← e1] at hq
    rcases List.mem_cons.mp hq with rfl | hq
    · exact N' _ (List.mem_cons_self ..)
    · rcases List.mem_cons.mp hq with rfl | hq
      · exact N' _ (List.mem_cons_of_mem _ (hsub _ hm))
      · exact N' _ (List.mem_cons_of_mem _ hq)
end
def ledG (esc : Str → Str) (ps : List (Str × Str)) (x y : Str) : Str := decF (esc x) y ps ++ y
def ledQual : Str := Str.ofString "_law_leader.<locals>._law_led"

theorem c_leader {w p loose mean mg mb} (kv : Int) (esc : Str → Str) (C : WriOk w p loose mean mg mb kv esc) (rest : List (Addr × Obj)) (hne : ∀ q ∈ rest, q.1 ≠ 128) (sp : Addr) (items : Array Value) (n : Nat) (ps : List (Str × Str)) (hsp : (sp, listOf items n) ∈ rest) (hT : TupsAre rest items.toList.reverse.toArray ps)
  (hsz : items.size ≤ sizeLine) (hps : ∀ p ∈ ps, p.1.length = 1 ∧ 2 ≤ p.2.length ∧ p.2.length ≤ 6) (t : Tok) (tb : Array Value) (st : TabSt rest ⟨153, 4, 157, 25⟩ ledQual tb)
  (dp un : Nat) (gd : Option (List Code)) (cn : Str) (cs : Scope) (a : Addr) (ccd : Value) (cl : List (Str × Addr)) (outer : List Env) (A₀ : Around) (base h₀ : Heap) (L : Addr) (m : Str → Option Value) (s : Shared) (Q E : Value → Shared → Prop) :
    Below A₀ base outer h₀ → Fr h₀ L s.heap m → (hd.heap_39 w.params).In h₀ → News h₀ L s.heap ((128, tabObj tb) :: rest) → CodeHd base 132 128 → Top p loose mean mg mb h₀ → cs.kind = .function → dp + 10 < recursionLimit → un + 8 * 10 < cLine →
    (∀ f of c' oc cp ocp ck ock tb' h' tk', s.toks ≤ tk' → Fr h₀ L h' m → News h₀ L h' ((f, of) :: (c', oc) :: (cp, ocp) :: (ck, ock) :: (128, tabObj tb') :: rest) → TabSt ((c', oc) :: []) ⟨153, 4, 157, 25⟩ ledQual tb' →
      ((∀ q ∈ rest, q.1 < c') ∨ (c', oc) ∈ rest) → (∀ q ∈ rest, q.1 < ck) → (∀ q ∈ rest, q.1 < cp) → (∀ q ∈ rest, q.1 < f) → (∃ fd : FuncData, of = ({ cls := .type "function", data := .func fd } : Obj)) → CallsTo w p loose mean mg mb ((f, of) :: (c', oc) :: (cp, ocp) :: (ck, ock) :: rest) f (ledG esc ps) → Q (.ref f) { s with heap := h', toks := tk' }) →
    wpAny (model PySem.Challenge.rw_op0114_01.row.prog w) (ktrTop dp un gd cn cs L a ccd cl outer) (call (.ref 133) [.int kv t, .ref sp]) Q E s := by
  k_fill
  intro B F X N HC T hk hd hu hret
  refine wpAny_with_toks (Nat.le_refl _) ?_
  refine wpAny_call ?_
  k_dflt (refine' code_defC ?k1 ?k2 ?k3 ?k4 ?k5 ?kA ?kF ?kK ?k6 ?k7 ?k8 ?k9 ?kB ?kD ?_ ?c2 ?c3 ?c4; (case kA => exact rfl); (case kF => exact rfl); (case kK => assumption); (case k1 => k_asm); (case k2 => k_asm); (case k3 => k_asm); (case k4 => k_asm); (case k5 => k_asm); (case k6 => k_is); (case k7 => k_is); (case k8 => ktr_room); (case k9 => exact BindsTo.of_eq rfl); (case kB => exact rfl); (case kD => decide +kernel); (case c2 => exact rfl); (case c3 => exact rfl); (case c4 => exact rfl); k_whole; intro g' L' h' tk' cells' FG' F' N' Y' B' X' T' l0; k_cells Y'; (try simp only [List.cons_append, List.nil_append] at N'); (try dsimp only); (try k_lift B'); (try k_fold))
  have l1 := l0; k_lt l1
  walk1
  k_dflt (refine' nestDef_K ?d0 ?k0 ?a0 ?_; (case d0 => exact rfl); (case k0 => exact rfl); (case a0 => exact rfl))
  k_dflt (refine' nestAny (sub := rest) (ps := tb) ?sb ?F ?N ?T ?C ?cd ?U st ?cl ?_; (case F => k_asm); (case N => k_asm); (case sb => exact fun q hq => List.Mem.tail _ (List.Mem.tail _ (List.Mem.tail _ hq))); (case T => k_asm); (case cd => exact rfl); (case C => kn_code); (case U => exact UpdF.tail (by k_ne) (UpdF.tail (by k_ne) (UpdF.head hne))); (case cl => exact rfl); k_whole)
  intro f' c' oc' vs' t' ct' dc' h' tk' F' N' d1' d2' l3 l4
  (try dsimp only at N')
  have l5 := l4; k_lt l5
  k_steps
  refine hret f' _ c' oc' _ _ _ _ _ _ _ (by assumption) (by assumption) (by assumption) ?_ ?_ ?_ ?_ ?_ ⟨_, rfl⟩ ?_
  · exact .inr ⟨c', oc', vs', t', rfl, .head _, d1', d2'⟩
  · exact l3.imp (fun h q hq => h q (.tail _ (.tail _ (.tail _ hq)))) id
  · exact fun q hq => Nat.lt_succ_of_lt (l0 q (.tail _ hq))
  · exact fun q hq => Nat.lt_succ_of_lt (Nat.lt_succ_of_lt (l0 q (.tail _ hq)))
  · exact fun q hq => l4 q (.tail _ (.tail _ (.tail _ hq)))
  · unfold CallsTo
    intro dp2 un2 gd2 cn2 cs2 a2 ccd2 cl2 outer2 A2 base2 h2 L2 m2 news2 s2 x y tx ty Q2 E2 B2 F2 X2 N2 need2 T2 hk2 hx hy hty0 hty htoks hd2 hu2 hret2
    have hf := need2 _ (.head _)
    have hc := need2 _ (.tail _ (.head _))
    have hcp := need2 _ (.tail _ (.tail _ (.head _)))
    have hck := need2 _ (.tail _ (.tail _ (.tail _ (.head _))))
    have hsp2 := need2 _ (.tail _ (.tail _ (.tail _ (.tail _ hsp))))
    have hT2 := hT.mono (fun q hq => need2 q (.tail _ (.tail _ (.tail _ (.tail _ hq)))))
    refine wpAny_with_toks (Nat.le_refl _) ?_
    refine wpAny_call ?_
    k_dflt (refine' code_nest ?k1 ?k2 ?k3 ?k4 ?k5 ?kA ?kF ?kK ?k6 ?k7 ?k8 ?k9 ?kB ?_ ?c2 ?c3 ?c4 ?c5; (case kA => exact rfl); (case kF => exact rfl); (case kK => exact hk2); (case k1 => exact B2); (case k2 => exact F2); (case k3 => exact X2); (case k4 => exact N2); (case k5 => exact T2); (case k6 => exact hf); (case k7 => exact codeRec_news N2 hc d1' d2'); (case k8 => ktr_room); (case k9 => exact BindsTo.of_eq rfl); (case c5 => decide); (case kB => exact locs rfl); (case c2 => exact rfl); (case c3 => exact rfl); (case c4 => exact rfl); k_whole; intro g3 L3 h3 FG3 F3 N3 B3 X3 T3; (try dsimp only); (try k_lift B3); (try k_fold))
    iterate 24 (first | (with_reducible show wpAny _ _ (exec (Stmt.For _ _ _ _ _) _) _ _ _) | (dsimp only; walk1) | walk1)
    k_dflt (refine wpAny_For ?_ (by intro _; rfl))
    iterate 12 (first | (with_reducible show wpAny _ _ (subscriptTail _ _ _ _) _ _ _) | walk1)
    k_dflt (refine' krv_lit (its := items) (zs := items.toList.reverse) ?F ?N ?l ?k rfl ?_ ?s ?t ?z; (case F => k_asm); (case N => k_asm); (case l => exact News.isList (by assumption) hsp2); (case k => exact IsPart.int _ _); (case s => with_unfolding_all rfl); (case t => kmk_pure); (case z => exact hsz))
    intro D9 h9 F9 N9 l9
    (try dsimp only)
    k_dflt (refine' led_iter (ax := D9) (items := items.toList.reverse.toArray) (ps := ps) ?hh ?src ?F ?N ?T hps ?led ?sg hty0 ?ts hy ?b ?_ ?k ?h1 ?h2 ?h3 ?h4 ?he; (case hh => rfl); (case F => k_asm); (case N => k_asm); (case src => exact .inr ⟨_, List.Mem.head _, rfl, _, rfl⟩); (case T => exact hT2.mono (fun q hq => List.Mem.tail _ hq)); (case led => rfl); (case sg => rfl); (case ts => exact Nat.le_trans hty (by (try dsimp only); omega)); (case b => assumption); (case k => rfl); (case h1 => rfl); (case h2 => rfl); (case h3 => rfl); (case h4 => rfl); (case he => with_unfolding_all rfl))
    intro m8 t8 h8 tk8 F8 N8 htk8 hlen8
    (try dsimp only at htk8)
    (try dsimp only)
    (try k_fold)
    k_steps
    rename News h2 L2 _ (_ :: news2) => kN9
    exact clm_str hret2 rfl (by assumption) (by assumption) (fun q hq => kN9 q (List.Mem.tail _ hq))
end Mine
end
section
open PySem PySem.W PyProof.Rows
set_option maxRecDepth 100000
set_option maxHeartbeats 8000000
namespace Mine
local macro_rules | `(tactic| walk_at "no step of this name 1") => `(tactic| fail)
local macro_rules | `(tactic| walk_at "execs cons") => `(tactic| (k_here; (with_reducible show wpAny _ _ _ _ _ (Shared.mk _ _ _ (_ + _) _)); with_reducible refine wp_gen ?_; intro tk9 htk9; (try dsimp only at htk9)))
local macro_rules | `(tactic| walk_at "execs nil") => `(tactic| (k_here; (with_reducible show wpAny _ _ _ _ _ (Shared.mk _ _ _ (_ + _) _)); with_reducible refine wp_gen ?_; intro tk9 htk9; (try dsimp only at htk9)))

local macro_rules | `(tactic| walk_at "compareOp Is str ref") => `(tactic| (k_here; refine is_str_ref ?_))
theorem CallsTo.use {w : World} {p : Program} {loose : List Str} {mean : ExcName → Option Value} {mg mb : Str → Option Value} {need : List (Addr × Obj)} {f : Addr} {G : Str → Str → Str}
    {dp un : Nat} {gd : Option (List Code)} {cn : Str} {cs : Scope} {a : Addr} {ccd : Value} {cl : List (Str × Addr)} {outer : List Env} {A₀ : Around} {base h₀ : Heap} {L : Addr} {m : Str → Option Value} {news : List (Addr × Obj)} {s : Shared} {x y : Str} {t ty : Tok} {Q E : Value → Shared → Prop}
    (C : CallsTo w p loose mean mg mb need f G) (B : Below A₀ base outer h₀) (F : Fr h₀ L s.heap m) (X : (hd.heap_39 w.params).In h₀) (N : News h₀ L s.heap news) (hn : ∀ q ∈ need, q ∈ news) (T : Top p loose mean mg mb h₀) (hk : cs.kind = .function) (hx : x.length ≤ 31) (hy : y.length = 1) (h0 : ty ≠ 0) (hty : @LE.le Nat _ ty s.toks) (h1 : 1 ≤ s.toks)
    (hd : dp + 6 < recursionLimit) (hu : un + 8 * 6 < cLine)
    (ret : ∀ (t : Tok) (h' : Heap) (tk' : Nat), s.toks ≤ tk' → Fr h₀ L h' m → News h₀ L h' news → Q (.str (G x y) t) { s with heap := h', toks := tk' }) :
    wpAny (model PySem.Challenge.rw_op0114_01.row.prog w) (ktrTop dp un gd cn cs L a ccd cl outer) (call (.ref f) [.str x t, .str y ty]) Q E s :=
  C _ _ _ _ _ _ _ _ _ _ _ _ _ _ _ _ _ _ _ _ _ _ B F X N hn T hk hx hy h0 hty h1 hd hu ret

/-- the text after i signs -/
def foldG (G : Str → Str → Str) (ys : List (Str × Tok)) (i : Nat) : Str := (ys.take i).foldl (fun x y => G x y.1) (Str.ofString "")

theorem foldG_snoc {G : Str → Str → Str} {ys : List (Str × Tok)} {i : Nat} {y : Str × Tok} (h : ys[i]? = some y) : foldG G ys (i + 1) = G (foldG G ys i) y.1 := by
  unfold foldG
  rw [List.take_add_one, h, List.foldl_append]
  rfl
theorem c_reduce {w p loose mean mg mb} (need news : List (Addr × Obj)) (f sh : Addr) (G : Str → Str → Str) (C : CallsTo w p loose mean mg mb need f G) (hneed : ∀ q ∈ need, q ∈ news) (ys : List (Str × Tok)) (n : Nat) (fd : FuncData) (hf : (f, ({ cls := .type "function", data := .func fd } : Obj)) ∈ news)
   (hsh : (sh, listOf (ys.map fun y => Value.str y.1 y.2).toArray n) ∈ news) (hlen : ∀ i, i < ys.length → (foldG G ys i).length ≤ 31) (t : Tok)
  (dp un : Nat) (gd : Option (List Code)) (cn : Str) (cs : Scope) (a : Addr) (ccd : Value) (cl : List (Str × Addr)) (outer : List Env) (A₀ : Around) (base h₀ : Heap) (L : Addr) (m : Str → Option Value) (s : Shared) (Q E : Value → Shared → Prop) :
    Below A₀ base outer h₀ → Fr h₀ L s.heap m → (hd.heap_39 w.params).In h₀ → News h₀ L s.heap news → Top p loose mean mg mb h₀ → cs.kind = .function → (∀ y ∈ ys, y.1.length = 1 ∧ y.2 ≠ 0 ∧ @LE.le Nat _ y.2 s.toks) → 1 ≤ s.toks → dp + 10 < recursionLimit → un + 8 * 10 < cLine →
    (∀ (t : Tok) (h' : Heap) (tk' : Nat), s.toks ≤ tk' → Fr h₀ L h' m → News h₀ L h' news → Q (.str (foldG G ys ys.length) t) { s with heap := h', toks := tk' }) →
    wpAny (model PySem.Challenge.rw_op0114_01.row.prog w) (ktrTop dp un gd cn cs L a ccd cl outer) (call (.ref 65) [.ref f, .ref sh, .str (Str.ofString "") t]) Q E s := by
  k_fill
  intro B F X N T hk hys ht1 hd hu hret
  refine wpAny_call ?_
  k_dflt (refine' code_def ?k1 ?k2 ?k3 ?k4 ?k5 ?kA ?kF ?kK ?k6 ?k7 ?k8 ?k9 ?kB ?_ ?c2 ?c3 ?c4 ?c5; (case kA => exact rfl); (case kF => exact rfl); (case kK => assumption); (case k1 => k_asm); (case k2 => k_asm); (case k3 => k_asm); (case k4 => k_asm); (case k5 => k_asm); (case k6 => k_is); (case k7 => k_is); (case k8 => ktr_room); (case k9 => exact binds_K (by k_in) rfl (by k_is) rfl rfl rfl); (case c5 => decide); (case kB => exact locs rfl); (case c2 => exact rfl); (case c3 => exact rfl); (case c4 => exact rfl); k_whole; intro g' L' h' FG' F' N' B' X' T'; (try dsimp only); (try k_lift B'); (try k_fold))
  k_steps
  k_dflt (refine' iter_listN ?F ?N hsh ?_; (case F => k_asm); (case N => k_asm))
  intro I9 h9 F9 N9 l9
  (try dsimp only)
  k_steps
  k_dflt (refine wpAny_For ?_ (by intro _; rfl))
  k_steps
  rename Fr g' L' _ _ => Fc
  rename News g' L' _ (_ :: news) => Nc
  have hI := Nc _ (List.Mem.head _)
  k_dflt (refine' selfT (ax := sh) (items := (ys.map fun y => Value.str y.1 y.2).toArray) (news := news) ?hh ?ne ?LI ?I0 ?nI ?src ?st ?F ?N (fun i m' => (∃ t, m' (Str.ofString "value") = some (.str (foldG G ys i) t)) ∧ m' (Str.ofString "function") = some (.ref f)) ?h0 ?step ?hR)
  case hh => rfl
  case ne => exact Nat.ne_of_lt (l9 _ hsh)
  case LI => exact Ne.symm hI.2.1
  case I0 => exact hI.2.2
  case nI => exact fun q hq => Nat.ne_of_lt (l9 q hq)
  case src => exact .inr ⟨_, hsh, rfl, _, rfl⟩
  case st => exact ⟨_, hI.1, rfl, rfl⟩
  case F => exact Fc
  case N => exact fun q hq => Nc q (List.Mem.tail _ hq)
  case h0 => exact ⟨⟨t, rfl⟩, rfl⟩
  case step =>
    rintro i v m₁ h₁ tk₁ oI hv ⟨⟨t', hval⟩, hfun⟩ htk F₁ N₁
    have hv' : (ys.map fun y => Value.str y.1 y.2)[i]? = some v := by simpa using hv
    obtain ⟨y, hy, hye⟩ : ∃ y, ys[i]? = some y ∧ Value.str y.1 y.2 = v := by simpa [List.getElem?_map] using hv'
    subst hye
    obtain ⟨y1, y2, y3⟩ := hys y (List.mem_of_getElem? hy)
    have hl := hlen i (List.getElem?_eq_some_iff.mp hy).1
    have F2 := named2 hval hfun F₁
    clear F₁ Fc Nc
    (try dsimp only at htk)
    k_steps
    k_dflt (refine' callWith_F ?k1 ?_; (case k1 => exact FnAt.of (by k_asm) (List.Mem.tail _ hf)))
    k_steps
    exact FnAt.of (by assumption) (List.Mem.tail _ hf)
    k_dflt (refine' CallsTo.use C ?B ?F ?X ?N ?n ?T ?k hl y1 y2 ?ty ?one ?d ?u ?_; (case B => k_asm); (case F => k_asm); (case X => k_asm); (case N => k_asm); (case n => exact fun q hq => List.Mem.tail _ (hneed q hq)); (case T => k_asm); (case k => rfl); (case ty => exact Nat.le_trans y3 (by (try dsimp only); omega)); (case one => ((try dsimp only); omega)); (case d => ktr_room); (case u => ktr_units))
    intro t7 h7 tk7 htk7 F7 N7
    (try dsimp only at htk7)
    (try dsimp only)
    k_steps
    refine TEnd.intro (by assumption) (by assumption) ⟨⟨t7, ?_⟩, ?_⟩
    · show some _ = some _
      rw [foldG_snoc hy]
    · rfl
  case hR =>
    intro h7 tk7 m7 htk7 F7 N7 hJ
    obtain ⟨⟨t7, hval⟩, hfun⟩ := hJ
    have F8 := named2 hval hfun F7
    clear F7
    (try dsimp only at htk7)
    (try dsimp only)
    k_steps
    exact clm_str hret (by simp) (by omega) (by assumption) (by assumption)
end Mine
end
section
open PySem PySem.W PyProof.Rows
set_option maxRecDepth 100000
set_option maxHeartbeats 8000000
namespace Mine
local macro_rules | `(tactic| walk_at "exec While Compare cons nil") => `(tactic| (k_here; k_dflt (refine' while_pal ?F ?N ?long ?k ?turn ?body ?main; (case F => k_asm); (case N => k_asm); (case long => rfl); (case k => rfl))))
local macro_rules | `(tactic| walk_at "binaryOp Add str str") => `(tactic| (k_here; refine' addM ?sz ?_; (case sz => first | (rw [sizeLine_eq]; omega) | (rw [step_rev_len]; refine Nat.le_trans (Nat.add_le_add_left (Txt.slice_le _ _ _) _) ?_; simp only [Str.length_append]; rw [sizeLine_eq]; omega)); intro t9 k9 hk9))

theorem c_closed {w p loose mean mg mb} (news : List (Addr × Obj)) (sh : Addr) (ls : List (Nat × Tok)) (n : Nat)
   (hsh : (sh, listOf (ls.map fun y => Value.str (ofL [y.1]) y.2).toArray n) ∈ news) (h5 : ls.length ≤ 5) : Clm w p loose mean mg mb 2 140 news (fun _ => True) [Value.ref sh] (fun t => Value.str (ofL (closeL (ls.map (·.1)))) t) := by
  unfold Clm
  k_fill
  intro dp un gd cn cs a ccd cl outer A₀ base h₀ L m s Q E B F X N T hk hpre hd hu hret
  refine wpAny_with_toks (Nat.le_refl _) ?_
  refine wpAny_call ?_
  k_dflt cell_enter
  rename News _ _ _ news => N5
  walk1; walk1; walk1; walk1; walk1; walk1
  k_dflt (refine wpAny_For ?_ (by intro _; rfl))
  walk1
  rename Fr _ _ _ _ => Fc
  rename News _ _ _ news => Nc
  k_dflt (refine' iterT (ax := sh) (items := (ls.map fun y => Value.str (ofL [y.1]) y.2).toArray) (news := news) ?hh ?src ?F ?N (fun i m' => ∃ t, m' (Str.ofString "text") = some (.str (ofL (closeP (ls.map (·.1)) i)) t)) ?h0 ?step ?hR)
  case hh => rfl
  case src => exact .inr ⟨_, hsh, rfl, _, rfl⟩
  case F => exact Fc
  case N => exact Nc
  case h0 => exact ⟨_, rfl⟩
  case step =>
    rintro I lI i v m₁ h₁ tk₁ oI hv ⟨t', hval⟩ htk F₁ N₁
    have hv' : (ls.map fun y => Value.str (ofL [y.1]) y.2)[i]? = some v := by simpa using hv
    obtain ⟨y, hy, hye⟩ : ∃ y, ls[i]? = some y ∧ Value.str (ofL [y.1]) y.2 = v := by simpa [List.getElem?_map] using hv'
    subst hye
    have hi : i < ls.length := (List.getElem?_eq_some_iff.mp hy).1
    have hlen : (ofL (closeP (ls.map (·.1)) i)).length ≤ 31 := by
      have h1 := closeP_len (ls.map (·.1)) i
      have h2 : 2 ^ i ≤ 2 ^ 5 := Nat.pow_le_pow_right (by omega) (by omega)
      have h3 : (ofL (closeP (ls.map (·.1)) i)).length = (closeP (ls.map (·.1)) i).length := by simp [Str.length]
      omega
    have hlen1 : (ofL [y.1]).length ≤ 1 := Nat.le_refl _
    have F2 := named1 hval F₁
    clear F₁ Fc Nc
    k_steps
    · exact TestEnd.intro (test_pal _ _ _ _ (by assumption)) (by assumption) (by assumption)
    · exact TEnd.intro (by assumption) (by assumption) ⟨_, upd_k⟩
    · refine TEnd.intro (by assumption) (by assumption) (ex_str rfl ?_)
      rw [closeP_snoc (a := y.1) (by rw [List.getElem?_map, hy]; rfl), ← step_close]
  case hR =>
    intro h7 tk7 m7 htk7 F7 N7 hJ
    obtain ⟨t7, hval⟩ := hJ
    have F8 := named1 hval F7
    clear F7
    (try dsimp only)
    k_steps
    exact clm_str hret (by unfold closeP closeL; rw [List.take_of_length_le (by simp)]) (by assumption) (by assumption) (by assumption)
end Mine
end
section
open PySem PySem.W PyProof.Rows
set_option maxRecDepth 100000
set_option maxHeartbeats 4000000
namespace Mine
/-- the rows of bits and signs -/
def fmTab : Nat → List (Int × Str)
  | 0 => [(40960, Str.ofString "l"), (49152, Str.ofString "s"), (32768, Str.ofString "-"), (24576, Str.ofString "b"), (16384, Str.ofString "d"), (8192, Str.ofString "c"), (4096, Str.ofString "p")]
  | 1 => [(256, Str.ofString "r")]
  | 2 => [(128, Str.ofString "w")]
  | 3 => [(2112, Str.ofString "s"), (2048, Str.ofString "S"), (64, Str.ofString "x")]
  | 4 => [(32, Str.ofString "r")]
  | 5 => [(16, Str.ofString "w")]
  | 6 => [(1032, Str.ofString "s"), (1024, Str.ofString "S"), (8, Str.ofString "x")]
  | 7 => [(4, Str.ofString "r")]
  | 8 => [(2, Str.ofString "w")]
  | _ => [(513, Str.ofString "t"), (512, Str.ofString "T"), (1, Str.ofString "x")]
def fmCond (mode : Int) (i : Nat) (p : Int × Str) : Bool := if i = 0 then decide (Builtin.bitAnd mode 61440 = p.1) else decide (Builtin.bitAnd mode p.1 = p.1)
def fmDflt (i : Nat) : Str := if i = 0 then Str.ofString "?" else Str.ofString "-"
def chS (mode : Int) (i : Nat) : Str := foundIn (fmCond mode i) (fmDflt i) (fmTab i)
def fmItems : Array Value := #[.ref 80, .ref 82, .ref 84, .ref 88, .ref 90, .ref 92, .ref 96, .ref 98, .ref 100, .ref 104]

theorem tupK {K : Frag} {h : Heap} {a : Addr} {items : Array Value} {n : Nat} (X : K.In h) (e : K.lookup a = some { cls := .type "tuple", data := .seq items n }) : h.IsTuple a items := ⟨_, X a _ e, rfl, n, rfl⟩
theorem fm_top {w : World} {h : Heap} (X : (hd.heap_39 w.params).In h) : h.IsTuple 105 fmItems := tupK (n := 0) X (by kernel_rfl)
theorem pairs_nil {h : Heap} {tab : Addr} (hT : h.IsTuple tab #[]) : PairsAt h tab [] := ⟨#[], hT, rfl, fun i v hv => by simp at hv⟩

def PairsL (h : Heap) : List Value → List (Int × Str) → Prop
  | [], [] => True
  | v :: vs, p :: ps => (∃ (T : Addr) (t1 t2 : Tok), v = .ref T ∧ h.IsTuple T #[.int p.1 t1, .str p.2 t2]) ∧ PairsL h vs ps
  | _, _ => False
theorem pairsL_at {h : Heap} : ∀ {vs : List Value} {ps : List (Int × Str)}, PairsL h vs ps → vs.length = ps.length ∧ ∀ (i : Nat) (v : Value), vs[i]? = some v → ∃ (p : Int × Str) (T : Addr) (t1 t2 : Tok), ps[i]? = some p ∧ v = .ref T ∧ h.IsTuple T #[.int p.1 t1, .str p.2 t2]
  | [], [], _ => ⟨rfl, fun i v hv => by simp at hv⟩
  | [], _ :: _, hl => hl.elim
  | _ :: _, [], hl => hl.elim
  | v :: vs, p :: ps, hl => by
    obtain ⟨⟨T, t1, t2, e, r⟩, hr⟩ := hl
    obtain ⟨h1, h2⟩ := pairsL_at hr
    refine ⟨by simp [h1], fun i u hu => ?_⟩
    cases i with
    | zero =>
      simp at hu; subst hu
      exact ⟨p, T, t1, t2, rfl, e, r⟩
    | succ i => simpa using h2 i u (by simpa using hu)
theorem pairsOfList {h : Heap} {tab : Addr} {vs : List Value} {ps : List (Int × Str)} (hT : h.IsTuple tab vs.toArray) (hl : PairsL h vs ps) : PairsAt h tab ps := by
  obtain ⟨h1, h2⟩ := pairsL_at hl
  exact ⟨vs.toArray, hT, by simpa using h1, fun i v hv => h2 i v (by simpa using hv)⟩

theorem fm_tabs {w : World} {h : Heap} (X : (hd.heap_39 w.params).In h) : ∀ (i : Nat) (v : Value), fmItems[i]? = some v → ∃ T, v = .ref T ∧ PairsAt h T (fmTab i) := by
  intro i v hv
  match i, hv with
  | 0, hv => exact ⟨80, by simpa [fmItems] using hv.symm, pairsOfList (vs := [.ref 73, .ref 74, .ref 75, .ref 76, .ref 77, .ref 78, .ref 79]) (tupK (n := 0) X (by kernel_rfl)) ⟨⟨73, 265, 293, rfl, tupK (n := 0) X (by kernel_rfl)⟩, ⟨⟨74, 267, 294, rfl, tupK (n := 0) X (by kernel_rfl)⟩, ⟨⟨75, 261, 295, rfl, tupK (n := 0) X (by kernel_rfl)⟩, ⟨⟨76, 259, 296, rfl, tupK (n := 0) X (by kernel_rfl)⟩, ⟨⟨77, 255, 297, rfl, tupK (n := 0) X (by kernel_rfl)⟩, ⟨⟨78, 257, 298, rfl, tupK (n := 0) X (by kernel_rfl)⟩, ⟨⟨79, 263, 299, rfl, tupK (n := 0) X (by kernel_rfl)⟩, trivial⟩⟩⟩⟩⟩⟩⟩⟩
  | 1, hv => exact ⟨82, by simpa [fmItems] using hv.symm, pairsOfList (vs := [.ref 81]) (tupK (n := 0) X (by kernel_rfl)) ⟨⟨81, 275, 300, rfl, tupK (n := 0) X (by kernel_rfl)⟩, trivial⟩⟩
  | 2, hv => exact ⟨84, by simpa [fmItems] using hv.symm, pairsOfList (vs := [.ref 83]) (tupK (n := 0) X (by kernel_rfl)) ⟨⟨83, 277, 301, rfl, tupK (n := 0) X (by kernel_rfl)⟩, trivial⟩⟩
  | 3, hv => exact ⟨88, by simpa [fmItems] using hv.symm, pairsOfList (vs := [.ref 85, .ref 86, .ref 87]) (tupK (n := 0) X (by kernel_rfl)) ⟨⟨85, 302, 303, rfl, tupK (n := 0) X (by kernel_rfl)⟩, ⟨⟨86, 269, 304, rfl, tupK (n := 0) X (by kernel_rfl)⟩, ⟨⟨87, 279, 305, rfl, tupK (n := 0) X (by kernel_rfl)⟩, trivial⟩⟩⟩⟩
  | 4, hv => exact ⟨90, by simpa [fmItems] using hv.symm, pairsOfList (vs := [.ref 89]) (tupK (n := 0) X (by kernel_rfl)) ⟨⟨89, 281, 306, rfl, tupK (n := 0) X (by kernel_rfl)⟩, trivial⟩⟩
  | 5, hv => exact ⟨92, by simpa [fmItems] using hv.symm, pairsOfList (vs := [.ref 91]) (tupK (n := 0) X (by kernel_rfl)) ⟨⟨91, 283, 307, rfl, tupK (n := 0) X (by kernel_rfl)⟩, trivial⟩⟩
  | 6, hv => exact ⟨96, by simpa [fmItems] using hv.symm, pairsOfList (vs := [.ref 93, .ref 94, .ref 95]) (tupK (n := 0) X (by kernel_rfl)) ⟨⟨93, 308, 309, rfl, tupK (n := 0) X (by kernel_rfl)⟩, ⟨⟨94, 271, 310, rfl, tupK (n := 0) X (by kernel_rfl)⟩, ⟨⟨95, 285, 311, rfl, tupK (n := 0) X (by kernel_rfl)⟩, trivial⟩⟩⟩⟩
  | 7, hv => exact ⟨98, by simpa [fmItems] using hv.symm, pairsOfList (vs := [.ref 97]) (tupK (n := 0) X (by kernel_rfl)) ⟨⟨97, 287, 312, rfl, tupK (n := 0) X (by kernel_rfl)⟩, trivial⟩⟩
  | 8, hv => exact ⟨100, by simpa [fmItems] using hv.symm, pairsOfList (vs := [.ref 99]) (tupK (n := 0) X (by kernel_rfl)) ⟨⟨99, 289, 313, rfl, tupK (n := 0) X (by kernel_rfl)⟩, trivial⟩⟩
  | 9, hv => exact ⟨104, by simpa [fmItems] using hv.symm, pairsOfList (vs := [.ref 101, .ref 102, .ref 103]) (tupK (n := 0) X (by kernel_rfl)) ⟨⟨101, 314, 315, rfl, tupK (n := 0) X (by kernel_rfl)⟩, ⟨⟨102, 273, 316, rfl, tupK (n := 0) X (by kernel_rfl)⟩, ⟨⟨103, 291, 317, rfl, tupK (n := 0) X (by kernel_rfl)⟩, trivial⟩⟩⟩⟩
  | n + 10, hv => exact absurd hv (by simp [fmItems])
end Mine
end
section
open PySem PySem.W PyProof.Rows
set_option maxRecDepth 100000
set_option maxHeartbeats 4000000
namespace Mine
theorem named3 {h₀ h : Heap} {L : Addr} {m : Str → Option Value} {x y z : Str} {v u r : Value} (hx : m x = some v) (hy : m y = some u) (hz : m z = some r) (F : Fr h₀ L h m) :
    Fr h₀ L h (fun n => if n = x then some v else if n = y then some u else if n = z then some r else m n) := by
  have e : (fun n => if n = x then some v else if n = y then some u else if n = z then some r else m n) = m := by
    funext n
    by_cases a1 : n = x
    · rw [if_pos a1, a1, hx]
    · rw [if_neg a1]
      by_cases a2 : n = y
      · rw [if_pos a2, a2, hy]
      · rw [if_neg a2]
        by_cases a3 : n = z
        · rw [if_pos a3, a3, hz]
        · rw [if_neg a3]
  rw [e]; exact F
theorem named3_ex {m : Str → Option Value} {x y z : Str} {v u r : Value} (hx : m x = some v) (hy : m y = some u) (hz : m z = some r) :
    ∃ m₃ : Str → Option Value, m = fun n => if n = x then some v else if n = y then some u else if n = z then some r else m₃ n := by
  refine ⟨m, funext fun n => ?_⟩
  by_cases a1 : n = x
  · rw [if_pos a1, a1, hx]
  · rw [if_neg a1]
    by_cases a2 : n = y
    · rw [if_pos a2, a2, hy]
    · rw [if_neg a2]
      by_cases a3 : n = z
      · rw [if_pos a3, a3, hz]
      · rw [if_neg a3]
theorem StrsAre.length {vs : List Value} {ys : List Str} (h : StrsAre vs ys) : vs.length = ys.length := by
  induction h with
  | nil => rfl
  | cons _ _ _ ih => simp [ih]
theorem StrsAre.snoc {vs : List Value} {ys : List Str} (h : StrsAre vs ys) (y : Str) (t : Tok) : StrsAre (vs ++ [.str y t]) (ys ++ [y]) := by
  induction h with
  | nil => exact .cons y t .nil
  | cons z u _ ih => exact .cons z u ih
/-- what the frame keeps -/
def FmKeep (mode : Int) (t : Tok) (P : Addr) (i : Nat) (ti : Tok) (m : Str → Option Value) : Prop := m (Str.ofString "mode") = some (.int mode t) ∧ m (Str.ofString "perm") = some (.ref P) ∧ m (Str.ofString "index") = some (.int (i : Int) ti)
/-- what holds ahead of turn i -/
def FmJ (mode : Int) (t : Tok) (P : Addr) (i : Nat) (m : Str → Option Value) (o : Obj) : Prop :=
  m (Str.ofString "mode") = some (.int mode t) ∧ m (Str.ofString "perm") = some (.ref P) ∧ ∃ vs n, o = listOf (List.toArray vs) n ∧ StrsAre vs ((List.range i).map (chS mode))

local macro_rules | `(tactic| walk_at "call builtin:list.append") => `(tactic| (k_here; k_dflt (refine' append_K ?k1 ?k2 (Upd.head ?k3) ?_ ?z; (case k1 => k_asm); (case k2 => k_asm); (case k3 => assumption); (case z => size_fits); k_whole); intro h' F' N'))

theorem fmTab_len : ∀ (i : Nat), ∀ p ∈ fmTab i, p.2.length = 1
  | 0 => by decide +kernel
  | 1 => by decide +kernel
  | 2 => by decide +kernel
  | 3 => by decide +kernel
  | 4 => by decide +kernel
  | 5 => by decide +kernel
  | 6 => by decide +kernel
  | 7 => by decide +kernel
  | 8 => by decide +kernel
  | _ + 9 => by
    show ∀ p ∈ [((513 : Int), Str.ofString "t"), (512, Str.ofString "T"), (1, Str.ofString "x")], p.2.length = 1
    decide +kernel
theorem chS_len (mode : Int) (i : Nat) : (chS mode i).length = 1 := by
  unfold chS foundIn
  cases h : (fmTab i).find? (fmCond mode i) with
  | none =>
    show (fmDflt i).length = 1
    unfold fmDflt
    split <;> decide +kernel
  | some p => exact fmTab_len i p (List.mem_of_find?_eq_some h)
theorem chS_weight (mode : Int) : (((List.range 10).map (chS mode)).map (·.length)).sum + ((List.range 10).map (chS mode)).length ≤ 1048576 := by
  have e : ((List.range 10).map (chS mode)).map (·.length) = (List.range 10).map fun _ => 1 := by
    rw [List.map_map]
    exact List.map_congr_left fun i _ => chS_len mode i
  rw [e, List.length_map, List.length_range]
  decide +kernel
theorem c_ifmt {w p loose mean mg mb} (news : List (Addr × Obj)) (mode : Int) (t : Tok) : Clm w p loose mean mg mb 2 72 news (fun _ => True) [Value.int mode t] (fun t => Value.int (Builtin.bitAnd mode 61440) t) := by
  unfold Clm
  k_fill
  intro dp un gd cn cs a ccd cl outer A₀ base h₀ L m s Q E B F X N T hk hpre hd hu hret
  refine wpAny_with_toks (Nat.le_refl _) ?_
  refine wpAny_call ?_
  k_dflt cell_enter
  k_steps
  exact clm_int hret rfl (by assumption) (by assumption) (by assumption)
local macro_rules | `(tactic| walk_at "call ref") => `(tactic| (k_here; k_dflt (refine' Clm.use (c_ifmt _ _ _) ?B ?F ?X ?N ?T ?k ?pre ?d ?u ?_; (case B => k_asm); (case F => k_asm); (case X => k_asm); (case N => k_asm); (case T => k_asm); (case k => rfl); (case pre => trivial); (case d => ktr_room); (case u => ktr_units)); intro t9 h9 tk9 htk9 F9 N9; (try dsimp only)))
theorem fm_c0 {mode b : Int} {c : Str} (h : Builtin.bitAnd mode 61440 = b) : fmCond mode 0 (b, c) = true := by simp [fmCond, h]
theorem fm_c0n {mode b : Int} {c : Str} (h : Builtin.bitAnd mode 61440 ≠ b) : fmCond mode 0 (b, c) = false := by simp [fmCond, h]
theorem fm_c1 {mode b : Int} {c : Str} {i : Nat} (h : Builtin.bitAnd mode b = b) : fmCond mode (i + 1) (b, c) = true := by simp [fmCond, h]
theorem fm_c1n {mode b : Int} {c : Str} {i : Nat} (h : Builtin.bitAnd mode b ≠ b) : fmCond mode (i + 1) (b, c) = false := by simp [fmCond, h]

theorem c_fm {w p loose mean mg mb} (news : List (Addr × Obj)) (mode : Int) (t : Tok) : Clm w p loose mean mg mb 4 112 news (fun _ => True) [Value.int mode t] (fun t => Value.str (Txt.join (Str.ofString "") ((List.range 10).map (chS mode))) t) := by
  unfold Clm
  k_fill
  intro dp un gd cn cs a ccd cl outer A₀ base h₀ L m s Q E B F X N T hk hpre hd hu hret
  refine wpAny_with_toks (Nat.le_refl _) ?_
  refine wpAny_call ?_
  k_dflt cell_enter
  iterate 10 (first | (with_reducible show wpAny _ _ (storeName _ _ _) _ _ _) | walk1)
  with_reducible rename Addr => P
  iterate 8 (first | (with_reducible show wpAny _ _ (exec (Stmt.For _ _ _ _ _) _) _ _ _) | walk1)
  k_dflt (refine wpAny_For ?_ (by intro _; rfl))
  iterate 10 (first | (with_reducible show wpAny _ _ (PySem.call (Value.type "enumerate") _ _) _ _ _) | walk1)
  with_reducible rename Fr _ _ _ _ => Fc
  with_reducible rename News _ _ _ (_ :: news) => Nc
  with_reducible rename (∀ q ∈ news, q.1 < P) => lA
  with_reducible rename Frag.In _ _ => Xc
  have hnP := fun q (hq : q ∈ news) => Nat.ne_of_lt (lA q hq)
  k_dflt (refine' enumE (items := fmItems) ?henv ?hh ?l ?F ?N hnP (FmJ mode t P) ?h0 ?k ?x ?y ?step ?hR)
  case henv => rfl
  case hh => rfl
  case l => exact fm_top Xc
  case F => exact Fc
  case N => exact Nc
  case h0 => exact ⟨rfl, rfl, [], _, rfl, .nil⟩
  case k => rfl
  case x => rfl
  case y => rfl
  case step =>
    rintro e it i v ti m₁ o₁ oe oi h₁ tk₁ hv ⟨j1, j2, vs, n, rfl, js⟩ hne F₁ N₁
    obtain ⟨tab, rfl, hP⟩ := fm_tabs Xc i v hv
    have hi : i < 10 := by
      rcases Nat.lt_or_ge i 10 with q | q
      · exact q
      · rw [Array.getElem?_eq_none (by simpa [fmItems] using q)] at hv; cases hv
    have hlen : vs.length = i := by have := js.length; simpa using this
    clear Fc Nc
    walk1
    k_dflt (refine wpAny_For ?_ (by intro _; rfl))
    walk1
    k_dflt (refine' searchE (ps := fmTab i) (vs := vs) (n := n) ?henv (fmCond mode i) (fmDflt i) (FmKeep mode t P i ti) ?hh hP ?F ?N ?K ?k ?x ?y ?turn ?els ?hR2)
    case henv => rfl
    case hh => rfl
    case F => exact F₁
    case N => exact N₁
    case K => exact ⟨j1, j2, rfl⟩
    case k => rfl
    case x => rfl
    case y => rfl
    case turn =>
      rintro b c t1 t2 I oI m₂ h₂ tk₂ hb ⟨k1, k2, k3⟩ hIP htI F₂ N₂
      obtain ⟨m₃, e3⟩ := named3_ex k1 k2 k3
      subst e3
      have hne2 : ∀ q ∈ (I, oI) :: (e, oe) :: (it, oi) :: news, q.1 ≠ P := fun q hq => by
        rcases List.mem_cons.mp hq with rfl | hq
        · exact hIP
        · exact hne q hq
      have hsz : vs.toArray.size ≤ sizeLine := by rw [sizeLine_eq, List.size_toArray]; omega
      clear F₁ N₁ k1 k2 k3 hnP lA
      rcases i with _ | i
      · k_steps
        all_goals (try dsimp only)
        all_goals first
          | exact ⟨_, _, _, rfl, ⟨rfl, rfl, rfl⟩, by assumption, .inl ⟨fm_c0 (by assumption), rfl, _, by assumption⟩⟩
          | exact ⟨_, _, _, rfl, ⟨rfl, rfl, rfl⟩, by assumption, .inr ⟨fm_c0n (by assumption), rfl, by assumption⟩⟩
          | (exfalso; omega)
      · k_steps
        all_goals (try dsimp only)
        all_goals first
          | exact ⟨_, _, _, rfl, ⟨rfl, rfl, rfl⟩, by assumption, .inl ⟨fm_c1 (by assumption), rfl, _, by assumption⟩⟩
          | exact ⟨_, _, _, rfl, ⟨rfl, rfl, rfl⟩, by assumption, .inr ⟨fm_c1n (by assumption), rfl, by assumption⟩⟩
          | (exfalso; omega)
    case els =>
      rintro m₂ h₂ tk₂ ⟨k1, k2, k3⟩ F₂ N₂
      obtain ⟨m₃, e3⟩ := named3_ex k1 k2 k3
      subst e3
      have hsz : vs.toArray.size ≤ sizeLine := by rw [sizeLine_eq, List.size_toArray]; omega
      clear F₁ N₁ k1 k2 k3 hnP lA
      rcases i with _ | i
      · k_steps
        all_goals (try dsimp only)
        all_goals first
          | exact ⟨rfl, _, _, _, _, rfl, ⟨rfl, rfl, rfl⟩, by assumption, by assumption⟩
          | (exfalso; omega)
      · k_steps
        all_goals (try dsimp only)
        all_goals first
          | exact ⟨rfl, _, _, _, _, rfl, ⟨rfl, rfl, rfl⟩, by assumption, by assumption⟩
          | (exfalso; omega)
    case hR2 =>
      rintro m₂ h₂ tk₂ t2 ⟨k1, k2, k3⟩ F₂ N₂
      (try dsimp only)
      refine wpAny_execs_nil (PEnd.intro F₂ N₂ ⟨k1, k2, vs ++ [.str (chS mode i) t2], n + 1, by rw [List.push_toArray]; rfl, ?_⟩)
      rw [List.range_succ, List.map_append]
      exact StrsAre.snoc js _ _
  case hR =>
    rintro h₂ tk₂ m₂ o₂ F₂ N₂ ⟨j1, j2, vs, n, rfl, js⟩
    have F₃ := named2 j1 j2 F₂
    clear F₂
    (try dsimp only)
    k_steps
    k_dflt (refine' join_listW (items := vs.toArray) ?hl js ?hs (chS_weight mode) ?_)
    case hl => exact News.isList N₂ (.head _)
    case hs => decide
    intro t8 k8
    (try dsimp only)
    k_steps
    rename News h₀ L _ (_ :: news) => kN9
    exact clm_str hret rfl (by assumption) (by assumption) (fun q hq => kN9 q (List.Mem.tail _ hq))
end Mine
end
section
open PySem PySem.W PyProof.Rows
set_option maxRecDepth 100000
namespace Mine
section
variable {prog : Program} {w : World} {A : Around} {E : Value → Shared → Prop} {s : Shared} {h₀ : Heap} {L : Addr} {m : Str → Option Value} {env : Env} {news : List (Addr × Obj)}
  {elt iter : Expr} {x y : Str} {px py : Pos} {scope : Scope} {cl : List (Str × Addr)} {pos spos : Pos} {Fin : Shared → List Value → List (Addr × Obj) → Prop}

/-- a comprehension's block stands ready: an iterator that walks, and what its turns do -/
def SrcG (prog : Program) (w : World) (A : Around) (h₀ : Heap) (L : Addr) (m : Str → Option Value) (env : Env) (elt : Expr) (x : Str) (scope : Scope) (cl : List (Str × Addr)) (Fin : Shared → List Value → List (Addr × Obj) → Prop) (it : Value) (s₂ : Shared) : Prop :=
  ∃ (I : Addr) (fp : List Addr) (n : Nat) (P : Nat → Value → Prop) (St : Nat → Heap → Prop) (S : List (Addr × Obj) → Prop) (news : List (Addr × Obj)),
    it = .ref I ∧ Walks prog w A I fp [I] n P St ∧ n ≤ sizeLine ∧ (∀ i h, St i h → ∃ o, h.get? I = some o) ∧
    (∀ i h h' o nw, St i h → h.get? I = some o → h'.get? I = some o → (∀ b o, h₀.get? b = some o → h'.get? b = some o) → News h₀ L h' nw → S nw → St i h') ∧
    St 0 s₂.heap ∧ (∀ b ∈ fp, b < s₂.heap.objs.size) ∧ Fr h₀ L s₂.heap m ∧ News h₀ L s₂.heap news ∧ L ≠ I ∧ h₀.get? I = none ∧ (∀ p ∈ news, p.1 ≠ I) ∧ S news ∧
    LCg.CompRest prog w A h₀ L m env elt x scope cl s₂ S P (Fin s₂) n 0 [] news

theorem ListComp_G {Q : Value → Shared → Prop} (_F₀ : Fr h₀ L s.heap m)
    (hclos : closureFor scope env = pure cl) (hcell : ∀ y ∈ scope.names, y.2 ≠ .cell) (hkind : scope.kind = .function)
    (hnames : ∀ y ∈ scope.names, y.2 = .local → scope.names.lookup y.1 = some .local) (hx : scope.names.lookup x = some .local)
    (h : wpAny (model prog w) A (eval iter env) (fun xv s₁ => wpAny (model prog w) A (pyIter xv) (SrcG prog w A h₀ L m env elt x scope cl (fun s₂ => LCg.FinE h₀ L m s₂ Q)) E s₁) E s)
    (hs : ∀ x, foldedSetIterable iter env x = pure x := by intro _; rfl) :
    wpAny (model prog w) A (eval (.ListComp elt [⟨.Name x px, iter, [], 0⟩] scope pos) env) Q E s := by
  rw [eval_ListComp]
  refine wpAny_comprehension_free (use := none) rfl hs hclos hkind hnames (wpAny_mono h (fun xv s₁ h₁ => wpAny_mono h₁ (fun it s₂ h₂ => ?_) fun _ _ e => e) fun _ _ e => e)
  obtain ⟨I, fp, n, P, St, S, news, rfl, W, hsz, hIo, hSt, hst, hfp, F, N, hIL, hI0, off, hS, R⟩ := h₂
  refine LCg.block_U W hsz hIo hSt hcell hkind hx hst hfp F N hIL hI0 off hS R ?_
  intro D C h tk m' ys news' F' N' o1 hn hC₀ hD₀ hCL hDL hCD offC fin
  refine ⟨m', hn, fun h'' hs'' => fin D h'' tk (F'.change hs'' hCL hC₀) (fun p hp => ?_) o1⟩
  refine ⟨hs''.extBut _ _ ?_ (N' p hp).1, (N' p hp).2⟩
  rcases List.mem_cons.mp hp with rfl | hp
  · exact Ne.symm hCD
  · exact offC p hp

theorem Assign_ListComp_G {Q : Flow → Shared → Prop} (_F₀ : Fr h₀ L s.heap m) (hLe : env.locals = L)
    (hsw : swapsWith (.ListComp elt [⟨.Name x px, iter, [], 0⟩] scope pos) (some (.Name y py)) spos.line env = pure true)
    (hclos : closureFor scope env = pure cl) (hcell : ∀ z ∈ scope.names, z.2 ≠ .cell) (hkind : scope.kind = .function)
    (hnames : ∀ z ∈ scope.names, z.2 = .local → scope.names.lookup z.1 = some .local) (hx : scope.names.lookup x = some .local)
    (hy : env.kindOf y = some .local) (hp : (env.scope.kind == .class || (env.scope.kind == .module && env.locals != env.globals)) = false)
    (h : wpAny (model prog w) A (eval iter env) (fun xv s₁ => wpAny (model prog w) A (pyIter xv) (SrcG prog w A h₀ L m env elt x scope cl (fun s₂ => LCg.FinA h₀ L m s₂ y Q)) E s₁) E s)
    (hs : ∀ x, foldedSetIterable iter env x = pure x := by intro _; rfl) :
    wpAny (model prog w) A (exec (.Assign [.Name y py] (.ListComp elt [⟨.Name x px, iter, [], 0⟩] scope pos) spos) env) Q E s := by
  subst hLe
  rw [exec_Assign_Name_used _ _ _ _ hsw]
  refine wpAny_bind (wpAny_standAt (wpAny_bind ?_))
  show wpAny _ A (do let _ ← comprehension (.ListComp elt [⟨.Name x px, iter, [], 0⟩] scope pos) scope env _ (newList []) false (eval iter env) (some (assign (.Name y py) env))) _ _ s
  refine wpAny_bind (wpAny_mono (wpAny_comprehension_free (use := some (assign (.Name y py) env)) (Q := fun _ s' => Q .next s') rfl hs hclos hkind hnames
    (wpAny_mono h (fun xv s₁ h₁ => wpAny_mono h₁ (fun it s₂ h₂ => ?_) fun _ _ e => e) fun _ _ e => e)) (fun _ s' hq => wpAny_pure (wpAny_pure hq)) fun _ _ e => e)
  obtain ⟨I, fp, n, P, St, S, news, rfl, W, hsz, hIo, hSt, hst, hfp, F, N, hIL, hI0, off, hS, R⟩ := h₂
  refine LCg.block_U W hsz hIo hSt hcell hkind hx hst hfp F N hIL hI0 off hS R ?_
  intro D C h' tk m' ys news' F' N' o1 hn hC₀ hD₀ hCL hDL hCD offC fin
  show wpAny _ A (assign (.Name y py) env (.ref D)) _ _ _
  refine wpAny_assign_Name (wpAny_storeName_local hy F'.ns (fun h₂ hn₂ hs₂ => ?_) hp)
  have hL₀ : h₀.get? env.locals = none := Heap.get?_none_of_le F'.above
  have F₂ : Fr h₀ env.locals h₂ (fun z => if z = y then some (.ref D) else m z) := ⟨hn₂, fun b o e => hs₂.extBut b o (fun q => by rw [q, hL₀] at e; cases e) (F'.keep b o e), F'.above⟩
  refine ⟨m', hn.sameBut hs₂ hCL, fun h'' hs'' => fin D h'' _ (F₂.change hs'' hCL hC₀) (fun p hp => ?_) o1⟩
  have z : h₂.get? p.1 = some p.2 := hs₂.extBut _ _ (N' p hp).2.1 (N' p hp).1
  refine ⟨hs''.extBut _ _ ?_ z, (N' p hp).2⟩
  rcases List.mem_cons.mp hp with rfl | hp
  · exact Ne.symm hCD
  · exact offC p hp

theorem src_range {r : Addr} {a b c : Int} {t u v : Tok} {n : Nat} (hh : A.handled = none) (F : Fr h₀ L s.heap m) (N : News h₀ L s.heap news)
    (hr : IsRange s.heap r a b c t u v) (hsm : Builtin.Range.small a b c = true) (hn : Builtin.Range.rangeSize a b c = ((n : Nat) : Int)) (hsz : n ≤ sizeLine)
    (R : ∀ g, LCg.CompRest prog w A h₀ L m env elt x scope cl { s with heap := g } (fun _ => True) (fun i v => ∃ t, v = .int (a + (i : Int) * c) t) (Fin { s with heap := g }) n 0 [] news) :
    wpAny (model prog w) A (pyIter (.ref r)) (SrcG prog w A h₀ L m env elt x scope cl Fin) E s := by
  refine wpAny_pyIter_range hr hsm ?_
  have up : ∀ (o : Obj) (b : Addr) (o' : Obj), s.heap.get? b = some o' → (s.heap.push o).get? b = some o' := fun o b o' e => Heap.get?_push_of_some _ e
  refine ⟨s.heap.objs.size, [s.heap.objs.size], n, _, _, fun _ => True, news, rfl, Walks.range hh _ a c n, hsz, fun i h st => ⟨_, st⟩, ?_, ?_, ?_, F.keeps (up _), N.grown (up _), Nat.ne_of_lt F.ns.lt, next_is_new F,
    fun p hp => Nat.ne_of_lt (Heap.lt_size (N p hp).1), trivial, R _⟩
  · intro i h h' o nw st e e' _ _ _
    have st' : h.get? s.heap.objs.size = some _ := st
    show h'.get? _ = some _
    rw [e', ← e]; exact st'
  · show IsRangeIter _ _ _ _ _
    rw [hn]; simpa using Heap.get?_push_size _ rfl
  · intro b hb
    rw [List.mem_singleton.mp hb]
    show _ < (s.heap.push _).objs.size
    rw [Heap.size_push]; exact Nat.lt_succ_self _

theorem src_str {tx : Str} {t : Tok} (hh : A.handled = none) (F : Fr h₀ L s.heap m) (N : News h₀ L s.heap news) (hsz : tx.cps.size ≤ sizeLine)
    (R : ∀ g, LCg.CompRest prog w A h₀ L m env elt x scope cl { s with heap := g } (fun _ => True) (SignAt tx) (Fin { s with heap := g }) tx.cps.size 0 [] news) :
    wpAny (model prog w) A (pyIter (.str tx t)) (SrcG prog w A h₀ L m env elt x scope cl Fin) E s := by
  have go : ∀ (cls : String) (o : Obj), (∀ I, Walks prog w A I [I] [I] tx.cps.size (SignAt tx) (fun i h => h.IsStrIter I cls tx t i)) → (s.heap.push o).IsStrIter s.heap.objs.size cls tx t 0 →
      SrcG prog w A h₀ L m env elt x scope cl Fin (.ref s.heap.objs.size) { s with heap := s.heap.push o } := by
    intro cls o W st
    have up : ∀ (b : Addr) (o' : Obj), s.heap.get? b = some o' → (s.heap.push o).get? b = some o' := fun b o' e => Heap.get?_push_of_some _ e
    refine ⟨s.heap.objs.size, [s.heap.objs.size], tx.cps.size, _, _, fun _ => True, news, rfl, W _, hsz, fun i h st => ?_, ?_, st, ?_, F.keeps up, N.grown up, Nat.ne_of_lt F.ns.lt, next_is_new F,
      fun p hp => Nat.ne_of_lt (Heap.lt_size (N p hp).1), trivial, R _⟩
    · obtain ⟨o, e, _⟩ := st; exact ⟨o, e⟩
    · intro i h h' o nw st e e' _ _ _
      obtain ⟨o', q, r⟩ := st
      rw [e] at q; cases q
      exact ⟨o, e', r⟩
    · intro b hb
      rw [List.mem_singleton.mp hb]
      show _ < (s.heap.push _).objs.size
      rw [Heap.size_push]; exact Nat.lt_succ_self _
  cases ha : tx.cps.all (· < 128)
  · exact wpAny_pyIter_wide ha (go "str_iterator" _ (fun I => Walks.strWide hh I tx t) ⟨_, Heap.get?_push_size _ rfl, rfl, rfl⟩)
  · exact wpAny_pyIter_ascii ha (go "str_ascii_iterator" _ (fun I => Walks.strAscii hh I tx t) ⟨_, Heap.get?_push_size _ rfl, rfl, rfl⟩)

theorem range5 {k n : Nat} (hk : k < 5) (hn : n ≤ 63) : Builtin.Range.small (k : Int) (n : Int) 5 = true ∧ (Builtin.Range.rangeSize (k : Int) (n : Int) 5).toNat ≤ 63 ∧ Builtin.Range.rangeSize (k : Int) (n : Int) 5 = (((Builtin.Range.rangeSize (k : Int) (n : Int) 5).toNat : Nat) : Int) ∧
    ∀ i : Nat, i < (Builtin.Range.rangeSize (k : Int) (n : Int) 5).toNat → (k : Int) + (i : Int) * 5 < n := by
  have key : ∀ (k : Fin 5) (n : Fin 64), Builtin.Range.small (k.1 : Int) (n.1 : Int) 5 = true ∧ (Builtin.Range.rangeSize (k.1 : Int) (n.1 : Int) 5).toNat ≤ 63 ∧ Builtin.Range.rangeSize (k.1 : Int) (n.1 : Int) 5 = (((Builtin.Range.rangeSize (k.1 : Int) (n.1 : Int) 5).toNat : Nat) : Int) := by decide +kernel
  obtain ⟨h1, h2, h3⟩ := key ⟨k, hk⟩ ⟨n, by omega⟩
  refine ⟨h1, h2, h3, fun i hi => ?_⟩
  have e : Builtin.Range.rangeSize (k : Int) (n : Int) 5 = if (k : Int) < n then ((n : Int) - k - 1) / 5 + 1 else 0 := by simp [Builtin.Range.rangeSize]
  rw [e] at hi
  split at hi <;> omega

/-- the turns of a block, by what holds ahead of each -/
theorem rest_ind {S : List (Addr × Obj) → Prop} {P : Nat → Value → Prop} {Fn : List Value → List (Addr × Obj) → Prop} (n : Nat) (Inv : Nat → List Value → List (Addr × Obj) → Prop)
    (step : ∀ i ys news v I oI C oC D m₂ h tk (E' : Value → Shared → Prop), i < n → Inv i ys news → S news → P i v → LCg.NsObj oC m₂ → m₂ x = some v → Fr h₀ L h m → News h₀ L h ((I, oI) :: (C, oC) :: (D, LCg.lst ys) :: news) → LCg.Off3 I C D news → ((@Ne Nat I C) ∧ (@Ne Nat I D) ∧ (@Ne Nat C D)) →
      wpAny (model prog w) A (eval elt (compEnvC scope cl C env)) (LCg.CompEnd h₀ L m { s with heap := h, toks := tk } I oI C oC D (LCg.lst ys) S (fun y news' => Inv (i + 1) (ys ++ [y]) news')) E' { s with heap := h, toks := tk })
    (fin : ∀ ys news, Inv n ys news → Fn ys news) : ∀ (k i : Nat) (ys : List Value) (news : List (Addr × Obj)), i + k = n → Inv i ys news → S news → LCg.CompRest prog w A h₀ L m env elt x scope cl s S P Fn k i ys news
  | 0, i, ys, news, hk, hI, _ => LCg.CompRest.zero (fin ys news (by rw [← hk]; exact hI))
  | k + 1, i, ys, news, hk, hI, hS => by
    refine LCg.CompRest.succ fun v I oI C oC D m₂ h tk E' hP hC hx F N off ne => ?_
    refine wpAny_mono (step i ys news v I oI C oC D m₂ h tk E' (by omega) hI hS hP hC hx F N off ne) (fun y s₂ h₂ => ?_) fun _ _ e => e
    obtain ⟨h', tk', news', e, F', N', off', hS', hI'⟩ := h₂
    exact ⟨h', tk', news', e, F', N', off', hS', rest_ind n Inv step fin k (i + 1) _ news' (by omega) hI' hS'⟩

/-- a for over a range, by what holds of the frame and the ledger ahead of each turn -/
theorem rangeT {Q : Flow → Shared → Prop} {r : Addr} {a b c : Int} {t u v : Tok} {n : Nat} {body : List Stmt} (J : Nat → (Str → Option Value) → List (Addr × Obj) → Prop)
    (hh : A.handled = none) (hr : IsRange s.heap r a b c t u v) (hsm : Builtin.Range.small a b c = true) (hn : Builtin.Range.rangeSize a b c = ((n : Nat) : Int))
    (F : Fr h₀ env.locals s.heap m) (N : News h₀ env.locals s.heap news) (h0 : J 0 m news)
    (step : ∀ i t m₁ h₁ tk₁ news₁ I oI, i < n → J i m₁ news₁ → (∀ p ∈ news₁, p.1 ≠ I) → (∀ vs x t, oI.data = .fields vs → vs[1]? ≠ some (.str x t)) → Fr h₀ env.locals h₁ m₁ → News h₀ env.locals h₁ ((I, oI) :: news₁) →
      wpAny (model prog w) A (assign (.Name x px) env (.int (a + (i : Int) * c) t)) (fun _ s₂ => wpAny (model prog w) A (execs body env)
        (fun f s₃ => f = .next ∧ ∃ h' tk m' news', s₃ = { s with heap := h', toks := tk } ∧ Fr h₀ env.locals h' m' ∧ News h₀ env.locals h' ((I, oI) :: news') ∧ (∀ p ∈ news', p.1 ≠ I) ∧ J (i + 1) m' news') (fun _ _ => False) s₂) (fun _ _ => False) { s with heap := h₁, toks := tk₁ })
    (hR : ∀ h' tk m' news', Fr h₀ env.locals h' m' → News h₀ env.locals h' news' → J n m' news' → Q .next { s with heap := h', toks := tk }) :
    wpAny (model prog w) A (pyIter (.ref r)) (fun it s₂ => codeAny (model prog w) A (.forLoop (.Name x px) it body [] env) (fun r s' => match r with | .ok f => Q f s' | .error e => cameBackBy (model prog w) A env E e s') s₂) E s := by
  refine wpAny_pyIter_range hr hsm ?_
  have up : ∀ (o : Obj) (b : Addr) (o' : Obj), s.heap.get? b = some o' → (s.heap.push o).get? b = some o' := fun o b o' e => Heap.get?_push_of_some _ e
  have W := Walks.range (prog := prog) (w := w) hh s.heap.objs.size a c n
  have hLI : env.locals ≠ s.heap.objs.size := Nat.ne_of_lt F.ns.lt
  have hI0 : h₀.get? s.heap.objs.size = none := next_is_new F
  refine codeAny_forLoop_any (fun k s' => ∃ i h' tk m' news', s' = { s with heap := h', toks := tk } ∧ IsRangeIter h' s.heap.objs.size (a + (i : Nat) * c) ((n : Int) - (i : Nat)) c ∧ Fr h₀ env.locals h' m' ∧ News h₀ env.locals h' news' ∧ (∀ p ∈ news', p.1 ≠ s.heap.objs.size) ∧ J i m' news' ∧ i ≤ n ∧ k = n + 1 - i) ?_ (n + 1)
    ⟨0, _, s.toks, m, news, rfl, by show IsRangeIter _ _ _ _ _; rw [hn]; simpa using Heap.get?_push_size _ rfl, F.keeps (up _), N.grown (up _), fun p hp => Nat.ne_of_lt (Heap.lt_size (N p hp).1), h0, Nat.zero_le _, rfl⟩
  rintro k s' ⟨i, h', tk, m', news', rfl, hit, F', N', off, hJ, hi, rfl⟩
  have keepF : ∀ h₁ : Heap, (∀ b o, b ∉ [s.heap.objs.size] → h'.get? b = some o → h₁.get? b = some o) → Fr h₀ env.locals h₁ m' ∧ News h₀ env.locals h₁ news' := fun h₁ hk =>
    ⟨LCg.fr_but F' hk hLI hI0, LCg.news_but N' hk off⟩
  by_cases hlt : i < n
  · refine W.item i _ _ _ hlt hit fun v h₁ tk₁ hP hst₁ hk₁ => ?_
    obtain ⟨t, rfl⟩ := hP
    obtain ⟨F₁, N₁⟩ := keepF h₁ hk₁
    refine wpAny_pure ?_
    obtain ⟨oI, hoI⟩ : ∃ oI, h₁.get? s.heap.objs.size = some oI := ⟨_, hst₁⟩
    have hx : (some oI : Option Obj) = some _ := hoI.symm.trans hst₁
    refine wpAny_mono (step i t m' h₁ tk₁ news' s.heap.objs.size oI hlt hJ off (fun vs x t e q => by rw [Option.some.inj hx] at e; cases e; simp [rawInt] at q) F₁ fun p hp => ?_) (fun _ s₂ h₂ => ?_) fun _ _ e => e.elim
    · rcases List.mem_cons.mp hp with rfl | hp
      · exact ⟨hoI, Ne.symm hLI, hI0⟩
      · exact N₁ p hp
    · refine wpAny_mono h₂ (fun f s₃ h₃ => ?_) fun _ _ e => e.elim
      obtain ⟨rfl, h₄, tk₄, m₄, news₄, rfl, F₄, N₄, off₄, hJ₄⟩ := h₃
      exact ⟨n + 1 - (i + 1), by omega, i + 1, h₄, tk₄, m₄, news₄, rfl, (N₄ _ (.head _)).1.trans hx, F₄, fun p hp => N₄ p (.tail _ hp), off₄, hJ₄, hlt, rfl⟩
  · have hin : i = n := by omega
    subst hin
    refine W.done _ _ _ hit fun h₁ tk₁ hk₁ => wpAny_execs_nil ?_
    obtain ⟨F₁, N₁⟩ := keepF h₁ hk₁
    exact hR h₁ tk₁ m' news' F₁ N₁ hJ
end
end Mine
end
section
open PySem PySem.W PyProof.Rows
set_option maxRecDepth 100000
set_option maxHeartbeats 8000000
namespace Mine
local macro_rules | `(tactic| walk_at "no step of this name 1") => `(tactic| fail)
local macro_rules | `(tactic| walk_at "no step of this name 2") => `(tactic| fail)
local macro_rules | `(tactic| walk_at "no step of this name 3") => `(tactic| fail)
local macro_rules | `(tactic| walk_at "execs cons") => `(tactic| (k_here; (with_reducible show wpAny _ _ _ _ _ (Shared.mk _ _ _ (_ + _) _)); with_reducible refine wp_gen ?_; intro tk9 htk9; (try dsimp only at htk9)))
local macro_rules | `(tactic| walk_at "execs nil") => `(tactic| (k_here; (with_reducible show wpAny _ _ _ _ _ (Shared.mk _ _ _ (_ + _) _)); with_reducible refine wp_gen ?_; intro tk9 htk9; (try dsimp only at htk9)))
theorem news_tail {h₀ h : Heap} {L : Addr} {a : Addr × Obj} {news : List (Addr × Obj)} (N : News h₀ L h (a :: news)) : News h₀ L h news := fun q hq => N q (List.Mem.tail _ hq)
theorem flat_fmt {z : Int} {a b c d : Tok} {v : Value} (hv : PyProof.V.Flat v ((Spec.lookup (PyData.int z) (intData [(Value.int 8 a, Value.int 0 b), (Value.int 12 c, Value.int 4 d)])).getD (PyData.int 6))) : ∃ t, v = .int (if z = 8 then 0 else if z = 12 then 4 else 6) t := by
  have e : (Spec.lookup (PyData.int z) (intData [(Value.int 8 a, Value.int 0 b), (Value.int 12 c, Value.int 4 d)])).getD (PyData.int 6) = PyData.int (if z = 8 then 0 else if z = 12 then 4 else 6) := by
    show (if Spec.same (.int 8) (.int z) = true then some (PyData.int 0) else if Spec.same (.int 12) (.int z) = true then some (PyData.int 4) else none).getD (PyData.int 6) = _
    rw [PyProof.V.same_int, PyProof.V.same_int]
    by_cases h8 : z = 8
    · subst h8; rfl
    · by_cases h12 : z = 12
      · subst h12; rfl
      · have q8 : decide ((8 : Int) = z) = false := by simp; omega
        have q12 : decide ((12 : Int) = z) = false := by simp; omega
        rw [q8, q12, if_neg h8, if_neg h12]
        rfl
  rw [e] at hv
  exact hv.int_inv
/-- the k-th bit -/
def bitF (mode : Int) (k : Nat) : Int := (mode.fdiv (2 ^ k)).fmod 2
/-- what _law_number tells -/
def numF (mode : Int) : Nat → Int
  | 0 => if (mode.fdiv 4096).fmod 16 = 8 then 0 else if (mode.fdiv 4096).fmod 16 = 12 then 4 else 6
  | 1 => bitF mode 8 * 1
  | 2 => bitF mode 7 * 2
  | 3 => if bitF mode 11 = 0 then bitF mode 6 * 3 else if bitF mode 6 = 0 then 6 else 4
  | 4 => bitF mode 5 * 1
  | 5 => bitF mode 4 * 2
  | 6 => if bitF mode 10 = 0 then bitF mode 3 * 3 else if bitF mode 3 = 0 then 6 else 4
  | 7 => bitF mode 2 * 1
  | 8 => bitF mode 1 * 2
  | _ => if bitF mode 9 = 0 then bitF mode 0 * 3 else if bitF mode 0 = 0 then 6 else 5

theorem c_numAll {w p loose mean mg mb} : (∀ (news : List (Addr × Obj)) (mode : Int) (_ : 0 ≤ mode) (_ : mode < 65536) (t t2 : Tok), Clm w p loose mean mg mb 2 147 news (fun _ => True) [Value.int mode t, Value.int 0 t2] (fun t => Value.int (numF mode 0) t)) ∧ (∀ (news : List (Addr × Obj)) (mode : Int) (_ : 0 ≤ mode) (_ : mode < 65536) (t t2 : Tok), Clm w p loose mean mg mb 2 147 news (fun _ => True) [Value.int mode t, Value.int 1 t2] (fun t => Value.int (numF mode 1) t)) ∧ (∀ (news : List (Addr × Obj)) (mode : Int) (_ : 0 ≤ mode) (_ : mode < 65536) (t t2 : Tok), Clm w p loose mean mg mb 2 147 news (fun _ => True) [Value.int mode t, Value.int 2 t2] (fun t => Value.int (numF mode 2) t)) ∧ (∀ (news : List (Addr × Obj)) (mode : Int) (_ : 0 ≤ mode) (_ : mode < 65536) (t t2 : Tok), Clm w p loose mean mg mb 2 147 news (fun _ => True) [Value.int mode t, Value.int 3 t2] (fun t => Value.int (numF mode 3) t)) ∧ (∀ (news : List (Addr × Obj)) (mode : Int) (_ : 0 ≤ mode) (_ : mode < 65536) (t t2 : Tok), Clm w p loose mean mg mb 2 147 news (fun _ => True) [Value.int mode t, Value.int 4 t2] (fun t => Value.int (numF mode 4) t)) ∧ (∀ (news : List (Addr × Obj)) (mode : Int) (_ : 0 ≤ mode) (_ : mode < 65536) (t t2 : Tok), Clm w p loose mean mg mb 2 147 news (fun _ => True) [Value.int mode t, Value.int 5 t2] (fun t => Value.int (numF mode 5) t)) ∧ (∀ (news : List (Addr × Obj)) (mode : Int) (_ : 0 ≤ mode) (_ : mode < 65536) (t t2 : Tok), Clm w p loose mean mg mb 2 147 news (fun _ => True) [Value.int mode t, Value.int 6 t2] (fun t => Value.int (numF mode 6) t)) ∧ (∀ (news : List (Addr × Obj)) (mode : Int) (_ : 0 ≤ mode) (_ : mode < 65536) (t t2 : Tok), Clm w p loose mean mg mb 2 147 news (fun _ => True) [Value.int mode t, Value.int 7 t2] (fun t => Value.int (numF mode 7) t)) ∧ (∀ (news : List (Addr × Obj)) (mode : Int) (_ : 0 ≤ mode) (_ : mode < 65536) (t t2 : Tok), Clm w p loose mean mg mb 2 147 news (fun _ => True) [Value.int mode t, Value.int 8 t2] (fun t => Value.int (numF mode 8) t)) ∧ (∀ (news : List (Addr × Obj)) (mode : Int) (_ : 0 ≤ mode) (_ : mode < 65536) (t t2 : Tok), Clm w p loose mean mg mb 2 147 news (fun _ => True) [Value.int mode t, Value.int 9 t2] (fun t => Value.int (numF mode 9) t)) := by
  refine ⟨?_, ?_, ?_, ?_, ?_, ?_, ?_, ?_, ?_, ?_⟩
  all_goals (intro news mode hm0 hm1 t t2; unfold Clm)
  all_goals k_fill
  all_goals intro dp un gd cn cs a ccd cl outer A₀ base h₀ L m s Q E B F X N T hk hpre hd hu hret
  all_goals refine wpAny_with_toks (Nat.le_refl _) ?_
  all_goals refine wpAny_call ?_
  all_goals k_dflt cell_enter
  all_goals repeat' (first | (dsimp only; walk1) | walk1)
  all_goals (try dsimp only)
  all_goals first
    | exact clm_int hret (by first | rfl | (simp only [numF, bitF]; simp_all; done)) (by assumption) (by assumption) (by assumption)
    | (with_reducible rename PyProof.V.Flat (Value.int _ _) _ => hv9; rename News h₀ L _ (_ :: news) => kN9; exact clm_int hret (by simp only [numF]; simp_all; done) (by assumption) (by assumption) (news_tail kN9))
    | (with_reducible rename PyProof.V.Flat _ (Option.getD _ _) => hv9; obtain ⟨t9, e9⟩ := flat_fmt hv9; subst e9; rename News h₀ L _ (_ :: news) => kN9; exact clm_int hret rfl (by assumption) (by assumption) (news_tail kN9))
    | (rename News h₀ L _ (_ :: news) => kN9; exact clm_int hret (by simp only [numF]; simp_all; done) (by assumption) (by assumption) (news_tail kN9))
theorem c_num {w p loose mean mg mb} (news : List (Addr × Obj)) (mode : Int) (hm0 : 0 ≤ mode) (hm1 : mode < 65536) (t t2 : Tok) (i : Nat) (hi : i < 10) : Clm w p loose mean mg mb 2 147 news (fun _ => True) [Value.int mode t, Value.int (i : Int) t2] (fun t => Value.int (numF mode i) t) :=
  match i, hi with
  | 0, _ => c_numAll.1 news mode hm0 hm1 t t2
  | 1, _ => c_numAll.2.1 news mode hm0 hm1 t t2
  | 2, _ => c_numAll.2.2.1 news mode hm0 hm1 t t2
  | 3, _ => c_numAll.2.2.2.1 news mode hm0 hm1 t t2
  | 4, _ => c_numAll.2.2.2.2.1 news mode hm0 hm1 t t2
  | 5, _ => c_numAll.2.2.2.2.2.1 news mode hm0 hm1 t t2
  | 6, _ => c_numAll.2.2.2.2.2.2.1 news mode hm0 hm1 t t2
  | 7, _ => c_numAll.2.2.2.2.2.2.2.1 news mode hm0 hm1 t t2
  | 8, _ => c_numAll.2.2.2.2.2.2.2.2.1 news mode hm0 hm1 t t2
  | 9, _ => c_numAll.2.2.2.2.2.2.2.2.2 news mode hm0 hm1 t t2
  | n + 10, h => absurd h (by omega)
/-- pairs of a sign and a text -/
def TupL (tl : List (Addr × Obj)) (hi : Nat) : List Value → List (Nat × List Nat) → Prop
  | [], [] => True
  | v :: vs, p :: ps => (∃ (T : Addr) (n : Nat) (x y : Str) (t1 t2 : Tok), v = .ref T ∧ (T, ({ cls := .type "tuple", data := .seq #[.str x t1, .str y t2] n } : Obj)) ∈ tl ∧ x = ofL [p.1] ∧ y = ofL p.2 ∧ @LE.le Nat _ 1 t1 ∧ @LE.le Nat _ t1 hi) ∧ TupL tl hi vs ps
  | _, _ => False
/-- the table of the signs and the texts stands in the ledger -/
structure SpAt (news : List (Addr × Obj)) (vs : List Value) (k : Nat) (hi : Nat) : Prop where
  size : vs.length = (pairsOf k).length
  item : ∀ (i : Nat) (v : Value), vs[i]? = some v → ∃ (p : Nat × List Nat) (T : Addr) (n : Nat) (t1 t2 : Tok), (pairsOf k)[i]? = some p ∧ v = .ref T ∧ (T, ({ cls := .type "tuple", data := .seq #[.str (ofL [p.1]) t1, .str (ofL p.2) t2] n } : Obj)) ∈ news ∧ @LE.le Nat _ 1 t1 ∧ @LE.le Nat _ t1 hi
theorem tupL_at {tl : List (Addr × Obj)} {hi : Nat} : ∀ {vs : List Value} {ps : List (Nat × List Nat)}, TupL tl hi vs ps → vs.length = ps.length ∧ ∀ (i : Nat) (v : Value), vs[i]? = some v → ∃ (p : Nat × List Nat) (T : Addr) (n : Nat) (t1 t2 : Tok), ps[i]? = some p ∧ v = .ref T ∧ (T, ({ cls := .type "tuple", data := .seq #[.str (ofL [p.1]) t1, .str (ofL p.2) t2] n } : Obj)) ∈ tl ∧ @LE.le Nat _ 1 t1 ∧ @LE.le Nat _ t1 hi
  | [], [], _ => ⟨rfl, fun i v hv => by simp at hv⟩
  | [], _ :: _, hl => hl.elim
  | _ :: _, [], hl => hl.elim
  | v :: vs, p :: ps, hl => by
    obtain ⟨⟨T, n, x, y, t1, t2, e, hm, rfl, rfl, r1, r2⟩, hr⟩ := hl
    obtain ⟨h1, h2⟩ := tupL_at hr
    refine ⟨by simp [h1], fun i u hu => ?_⟩
    cases i with
    | zero =>
      simp at hu; subst hu
      exact ⟨p, T, n, t1, t2, rfl, e, hm, r1, r2⟩
    | succ i => simpa using h2 i u (by simpa using hu)
theorem spAt_of {tl : List (Addr × Obj)} {hi : Nat} {vs : List Value} {k : Nat} (h : TupL tl hi vs (pairsOf k)) : SpAt tl vs k hi := ⟨(tupL_at h).1, (tupL_at h).2⟩
theorem SpAt.mono {tl tl' : List (Addr × Obj)} {hi hi' : Nat} {vs : List Value} {k : Nat} (h : SpAt tl vs k hi) (hs : ∀ q ∈ tl, q ∈ tl') (hh : hi ≤ hi') : SpAt tl' vs k hi' :=
  ⟨h.size, fun i v hv => by
    obtain ⟨p, T, n, t1, t2, a, b, c, d, e⟩ := h.item i v hv
    exact ⟨p, T, n, t1, t2, a, b, hs _ c, d, Nat.le_trans e hh⟩⟩
/-- what _law_spelled does -/
def SpC (w : World) (p : Program) (loose : List Str) (mean : ExcName → Option Value) (mg mb : Str → Option Value) (k : Nat) : Prop :=
  ∀ (news : List (Addr × Obj)) (t : Tok) (dp un : Nat) (gd : Option (List Code)) (cn : Str) (cs : Scope) (a : Addr) (ccd : Value) (cl : List (Str × Addr)) (outer : List Env) (A₀ : Around) (base h₀ : Heap) (L : Addr) (m : Str → Option Value) (s : Shared) (Q E : Value → Shared → Prop),
    Below A₀ base outer h₀ → Fr h₀ L s.heap m → (hd.heap_39 w.params).In h₀ → News h₀ L s.heap news → Top p loose mean mg mb h₀ → cs.kind = .function → 1 ≤ s.toks → dp + 4 < recursionLimit → un + 8 * 4 < cLine →
    (∀ (tl : List (Addr × Obj)) (sp : Addr) (vs : List Value) (n : Nat) (h' : Heap) (tk' : Nat), s.toks ≤ tk' → Fr h₀ L h' m → News h₀ L h' (tl ++ news) → (∀ q ∈ tl, ∀ r ∈ news, r.1 < q.1) → (sp, listOf vs.toArray n) ∈ tl → SpAt tl vs k tk' → Q (.ref sp) { s with heap := h', toks := tk' }) →
    wpAny (model PySem.Challenge.rw_op0114_01.row.prog w) (ktrTop dp un gd cn cs L a ccd cl outer) (call (.ref 126) [.int (k : Int) t]) Q E s

theorem c_speAll {w p loose mean mg mb} : SpC w p loose mean mg mb 0 ∧ SpC w p loose mean mg mb 1 ∧ SpC w p loose mean mg mb 2 ∧ SpC w p loose mean mg mb 3 ∧ SpC w p loose mean mg mb 4 := by
  refine ⟨?_, ?_, ?_, ?_, ?_⟩
  · unfold SpC
    k_fill
    intro news t dp un gd cn cs a ccd cl outer A₀ base h₀ L m s Q E B F X N T hk ht1 hd hu hret
    refine wpAny_call ?_
    k_dflt cell_enter
    k_steps
    all_goals (try dsimp only)
    rename News h₀ L _ _ => kN9
    rename Fr h₀ L _ _ => kF9
    refine' hret [_, _, _, _, _, _] _ [_, _, _] _ _ _ ?tk kF9 kN9 ?lt ?mem ?sp
    case mem => exact List.Mem.head _
    case tk => first | omega | (dsimp only at *; omega)
    case lt =>
      repeat' (first | exact List.forall_mem_nil _ | refine List.forall_mem_cons.mpr ⟨?_, ?_⟩)
      all_goals first
        | assumption
        | exact allLt_at (And.right (by assumption))
        | exact allLt_at (And.right (And.right (by assumption)))
        | exact allLt_at (And.right (And.right (And.right (by assumption))))
        | exact allLt_at (And.right (And.right (And.right (And.right (by assumption)))))
        | exact allLt_at (And.right (And.right (And.right (And.right (And.right (by assumption))))))
        | exact allLt_at (And.right (And.right (And.right (And.right (And.right (And.right (by assumption)))))))
        | exact allLt_at (And.right (And.right (And.right (And.right (And.right (And.right (And.right (by assumption))))))))
        | exact allLt_at (And.right (And.right (And.right (And.right (And.right (And.right (And.right (And.right (by assumption)))))))))
        | exact allLt_at (And.right (And.right (And.right (And.right (And.right (And.right (And.right (And.right (And.right (by assumption))))))))))
        | exact allLt_at (And.right (And.right (And.right (And.right (And.right (And.right (And.right (And.right (And.right (And.right (by assumption)))))))))))
        | exact allLt_at (And.right (And.right (And.right (And.right (And.right (And.right (And.right (And.right (And.right (And.right (And.right (by assumption))))))))))))
        | exact allLt_at (And.right (And.right (And.right (And.right (And.right (And.right (And.right (And.right (And.right (And.right (And.right (And.right (by assumption)))))))))))))
    case sp =>
      refine spAt_of ?_
      clear kN9 kF9 hret
      repeat' (first | exact trivial | refine And.intro ⟨_, 0, _, _, _, _, rfl, by k_mem, by decide +kernel, by decide +kernel, ?_, ?_⟩ ?_)
      all_goals (first | exact Nat.le_add_left 1 _ | omega | (dsimp only at *; omega))
  · unfold SpC
    k_fill
    intro news t dp un gd cn cs a ccd cl outer A₀ base h₀ L m s Q E B F X N T hk ht1 hd hu hret
    refine wpAny_call ?_
    k_dflt cell_enter
    k_steps
    all_goals (try dsimp only)
    rename News h₀ L _ _ => kN9
    rename Fr h₀ L _ _ => kF9
    refine' hret [_, _, _, _, _, _, _, _, _, _] _ [_, _, _, _, _, _, _] _ _ _ ?tk kF9 kN9 ?lt ?mem ?sp
    case mem => exact List.Mem.head _
    case tk => first | omega | (dsimp only at *; omega)
    case lt =>
      repeat' (first | exact List.forall_mem_nil _ | refine List.forall_mem_cons.mpr ⟨?_, ?_⟩)
      all_goals first
        | assumption
        | exact allLt_at (And.right (by assumption))
        | exact allLt_at (And.right (And.right (by assumption)))
        | exact allLt_at (And.right (And.right (And.right (by assumption))))
        | exact allLt_at (And.right (And.right (And.right (And.right (by assumption)))))
        | exact allLt_at (And.right (And.right (And.right (And.right (And.right (by assumption))))))
        | exact allLt_at (And.right (And.right (And.right (And.right (And.right (And.right (by assumption)))))))
        | exact allLt_at (And.right (And.right (And.right (And.right (And.right (And.right (And.right (by assumption))))))))
        | exact allLt_at (And.right (And.right (And.right (And.right (And.right (And.right (And.right (And.right (by assumption)))))))))
        | exact allLt_at (And.right (And.right (And.right (And.right (And.right (And.right (And.right (And.right (And.right (by assumption))))))))))
        | exact allLt_at (And.right (And.right (And.right (And.right (And.right (And.right (And.right (And.right (And.right (And.right (by assumption)))))))))))
        | exact allLt_at (And.right (And.right (And.right (And.right (And.right (And.right (And.right (And.right (And.right (And.right (And.right (by assumption))))))))))))
        | exact allLt_at (And.right (And.right (And.right (And.right (And.right (And.right (And.right (And.right (And.right (And.right (And.right (And.right (by assumption)))))))))))))
    case sp =>
      refine spAt_of ?_
      clear kN9 kF9 hret
      repeat' (first | exact trivial | refine And.intro ⟨_, 0, _, _, _, _, rfl, by k_mem, by decide +kernel, by decide +kernel, ?_, ?_⟩ ?_)
      all_goals (first | exact Nat.le_add_left 1 _ | omega | (dsimp only at *; omega))
  · unfold SpC
    k_fill
    intro news t dp un gd cn cs a ccd cl outer A₀ base h₀ L m s Q E B F X N T hk ht1 hd hu hret
    refine wpAny_call ?_
    k_dflt cell_enter
    k_steps
    all_goals (try dsimp only)
    rename News h₀ L _ _ => kN9
    rename Fr h₀ L _ _ => kF9
    refine' hret [_, _, _, _, _, _, _, _] _ [_, _, _] _ _ _ ?tk kF9 kN9 ?lt ?mem ?sp
    case mem => exact List.Mem.head _
    case tk => first | omega | (dsimp only at *; omega)
    case lt =>
      repeat' (first | exact List.forall_mem_nil _ | refine List.forall_mem_cons.mpr ⟨?_, ?_⟩)
      all_goals first
        | assumption
        | exact allLt_at (And.right (by assumption))
        | exact allLt_at (And.right (And.right (by assumption)))
        | exact allLt_at (And.right (And.right (And.right (by assumption))))
        | exact allLt_at (And.right (And.right (And.right (And.right (by assumption)))))
        | exact allLt_at (And.right (And.right (And.right (And.right (And.right (by assumption))))))
        | exact allLt_at (And.right (And.right (And.right (And.right (And.right (And.right (by assumption)))))))
        | exact allLt_at (And.right (And.right (And.right (And.right (And.right (And.right (And.right (by assumption))))))))
        | exact allLt_at (And.right (And.right (And.right (And.right (And.right (And.right (And.right (And.right (by assumption)))))))))
        | exact allLt_at (And.right (And.right (And.right (And.right (And.right (And.right (And.right (And.right (And.right (by assumption))))))))))
        | exact allLt_at (And.right (And.right (And.right (And.right (And.right (And.right (And.right (And.right (And.right (And.right (by assumption)))))))))))
        | exact allLt_at (And.right (And.right (And.right (And.right (And.right (And.right (And.right (And.right (And.right (And.right (And.right (by assumption))))))))))))
        | exact allLt_at (And.right (And.right (And.right (And.right (And.right (And.right (And.right (And.right (And.right (And.right (And.right (And.right (by assumption)))))))))))))
    case sp =>
      refine spAt_of ?_
      clear kN9 kF9 hret
      repeat' (first | exact trivial | refine And.intro ⟨_, 0, _, _, _, _, rfl, by k_mem, by decide +kernel, by decide +kernel, ?_, ?_⟩ ?_)
      all_goals (first | exact Nat.le_add_left 1 _ | omega | (dsimp only at *; omega))
  · unfold SpC
    k_fill
    intro news t dp un gd cn cs a ccd cl outer A₀ base h₀ L m s Q E B F X N T hk ht1 hd hu hret
    refine wpAny_call ?_
    k_dflt cell_enter
    k_steps
    all_goals (try dsimp only)
    rename News h₀ L _ _ => kN9
    rename Fr h₀ L _ _ => kF9
    refine' hret [_, _, _, _, _, _, _, _, _] _ [_, _, _, _] _ _ _ ?tk kF9 kN9 ?lt ?mem ?sp
    case mem => exact List.Mem.head _
    case tk => first | omega | (dsimp only at *; omega)
    case lt =>
      repeat' (first | exact List.forall_mem_nil _ | refine List.forall_mem_cons.mpr ⟨?_, ?_⟩)
      all_goals first
        | assumption
        | exact allLt_at (And.right (by assumption))
        | exact allLt_at (And.right (And.right (by assumption)))
        | exact allLt_at (And.right (And.right (And.right (by assumption))))
        | exact allLt_at (And.right (And.right (And.right (And.right (by assumption)))))
        | exact allLt_at (And.right (And.right (And.right (And.right (And.right (by assumption))))))
        | exact allLt_at (And.right (And.right (And.right (And.right (And.right (And.right (by assumption)))))))
        | exact allLt_at (And.right (And.right (And.right (And.right (And.right (And.right (And.right (by assumption))))))))
        | exact allLt_at (And.right (And.right (And.right (And.right (And.right (And.right (And.right (And.right (by assumption)))))))))
        | exact allLt_at (And.right (And.right (And.right (And.right (And.right (And.right (And.right (And.right (And.right (by assumption))))))))))
        | exact allLt_at (And.right (And.right (And.right (And.right (And.right (And.right (And.right (And.right (And.right (And.right (by assumption)))))))))))
        | exact allLt_at (And.right (And.right (And.right (And.right (And.right (And.right (And.right (And.right (And.right (And.right (And.right (by assumption))))))))))))
        | exact allLt_at (And.right (And.right (And.right (And.right (And.right (And.right (And.right (And.right (And.right (And.right (And.right (And.right (by assumption)))))))))))))
    case sp =>
      refine spAt_of ?_
      clear kN9 kF9 hret
      repeat' (first | exact trivial | refine And.intro ⟨_, 0, _, _, _, _, rfl, by k_mem, by decide +kernel, by decide +kernel, ?_, ?_⟩ ?_)
      all_goals (first | exact Nat.le_add_left 1 _ | omega | (dsimp only at *; omega))
  · unfold SpC
    k_fill
    intro news t dp un gd cn cs a ccd cl outer A₀ base h₀ L m s Q E B F X N T hk ht1 hd hu hret
    refine wpAny_call ?_
    k_dflt cell_enter
    k_steps
    all_goals (try dsimp only)
    rename News h₀ L _ _ => kN9
    rename Fr h₀ L _ _ => kF9
    refine' hret [_, _, _, _, _, _, _, _, _, _, _, _, _] _ [_, _, _, _, _, _] _ _ _ ?tk kF9 kN9 ?lt ?mem ?sp
    case mem => exact List.Mem.head _
    case tk => first | omega | (dsimp only at *; omega)
    case lt =>
      repeat' (first | exact List.forall_mem_nil _ | refine List.forall_mem_cons.mpr ⟨?_, ?_⟩)
      all_goals first
        | assumption
        | exact allLt_at (And.right (by assumption))
        | exact allLt_at (And.right (And.right (by assumption)))
        | exact allLt_at (And.right (And.right (And.right (by assumption))))
        | exact allLt_at (And.right (And.right (And.right (And.right (by assumption)))))
        | exact allLt_at (And.right (And.right (And.right (And.right (And.right (by assumption))))))
        | exact allLt_at (And.right (And.right (And.right (And.right (And.right (And.right (by assumption)))))))
        | exact allLt_at (And.right (And.right (And.right (And.right (And.right (And.right (And.right (by assumption))))))))
        | exact allLt_at (And.right (And.right (And.right (And.right (And.right (And.right (And.right (And.right (by assumption)))))))))
        | exact allLt_at (And.right (And.right (And.right (And.right (And.right (And.right (And.right (And.right (And.right (by assumption))))))))))
        | exact allLt_at (And.right (And.right (And.right (And.right (And.right (And.right (And.right (And.right (And.right (And.right (by assumption)))))))))))
        | exact allLt_at (And.right (And.right (And.right (And.right (And.right (And.right (And.right (And.right (And.right (And.right (And.right (by assumption))))))))))))
        | exact allLt_at (And.right (And.right (And.right (And.right (And.right (And.right (And.right (And.right (And.right (And.right (And.right (And.right (by assumption)))))))))))))
    case sp =>
      refine spAt_of ?_
      clear kN9 kF9 hret
      repeat' (first | exact trivial | refine And.intro ⟨_, 0, _, _, _, _, rfl, by k_mem, by decide +kernel, by decide +kernel, ?_, ?_⟩ ?_)
      all_goals (first | exact Nat.le_add_left 1 _ | omega | (dsimp only at *; omega))
theorem c_spe0 {w p loose mean mg mb} : SpC w p loose mean mg mb 0 := c_speAll.1
theorem c_spe1 {w p loose mean mg mb} : SpC w p loose mean mg mb 1 := c_speAll.2.1
theorem c_spe2 {w p loose mean mg mb} : SpC w p loose mean mg mb 2 := c_speAll.2.2.1
theorem c_spe3 {w p loose mean mg mb} : SpC w p loose mean mg mb 3 := c_speAll.2.2.2.1
theorem c_spe4 {w p loose mean mg mb} : SpC w p loose mean mg mb 4 := c_speAll.2.2.2.2
end Mine
end
section
open PySem
set_option maxRecDepth 100000
namespace Mine
theorem and_nat (n b : Nat) : Builtin.bitAnd (n : Int) (b : Int) = ((n &&& b : Nat) : Int) := by simp [Builtin.bitAnd]
theorem bitF_nat (n k : Nat) : bitF (n : Int) k = if n.testBit k = true then 1 else 0 := by
  unfold bitF
  have e : (2 : Int) ^ k = ((2 ^ k : Nat) : Int) := by simp
  have e2 : (2 : Int) = ((2 : Nat) : Int) := rfl
  rw [e, ← Int.ofNat_fdiv]
  rw [show ((n / 2 ^ k : Nat) : Int).fmod 2 = ((n / 2 ^ k : Nat) : Int).fmod ((2 : Nat) : Int) from rfl, ← Int.ofNat_fmod, Nat.testBit_eq_decide_div_mod_eq]
  have := Nat.mod_lt (n / 2 ^ k) (show 0 < 2 by omega)
  by_cases h : n / 2 ^ k % 2 = 1
  · simp [h]
  · have h0 : n / 2 ^ k % 2 = 0 := by omega
    simp [h0]
theorem and_pw (n k : Nat) : n &&& 2 ^ k = (n.testBit k).toNat * 2 ^ k := by
  apply Nat.eq_of_testBit_eq
  intro i
  rw [Nat.testBit_and, Nat.testBit_two_pow]
  by_cases h : k = i
  · subst h
    cases n.testBit k <;> simp
  · cases n.testBit k <;> simp [h]
theorem and1 (n k : Nat) : decide (Builtin.bitAnd (n : Int) ((2 ^ k : Nat) : Int) = ((2 ^ k : Nat) : Int)) = n.testBit k := by
  rw [and_nat, and_pw]
  have hp : 0 < 2 ^ k := Nat.two_pow_pos k
  cases h : n.testBit k
  · simp only [Bool.toNat_false, Nat.zero_mul, decide_eq_false_iff_not]
    intro q
    have q' : (0 : Nat) = 2 ^ k := Int.ofNat.inj q
    omega
  · simp
theorem and2 (n j k : Nat) (hjk : 2 ^ j ||| 2 ^ k ≠ 2 ^ j) (hjk2 : 2 ^ j ||| 2 ^ k ≠ 2 ^ k) : decide (Builtin.bitAnd (n : Int) ((2 ^ j ||| 2 ^ k : Nat) : Int) = ((2 ^ j ||| 2 ^ k : Nat) : Int)) = (n.testBit j && n.testBit k) := by
  rw [and_nat, Nat.and_or_distrib_left, and_pw, and_pw]
  have hp : 0 < 2 ^ k := Nat.two_pow_pos k
  have hp2 : 2 ^ j ≤ 2 ^ j ||| 2 ^ k := Nat.left_le_or
  have hp3 : 0 < 2 ^ j := Nat.two_pow_pos j
  cases h : n.testBit j <;> cases h' : n.testBit k <;> simp only [Bool.toNat_false, Bool.toNat_true, Nat.zero_mul, Nat.one_mul, Nat.or_zero, Nat.zero_or, Bool.and_false, Bool.and_true, decide_eq_false_iff_not, decide_eq_true_eq] <;> intro q
  · have q' : (0 : Nat) = 2 ^ j ||| 2 ^ k := Int.ofNat.inj q
    omega
  · exact hjk2 (Int.ofNat.inj q).symm
  · exact hjk (Int.ofNat.inj q).symm
theorem and_fmt (n : Nat) (h : n < 65536) : Builtin.bitAnd (n : Int) 61440 = ((n / 4096 * 4096 : Nat) : Int) := by
  have e : (61440 : Int) = ((61440 : Nat) : Int) := rfl
  rw [e, and_nat]
  congr 1
  apply Nat.eq_of_testBit_eq
  intro i
  have e1 : 61440 = 15 <<< 12 := by decide
  have e2 : n / 4096 * 4096 = (n >>> 12) <<< 12 := by rw [Nat.shiftLeft_eq, Nat.shiftRight_eq_div_pow]
  rw [e1, e2, Nat.testBit_and, Nat.testBit_shiftLeft, Nat.testBit_shiftLeft, Nat.testBit_shiftRight]
  by_cases hi : 12 ≤ i
  · simp only [hi, decide_true, Bool.true_and]
    rw [show 12 + (i - 12) = i by omega]
    by_cases h2 : i < 16
    · have : i = 12 ∨ i = 13 ∨ i = 14 ∨ i = 15 := by omega
      rcases this with rfl | rfl | rfl | rfl <;> exact Bool.and_true _
    · have : n.testBit i = false := Nat.testBit_lt_two_pow (Nat.lt_of_lt_of_le h (by
        show 2 ^ 16 ≤ 2 ^ i
        exact Nat.pow_le_pow_right (by omega) (by omega)))
      rw [this]; rfl
  · simp [hi]

/-- the letters that are known -/
def knownS : List Str := [Str.ofString "-", Str.ofString "r", Str.ofString "w", Str.ofString "x", Str.ofString "s", Str.ofString "t"]
def knI (c : Str) : Nat := (knownS.findIdx? (· == c)).getD 6

theorem kn0 (q : Fin 16) : (knI (foundIn (fun p => decide (((q.1 * 4096 : Nat) : Int) = p.1)) (fmDflt 0) (fmTab 0)) : Int) = if q.1 = 8 then 0 else if q.1 = 12 then 4 else 6 := by
  revert q; decide +kernel

theorem kn0q (q : Nat) : (if q = 8 then (0 : Int) else if q = 12 then 4 else 6) = if (q : Int) = 8 then 0 else if (q : Int) = 12 then 4 else 6 := by
  by_cases h8 : q = 8
  · simp [h8]
  · by_cases h12 : q = 12
    · simp [h12]
    · have a1 : ¬ ((q : Int) = 8) := by omega
      have a2 : ¬ ((q : Int) = 12) := by omega
      simp [h8, h12, a1, a2]
theorem chS_num (n : Nat) (h : n < 65536) : ∀ i, i < 10 → (knI (chS (n : Int) i) : Int) = numF (n : Int) i := by
  have c (k : Nat) := and1 n k
  have c8 : decide (Builtin.bitAnd (n : Int) 256 = 256) = n.testBit 8 := c 8
  have c7 : decide (Builtin.bitAnd (n : Int) 128 = 128) = n.testBit 7 := c 7
  have c6 : decide (Builtin.bitAnd (n : Int) 64 = 64) = n.testBit 6 := c 6
  have c5 : decide (Builtin.bitAnd (n : Int) 32 = 32) = n.testBit 5 := c 5
  have c4 : decide (Builtin.bitAnd (n : Int) 16 = 16) = n.testBit 4 := c 4
  have c3 : decide (Builtin.bitAnd (n : Int) 8 = 8) = n.testBit 3 := c 3
  have c2 : decide (Builtin.bitAnd (n : Int) 4 = 4) = n.testBit 2 := c 2
  have c1 : decide (Builtin.bitAnd (n : Int) 2 = 2) = n.testBit 1 := c 1
  have c0 : decide (Builtin.bitAnd (n : Int) 1 = 1) = n.testBit 0 := c 0
  have c11 : decide (Builtin.bitAnd (n : Int) 2048 = 2048) = n.testBit 11 := c 11
  have c10 : decide (Builtin.bitAnd (n : Int) 1024 = 1024) = n.testBit 10 := c 10
  have c9 : decide (Builtin.bitAnd (n : Int) 512 = 512) = n.testBit 9 := c 9
  have d3 : decide (Builtin.bitAnd (n : Int) 2112 = 2112) = (n.testBit 11 && n.testBit 6) := and2 n 11 6 (by decide) (by decide)
  have d6 : decide (Builtin.bitAnd (n : Int) 1032 = 1032) = (n.testBit 10 && n.testBit 3) := and2 n 10 3 (by decide) (by decide)
  have d9 : decide (Builtin.bitAnd (n : Int) 513 = 513) = (n.testBit 9 && n.testBit 0) := and2 n 9 0 (by decide) (by decide)
  intro i hi
  match i, hi with
  | 0, _ =>
    have e : chS (n : Int) 0 = foundIn (fun p => decide (((n / 4096 * 4096 : Nat) : Int) = p.1)) (fmDflt 0) (fmTab 0) := by
      unfold chS
      congr 1
      funext p
      unfold fmCond
      rw [if_pos rfl, and_fmt n h]
    have k := kn0 ⟨n / 4096, by omega⟩
    have e2 : ((n : Int).fdiv 4096).fmod 16 = ((n / 4096 : Nat) : Int) := by
      rw [show ((n : Int).fdiv 4096).fmod 16 = ((n : Int).fdiv ((4096 : Nat) : Int)).fmod ((16 : Nat) : Int) from rfl, ← Int.ofNat_fdiv, ← Int.ofNat_fmod, Nat.mod_eq_of_lt (by omega)]
    show _ = if ((n : Int).fdiv 4096).fmod 16 = 8 then (0 : Int) else if ((n : Int).fdiv 4096).fmod 16 = 12 then 4 else 6
    rw [e, e2, k]
    exact kn0q _
  | 1, _ =>
    show _ = bitF (n : Int) 8 * 1
    rw [bitF_nat]; unfold chS foundIn fmCond fmTab
    simp only [List.find?, show ¬ (1 = 0) by decide, if_false, c8]
    cases n.testBit 8 <;> rfl
  | 2, _ =>
    show _ = bitF (n : Int) 7 * 2
    rw [bitF_nat]; unfold chS foundIn fmCond fmTab
    simp only [List.find?, show ¬ (2 = 0) by decide, if_false, c7]
    cases n.testBit 7 <;> rfl
  | 3, _ =>
    show _ = if bitF (n : Int) 11 = 0 then bitF (n : Int) 6 * 3 else if bitF (n : Int) 6 = 0 then 6 else 4
    rw [bitF_nat, bitF_nat]; unfold chS foundIn fmCond fmTab
    simp only [List.find?, show ¬ (3 = 0) by decide, if_false, c6, c11, d3]
    cases n.testBit 11 <;> cases n.testBit 6 <;> rfl
  | 4, _ =>
    show _ = bitF (n : Int) 5 * 1
    rw [bitF_nat]; unfold chS foundIn fmCond fmTab
    simp only [List.find?, show ¬ (4 = 0) by decide, if_false, c5]
    cases n.testBit 5 <;> rfl
  | 5, _ =>
    show _ = bitF (n : Int) 4 * 2
    rw [bitF_nat]; unfold chS foundIn fmCond fmTab
    simp only [List.find?, show ¬ (5 = 0) by decide, if_false, c4]
    cases n.testBit 4 <;> rfl
  | 6, _ =>
    show _ = if bitF (n : Int) 10 = 0 then bitF (n : Int) 3 * 3 else if bitF (n : Int) 3 = 0 then 6 else 4
    rw [bitF_nat, bitF_nat]; unfold chS foundIn fmCond fmTab
    simp only [List.find?, show ¬ (6 = 0) by decide, if_false, c3, c10, d6]
    cases n.testBit 10 <;> cases n.testBit 3 <;> rfl
  | 7, _ =>
    show _ = bitF (n : Int) 2 * 1
    rw [bitF_nat]; unfold chS foundIn fmCond fmTab
    simp only [List.find?, show ¬ (7 = 0) by decide, if_false, c2]
    cases n.testBit 2 <;> rfl
  | 8, _ =>
    show _ = bitF (n : Int) 1 * 2
    rw [bitF_nat]; unfold chS foundIn fmCond fmTab
    simp only [List.find?, show ¬ (8 = 0) by decide, if_false, c1]
    cases n.testBit 1 <;> rfl
  | 9, _ =>
    show _ = if bitF (n : Int) 9 = 0 then bitF (n : Int) 0 * 3 else if bitF (n : Int) 0 = 0 then 6 else 5
    rw [bitF_nat, bitF_nat]; unfold chS foundIn fmCond fmTab
    simp only [List.find?, show ¬ (9 = 0) by decide, if_false, c0, c9, d9]
    cases n.testBit 9 <;> cases n.testBit 0 <;> rfl
end Mine
end
section
open PySem PySem.W PyProof.Rows
set_option maxRecDepth 100000
set_option maxHeartbeats 8000000
namespace Mine
/-- the law's own def, out of the given program -/
def lawDef : Stmt := (PySem.Challenge.pw_op0114_01.main.body.getLast?).getD (.Pass ⟨0, 0, 0, 0⟩)
def lawScope : Scope := match lawDef with | .FunctionDef _ _ _ _ _ _ sc _ _ _ => sc | _ => { kind := .function, names := [], isGenerator := false, isCoroutine := false, more := [] }
def lawBody : List Stmt := match lawDef with | .FunctionDef _ _ b _ _ _ _ _ _ _ => b | _ => []
def turnBody : List Stmt := match lawBody with | [_, .For _ _ b _ _, _] => b | _ => []
def turnSt (i : Nat) : Stmt := turnBody.getD i (.Pass ⟨0, 0, 0, 0⟩)
abbrev lawEnv (L fa : Addr) (cd : Value) : Env := envX (Str.ofString "law") lawScope L fa cd (cellsFrom (L + 1) lawScope.names [])

theorem IntsAre.snoc {vs : List Value} {xs : List Int} (h : IntsAre vs xs) (x : Int) (t : Tok) : IntsAre (vs ++ [.int x t]) (xs ++ [x]) := by
  induction h with
  | nil => exact .cons x t .nil
  | cons z u _ ih => exact .cons z u ih
theorem sum_bits : ∀ (xs : List Int), (∀ x ∈ xs, Builtin.Int.intBits x ≤ 1048576) → Builtin.Int.intBits xs.sum ≤ 1048576 + xs.length
  | [], _ => by rw [List.sum_nil]; exact Nat.le_trans (Nat.le_of_ble_eq_true rfl) (Nat.le_add_right _ _)
  | x :: r, h => by
    have h1 := h x (List.mem_cons_self ..)
    have h2 := sum_bits r fun y hy => h y (List.mem_cons_of_mem _ hy)
    have h3 := bits_add h1 h2
    rw [List.sum_cons, List.length_cons]
    refine Nat.le_trans h3 ?_
    omega
theorem getD_mem {ns : List Int} {j : Nat} {d : Int} (h : j < ns.length) : ns.getD j d ∈ ns := by
  have e : ns.getD j d = ns[j] := by simp [List.getD, h]
  rw [e]; exact List.getElem_mem h
def StMore (w : World) (p : Program) (loose : List Str) (mean : ExcName → Option Value) (mg mb : Str → Option Value) (S : Stmt) : Prop := ∀ (dp un : Nat) (gd : Option (List Code)) (fa : Addr) (cd : Value) (outer : List Env) (A₀ : Around) (base h₀ : Heap) (L : Addr) (m : Str → Option Value) (s : Shared) (Q : Flow → Shared → Prop) (E : Value → Shared → Prop) (news : List (Addr × Obj)) (k : Nat) (t : Tok) (ns : List Int) (vs : List Value) (sc : Addr) (oS : Obj),
    Below A₀ base outer h₀ → Fr h₀ L s.heap (fun y => if y = Str.ofString "k" then some (.int (k : Int) t) else m y) → (hd.heap_39 w.params).In h₀ → News h₀ L s.heap ((L + 1, oS) :: news) → Top p loose mean mg mb h₀ → dp + 20 < recursionLimit → un + 8 * 20 < cLine →
    k < 5 → h₀.IsList sc vs.toArray → IntsAre vs ns → (PyData.list (ns.map .int)).layable0 = true → ns.length ≤ 63 → oS.data = .cell (some (.ref sc)) →
    (∀ (M : Int) (t' : Tok) (h' : Heap) (tk' : Nat), Builtin.Int.intBits M ≤ 1100000 → Fr h₀ L h' (fun y => if y = Str.ofString "more" then some (.int M t') else if y = Str.ofString "k" then some (.int (k : Int) t) else m y) → News h₀ L h' ((L + 1, oS) :: news) → Q .next { s with heap := h', toks := tk' }) →
    wpAny (model PySem.Challenge.rw_op0114_01.row.prog w) (ktrTop dp un gd (Str.ofString "law") lawScope L fa cd (cellsFrom (L + 1) lawScope.names []) outer) (exec S (lawEnv L fa cd)) Q E s
theorem st_more {w p loose mean mg mb} : StMore w p loose mean mg mb (turnSt 0) := by
  unfold StMore
  k_fill
  intro dp un gd fa cd outer A₀ base h₀ L m s Q E news k t ns vs sc oS B F X N T hdp hun hk5 hIL hIA hlay hlen hS hret
  conv in turnSt 0 => whnf
  dsimp only [lawEnv]
  iterate 5 walk1
  k_dflt (refine' ListComp_G ?F ?c ?ce ?kd ?nm ?x ?_ ?hs; (case F => k_asm); (case c => with_unfolding_all rfl); (case ce => decide); (case kd => rfl); (case nm => decide); (case x => rfl); (case hs => (intro _; with_unfolding_all rfl)))
  iterate 17 walk1
  (try dsimp only)
  have r5 := range5 (k := k) (n := ns.length) hk5 hlen
  have r1 := r5.1
  have r2 := r5.2.1
  have r3 := r5.2.2.1
  have r4 := r5.2.2.2
  clear r5
  with_reducible rename IsRange _ _ _ _ _ _ _ _ => hR9
  k_dflt (refine' src_range ?hh ?F ?N hR9 r1 r3 ?z ?_; (case hh => rfl); (case F => k_asm); (case N => k_asm); (case z => exact Nat.le_trans r2 (by rw [sizeLine_eq]; omega)))
  intro g9
  refine rest_ind _ (fun i ys nw => nw = (L + 1, oS) :: news ∧ ∃ xs : List Int, IntsAre ys xs ∧ xs.length = i ∧ ∀ x ∈ xs, x ∈ ns) ?step ?fin _ 0 [] _ (Nat.zero_add _) ⟨rfl, [], .nil, rfl, by simp⟩ trivial
  case step =>
    rintro i ys nw v I oI C oC D m₂ h9 tk9 E9 hi ⟨rfl, xs, hxs, hxl, hxn⟩ _ ⟨t9, rfl⟩ hC hx F9 N9 off ne
    have hb := r4 i hi

    iterate 4 (first | (dsimp only; walk1) | walk1)
    exact LCg.CompEnd.intro F9 N9 _ (fun p hp => hp) off trivial ⟨rfl, xs ++ [_], IntsAre.snoc hxs _ _, by simp [hxl], fun x hx' => (List.mem_append.mp hx').elim (hxn x) fun q => by
      rw [List.mem_singleton.mp q]
      exact getD_mem (by omega)⟩
  case fin =>
    rintro ys nw ⟨rfl, xs, hxs, hxl, hxn⟩
    unfold LCg.FinE
    intro D7 h7 tk7 F7 N7 o7
    (try dsimp only)
    walk1
    refine LSm.sum_ints F7 N7 rfl ⟨_, (N7 _ (.head _)).1, rfl, _, rfl⟩ hxs fun h8 tk8 t8 F8 N8 => ?_
    (try dsimp only)
    walk1
    with_reducible rename News h₀ L _ _ => kN9
    exact hret _ _ _ _ (Nat.le_trans (sum_bits xs fun x hx => intBits_le_of_item (hxn x hx) hlay) (by omega)) (by assumption) (fun q hq => kN9 q (.tail _ hq))
end Mine
end
section
open PySem PySem.W PyProof.Rows
set_option maxRecDepth 100000
set_option maxHeartbeats 8000000
namespace Mine
theorem fmod_small (x : Int) (b : Nat) (hb : 0 < b) : ∃ n : Nat, n < b ∧ Int.fmod x (b : Int) = (n : Int) := by
  have h1 := Int.fmod_nonneg_of_pos x (show (0 : Int) < (b : Int) by omega)
  have h2 := Int.fmod_lt_of_pos x (show (0 : Int) < (b : Int) by omega)
  exact ⟨(Int.fmod x (b : Int)).toNat, by omega, by omega⟩
def StMode (w : World) (p : Program) (loose : List Str) (mean : ExcName → Option Value) (mg mb : Str → Option Value) (S : Stmt) : Prop := ∀ (dp un : Nat) (gd : Option (List Code)) (fa : Addr) (cd : Value) (outer : List Env) (A₀ : Around) (base h₀ : Heap) (L : Addr) (m : Str → Option Value) (s : Shared) (Q : Flow → Shared → Prop) (E : Value → Shared → Prop) (news : List (Addr × Obj)) (k : Nat) (M : Int) (tk tM : Tok) (oM : Obj) (v₀ : Option Value),
    Below A₀ base outer h₀ → Fr h₀ L s.heap (fun n => if n = Str.ofString "more" then some (.int M tM) else if n = Str.ofString "k" then some (.int (k : Int) tk) else m n) → (hd.heap_39 w.params).In h₀ →
    News h₀ L s.heap ((L + 1 + 1 + 1, oM) :: news) → Top p loose mean mg mb h₀ → dp + 20 < recursionLimit → un + 8 * 20 < cLine →
    k < 5 → Builtin.Int.intBits M ≤ 1100000 → oM.data = .cell v₀ → (∀ q ∈ news, q.1 ≠ L + 1 + 1 + 1) →
    (∀ (md : Nat) (t' : Tok) (oM' : Obj) (h' : Heap) (tk' : Nat), md < 65536 → Fr h₀ L h' (fun n => if n = Str.ofString "more" then some (.int M tM) else if n = Str.ofString "k" then some (.int (k : Int) tk) else m n) → News h₀ L h' ((L + 1 + 1 + 1, oM') :: news) → oM'.data = .cell (some (.int (md : Int) t')) → Q .next { s with heap := h', toks := tk' }) →
    wpAny (model PySem.Challenge.rw_op0114_01.row.prog w) (ktrTop dp un gd (Str.ofString "law") lawScope L fa cd (cellsFrom (L + 1) lawScope.names []) outer) (exec S (lawEnv L fa cd)) Q E s
theorem st_mode {w p loose mean mg mb} : StMode w p loose mean mg mb (turnSt 1) := by
  unfold StMode
  k_fill
  intro dp un gd fa cd outer A₀ base h₀ L m s Q E news k M tk tM oM v₀ B F X N T hdp hun hk5 hM hoM hne hret
  conv in turnSt 1 => whnf
  dsimp only [lawEnv]
  iterate 25 (first | (dsimp only; walk1) | walk1)
  all_goals (try dsimp only)
  walk1
  (try dsimp only)
  obtain ⟨md, hmd, emd⟩ := fmod_small ([33261, 17407, 35309, 34273, 18415].getD ((k : Int)).toNat 0 + 2741 * M) 65536 (by omega)
  have emd' : Int.fmod ([33261, 17407, 35309, 34273, 18415].getD ((k : Int)).toNat 0 + 2741 * M) 65536 = (md : Int) := emd
  rw [emd']
  with_reducible rename News _ _ _ _ => kN9
  with_reducible rename Fr _ _ _ _ => kF9
  have N3 := fun q hq => kN9 q (List.Mem.tail _ hq)
  clear kN9
  k_dflt (refine' storeX_C (c := L + 1 + 1 + 1) (v₀ := v₀) kF9 N3 ?hc (.head hne) hoM ?_ ?hk ?hx; (case hc => rfl); (case hk => rfl); (case hx => rfl))
  intro h8 o8 F8 N8 d8
  exact hret md _ o8 h8 _ hmd F8 N8 d8
def StStart (w : World) (p : Program) (loose : List Str) (mean : ExcName → Option Value) (mg mb : Str → Option Value) (S : Stmt) : Prop := ∀ (dp un : Nat) (gd : Option (List Code)) (fa : Addr) (cd : Value) (outer : List Env) (A₀ : Around) (base h₀ : Heap) (L : Addr) (m : Str → Option Value) (s : Shared) (Q : Flow → Shared → Prop) (E : Value → Shared → Prop) (news : List (Addr × Obj)) (k : Nat) (M : Int) (tk tM : Tok),
    Below A₀ base outer h₀ → Fr h₀ L s.heap (fun n => if n = Str.ofString "more" then some (.int M tM) else if n = Str.ofString "k" then some (.int (k : Int) tk) else m n) → (hd.heap_39 w.params).In h₀ →
    News h₀ L s.heap news → Top p loose mean mg mb h₀ → dp + 20 < recursionLimit → un + 8 * 20 < cLine → Builtin.Int.intBits M ≤ 1100000 →
    (∀ (st : Nat) (t' : Tok) (h' : Heap) (tk' : Nat), st < 6 → Fr h₀ L h' (fun n => if n = Str.ofString "start" then some (.int (st : Int) t') else if n = Str.ofString "more" then some (.int M tM) else if n = Str.ofString "k" then some (.int (k : Int) tk) else m n) → News h₀ L h' news → Q .next { s with heap := h', toks := tk' }) →
    wpAny (model PySem.Challenge.rw_op0114_01.row.prog w) (ktrTop dp un gd (Str.ofString "law") lawScope L fa cd (cellsFrom (L + 1) lawScope.names []) outer) (exec S (lawEnv L fa cd)) Q E s
theorem st_start {w p loose mean mg mb} : StStart w p loose mean mg mb (turnSt 2) := by
  unfold StStart
  k_fill
  intro dp un gd fa cd outer A₀ base h₀ L m s Q E news k M tk tM B F X N T hdp hun hM hret
  conv in turnSt 2 => whnf
  dsimp only [lawEnv]
  iterate 12 (first | (dsimp only; walk1) | walk1)
  all_goals (try dsimp only)
  obtain ⟨st, hst, est⟩ := fmod_small (M.fdiv 7 + (k : Int)) 6 (by omega)
  have est' : Int.fmod (M.fdiv 7 + (k : Int)) 6 = (st : Int) := est
  with_reducible rename News _ _ _ _ => kN9
  with_reducible rename Fr _ _ _ _ => kF9
  rw [est'] at kF9
  exact hret st _ _ _ hst kF9 kN9
end Mine
end
section
open PySem PySem.W PyProof.Rows
set_option maxRecDepth 100000
set_option maxHeartbeats 8000000
namespace Mine
theorem isStrOf_at (x : Str) : ∀ {vs : List Value} {ys : List Str}, StrsAre vs ys → ∀ (i : Nat) (h : i < vs.length) (h' : i < ys.length), isStrOf x vs[i] = (ys[i] == x)
  | _, _, .nil, i, h, _ => absurd h (by simp)
  | _, _, .cons y t r, 0, _, _ => rfl
  | _, _, .cons y t r, i + 1, h, h' => by simpa using isStrOf_at x r i (by simpa using h) (by simpa using h')
section
variable {prog : Program} {w : World} {A : Around} {E : Value → Shared → Prop} {s : Shared} {h₀ : Heap} {L D : Addr} {news : List (Addr × Obj)}
theorem index_strs {vs : List Value} {ys : List Str} {n : Nat} {x : Str} {t : Tok} {j : Nat} {Q : Value → Shared → Prop} (N : News h₀ L s.heap news) (hm : (D, listOf vs.toArray n) ∈ news) (hi : StrsAre vs ys)
    (e : ys.findIdx? (· == x) = some j) (hz : ys.length ≤ 64) (h : Q (.int (j : Int) s.toks) { s with toks := s.toks + 1 }) : wpAny (model prog w) A (call (.builtin "list.index") [.ref D, .str x t]) Q E s := by
  obtain ⟨hj, e1, e2⟩ := List.findIdx?_eq_some_iff_getElem.mp e
  have hl := hi.length
  refine call_meets PySem.F.slot_list_index ⟨_, (N _ hm).1, rfl⟩ PySem.F.entry_list_index (PySem.F.args_list_index_2 _ _)
    (MeetsSeq.list_index D vs.toArray n (.str x t) (isStrOf x) (fun y hy => eq_isStrOf x t hi y (by simpa using hy)) j (by simpa [hl] using hj) (by omega) ?_ (fun i hi' hlt => ?_)) ⟨(N _ hm).1, h⟩
  · have := isStrOf_at x hi j (by omega) hj
    simpa [this] using e1
  · have hi2 : i < vs.length := by simpa using hi'
    have := isStrOf_at x hi i hi2 (by omega)
    have e3 := e2 i hlt
    simp only [Bool.not_eq_true] at e3
    simpa [this] using e3
end
theorem knI_in {x : Str} (h : knownS.any (· == x) = true) : knownS.findIdx? (· == x) = some (knI x) := by
  unfold knI
  cases e : knownS.findIdx? (· == x) with
  | none =>
    rw [List.findIdx?_eq_none_iff] at e
    obtain ⟨y, hy, q⟩ := List.any_eq_true.mp h
    rw [e y hy] at q; cases q
  | some j => rfl
theorem knI_out {x : Str} (h : knownS.any (· == x) = false) : knI x = 6 := by
  unfold knI
  have e : knownS.findIdx? (· == x) = none := by
    rw [List.findIdx?_eq_none_iff]
    intro y hy
    cases q : y == x with
    | false => rfl
    | true =>
      have : knownS.any (· == x) = true := List.any_eq_true.mpr ⟨y, hy, q⟩
      rw [h] at this; cases this
  rw [e]; rfl
/-- the sign of the table at this number, counted round -/
def sgn (k j : Nat) : Nat := ((pairsOf k).getD (j % (pairsOf k).length) (0, [])).1
theorem fmod_nat (a b : Nat) : Int.fmod (a : Int) (b : Int) = ((a % b : Nat) : Int) := (Int.ofNat_fmod a b).symm
theorem pairs_pos (k : Nat) : 0 < (pairsOf k).length := by unfold pairsOf; split <;> simp
theorem pairs_le (k : Nat) : (pairsOf k).length ≤ 7 := by unfold pairsOf; split <;> simp
theorem SpAt.at {news : List (Addr × Obj)} {vs : List Value} {k hi : Nat} (S : SpAt news vs k hi) (j : Nat) : ∃ (T : Addr) (n : Nat) (t1 t2 : Tok) (y : List Nat), vs[j % vs.length]? = some (.ref T) ∧ (T, ({ cls := .type "tuple", data := .seq #[.str (ofL [sgn k j]) t1, .str (ofL y) t2] n } : Obj)) ∈ news ∧ @LE.le Nat _ 1 t1 ∧ @LE.le Nat _ t1 hi := by
  have hp := pairs_pos k
  have hlt : j % vs.length < vs.length := Nat.mod_lt _ (by rw [S.size]; exact hp)
  obtain ⟨p, T, n, t1, t2, a, b, c, d, e⟩ := S.item (j % vs.length) _ (List.getElem?_eq_getElem hlt)
  have e1 : sgn k j = p.1 := by
    unfold sgn
    rw [← S.size, List.getD_eq_getElem?_getD, a]; rfl
  exact ⟨T, n, t1, t2, p.2, by rw [List.getElem?_eq_getElem hlt, b], by rw [e1]; exact c, d, e⟩

section
variable {prog : Program} {w : World} {A : Around} {E : Value → Shared → Prop} {s : Shared} {h₀ : Heap} {L sp : Addr} {news all : List (Addr × Obj)}
/-- the sign of a pair of the table, at a number counted round -/
theorem sub_round {value slice value2 slice2 : Expr} {env : Env} {sps : List Value} {k hi n j : Nat} {p0 : Pos} {q0 : Nat} {Q : Value → Shared → Prop} {u : Tok} {z : Int} (hSz : 0 < sps.length) (hSz7 : sps.length ≤ 7) (S : SpAt news sps k hi) (N : News h₀ L s.heap all) (hm : (sp, listOf sps.toArray n) ∈ all) (hs : ∀ q ∈ news, q ∈ all) (hz : z = (j : Int))
    (h : ∀ t tk, @LE.le Nat _ 1 t → @LE.le Nat _ t hi → Q (.str (ofL [sgn k j]) t) { s with toks := tk })
    (hs1 : ∀ a k u, subscripted slice false (.ref a) (.int k u) = operate [.ref a, .int k u] (getItem (.ref a) (.int k u)) := by intros; with_unfolding_all rfl) (hg : ∀ a r, letTemporaryGo value (.ref a) r = pure () := by intros; with_unfolding_all rfl)
    (hs2 : ∀ a k u, subscripted slice2 false (.ref a) (.int k u) = operate [.ref a, .int k u] (getItem (.ref a) (.int k u)) := by intros; with_unfolding_all rfl) :
    wpAny (model prog w) A (subscriptTail value slice (.ref sp) (.int (Int.fmod z (sps.length : Int)) u)) (fun o s₁ => wpAny (model prog w) A (eval (.Constant (.int 0) q0 p0) env) (fun i s₂ => wpAny (model prog w) A (subscriptTail value2 slice2 o i) Q E s₂) E s₁) E s := by
  obtain ⟨T5, n5, t51, t52, y5, hv5, hm5, ht51, ht52⟩ := S.at j
  subst hz
  refine item_listL ⟨_, (N _ hm).1, rfl, _, rfl⟩ (by rw [fmod_nat]; omega) ?_ (by rw [fmod_nat, Int.toNat_natCast]; exact hv5) ?_ (hs1 _ _ _) (hg _)
  · rw [fmod_nat]
    have : j % sps.length < sps.length := Nat.mod_lt _ hSz
    omega
  · refine wpAny_Constant_int ?_
    exact item_tupleT (l := [.str (ofL [sgn k j]) t51, .str (ofL y5) t52]) ⟨_, (N _ (hs _ hm5)).1, rfl, _, rfl⟩ (by decide) (by decide) (by rfl) rfl (h t51 _ ht51 ht52) (hs2 _ _ _)
end

theorem shown_snoc {g : Nat → Nat} {ls : List (Nat × Tok)} {row : List Nat} {i c : Nat} {t : Tok} (h : ls.map (·.1) = (row.take i).map g) (hc : (ofL row).cps[i]? = some c) : (ls ++ [(g c, t)]).map (·.1) = (row.take (i + 1)).map g := by
  have hc' : row[i]? = some c := by simpa using hc
  rw [List.map_append, h, List.take_add_one, hc']
  simp
theorem shown_toks {ls : List (Nat × Tok)} {hi c : Nat} {t : Tok} (h : ∀ y ∈ ls, @LE.le Nat _ 1 y.2 ∧ @LE.le Nat _ y.2 hi) (h1 : @LE.le Nat _ 1 t) (h2 : @LE.le Nat _ t hi) : ∀ y ∈ ls ++ [(c, t)], @LE.le Nat _ 1 y.2 ∧ @LE.le Nat _ y.2 hi := by
  intro y hy
  rcases List.mem_append.mp hy with hy | hy
  · exact h y hy
  · rw [List.mem_singleton.mp hy]; exact ⟨h1, h2⟩
def StShown (w : World) (p : Program) (loose : List Str) (mean : ExcName → Option Value) (mg mb : Str → Option Value) (S : Stmt) : Prop := ∀ (dp un : Nat) (gd : Option (List Code)) (fa : Addr) (cd : Value) (outer : List Env) (A₀ : Around) (base h₀ : Heap) (L : Addr) (m : Str → Option Value) (s : Shared) (Q : Flow → Shared → Prop) (E : Value → Shared → Prop) (news : List (Addr × Obj)) (k : Nat) (tr tz : Tok) (row : List Nat) (kvs sps : List Value) (kn sp : Addr) (oK oP oZ : Obj) (n1 n2 hi : Nat),
    Below A₀ base outer h₀ → Fr h₀ L s.heap (fun y => if y = Str.ofString "row" then some (.str (ofL row) tr) else m y) → (hd.heap_39 w.params).In h₀ →
    News h₀ L s.heap ((L + 1 + 1 + 1 + 1 + 1, oZ) :: (L + 1 + 1 + 1 + 1, oP) :: (L + 1 + 1, oK) :: (kn, listOf kvs.toArray n1) :: (sp, listOf sps.toArray n2) :: news) → Top p loose mean mg mb h₀ → dp + 20 < recursionLimit → un + 8 * 20 < cLine →
    oK.data = .cell (some (.ref kn)) → oP.data = .cell (some (.ref sp)) → oZ.data = .cell (some (.int (sps.length : Int) tz)) → StrsAre kvs knownS → SpAt news sps k hi → row.length ≤ 5 →
    (∀ (D : Addr) (ls : List (Nat × Tok)) (h' : Heap) (tk' : Nat), s.toks ≤ tk' → ls.map (·.1) = row.map (fun c => sgn k (knI (ofL [c]))) → (∀ y ∈ ls, @LE.le Nat _ 1 y.2 ∧ @LE.le Nat _ y.2 hi) → Fr h₀ L h' (fun y => if y = Str.ofString "shown" then some (.ref D) else if y = Str.ofString "row" then some (.str (ofL row) tr) else m y) →
      News h₀ L h' ((D, LCg.lst (ls.map fun y => Value.str (ofL [y.1]) y.2)) :: (L + 1 + 1 + 1 + 1 + 1, oZ) :: (L + 1 + 1 + 1 + 1, oP) :: (L + 1 + 1, oK) :: (kn, listOf kvs.toArray n1) :: (sp, listOf sps.toArray n2) :: news) →
      LCg.Off1 D ((L + 1 + 1 + 1 + 1 + 1, oZ) :: (L + 1 + 1 + 1 + 1, oP) :: (L + 1 + 1, oK) :: (kn, listOf kvs.toArray n1) :: (sp, listOf sps.toArray n2) :: news) → Q .next { s with heap := h', toks := tk' }) →
    wpAny (model PySem.Challenge.rw_op0114_01.row.prog w) (ktrTop dp un gd (Str.ofString "law") lawScope L fa cd (cellsFrom (L + 1) lawScope.names []) outer) (exec S (lawEnv L fa cd)) Q E s
theorem st_shown {w p loose mean mg mb} : StShown w p loose mean mg mb (turnSt 6) := by
  unfold StShown
  k_fill
  intro dp un gd fa cd outer A₀ base h₀ L m s Q E news k tr tz row kvs sps kn sp oK oP oZ n1 n2 hi B F X N T hdp hun hK hP hZ hkv hSp hrow hret
  conv in turnSt 6 => whnf
  dsimp only [lawEnv]
  refine wpAny_with_toks (Nat.le_refl _) ?_
  k_dflt (refine' Assign_ListComp_G ?F ?Le ?sw ?c ?ce ?kd ?nm ?x ?y ?p ?_ ?hs; (case F => k_asm); (case Le => rfl); (case sw => with_unfolding_all rfl); (case c => with_unfolding_all rfl); (case ce => decide); (case kd => rfl); (case nm => decide); (case x => rfl); (case y => rfl); (case p => rfl); (case hs => (intro _; with_unfolding_all rfl)))
  walk1
  k_dflt (refine' src_str ?hh ?F ?N ?z ?_; (case hh => rfl); (case F => k_asm); (case N => k_asm); (case z => (rw [sizeLine_eq]; show row.toArray.size ≤ _; rw [List.size_toArray]; omega)))
  intro g9
  refine rest_ind _ (fun i ys nw => nw = ((L + 1 + 1 + 1 + 1 + 1, oZ) :: (L + 1 + 1 + 1 + 1, oP) :: (L + 1 + 1, oK) :: (kn, listOf kvs.toArray n1) :: (sp, listOf sps.toArray n2) :: news) ∧ ∃ ls : List (Nat × Tok), ys = ls.map (fun y => Value.str (ofL [y.1]) y.2) ∧ ls.map (·.1) = (row.take i).map (fun c => sgn k (knI (ofL [c]))) ∧ ∀ y ∈ ls, @LE.le Nat _ 1 y.2 ∧ @LE.le Nat _ y.2 hi) ?step ?fin _ 0 [] _ (Nat.zero_add _) ⟨rfl, [], rfl, rfl, by simp⟩ trivial
  case step =>
    rintro i ys nw v I oI C oC D m₂ h9 tk9 E9 hi9 ⟨rfl, ls, rfl, hl1, hl2⟩ _ ⟨c9, t9, hc9, rfl⟩ hC hx F9 N9 off ne
    have hSz : 0 < sps.length := by rw [hSp.size]; exact pairs_pos k
    have hSz7 : sps.length ≤ 7 := by rw [hSp.size]; exact pairs_le k
    obtain ⟨T5, n5, t51, t52, y5, hv5, hm5, ht51, ht52⟩ := hSp.at (knI (ofL [c9]))
    clear N F
    iterate 12 ((first | (dsimp only; walk1) | walk1))
    · iterate 7 (first | (dsimp only; walk1) | walk1)
      k_dflt (refine' index_strs ?N ?m hkv (knI_in ?q) ?z ?_; (case N => exact N9); (case m => k_mem); (case q => assumption); (case z => decide))
      walk1
      (try dsimp only)
      refine mod_int' (by omega) ?_
      (try dsimp only)
      refine sub_round (n := n2) (k := k) (sps := sps) (hi := hi) (j := knI (ofL [c9])) hSz hSz7 hSp N9 ?m9 ?s9 rfl ?h9
      case m9 => k_mem
      case s9 => exact fun q hq => List.Mem.tail _ (List.Mem.tail _ (List.Mem.tail _ (List.Mem.tail _ (List.Mem.tail _ (List.Mem.tail _ (List.Mem.tail _ (List.Mem.tail _ hq)))))))
      case h9 => exact fun t8 tk8 ht1 ht2 => LCg.CompEnd.intro F9 N9 _ (fun p hp => hp) off trivial ⟨rfl, ls ++ [(_, t8)], by simp, shown_snoc hl1 hc9, shown_toks hl2 ht1 ht2⟩
    · iterate 2 (first | (dsimp only; walk1) | walk1)
      (try dsimp only)
      refine mod_int' (by omega) ?_
      (try dsimp only)
      refine sub_round (n := n2) (k := k) (sps := sps) (hi := hi) (j := knI (ofL [c9])) hSz hSz7 hSp N9 ?m9 ?s9 ?z9 ?h9
      case z9 => rw [knI_out (by assumption)]; rfl
      case m9 => k_mem
      case s9 => exact fun q hq => List.Mem.tail _ (List.Mem.tail _ (List.Mem.tail _ (List.Mem.tail _ (List.Mem.tail _ (List.Mem.tail _ (List.Mem.tail _ (List.Mem.tail _ hq)))))))
      case h9 => exact fun t8 tk8 ht1 ht2 => LCg.CompEnd.intro F9 N9 _ (fun p hp => hp) off trivial ⟨rfl, ls ++ [(_, t8)], by simp, shown_snoc hl1 hc9, shown_toks hl2 ht1 ht2⟩
  case fin =>
    rintro ys nw ⟨rfl, ls, rfl, hl1, hl2⟩
    unfold LCg.FinA
    intro D7 h7 tk7 F7 N7 o7
    (try dsimp only)
    intro htk7
    have hsz : (ofL row).cps.size = row.length := by simp
    rw [hsz, List.take_length] at hl1
    exact hret D7 ls h7 tk7 htk7 hl1 hl2 F7 N7 o7
end Mine
end
section
open PySem PySem.W PyProof.Rows
set_option maxRecDepth 100000
set_option maxHeartbeats 8000000
namespace Mine
theorem range1 {st : Nat} (h : st < 6) : Builtin.Range.small (st : Int) ((st : Int) + 5) 1 = true ∧ Builtin.Range.rangeSize (st : Int) ((st : Int) + 5) 1 = ((5 : Nat) : Int) := by
  have key : ∀ (k : Fin 6), Builtin.Range.small (k.1 : Int) ((k.1 : Int) + 5) 1 = true ∧ Builtin.Range.rangeSize (k.1 : Int) ((k.1 : Int) + 5) 1 = ((5 : Nat) : Int) := by decide +kernel
  exact key ⟨st, h⟩
theorem meant_snoc {g : Nat → Nat} {ls : List (Nat × Tok)} {i : Nat} {t : Tok} (h : ls.map (·.1) = (List.range i).map g) : (ls ++ [(g i, t)]).map (·.1) = (List.range (i + 1)).map g := by
  rw [List.map_append, h, List.range_succ, List.map_append]
  rfl
def StMeant (w : World) (p : Program) (loose : List Str) (mean : ExcName → Option Value) (mg mb : Str → Option Value) (S : Stmt) : Prop := ∀ (dp un : Nat) (gd : Option (List Code)) (fa : Addr) (cd : Value) (outer : List Env) (A₀ : Around) (base h₀ : Heap) (L : Addr) (m : Str → Option Value) (s : Shared) (Q : Flow → Shared → Prop) (E : Value → Shared → Prop) (news : List (Addr × Obj)) (k st md : Nat) (ts tm tz : Tok) (sps : List Value) (sp : Addr) (oM oP oZ : Obj) (n2 hi : Nat),
    Below A₀ base outer h₀ → Fr h₀ L s.heap (fun y => if y = Str.ofString "start" then some (.int (st : Int) ts) else m y) → (hd.heap_39 w.params).In h₀ →
    News h₀ L s.heap ((L + 1 + 1 + 1 + 1 + 1, oZ) :: (L + 1 + 1 + 1 + 1, oP) :: (L + 1 + 1 + 1, oM) :: (sp, listOf sps.toArray n2) :: news) → Top p loose mean mg mb h₀ → dp + 20 < recursionLimit → un + 8 * 20 < cLine →
    oM.data = .cell (some (.int (md : Int) tm)) → oP.data = .cell (some (.ref sp)) → oZ.data = .cell (some (.int (sps.length : Int) tz)) → SpAt news sps k hi → st < 6 → md < 65536 →
    (∀ (D : Addr) (ls : List (Nat × Tok)) (h' : Heap) (tk' : Nat), s.toks ≤ tk' → ls.map (·.1) = (List.range 5).map (fun i => sgn k (knI (chS (md : Int) (st + i)))) → (∀ y ∈ ls, @LE.le Nat _ 1 y.2 ∧ @LE.le Nat _ y.2 hi) → Fr h₀ L h' (fun y => if y = Str.ofString "meant" then some (.ref D) else if y = Str.ofString "start" then some (.int (st : Int) ts) else m y) →
      News h₀ L h' ((D, LCg.lst (ls.map fun y => Value.str (ofL [y.1]) y.2)) :: (L + 1 + 1 + 1 + 1 + 1, oZ) :: (L + 1 + 1 + 1 + 1, oP) :: (L + 1 + 1 + 1, oM) :: (sp, listOf sps.toArray n2) :: news) →
      LCg.Off1 D ((L + 1 + 1 + 1 + 1 + 1, oZ) :: (L + 1 + 1 + 1 + 1, oP) :: (L + 1 + 1 + 1, oM) :: (sp, listOf sps.toArray n2) :: news) → Q .next { s with heap := h', toks := tk' }) →
    wpAny (model PySem.Challenge.rw_op0114_01.row.prog w) (ktrTop dp un gd (Str.ofString "law") lawScope L fa cd (cellsFrom (L + 1) lawScope.names []) outer) (exec S (lawEnv L fa cd)) Q E s
theorem st_meant {w p loose mean mg mb} : StMeant w p loose mean mg mb (turnSt 7) := by
  unfold StMeant
  k_fill
  intro dp un gd fa cd outer A₀ base h₀ L m s Q E news k st md ts tm tz sps sp oM oP oZ n2 hi B F X N T hdp hun hM hP hZ hSp hst hmd hret
  conv in turnSt 7 => whnf
  dsimp only [lawEnv]
  refine wpAny_with_toks (Nat.le_refl _) ?_
  k_dflt (refine' Assign_ListComp_G ?F ?Le ?sw ?c ?ce ?kd ?nm ?x ?y ?p ?_ ?hs; (case F => k_asm); (case Le => rfl); (case sw => with_unfolding_all rfl); (case c => with_unfolding_all rfl); (case ce => decide); (case kd => rfl); (case nm => decide); (case x => rfl); (case y => rfl); (case p => rfl); (case hs => (intro _; with_unfolding_all rfl)))
  iterate 12 (first | (dsimp only; walk1) | walk1)
  (try dsimp only)
  have r5 := range1 hst
  with_reducible rename IsRange _ _ _ _ _ _ _ _ => hR9
  k_dflt (refine' src_range ?hh ?F ?N hR9 r5.1 r5.2 ?z ?_; (case hh => rfl); (case F => k_asm); (case N => k_asm); (case z => (rw [sizeLine_eq]; omega)))
  intro g9
  refine rest_ind _ (fun i ys nw => nw = ((L + 1 + 1 + 1 + 1 + 1, oZ) :: (L + 1 + 1 + 1 + 1, oP) :: (L + 1 + 1 + 1, oM) :: (sp, listOf sps.toArray n2) :: news) ∧ ∃ ls : List (Nat × Tok), ys = ls.map (fun y => Value.str (ofL [y.1]) y.2) ∧ ls.map (·.1) = (List.range i).map (fun i => sgn k (knI (chS (md : Int) (st + i)))) ∧ ∀ y ∈ ls, @LE.le Nat _ 1 y.2 ∧ @LE.le Nat _ y.2 hi) ?step ?fin _ 0 [] _ (Nat.zero_add _) ⟨rfl, [], rfl, rfl, by simp⟩ trivial
  case step =>
    rintro i ys nw v I oI C oC D m₂ h9 tk9 E9 hi9 ⟨rfl, ls, rfl, hl1, hl2⟩ _ ⟨t9, rfl⟩ hC hx F9 N9 off ne
    have hSz : 0 < sps.length := by rw [hSp.size]; exact pairs_pos k
    have hSz7 : sps.length ≤ 7 := by rw [hSp.size]; exact pairs_le k
    have ej : (st : Int) + (i : Int) * 1 = ((st + i : Nat) : Int) := by omega
    rw [ej] at hx
    iterate 14 (first | (dsimp only; walk1) | walk1)
    (try dsimp only)
    k_dflt (refine' Clm.use (c_num _ (md : Int) (by omega) (by omega) tm t9 (st + i) (by omega)) ?B ?F ?X ?N ?T ?k ?pre ?d ?u ?_; (case B => exact B); (case F => exact F9); (case X => exact X); (case N => exact N9); (case T => exact T); (case k => rfl); (case pre => trivial); (case d => ktr_room); (case u => ktr_units))
    intro t8 h8 tk8 htk8 F8 N8
    (try dsimp only)
    walk1
    (try dsimp only)
    refine mod_int' (by omega) ?_
    (try dsimp only)
    refine sub_round (n := n2) (k := k) (sps := sps) (hi := hi) (j := knI (chS (md : Int) (st + i))) hSz hSz7 hSp N8 ?m9 ?s9 ?z9 ?h9
    case z9 => exact (chS_num md hmd (st + i) (by omega)).symm
    case m9 => k_mem
    case s9 => exact fun q hq => List.Mem.tail _ (List.Mem.tail _ (List.Mem.tail _ (List.Mem.tail _ (List.Mem.tail _ (List.Mem.tail _ (List.Mem.tail _ hq))))))
    case h9 => exact fun t7 tk7 ht1 ht2 => LCg.CompEnd.intro F8 N8 _ (fun p hp => hp) off trivial ⟨rfl, ls ++ [(_, t7)], by simp, meant_snoc hl1, shown_toks hl2 ht1 ht2⟩
  case fin =>
    rintro ys nw ⟨rfl, ls, rfl, hl1, hl2⟩
    unfold LCg.FinA
    intro D7 h7 tk7 F7 N7 o7
    (try dsimp only)
    intro htk7
    exact hret D7 ls h7 tk7 htk7 hl1 hl2 F7 N7 o7
end Mine
end
section
open PySem PySem.W PyProof.Rows
set_option maxRecDepth 100000
namespace Mine
/-- the letter of the row at this place -/
def chL (mode : Int) (i : Nat) : Nat := (chS mode i).cps.getD 0 0
theorem chS_ofL (mode : Int) (i : Nat) : chS mode i = ofL [chL mode i] := by
  have h := chS_len mode i
  apply Str.ext'
  have h1 : (chS mode i).cps.size = 1 := h
  unfold chL
  apply Array.ext
  · simp [h1]
  · intro j h2 h3
    have : j = 0 := by omega
    subst this
    simp [Array.getD, h1]
theorem join_cons1 (x : Str) (r : List Str) : Str.join (Str.ofString "") (x :: r) = x ++ Str.join (Str.ofString "") r := by
  have e : Str.ofString "" = ⟨#[]⟩ := by decide +kernel
  rw [e]
  cases r with
  | nil =>
    apply Str.ext'
    show x.cps = (x ++ Str.empty).cps
    rw [Str.cps_append]
    show x.cps = x.cps ++ #[]
    simp
  | cons y r =>
    show x ++ ⟨#[]⟩ ++ Str.join ⟨#[]⟩ (y :: r) = _
    congr 1
theorem join_singles : ∀ l : List Nat, Str.join (Str.ofString "") (l.map fun c => ofL [c]) = ofL l
  | [] => rfl
  | c :: r => by
    rw [List.map_cons, join_cons1, join_singles r, ofL_app]; rfl
theorem join_ch (mode : Int) (n : Nat) : Txt.join (Str.ofString "") ((List.range n).map (chS mode)) = ofL ((List.range n).map (chL mode)) := by
  have e : (List.range n).map (chS mode) = ((List.range n).map (chL mode)).map fun c => ofL [c] := by
    rw [List.map_map]
    exact List.map_congr_left fun i _ => chS_ofL mode i
  rw [show Txt.join (Str.ofString "") ((List.range n).map (chS mode)) = Str.join (Str.ofString "") ((List.range n).map (chS mode)) from StrLaws.glued_eq_join _ _, e, join_singles]
/-- the five letters -/
def rowL (mode : Int) (st : Nat) : List Nat := (List.range 5).map fun i => chL mode (st + i)
theorem range_cut : ∀ st : Fin 6, ((List.range 10).drop st.1).take 5 = (List.range 5).map (fun i => st.1 + i) := by decide
theorem row_is (mode : Int) (st : Nat) (h : st < 6) : Txt.slice (Txt.join (Str.ofString "") ((List.range 10).map (chS mode))) (some (st : Int)) (some ((st : Int) + 5)) = ofL (rowL mode st) := by
  rw [join_ch, show (st : Int) + 5 = ((st + 5 : Nat) : Int) by omega, slice_mid _ _ _ (by omega) (by simp; omega)]
  congr 2
  rw [← List.map_drop, ← List.map_take, show st + 5 - st = 5 by omega, range_cut ⟨st, h⟩, List.map_map]
  rfl
theorem rowL_len (mode : Int) (st : Nat) : (rowL mode st).length = 5 := by simp [rowL]
theorem row_meant (mode : Int) (st k : Nat) : (rowL mode st).map (fun c => sgn k (knI (ofL [c]))) = (List.range 5).map (fun i => sgn k (knI (chS mode (st + i)))) := by
  unfold rowL
  rw [List.map_map]
  exact List.map_congr_left fun i _ => by
    show sgn k (knI (ofL [chL mode (st + i)])) = _
    rw [← chS_ofL]

/-- the pairs, from the last to the first, as texts -/
def psS (k : Nat) : List (Str × Str) := (pairsOf k).reverse.map fun p => (ofL [p.1], ofL p.2)
theorem esc_ofL (k : Nat) (l : List Nat) : escS k (ofL l) = ofL ((escSteps k).foldl (fun x q => rep q.1 q.2 0 x) l) := by
  have key : ∀ (qs : List Rep), (∀ q ∈ qs, 1 ≤ q.1.length) → ∀ l : List Nat, qs.foldl (fun x q => Txt.replace x (ofL q.1) (ofL q.2)) (ofL l) = ofL (qs.foldl (fun x q => rep q.1 q.2 0 x) l) := by
    intro qs
    induction qs with
    | nil => intro _ l; rfl
    | cons q r ih =>
      intro h l
      rw [List.foldl_cons, List.foldl_cons, replace_ofL l q.1 q.2 (h q (List.mem_cons_self ..))]
      exact ih (fun q' hq => h q' (List.mem_cons_of_mem _ hq)) _
  unfold escS
  refine key _ (fun q hq => ?_) l
  unfold escSteps at hq
  obtain ⟨p, _, rfl⟩ := List.mem_map.mp hq
  exact Nat.le_refl _
theorem mean_ofL (a c : Nat) : Mine.mean (ofL [a]) (ofL [c]) = ofL (psi a c) := by
  unfold Mine.mean psi
  by_cases h : c = a
  · subst h; simp
  · have : (ofL [c] == ofL [a]) = false := by
      cases q : ofL [c] == ofL [a] with
      | false => rfl
      | true =>
        have e := eq_of_beq q
        have e2 : [c] = [a] := by simpa using congrArg (fun s : Str => s.cps.toList) e
        exact absurd (List.cons.inj e2).1 h
    rw [this, if_neg h]
    simp only [Bool.false_eq_true, if_false]
    exact ofL_app [a] [c]
theorem dec_ofL (k a : Nat) (l : List Nat) : decF (ofL l) (ofL [a]) (psS k) = ofL ((decSteps k a).foldl (fun x q => rep q.1 q.2 0 x) l) := by
  have amp : Str.ofString "&" = ofL [38] := by decide +kernel
  have key : ∀ (ps : List (Nat × List Nat)) (l : List Nat), (ps.map fun p => (ofL [p.1], ofL p.2)).foldl (fun x p => Txt.replace x (Str.ofString "&" ++ p.2) (Mine.mean (ofL [a]) p.1)) (ofL l) = ofL ((ps.map fun p => (38 :: p.2, psi a p.1)).foldl (fun x q => rep q.1 q.2 0 x) l) := by
    intro ps
    induction ps with
    | nil => intro l; rfl
    | cons p r ih =>
      intro l
      rw [List.map_cons, List.foldl_cons, List.map_cons, List.foldl_cons]
      have e : Txt.replace (ofL l) (Str.ofString "&" ++ ofL p.2) (Mine.mean (ofL [a]) (ofL [p.1])) = ofL (rep (38 :: p.2) (psi a p.1) 0 l) := by
        rw [mean_ofL, amp, ofL_app]
        exact replace_ofL l _ _ (by simp)
      rw [e]
      exact ih _
  exact key _ l
theorem led_ofL {k a : Nat} {l : List Nat} (hk : k < 5) (ha : a ∈ lettersOf k) (hl : ∀ c ∈ l, c ∈ lettersOf k) : ledG (escS k) (psS k) (ofL l) (ofL [a]) = ofL (led1 a l) := by
  unfold ledG led1
  rw [esc_ofL, dec_ofL, dec_esc hk ha hl, ofL_app]
theorem led1_letters {k a : Nat} {l : List Nat} (ha : a ∈ lettersOf k) (hl : ∀ c ∈ l, c ∈ lettersOf k) : ∀ c ∈ led1 a l, c ∈ lettersOf k := by
  intro c hc
  unfold led1 at hc
  rcases List.mem_append.mp hc with hc | hc
  · obtain ⟨d, hd, hc⟩ := List.mem_flatMap.mp hc
    unfold psi at hc
    split at hc
    · rw [List.mem_singleton.mp hc]; exact ha
    · rcases List.mem_cons.mp hc with rfl | hc
      · exact ha
      · rw [List.mem_singleton.mp hc]; exact hl d hd
  · rw [List.mem_singleton.mp hc]; exact ha
theorem led1_len (a : Nat) (l : List Nat) : (led1 a l).length ≤ 2 * l.length + 1 := by
  unfold led1
  have h := flat_len (psi a) 2 (fun c => by unfold psi; split <;> simp) l
  rw [List.length_append, List.length_singleton]
  omega
/-- the text after some signs -/
def ledsL (as : List Nat) : List Nat := as.foldl (fun x a => led1 a x) []
theorem ledsL_snoc (as : List Nat) (a : Nat) : ledsL (as ++ [a]) = led1 a (ledsL as) := by unfold ledsL; rw [List.foldl_append]; rfl
theorem ledsL_red (as : List Nat) : ledsL as.reverse = red as := by
  unfold ledsL red
  rw [List.foldl_reverse]
theorem ledsL_facts {k : Nat} : ∀ (n : Nat) (as : List Nat), as.length = n → (∀ a ∈ as, a ∈ lettersOf k) → (∀ c ∈ ledsL as, c ∈ lettersOf k) ∧ (ledsL as).length + 1 ≤ 2 ^ n
  | 0, as, hn, _ => by
    rw [List.length_eq_zero_iff.mp hn]
    exact ⟨fun c hc => by simp [ledsL] at hc, by simp [ledsL]⟩
  | n + 1, as, hn, h => by
    obtain ⟨as', a, rfl⟩ : ∃ as' a, as = as' ++ [a] := ⟨as.dropLast, as.getLast (by intro e; rw [e] at hn; simp at hn), (List.dropLast_concat_getLast _).symm⟩
    rw [List.length_append, List.length_singleton] at hn
    obtain ⟨h1, h2⟩ := ledsL_facts n as' (by omega) fun b hb => h b (List.mem_append_left _ hb)
    have ha := h a (List.mem_append_right _ (List.mem_singleton.mpr rfl))
    rw [ledsL_snoc]
    refine ⟨led1_letters ha h1, ?_⟩
    have := led1_len a (ledsL as')
    rw [Nat.pow_succ]
    omega
theorem foldG_ofL {k : Nat} (hk : k < 5) (ys : List (Nat × Tok)) (h : ∀ y ∈ ys, y.1 ∈ lettersOf k) : ∀ i, i ≤ ys.length → foldG (ledG (escS k) (psS k)) (ys.map fun y => (ofL [y.1], y.2)) i = ofL (ledsL ((ys.take i).map (·.1)))
  | 0, _ => by
    unfold foldG
    show Str.ofString "" = ofL []
    decide +kernel
  | i + 1, hi => by
    have hlt : i < ys.length := hi
    have e : (ys.map fun y => ((ofL [y.1], y.2) : Str × Tok))[i]? = some (ofL [ys[i].1], ys[i].2) := by simp [hlt]
    rw [foldG_snoc e, foldG_ofL hk ys h i (by omega)]
    have e2 : (ys.take (i + 1)).map (·.1) = (ys.take i).map (·.1) ++ [ys[i].1] := by
      rw [List.take_add_one, List.getElem?_eq_getElem hlt, List.map_append]; rfl
    rw [e2, ledsL_snoc]
    refine led_ofL hk (h _ (List.getElem_mem hlt)) ?_
    refine (ledsL_facts _ _ rfl ?_).1
    intro a ha
    obtain ⟨y, hy, rfl⟩ := List.mem_map.mp ha
    exact h y (List.mem_of_mem_take hy)
theorem foldG_len {k : Nat} (hk : k < 5) (ys : List (Nat × Tok)) (h : ∀ y ∈ ys, y.1 ∈ lettersOf k) (h5 : ys.length = 5) (i : Nat) (hi : i < ys.length) : (foldG (ledG (escS k) (psS k)) (ys.map fun y => (ofL [y.1], y.2)) i).length ≤ 31 := by
  rw [foldG_ofL hk ys h i (by omega)]
  have h1 := (ledsL_facts (k := k) _ ((ys.take i).map (·.1)) rfl (fun a ha => by
    obtain ⟨y, hy, rfl⟩ := List.mem_map.mp ha
    exact h y (List.mem_of_mem_take hy))).2
  have h2 : ((ys.take i).map (·.1)).length = i := by simp; omega
  rw [h2] at h1
  have h3 : 2 ^ i ≤ 2 ^ 5 := Nat.pow_le_pow_right (by omega) (by omega)
  have h4 : (ofL (ledsL ((ys.take i).map (·.1)))).length = (ledsL ((ys.take i).map (·.1))).length := by simp [Str.length]
  omega
/-- the law: reduce over the reversed signs, and the closing -/
theorem law_eq {k : Nat} (hk : k < 5) (ls : List (Nat × Tok)) (h5 : ls.length = 5) (h : ∀ y ∈ ls, y.1 ∈ lettersOf k) :
    foldG (ledG (escS k) (psS k)) (ls.reverse.map fun y => (ofL [y.1], y.2)) (ls.reverse.map fun y => ((ofL [y.1], y.2) : Str × Tok)).length = ofL (closeL (ls.map (·.1))) := by
  rw [List.length_map, foldG_ofL hk ls.reverse (fun y hy => h y (List.mem_reverse.mp hy)) _ (Nat.le_refl _), List.take_length, List.map_reverse, ledsL_red]
  obtain ⟨a, b, c, d, e, q⟩ : ∃ a b c d e, ls.map (·.1) = [a, b, c, d, e] := by
    match ls, h5 with
    | [a, b, c, d, e], _ => exact ⟨_, _, _, _, _, rfl⟩
  rw [q, justin5]
end Mine
end
section
open PySem PySem.W PyProof.Rows
set_option maxRecDepth 100000
set_option maxHeartbeats 8000000
namespace Mine
def StSpelled (w : World) (p : Program) (loose : List Str) (mean : ExcName → Option Value) (mg mb : Str → Option Value) (S : Stmt) : Prop := ∀ (dp un : Nat) (gd : Option (List Code)) (fa : Addr) (cd : Value) (outer : List Env) (A₀ : Around) (base h₀ : Heap) (L : Addr) (m : Str → Option Value) (s : Shared) (Q : Flow → Shared → Prop) (E : Value → Shared → Prop) (news : List (Addr × Obj)) (k : Nat) (t : Tok) (oP : Obj) (v₀ : Option Value),
    Below A₀ base outer h₀ → Fr h₀ L s.heap (fun n => if n = Str.ofString "k" then some (.int (k : Int) t) else m n) → (hd.heap_39 w.params).In h₀ →
    News h₀ L s.heap ((L + 1 + 1 + 1 + 1, oP) :: news) → Top p loose mean mg mb h₀ → dp + 20 < recursionLimit → un + 8 * 20 < cLine →
    SpC w p loose mean mg mb k → oP.data = .cell v₀ → (∀ q ∈ news, q.1 ≠ L + 1 + 1 + 1 + 1) → 1 ≤ s.toks →
    (∀ (tl : List (Addr × Obj)) (sp : Addr) (sps : List Value) (n : Nat) (oP' : Obj) (h' : Heap) (tk' : Nat), s.toks ≤ tk' → Fr h₀ L h' (fun n => if n = Str.ofString "k" then some (.int (k : Int) t) else m n) → News h₀ L h' ((L + 1 + 1 + 1 + 1, oP') :: (tl ++ news)) →
      (∀ q ∈ tl, ∀ r ∈ news, r.1 < q.1) → (∀ q ∈ tl, L + 1 + 1 + 1 + 1 < q.1) → (sp, listOf sps.toArray n) ∈ tl → SpAt tl sps k tk' → oP'.data = .cell (some (.ref sp)) → Q .next { s with heap := h', toks := tk' }) →
    wpAny (model PySem.Challenge.rw_op0114_01.row.prog w) (ktrTop dp un gd (Str.ofString "law") lawScope L fa cd (cellsFrom (L + 1) lawScope.names []) outer) (exec S (lawEnv L fa cd)) Q E s
theorem st_spelled {w p loose mean mg mb} : StSpelled w p loose mean mg mb (turnSt 3) := by
  unfold StSpelled
  k_fill
  intro dp un gd fa cd outer A₀ base h₀ L m s Q E news k t oP v₀ B F X N T hdp hun hC hoP hne ht1 hret
  conv in turnSt 3 => whnf
  dsimp only [lawEnv]
  iterate 8 (first | (dsimp only; walk1) | walk1)
  (try dsimp only)
  k_dflt (refine' hC _ t _ _ _ _ _ _ _ _ _ _ _ _ _ _ _ _ _ B F X N T ?k ht1 ?d ?u ?_; (case k => rfl); (case d => ktr_room); (case u => ktr_units))
  intro tl sp sps n h8 tk8 htk8 F8 N8 lt8 hm8 S8
  (try dsimp only)
  have N3 : News h₀ L h8 ((L + 1 + 1 + 1 + 1, oP) :: (tl ++ news)) := fun q hq => N8 q (by
    rcases List.mem_cons.mp hq with rfl | hq
    · exact List.mem_append_right _ (.head _)
    · rcases List.mem_append.mp hq with hq | hq
      · exact List.mem_append_left _ hq
      · exact List.mem_append_right _ (.tail _ hq))
  k_dflt (refine' storeX_C (c := L + 1 + 1 + 1 + 1) (v₀ := v₀) F8 N3 ?hc (.head ?hne) hoP ?_ ?hk ?hx; (case hc => rfl); (case hk => rfl); (case hx => rfl))
  · intro q hq
    rcases List.mem_append.mp hq with hq | hq
    · exact Nat.ne_of_gt (lt8 q hq _ (.head _))
    · exact hne q hq
  · intro h9 o9 F9 N9 d9
    exact hret tl sp sps n o9 h9 _ htk8 F9 N9 (fun q hq r hr => lt8 q hq r (.tail _ hr)) (fun q hq => lt8 q hq _ (.head _)) hm8 S8 d9
def StSize (w : World) (p : Program) (loose : List Str) (mean : ExcName → Option Value) (mg mb : Str → Option Value) (S : Stmt) : Prop := ∀ (dp un : Nat) (gd : Option (List Code)) (fa : Addr) (cd : Value) (outer : List Env) (A₀ : Around) (base h₀ : Heap) (L : Addr) (m : Str → Option Value) (s : Shared) (Q : Flow → Shared → Prop) (E : Value → Shared → Prop) (news : List (Addr × Obj)) (oP oZ : Obj) (v₀ : Option Value) (sp : Addr) (sps : List Value) (n2 : Nat),
    Below A₀ base outer h₀ → Fr h₀ L s.heap m → (hd.heap_39 w.params).In h₀ →
    News h₀ L s.heap ((L + 1 + 1 + 1 + 1 + 1, oZ) :: (L + 1 + 1 + 1 + 1, oP) :: (sp, listOf sps.toArray n2) :: news) → Top p loose mean mg mb h₀ → dp + 20 < recursionLimit → un + 8 * 20 < cLine →
    oP.data = .cell (some (.ref sp)) → oZ.data = .cell v₀ → sp ≠ L + 1 + 1 + 1 + 1 + 1 → (∀ q ∈ news, q.1 ≠ L + 1 + 1 + 1 + 1 + 1) → sps.length ≤ 7 →
    (∀ (t' : Tok) (oZ' : Obj) (h' : Heap) (tk' : Nat), s.toks ≤ tk' → Fr h₀ L h' m → News h₀ L h' ((L + 1 + 1 + 1 + 1 + 1, oZ') :: (L + 1 + 1 + 1 + 1, oP) :: (sp, listOf sps.toArray n2) :: news) → oZ'.data = .cell (some (.int (sps.length : Int) t')) → Q .next { s with heap := h', toks := tk' }) →
    wpAny (model PySem.Challenge.rw_op0114_01.row.prog w) (ktrTop dp un gd (Str.ofString "law") lawScope L fa cd (cellsFrom (L + 1) lawScope.names []) outer) (exec S (lawEnv L fa cd)) Q E s
theorem st_size {w p loose mean mg mb} : StSize w p loose mean mg mb (turnSt 4) := by
  unfold StSize
  k_fill
  intro dp un gd fa cd outer A₀ base h₀ L m s Q E news oP oZ v₀ sp sps n2 B F X N T hdp hun hoP hoZ hsp hne hl7 hret
  conv in turnSt 4 => whnf
  dsimp only [lawEnv]
  refine wpAny_with_toks (Nat.le_refl _) ?_
  iterate 7 (first | (dsimp only; walk1) | walk1)
  (try dsimp only)
  refine PySem.Calls.call_len_list (items := sps.toArray) ⟨_, (N _ (List.Mem.tail _ (List.Mem.tail _ (List.Mem.head _)))).1, rfl, _, rfl⟩ (by rw [List.size_toArray]; omega) ?_
  rw [List.size_toArray]
  (try dsimp only)
  with_reducible rename News _ _ _ _ => kN9
  with_reducible rename Fr _ _ _ _ => kF9
  k_dflt (refine' storeX_C (c := L + 1 + 1 + 1 + 1 + 1) (v₀ := v₀) kF9 kN9 ?hc (.head ?hne) hoZ ?_ ?hk ?hx; (case hc => rfl); (case hk => rfl); (case hx => rfl))
  · intro q hq
    rcases List.mem_cons.mp hq with rfl | hq
    · exact Nat.ne_of_lt (Nat.lt_succ_self _)
    · rcases List.mem_cons.mp hq with rfl | hq
      · exact hsp
      · exact hne q hq
  · intro h9 o9 F9 N9 d9 htk9
    exact hret _ o9 h9 _ htk9 F9 N9 d9
def StRow (w : World) (p : Program) (loose : List Str) (mean : ExcName → Option Value) (mg mb : Str → Option Value) (S : Stmt) : Prop := ∀ (dp un : Nat) (gd : Option (List Code)) (fa : Addr) (cd : Value) (outer : List Env) (A₀ : Around) (base h₀ : Heap) (L : Addr) (m : Str → Option Value) (s : Shared) (Q : Flow → Shared → Prop) (E : Value → Shared → Prop) (news : List (Addr × Obj)) (oM : Obj) (md st : Nat) (tm ts : Tok),
    Below A₀ base outer h₀ → Fr h₀ L s.heap (fun n => if n = Str.ofString "start" then some (.int (st : Int) ts) else m n) → (hd.heap_39 w.params).In h₀ →
    News h₀ L s.heap ((L + 1 + 1 + 1, oM) :: news) → Top p loose mean mg mb h₀ → dp + 20 < recursionLimit → un + 8 * 20 < cLine →
    oM.data = .cell (some (.int (md : Int) tm)) → st < 6 →
    (∀ (t' : Tok) (h' : Heap) (tk' : Nat), s.toks ≤ tk' → Fr h₀ L h' (fun n => if n = Str.ofString "row" then some (.str (ofL (rowL (md : Int) st)) t') else if n = Str.ofString "start" then some (.int (st : Int) ts) else m n) → News h₀ L h' ((L + 1 + 1 + 1, oM) :: news) → Q .next { s with heap := h', toks := tk' }) →
    wpAny (model PySem.Challenge.rw_op0114_01.row.prog w) (ktrTop dp un gd (Str.ofString "law") lawScope L fa cd (cellsFrom (L + 1) lawScope.names []) outer) (exec S (lawEnv L fa cd)) Q E s
theorem st_row {w p loose mean mg mb} : StRow w p loose mean mg mb (turnSt 5) := by
  unfold StRow
  k_fill
  intro dp un gd fa cd outer A₀ base h₀ L m s Q E news oM md st tm ts B F X N T hdp hun hoM hst hret
  conv in turnSt 5 => whnf
  dsimp only [lawEnv]
  refine wpAny_with_toks (Nat.le_refl _) ?_
  iterate 9 (first | (dsimp only; walk1) | walk1)
  (try dsimp only)
  k_dflt (refine' Clm.use (c_fm _ (md : Int) tm) ?B ?F ?X ?N ?T ?k ?pre ?d ?u ?_; (case B => exact B); (case F => exact F); (case X => exact X); (case N => exact N); (case T => exact T); (case k => rfl); (case pre => trivial); (case d => ktr_room); (case u => ktr_units))
  intro t8 h8 tk8 htk8 F8 N8
  (try dsimp only)
  iterate 9 (first | (dsimp only; walk1) | walk1)
  (try dsimp only)
  have hsz : (Txt.join (Str.ofString "") ((List.range 10).map (chS (md : Int)))).length ≤ sizeLine := by
    rw [join_ch, sizeLine_eq]
    show ((List.range 10).map (chL (md : Int))).toArray.size ≤ _
    simp
  k_dflt (refine' slice_strN_ss (s := { s with heap := h8, toks := tk8 + 1 + 1 }) ?F ?N ?h ?hs ?ht hsz; (case F => exact F8); (case N => exact N8); (case hs => with_unfolding_all rfl); (case ht => (intro _; with_unfolding_all rfl)))
  intro h9 t9 k9 F9 N9
  rw [row_is (md : Int) st hst]
  (try dsimp only)
  walk1
  (try dsimp only)
  intro htk
  exact hret _ _ _ htk (by assumption) (by assumption)
end Mine
end
section
open PySem PySem.W PyProof.Rows
set_option maxRecDepth 100000
namespace Mine
def escF (qs : List (Nat × List Nat)) (l : List Nat) : List Nat := qs.foldl (fun acc p => acc.flatMap (one p.1 (38 :: p.2))) l
theorem escF_flat : ∀ (qs : List (Nat × List Nat)) (l : List Nat), escF qs l = l.flatMap fun c => escF qs [c]
  | [], l => by
    unfold escF
    exact (flat_singles l).symm
  | p :: r, l => by
    show escF r (l.flatMap (one p.1 (38 :: p.2))) = l.flatMap fun c => escF r ([c].flatMap (one p.1 (38 :: p.2)))
    rw [escF_flat r]
    rw [List.flatMap_assoc]
    congr 1
    funext c
    rw [List.flatMap_singleton, ← escF_flat r]
theorem escF_other {c : Nat} : ∀ (qs : List (Nat × List Nat)), (∀ p ∈ qs, p.1 ≠ c) → escF qs [c] = [c]
  | [], _ => rfl
  | p :: r, h => by
    show escF r ([c].flatMap (one p.1 (38 :: p.2))) = [c]
    rw [List.flatMap_singleton]
    have : one p.1 (38 :: p.2) c = [c] := by
      unfold one
      rw [if_neg fun e => h p (List.mem_cons_self ..) e.symm]
    rw [this]
    exact escF_other r fun q hq => h q (List.mem_cons_of_mem _ hq)
theorem escF_letters : ∀ k : Fin 5, ∀ a ∈ lettersOf k.1, (escF (pairsOf k.1) [a]).length ≤ 6 := by decide +kernel
theorem escF_is (k : Nat) (l : List Nat) : (escSteps k).foldl (fun x q => rep q.1 q.2 0 x) l = escF (pairsOf k) l := by
  unfold escSteps escF
  rw [List.foldl_map]
  congr 1
  funext x p
  exact rep_one _ _ _
theorem esc_len {k : Nat} (hk : k < 5) (x : Str) : (escS k x).length ≤ 6 * x.length := by
  have e : x = ofL x.cps.toList := by simp
  rw [e, esc_ofL, escF_is, escF_flat]
  have h := flat_len (fun c => escF (pairsOf k) [c]) 6 (fun c => by
    by_cases hc : c ∈ lettersOf k
    · exact escF_letters ⟨k, hk⟩ c hc
    · rw [escF_other _ fun p hp q => hc (by rw [← q]; exact List.mem_map_of_mem hp)]
      simp) x.cps.toList
  simpa [Str.length] using h
theorem wri_ok {w p loose mean mg mb} : ∀ {k : Nat}, k < 5 → WriOk w p loose mean mg mb (k : Int) (escS k)
  | 0, h => ⟨fun _ x t t2 hx => c_wri0 x t t2 hx, fun x hx => Nat.le_trans (esc_len h x) (by omega)⟩
  | 1, h => ⟨fun _ x t t2 hx => c_wri1 x t t2 hx, fun x hx => Nat.le_trans (esc_len h x) (by omega)⟩
  | 2, h => ⟨fun _ x t t2 hx => c_wri2 x t t2 hx, fun x hx => Nat.le_trans (esc_len h x) (by omega)⟩
  | 3, h => ⟨fun _ x t t2 hx => c_wri3 x t t2 hx, fun x hx => Nat.le_trans (esc_len h x) (by omega)⟩
  | 4, h => ⟨fun _ x t t2 hx => c_wri4 x t t2 hx, fun x hx => Nat.le_trans (esc_len h x) (by omega)⟩
  | n + 5, h => absurd h (by omega)
theorem spe_ok {w p loose mean mg mb} : ∀ {k : Nat}, k < 5 → SpC w p loose mean mg mb k
  | 0, _ => c_spe0
  | 1, _ => c_spe1
  | 2, _ => c_spe2
  | 3, _ => c_spe3
  | 4, _ => c_spe4
  | n + 5, h => absurd h (by omega)
theorem ps_ok : ∀ k : Fin 5, ∀ p ∈ pairsOf k.1, 2 ≤ p.2.length ∧ p.2.length ≤ 6 := by decide +kernel
theorem psS_ok {k : Nat} (hk : k < 5) : ∀ p ∈ psS k, p.1.length = 1 ∧ 2 ≤ p.2.length ∧ p.2.length ≤ 6 := by
  intro p hp
  unfold psS at hp
  obtain ⟨q, hq, rfl⟩ := List.mem_map.mp hp
  obtain ⟨h1, h2⟩ := ps_ok ⟨k, hk⟩ q (List.mem_reverse.mp hq)
  have e : (ofL q.2).length = q.2.length := by simp [Str.length]
  exact ⟨rfl, by rw [e]; exact h1, by rw [e]; exact h2⟩
theorem tups_rev {news : List (Addr × Obj)} {vs : List Value} {k hi : Nat} (S : SpAt news vs k hi) : TupsAre news vs.toArray.toList.reverse.toArray (psS k) := by
  refine ⟨by simp [psS, S.size], fun i v hv => ?_⟩
  have hv' : vs.reverse[i]? = some v := by simpa using hv
  have hi : i < vs.length := by
    have := (List.getElem?_eq_some_iff.mp hv').1
    simpa using this
  rw [List.getElem?_reverse hi] at hv'
  obtain ⟨p, T, n, t1, t2, a, b, c, _, _⟩ := S.item _ v hv'
  refine ⟨(ofL [p.1], ofL p.2), T, _, n, t1, t2, ?_, b, c, rfl, rfl⟩
  unfold psS
  rw [List.getElem?_map, List.getElem?_reverse (by rw [← S.size]; exact hi), ← S.size, a]
  rfl
theorem sgn_letter (k j : Nat) : sgn k j ∈ lettersOf k := by
  unfold sgn lettersOf
  have h : j % (pairsOf k).length < (pairsOf k).length := Nat.mod_lt _ (pairs_pos k)
  rw [List.getD_eq_getElem?_getD, List.getElem?_eq_getElem h]
  exact List.mem_map_of_mem (List.getElem_mem h)
end Mine
end
section
open PySem PySem.W PyProof.Rows
set_option maxRecDepth 100000
set_option maxHeartbeats 8000000
namespace Mine
def StIf (w : World) (p : Program) (loose : List Str) (mean : ExcName → Option Value) (mg mb : Str → Option Value) (S : Stmt) : Prop := ∀ (dp un : Nat) (gd : Option (List Code)) (fa : Addr) (cd : Value) (outer : List Env) (A₀ : Around) (base h₀ : Heap) (L : Addr) (m : Str → Option Value) (s : Shared) (Q : Flow → Shared → Prop) (E : Value → Shared → Prop) (news : List (Addr × Obj)) (k : Nat) (t : Tok) (tb : Array Value) (D1 D2 sp : Addr) (ls1 ls2 : List (Nat × Tok)) (n1 n2 n3 hi : Nat) (sps : List Value) (oP : Obj),
    Below A₀ base outer h₀ → Fr h₀ L s.heap (fun n => if n = Str.ofString "k" then some (.int (k : Int) t) else if n = Str.ofString "shown" then some (.ref D1) else if n = Str.ofString "meant" then some (.ref D2) else m n) → (hd.heap_39 w.params).In h₀ →
    News h₀ L s.heap ((128, tabObj tb) :: (L + 1 + 1 + 1 + 1, oP) :: (D1, listOf (ls1.map fun y => Value.str (ofL [y.1]) y.2).toArray n1) :: (D2, listOf (ls2.map fun y => Value.str (ofL [y.1]) y.2).toArray n2) :: (sp, listOf sps.toArray n3) :: news) → Top p loose mean mg mb h₀ → dp + 20 < recursionLimit → un + 8 * 20 < cLine →
    CodeHd base 132 128 → TabSt ((L + 1 + 1 + 1 + 1, oP) :: (D1, listOf (ls1.map fun y => Value.str (ofL [y.1]) y.2).toArray n1) :: (D2, listOf (ls2.map fun y => Value.str (ofL [y.1]) y.2).toArray n2) :: (sp, listOf sps.toArray n3) :: news) ⟨153, 4, 157, 25⟩ ledQual tb →
    (∀ q ∈ (L + 1 + 1 + 1 + 1, oP) :: (D1, listOf (ls1.map fun y => Value.str (ofL [y.1]) y.2).toArray n1) :: (D2, listOf (ls2.map fun y => Value.str (ofL [y.1]) y.2).toArray n2) :: (sp, listOf sps.toArray n3) :: news, q.1 ≠ 128) →
    k < 5 → oP.data = .cell (some (.ref sp)) → SpAt news sps k hi → hi ≤ s.toks → 1 ≤ s.toks → ls1.map (·.1) = ls2.map (·.1) → ls1.length = 5 → (∀ y ∈ ls1, y.1 ∈ lettersOf k) → (∀ y ∈ ls1, @LE.le Nat _ 1 y.2 ∧ @LE.le Nat _ y.2 hi) →
    (∀ (tb' : Array Value) (c' : Addr) (oc : Obj) (h' : Heap) (tk' : Nat), Fr h₀ L h' (fun n => if n = Str.ofString "k" then some (.int (k : Int) t) else if n = Str.ofString "shown" then some (.ref D1) else if n = Str.ofString "meant" then some (.ref D2) else m n) →
      News h₀ L h' ((128, tabObj tb') :: (c', oc) :: (L + 1 + 1 + 1 + 1, oP) :: (D1, listOf (ls1.map fun y => Value.str (ofL [y.1]) y.2).toArray n1) :: (D2, listOf (ls2.map fun y => Value.str (ofL [y.1]) y.2).toArray n2) :: (sp, listOf sps.toArray n3) :: news) → TabSt ((c', oc) :: []) ⟨153, 4, 157, 25⟩ ledQual tb' →
      ((∀ q ∈ (L + 1 + 1 + 1 + 1, oP) :: (D1, listOf (ls1.map fun y => Value.str (ofL [y.1]) y.2).toArray n1) :: (D2, listOf (ls2.map fun y => Value.str (ofL [y.1]) y.2).toArray n2) :: (sp, listOf sps.toArray n3) :: news, q.1 < c') ∨ (c', oc) ∈ (L + 1 + 1 + 1 + 1, oP) :: (D1, listOf (ls1.map fun y => Value.str (ofL [y.1]) y.2).toArray n1) :: (D2, listOf (ls2.map fun y => Value.str (ofL [y.1]) y.2).toArray n2) :: (sp, listOf sps.toArray n3) :: news) → Q .next { s with heap := h', toks := tk' }) →
    wpAny (model PySem.Challenge.rw_op0114_01.row.prog w) (ktrTop dp un gd (Str.ofString "law") lawScope L fa cd (cellsFrom (L + 1) lawScope.names []) outer) (exec S (lawEnv L fa cd)) Q E s
theorem st_if {w p loose mean mg mb} : StIf w p loose mean mg mb (turnSt 8) := by
  unfold StIf
  k_fill
  intro dp un gd fa cd outer A₀ base h₀ L m s Q E news k t tb D1 D2 sp ls1 ls2 n1 n2 n3 hi sps oP B F X N T hdp hun hCH hTS hne hk5 hP hSp hhi ht1 heq hl5 hlt htk hret
  conv in turnSt 8 => whnf
  dsimp only [lawEnv]
  iterate 15 (first | (dsimp only; walk1) | walk1)
  (try dsimp only)
  k_dflt (refine' c_leader (k : Int) (escS k) (wri_ok hk5) _ hne sp sps.toArray n3 (psS k) ?hsp ?hT ?hsz (psS_ok hk5) t tb hTS _ _ _ _ _ _ _ _ _ _ _ _ _ _ _ _ _ B F X N hCH T ?k ?d ?u ?_; (case hsp => k_mem); (case hT => exact (tups_rev hSp).mono (fun q hq => List.Mem.tail _ (List.Mem.tail _ (List.Mem.tail _ (List.Mem.tail _ hq))))); (case hsz => (rw [List.size_toArray, hSp.size, sizeLine_eq]; exact Nat.le_trans (pairs_le k) (by omega))); (case k => rfl); (case d => ktr_room); (case u => ktr_units))
  intro f9 of9 c9 oc9 cp9 ocp9 ck9 ock9 tb9 h9 tk9 htk9 F9 N9 TS9 q1 q2 q3 q4 hfd C9
  obtain ⟨fd9, rfl⟩ := hfd
  (try dsimp only)
  clear N F
  iterate 6 (first | (dsimp only; walk1) | walk1)
  iterate 4 (first | (dsimp only; walk1) | walk1)
  k_dflt (refine' krv_lit (its := (ls1.map fun y => Value.str (ofL [y.1]) y.2).toArray) (zs := (ls1.reverse.map fun y => ((ofL [y.1], y.2) : Str × Tok)).map fun y => Value.str y.1 y.2) ?F ?N ?l ?k ?e ?_ ?s ?t ?z; (case F => k_asm); (case N => k_asm); (case l => exact News.isList (by assumption) (by k_mem)); (case k => exact IsPart.int _ _); (case e => simp); (case s => with_unfolding_all rfl); (case t => kmk_pure); (case z => (rw [sizeLine_eq, List.size_toArray, List.length_map]; omega)))
  intro D9 h8 F8 N8 l8
  (try dsimp only)
  iterate 4 (first | (dsimp only; walk1) | walk1)
  (try dsimp only)
  k_dflt (refine' c_reduce _ _ f9 D9 (ledG (escS k) (psS k)) C9 ?need (ls1.reverse.map fun y => ((ofL [y.1], y.2) : Str × Tok)) 0 fd9 ?hf ?hsh ?hlen _ _ _ _ _ _ _ _ _ _ _ _ _ _ _ _ _ _ B F8 X N8 T ?k ?hys ?one ?d ?u ?_; (case k => rfl); (case d => ktr_room); (case u => ktr_units); (case one => ((try dsimp only); omega)))
  case need =>
    intro q hq
    rcases List.mem_cons.mp hq with rfl | hq
    · exact List.Mem.tail _ (List.Mem.head _)
    · rcases List.mem_cons.mp hq with rfl | hq
      · exact List.Mem.tail _ (List.Mem.tail _ (List.Mem.head _))
      · rcases List.mem_cons.mp hq with rfl | hq
        · exact List.Mem.tail _ (List.Mem.tail _ (List.Mem.tail _ (List.Mem.head _)))
        · rcases List.mem_cons.mp hq with rfl | hq
          · exact List.Mem.tail _ (List.Mem.tail _ (List.Mem.tail _ (List.Mem.tail _ (List.Mem.head _))))
          · exact List.Mem.tail _ (List.Mem.tail _ (List.Mem.tail _ (List.Mem.tail _ (List.Mem.tail _ (List.Mem.tail _ hq)))))
  case hf => exact List.Mem.tail _ (List.Mem.head _)
  case hsh => exact List.Mem.head _
  case hlen =>
    intro i hi
    exact foldG_len hk5 ls1.reverse (fun y hy => hlt y (List.mem_reverse.mp hy)) (by simpa using hl5) i (by simpa using hi)
  case hys =>
    intro y hy
    obtain ⟨z, hz, rfl⟩ := List.mem_map.mp hy
    have hz2 := htk z (List.mem_reverse.mp hz)
    exact ⟨rfl, Nat.ne_of_gt hz2.1, Nat.le_trans hz2.2 (Nat.le_trans hhi (by (try dsimp only at *); omega))⟩
  intro t7 h7 tk7 htk7 F7 N7
  rw [law_eq hk5 ls1 hl5 hlt]
  (try dsimp only)
  clear N8 F8
  iterate 7 (first | (dsimp only; walk1) | walk1)
  (try dsimp only)
  have hl5' : ls2.length ≤ 5 := by
    have e := congrArg List.length heq
    rw [List.length_map, List.length_map] at e
    omega
  k_dflt (refine' Clm.use (c_closed _ D2 ls2 n2 ?hm hl5') ?B ?F ?X ?N ?T ?k ?pre ?d ?u ?_; (case N => exact N7); (case hm => exact List.Mem.tail _ (List.Mem.tail _ (List.Mem.tail _ (List.Mem.tail _ (List.Mem.tail _ (List.Mem.tail _ (List.Mem.tail _ (List.Mem.tail _ (List.Mem.head _))))))))); (case B => exact B); (case F => exact F7); (case X => exact X); (case T => exact T); (case k => rfl); (case pre => trivial); (case d => ktr_room); (case u => ktr_units))
  intro t6 h6 tk6 htk6 F6 N6
  (try dsimp only)
  rw [← heq]
  clear N7 F7
  generalize ofL (closeL (ls1.map (·.1))) = X9
  walk1
  rw [show (X9 != X9) = false from by simp]
  (try dsimp only)
  walk1
  (try dsimp only)
  simp only [Bool.false_eq_true, if_false]
  refine wpAny_execs_nil ?_
  refine hret tb9 c9 oc9 _ _ F6 (fun q hq => N6 q ?_) TS9 q1
  rcases List.mem_cons.mp hq with rfl | hq
  · exact List.Mem.tail _ (List.Mem.tail _ (List.Mem.tail _ (List.Mem.tail _ (List.Mem.tail _ (List.Mem.head _)))))
  · rcases List.mem_cons.mp hq with rfl | hq
    · exact List.Mem.tail _ (List.Mem.tail _ (List.Mem.head _))
    · exact List.Mem.tail _ (List.Mem.tail _ (List.Mem.tail _ (List.Mem.tail _ (List.Mem.tail _ (List.Mem.tail _ hq)))))
end Mine
end
section
open PySem PySem.W PyProof.Rows
set_option maxRecDepth 100000
set_option maxHeartbeats 8000000
namespace Mine
/-- what holds ahead of a turn -/
structure TJ (L sc kn : Addr) (kvs : List Value) (news : List (Addr × Obj)) (oS oK oM oP oZ : Obj) (vM vP vZ : Option Value) (tb : Array Value) (ext : List (Addr × Obj)) : Prop where
  eq : news = (L + 1, oS) :: (L + 1 + 1, oK) :: (L + 1 + 1 + 1, oM) :: (L + 1 + 1 + 1 + 1, oP) :: (L + 1 + 1 + 1 + 1 + 1, oZ) :: (128, tabObj tb) :: (kn, listOf kvs.toArray 0) :: ext
  S : oS.data = .cell (some (.ref sc))
  K : oK.data = .cell (some (.ref kn))
  M : oM.data = .cell vM
  P : oP.data = .cell vP
  Z : oZ.data = .cell vZ
  T : TabSt ext ⟨153, 4, 157, 25⟩ ledQual tb
  ext : ∀ q ∈ ext, q.1 ≠ 128 ∧ q.1 ≠ L + 1 ∧ q.1 ≠ L + 1 + 1 ∧ q.1 ≠ L + 1 + 1 + 1 ∧ q.1 ≠ L + 1 + 1 + 1 + 1 ∧ q.1 ≠ L + 1 + 1 + 1 + 1 + 1
def TJe (L sc kn : Addr) (kvs : List Value) (_m : Str → Option Value) (news : List (Addr × Obj)) : Prop := ∃ oS oK oM oP oZ vM vP vZ tb ext, TJ L sc kn kvs news oS oK oM oP oZ vM vP vZ tb ext
theorem TabSt.mono {news news' : List (Addr × Obj)} {pos : Pos} {qual : Str} {tb : Array Value} (h : TabSt news pos qual tb) (hs : ∀ q ∈ news, q ∈ news') : TabSt news' pos qual tb :=
  h.imp id fun ⟨c, oc, vs, t, e, hm, r⟩ => ⟨c, oc, vs, t, e, hs _ hm, r⟩
theorem News.sub {h₀ h : Heap} {L : Addr} {a b : List (Addr × Obj)} (N : News h₀ L h a) (hs : ∀ q ∈ b, q ∈ a) : News h₀ L h b := fun q hq => N q (hs q hq)
theorem News.glue {h₀ h : Heap} {L : Addr} {X a b : List (Addr × Obj)} (N : News h₀ L h (X ++ b)) (Na : News h₀ L h a) : News h₀ L h (X ++ (a ++ b)) := fun q hq => by
  rcases List.mem_append.mp hq with hq | hq
  · exact N q (List.mem_append_left _ hq)
  · rcases List.mem_append.mp hq with hq | hq
    · exact Na q hq
    · exact N q (List.mem_append_right _ hq)
theorem app_all {α : Type} {P : α → Prop} {a b : List α} (ha : ∀ q ∈ a, P q) (hb : ∀ q ∈ b, P q) : ∀ q ∈ a ++ b, P q := fun q hq => (List.mem_append.mp hq).elim (ha q) (hb q)
theorem all_cons {α : Type} {P : α → Prop} {x : α} {a : List α} (hx : P x) (ha : ∀ q ∈ a, P q) : ∀ q ∈ x :: a, P q := List.forall_mem_cons.mpr ⟨hx, ha⟩
theorem wp_t {α : Type} {M : Model} {A : Around} {E : Value → Shared → Prop} {s : Shared} {T : Sem α} {Q : α → Shared → Prop} (h1 : 1 ≤ s.toks) (h : wpAny M A T (fun a s' => 1 ≤ s'.toks → Q a s') (fun e s' => 1 ≤ s'.toks → E e s') s) : wpAny M A T Q E s := wpAny_with_toks h1 h

local macro_rules | `(tactic| ktr_rel) => `(tactic| first | (with_reducible refine List.forall_mem_cons.mpr (And.intro ?tbA ?tbB); (case tbA => first | assumption | (refine Ne.symm ?_; assumption) | k_ne); (case tbB => ktr_rel)) | assumption)
local macro_rules | `(tactic| tb_start) => `(tactic| first | with_reducible exact List.mem_cons_self | (with_reducible refine List.mem_cons_of_mem _ ?_; tb_start))
local macro_rules | `(tactic| tb_rel) => `(tactic| first | (with_reducible refine List.forall_mem_cons.mpr (And.intro ?tbA ?tbB); (case tbA => tb_start); (case tbB => tb_rel)) | (intro q9 hq9; repeat (first | with_reducible exact hq9 | with_reducible refine List.mem_cons_of_mem _ ?_)))
theorem addr_ne {L kn : Nat} (hL : 128 < L) (hkn : L + 1 + 1 + 1 + 1 + 1 < kn) : @Ne Nat (L + 1) (L + 1 + 1) ∧ @Ne Nat (L + 1) (L + 1 + 1 + 1) ∧ @Ne Nat (L + 1) (L + 1 + 1 + 1 + 1) ∧ @Ne Nat (L + 1) (L + 1 + 1 + 1 + 1 + 1) ∧ @Ne Nat (L + 1 + 1) (L + 1 + 1 + 1) ∧ @Ne Nat (L + 1 + 1) (L + 1 + 1 + 1 + 1) ∧ @Ne Nat (L + 1 + 1) (L + 1 + 1 + 1 + 1 + 1) ∧ @Ne Nat (L + 1 + 1 + 1) (L + 1 + 1 + 1 + 1) ∧ @Ne Nat (L + 1 + 1 + 1) (L + 1 + 1 + 1 + 1 + 1) ∧ @Ne Nat (L + 1 + 1 + 1 + 1) (L + 1 + 1 + 1 + 1 + 1) ∧ @Ne Nat 128 (L + 1) ∧ @Ne Nat 128 (L + 1 + 1) ∧ @Ne Nat 128 (L + 1 + 1 + 1) ∧ @Ne Nat 128 (L + 1 + 1 + 1 + 1) ∧ @Ne Nat 128 (L + 1 + 1 + 1 + 1 + 1) ∧ @Ne Nat kn (L + 1) ∧ @Ne Nat kn (L + 1 + 1) ∧ @Ne Nat kn (L + 1 + 1 + 1) ∧ @Ne Nat kn (L + 1 + 1 + 1 + 1) ∧ @Ne Nat kn (L + 1 + 1 + 1 + 1 + 1) ∧ @Ne Nat kn 128 := by
  refine ⟨?_, ?_, ?_, ?_, ?_, ?_, ?_, ?_, ?_, ?_, ?_, ?_, ?_, ?_, ?_, ?_, ?_, ?_, ?_, ?_, ?_⟩ <;> omega
theorem turn {w : World} {p : Program} {loose : List Str} {mean : ExcName → Option Value} {mg mb : Str → Option Value} (S0 S1 S2 S3 S4 S5 S6 S7 S8 : Stmt)
    (H0 : StMore w p loose mean mg mb S0) (H1 : StMode w p loose mean mg mb S1) (H2 : StStart w p loose mean mg mb S2) (H3 : StSpelled w p loose mean mg mb S3) (H4 : StSize w p loose mean mg mb S4) (H5 : StRow w p loose mean mg mb S5) (H6 : StShown w p loose mean mg mb S6) (H7 : StMeant w p loose mean mg mb S7) (H8 : StIf w p loose mean mg mb S8)
    (dp un : Nat) (gd : Option (List Code)) (fa : Addr) (cd : Value) (outer : List Env) (A₀ : Around) (base h₀ : Heap) (L sc kn : Addr) (kvs : List Value) (ns : List Int) (vs : List Value) (i : Nat) (t : Tok) (m₁ : Str → Option Value) (s : Shared) (news₁ : List (Addr × Obj)) (I : Addr) (oI : Obj) (px : Pos)
    (B : Below A₀ base outer h₀) (X : (hd.heap_39 w.params).In h₀) (T : Top p loose mean mg mb h₀) (hdp : dp + 20 < recursionLimit) (hun : un + 8 * 20 < cLine) (hCH : CodeHd base 132 128)
    (hsc : h₀.IsList sc vs.toArray) (hns : IntsAre vs ns) (hlay : (PyData.list (ns.map .int)).layable0 = true) (hlen : ns.length ≤ 63) (hkv : StrsAre kvs knownS) (hL : @LT.lt Nat _ 128 L) (hkn : @LT.lt Nat _ (L + 1 + 1 + 1 + 1 + 1) kn)
    (hi : i < 5) (hJ : TJe L sc kn kvs m₁ news₁) (off : ∀ p ∈ news₁, p.1 ≠ I) (hoI : ∀ vs x t, oI.data = .fields vs → vs[1]? ≠ some (.str x t)) (F : Fr h₀ L s.heap m₁) (N : News h₀ L s.heap ((I, oI) :: news₁)) (Q : Flow → Shared → Prop)
    (hret : ∀ (h' : Heap) (tk : Nat) (m' : Str → Option Value) (news' : List (Addr × Obj)), Fr h₀ L h' m' → News h₀ L h' ((I, oI) :: news') → (∀ p ∈ news', p.1 ≠ I) → TJe L sc kn kvs m' news' → Q .next { s with heap := h', toks := tk }) :
    wpAny (model PySem.Challenge.rw_op0114_01.row.prog w) (ktrTop dp un gd (Str.ofString "law") lawScope L fa cd (cellsFrom (L + 1) lawScope.names []) outer) (assign (.Name (Str.ofString "k") px) (lawEnv L fa cd) (.int (0 + (i : Int) * 1) t))
      (fun _ s₂ => wpAny (model PySem.Challenge.rw_op0114_01.row.prog w) (ktrTop dp un gd (Str.ofString "law") lawScope L fa cd (cellsFrom (L + 1) lawScope.names []) outer) (execs [S0, S1, S2, S3, S4, S5, S6, S7, S8] (lawEnv L fa cd)) Q (fun _ _ => False) s₂) (fun _ _ => False) s := by
  obtain ⟨oS, oK, oM, oP, oZ, vM, vP, vZ, tb, ext, J⟩ := hJ
  have hx := J.ext
  have ei : (0 : Int) + (i : Int) * 1 = (i : Int) := by omega
  rw [ei]
  obtain rfl := J.eq
  have I1 : @Ne Nat (L + 1) I := off (L + 1, oS) (by k_mem)
  have I2 : @Ne Nat (L + 1 + 1) I := off (L + 1 + 1, oK) (by k_mem)
  have I3 : @Ne Nat (L + 1 + 1 + 1) I := off (L + 1 + 1 + 1, oM) (by k_mem)
  have I4 : @Ne Nat (L + 1 + 1 + 1 + 1) I := off (L + 1 + 1 + 1 + 1, oP) (by k_mem)
  have I5 : @Ne Nat (L + 1 + 1 + 1 + 1 + 1) I := off (L + 1 + 1 + 1 + 1 + 1, oZ) (by k_mem)
  have I6 : @Ne Nat 128 I := off (128, tabObj tb) (by k_mem)
  have I7 : @Ne Nat kn I := off (kn, listOf kvs.toArray 0) (by k_mem)
  have xI : ∀ q ∈ ext, q.1 ≠ I := fun q hq => off q (List.mem_cons_of_mem _ (List.mem_cons_of_mem _ (List.mem_cons_of_mem _ (List.mem_cons_of_mem _ (List.mem_cons_of_mem _ (List.mem_cons_of_mem _ (List.mem_cons_of_mem _ (hq))))))))
  have x1 : ∀ q ∈ ext, q.1 ≠ L + 1 := fun q hq => (hx q hq).2.1
  have x2 : ∀ q ∈ ext, q.1 ≠ L + 1 + 1 := fun q hq => (hx q hq).2.2.1
  have x3 : ∀ q ∈ ext, q.1 ≠ L + 1 + 1 + 1 := fun q hq => (hx q hq).2.2.2.1
  have x4 : ∀ q ∈ ext, q.1 ≠ L + 1 + 1 + 1 + 1 := fun q hq => (hx q hq).2.2.2.2.1
  have x5 : ∀ q ∈ ext, q.1 ≠ L + 1 + 1 + 1 + 1 + 1 := fun q hq => (hx q hq).2.2.2.2.2
  have x6 : ∀ q ∈ ext, q.1 ≠ 128 := fun q hq => (hx q hq).1
  obtain ⟨aq0, aq1, aq2, aq3, aq4, aq5, aq6, aq7, aq8, aq9, aq10, aq11, aq12, aq13, aq14, aq15, aq16, aq17, aq18, aq19, aq20⟩ := addr_ne hL hkn
  have hC := spe_ok (w := w) (p := p) (loose := loose) (mean := mean) (mg := mg) (mb := mb) hi
  unfold StMore at H0
  unfold StMode at H1
  unfold StStart at H2
  unfold StSpelled at H3
  unfold StSize at H4
  unfold StRow at H5
  unfold StShown at H6
  unfold StMeant at H7
  unfold StIf at H8
  refine wpAny_assign_Name (storeX_L F N (fun h1 F1 N1 => ?_) (by with_unfolding_all rfl) (by with_unfolding_all rfl))
  -- more
  refine wpAny_execs_cons (wp_t (by show 1 ≤ s.toks + 1; omega) (H0 dp un gd fa cd outer A₀ base h₀ L m₁ { s with heap := h1, toks := s.toks + 1 } _ _
    ((I, oI) :: (L + 1 + 1, oK) :: (L + 1 + 1 + 1, oM) :: (L + 1 + 1 + 1 + 1, oP) :: (L + 1 + 1 + 1 + 1 + 1, oZ) :: (128, tabObj tb) :: (kn, listOf kvs.toArray 0) :: ext) i t ns vs sc oS B F1 X ?nA T hdp hun hi hsc hns hlay hlen J.S ?_))
  case nA => exact News.sub N1 (by tb_rel)
  intro M tM h2 tk2 hM F2 N2 ht2
  (try dsimp only at ht2)
  -- mode
  refine wpAny_execs_cons (wp_t ht2 (H1 dp un gd fa cd outer A₀ base h₀ L m₁ { s with heap := h2, toks := tk2 } _ _
    ((I, oI) :: (L + 1, oS) :: (L + 1 + 1, oK) :: (L + 1 + 1 + 1 + 1, oP) :: (L + 1 + 1 + 1 + 1 + 1, oZ) :: (128, tabObj tb) :: (kn, listOf kvs.toArray 0) :: ext) i M t tM oM vM B F2 X ?nB T hdp hun hi hM J.M ?ne ?_))
  case nB => exact News.sub N2 (by tb_rel)
  case ne => ktr_rel
  intro md t3 oM' h3 tk3 hmd F3 N3 dM ht3
  (try dsimp only at ht3)
  -- start
  refine wpAny_execs_cons (wp_t ht3 (H2 dp un gd fa cd outer A₀ base h₀ L m₁ { s with heap := h3, toks := tk3 } _ _ _ i M t tM B F3 X N3 T hdp hun hM ?_))
  intro st ts h4 tk4 hst F4 N4 ht4
  (try dsimp only at ht4)
  -- spelled
  refine wpAny_execs_cons (wp_t ht4 (H3 dp un gd fa cd outer A₀ base h₀ L _ { s with heap := h4, toks := tk4 } _ _
    ((I, oI) :: (L + 1, oS) :: (L + 1 + 1, oK) :: (L + 1 + 1 + 1, oM') :: (L + 1 + 1 + 1 + 1 + 1, oZ) :: (128, tabObj tb) :: (kn, listOf kvs.toArray 0) :: ext) i t oP vP B (named1 (by with_unfolding_all rfl) F4) X ?nC T hdp hun hC J.P ?ne ht4 ?_))
  case nC => exact News.sub N4 (by tb_rel)
  case ne => ktr_rel
  intro tl sp sps n3 oP' h5 tk5 htk5 F5 N5 lt1 lt2 hmem5 S5 dP ht5
  (try dsimp only at ht5)
  have N5a : News h₀ L h5 ((L + 1 + 1 + 1 + 1, oP') :: (I, oI) :: (L + 1, oS) :: (L + 1 + 1, oK) :: (L + 1 + 1 + 1, oM') :: (L + 1 + 1 + 1 + 1 + 1, oZ) :: (128, tabObj tb) :: (kn, listOf kvs.toArray 0) :: ext) :=
    News.sub N5 (all_cons (List.mem_cons_self) fun q hq => List.mem_cons_of_mem _ (List.mem_append_right _ hq))
  have N5b : News h₀ L h5 tl := News.sub N5 fun q hq => List.mem_cons_of_mem _ (List.mem_append_left _ hq)
  have N5c : News h₀ L h5 ((I, oI) :: (L + 1 + 1 + 1 + 1, oP') :: (L + 1 + 1 + 1, oM') :: (L + 1, oS) :: (L + 1 + 1, oK) :: (L + 1 + 1 + 1 + 1 + 1, oZ) :: (128, tabObj tb) :: (kn, listOf kvs.toArray 0) :: (tl ++ ext)) :=
    News.glue (X := [(I, oI), (L + 1 + 1 + 1 + 1, oP'), (L + 1 + 1 + 1, oM'), (L + 1, oS), (L + 1 + 1, oK), (L + 1 + 1 + 1 + 1 + 1, oZ), (128, tabObj tb), (kn, listOf kvs.toArray 0)]) (News.sub N5a (by show ∀ q ∈ (I, oI) :: (L + 1 + 1 + 1 + 1, oP') :: (L + 1 + 1 + 1, oM') :: (L + 1, oS) :: (L + 1 + 1, oK) :: (L + 1 + 1 + 1 + 1 + 1, oZ) :: (128, tabObj tb) :: (kn, listOf kvs.toArray 0) :: ext, _; tb_rel)) N5b
  have yI : ∀ q ∈ tl ++ ext, q.1 ≠ I := app_all (fun q hq => Nat.ne_of_gt (lt1 q hq (I, oI) (by tb_start))) xI
  have y1 : ∀ q ∈ tl ++ ext, q.1 ≠ L + 1 := app_all (fun q hq => Nat.ne_of_gt (lt1 q hq (L + 1, oS) (by tb_start))) x1
  have y2 : ∀ q ∈ tl ++ ext, q.1 ≠ L + 1 + 1 := app_all (fun q hq => Nat.ne_of_gt (lt1 q hq (L + 1 + 1, oK) (by tb_start))) x2
  have y3 : ∀ q ∈ tl ++ ext, q.1 ≠ L + 1 + 1 + 1 := app_all (fun q hq => Nat.ne_of_gt (lt1 q hq (L + 1 + 1 + 1, oM') (by tb_start))) x3
  have y4 : ∀ q ∈ tl ++ ext, q.1 ≠ L + 1 + 1 + 1 + 1 := app_all (fun q hq => Nat.ne_of_gt (lt2 q hq)) x4
  have y5 : ∀ q ∈ tl ++ ext, q.1 ≠ L + 1 + 1 + 1 + 1 + 1 := app_all (fun q hq => Nat.ne_of_gt (lt1 q hq (L + 1 + 1 + 1 + 1 + 1, oZ) (by tb_start))) x5
  have y6 : ∀ q ∈ tl ++ ext, q.1 ≠ 128 := app_all (fun q hq => Nat.ne_of_gt (lt1 q hq (128, tabObj tb) (by tb_start))) x6
  have SE : SpAt (tl ++ ext) sps i tk5 := S5.mono (fun q hq => List.mem_append_left _ hq) (Nat.le_refl _)
  have hmE : (sp, listOf sps.toArray n3) ∈ tl ++ ext := List.mem_append_left _ hmem5
  have TE : TabSt (tl ++ ext) ⟨153, 4, 157, 25⟩ ledQual tb := TabSt.mono J.T fun q hq => List.mem_append_right _ hq
  have JS := J.S
  have JK := J.K
  have JZ := J.Z
  clear N5 N5a N5b lt1 lt2 hmem5 S5 N F N1 F1 N2 F2 N3 F3 N4 F4 J hx x1 x2 x3 x4 x5 x6 xI off
  generalize tl ++ ext = E at *
  have N5d : News h₀ L h5 ((sp, listOf sps.toArray n3) :: (I, oI) :: (L + 1 + 1 + 1 + 1, oP') :: (L + 1 + 1 + 1, oM') :: (L + 1, oS) :: (L + 1 + 1, oK) :: (L + 1 + 1 + 1 + 1 + 1, oZ) :: (128, tabObj tb) :: (kn, listOf kvs.toArray 0) :: E) :=
    News.sub N5c (all_cons (by iterate 8 refine List.mem_cons_of_mem _ ?_
                               exact hmE) fun q hq => hq)
  clear N5c
  -- size
  refine wpAny_execs_cons (wp_t ht5 (H4 dp un gd fa cd outer A₀ base h₀ L _ { s with heap := h5, toks := tk5 } _ _
    ((I, oI) :: (L + 1 + 1 + 1, oM') :: (L + 1, oS) :: (L + 1 + 1, oK) :: (128, tabObj tb) :: (kn, listOf kvs.toArray 0) :: E) oP' oZ vZ sp sps n3 B F5 X ?nD T hdp hun dP JZ (y5 _ hmE) ?ne (by rw [SE.size]; exact pairs_le i) ?_))
  case nD => exact News.sub N5d (by tb_rel)
  case ne => ktr_rel
  intro tz oZ' h6 tk6 htk6 F6 N6 dZ ht6
  (try dsimp only at ht6 htk6)
  clear N5d F5
  -- row
  refine wpAny_execs_cons (wp_t ht6 (H5 dp un gd fa cd outer A₀ base h₀ L _ { s with heap := h6, toks := tk6 } _ _
    ((L + 1 + 1 + 1 + 1 + 1, oZ') :: (L + 1 + 1 + 1 + 1, oP') :: (sp, listOf sps.toArray n3) :: (I, oI) :: (L + 1, oS) :: (L + 1 + 1, oK) :: (128, tabObj tb) :: (kn, listOf kvs.toArray 0) :: E) oM' md st t3 ts B (named1 (by with_unfolding_all rfl) F6) X ?nE T hdp hun dM hst ?_))
  case nE => exact News.sub N6 (by tb_rel)
  intro tr h7 tk7 htk7 F7 N7 ht7
  (try dsimp only at ht7 htk7)
  clear N6 F6
  -- shown
  refine wpAny_execs_cons (wp_t ht7 (H6 dp un gd fa cd outer A₀ base h₀ L _ { s with heap := h7, toks := tk7 } _ _
    ((L + 1 + 1 + 1, oM') :: (I, oI) :: (L + 1, oS) :: (128, tabObj tb) :: E) i tr tz (rowL (md : Int) st) kvs sps kn sp oK oP' oZ' 0 n3 tk5 B F7 X ?nF T hdp hun JK dP dZ hkv (SE.mono (by tb_rel) (Nat.le_refl _)) (by rw [rowL_len]; omega) ?_))
  case nF => exact News.sub N7 (by tb_rel)
  intro D1 ls1 h8 tk8 htk8 hm1 htok1 F8 N8 off1 ht8
  (try dsimp only at ht8 htk8)
  clear N7 F7
  -- meant
  refine wpAny_execs_cons (wp_t ht8 (H7 dp un gd fa cd outer A₀ base h₀ L _ { s with heap := h8, toks := tk8 } _ _
    ((D1, LCg.lst (ls1.map fun y => Value.str (ofL [y.1]) y.2)) :: (L + 1 + 1, oK) :: (kn, listOf kvs.toArray 0) :: (I, oI) :: (L + 1, oS) :: (128, tabObj tb) :: E) i st md ts t3 tz sps sp oM' oP' oZ' n3 tk5 B (named1 (by with_unfolding_all rfl) F8) X ?nG T hdp hun dM dP dZ (SE.mono (by tb_rel) (Nat.le_refl _)) hst hmd ?_))
  case nG => exact News.sub N8 (by tb_rel)
  intro D2 ls2 h9 tk9 htk9 hm2 htok2 F9 N9 off2 ht9
  (try dsimp only at ht9 htk9)
  clear N8 F8
  have hl5 : ls1.length = 5 := by
    have e := congrArg List.length hm1
    rw [List.length_map, List.length_map, rowL_len] at e
    exact e
  have heq : ls1.map (·.1) = ls2.map (·.1) := by rw [hm1, hm2]; exact row_meant (md : Int) st i
  have hlet : ∀ y ∈ ls1, y.1 ∈ lettersOf i := by
    intro y hy
    have h1 : y.1 ∈ ls1.map (·.1) := List.mem_map_of_mem hy
    rw [hm1] at h1
    obtain ⟨c, _, e⟩ := List.mem_map.mp h1
    rw [← e]; exact sgn_letter i _
  have N9' : News h₀ L h9 ((D2, listOf (ls2.map fun y => Value.str (ofL [y.1]) y.2).toArray (ls2.map fun y => Value.str (ofL [y.1]) y.2).length) :: (L + 1 + 1 + 1 + 1 + 1, oZ') :: (L + 1 + 1 + 1 + 1, oP') :: (L + 1 + 1 + 1, oM') :: (sp, listOf sps.toArray n3) :: (D1, listOf (ls1.map fun y => Value.str (ofL [y.1]) y.2).toArray (ls1.map fun y => Value.str (ofL [y.1]) y.2).length) :: (L + 1 + 1, oK) :: (kn, listOf kvs.toArray 0) :: (I, oI) :: (L + 1, oS) :: (128, tabObj tb) :: E) := N9
  have d1T : @Ne Nat 128 D1 := off1.2.2.2.2.2.2.2.2.1
  have d2T : @Ne Nat 128 D2 := off2.2.2.2.2.2.2.2.2.2.1
  have d1T' : @Ne Nat D1 128 := Ne.symm d1T
  have d2T' : @Ne Nat D2 128 := Ne.symm d2T
  have spT : @Ne Nat sp 128 := y6 _ hmE
  clear N9
  generalize (ls1.map fun y => Value.str (ofL [y.1]) y.2).length = n1 at N9'
  generalize (ls2.map fun y => Value.str (ofL [y.1]) y.2).length = n2 at N9'
  -- the comparison
  refine wpAny_execs_cons (wp_t ht9 (H8 dp un gd fa cd outer A₀ base h₀ L _ { s with heap := h9, toks := tk9 } _ _
    ((L + 1 + 1 + 1 + 1 + 1, oZ') :: (L + 1 + 1 + 1, oM') :: (L + 1 + 1, oK) :: (kn, listOf kvs.toArray 0) :: (I, oI) :: (L + 1, oS) :: E) i t tb D1 D2 sp ls1 ls2 n1 n2 n3 tk5 sps oP' B (named3 (by with_unfolding_all rfl) (by with_unfolding_all rfl) (by with_unfolding_all rfl) F9) X ?nH T hdp hun hCH (TabSt.mono TE (by tb_rel)) ?ne hi dP (SE.mono (by tb_rel) (Nat.le_refl _)) (by show tk5 ≤ tk9; omega) ht9 heq hl5 hlet htok1 ?_))
  case nH => exact News.sub N9' (by tb_rel)
  case ne => ktr_rel
  intro tb' c' oc h10 tk10 F10 N10 TS q1 _
  refine wpAny_execs_nil ?_
  have mS : (L + 1, oS) ∈ (128, tabObj tb') :: (c', oc) :: (L + 1 + 1 + 1 + 1, oP') :: (D1, listOf (ls1.map fun y => Value.str (ofL [y.1]) y.2).toArray n1) :: (D2, listOf (ls2.map fun y => Value.str (ofL [y.1]) y.2).toArray n2) :: (sp, listOf sps.toArray n3) :: (L + 1 + 1 + 1 + 1 + 1, oZ') :: (L + 1 + 1 + 1, oM') :: (L + 1 + 1, oK) :: (kn, listOf kvs.toArray 0) :: (I, oI) :: (L + 1, oS) :: E := by tb_start
  have neC : ∀ (x : Addr) (o : Obj) (v : Option Value) (fs : Array Value), oc.data = .fields fs → News h₀ L h10 [(c', oc), (x, o)] → o.data = .cell v → c' ≠ x := by
    intro x o v fs hd Nx hd' e
    have a := (Nx (c', oc) (.head _)).1
    have b := (Nx (x, o) (.tail _ (.head _))).1
    subst e
    dsimp only at a b
    rw [a] at b
    cases b
    rw [hd] at hd'
    cases hd'
  have cT : c' ≠ 128 := by
    rcases q1 with q1 | q1
    · have := q1 (L + 1, oS) (by tb_start)
      have h2 : @LT.lt Nat _ (L + 1) c' := this
      exact Nat.ne_of_gt (by omega)
    · revert q1
      have : ∀ q ∈ (L + 1 + 1 + 1 + 1, oP') :: (D1, listOf (ls1.map fun y => Value.str (ofL [y.1]) y.2).toArray n1) :: (D2, listOf (ls2.map fun y => Value.str (ofL [y.1]) y.2).toArray n2) :: (sp, listOf sps.toArray n3) :: (L + 1 + 1 + 1 + 1 + 1, oZ') :: (L + 1 + 1 + 1, oM') :: (L + 1 + 1, oK) :: (kn, listOf kvs.toArray 0) :: (I, oI) :: (L + 1, oS) :: E, q.1 ≠ 128 := by ktr_rel
      exact this (c', oc)
  rcases TS with rfl | ⟨c2, oc2, fs, t2, rfl, hm3, hd, hv⟩
  · refine hret h10 tk10 _ ((L + 1, oS) :: (L + 1 + 1, oK) :: (L + 1 + 1 + 1, oM') :: (L + 1 + 1 + 1 + 1, oP') :: (L + 1 + 1 + 1 + 1 + 1, oZ') :: (128, tabObj #[]) :: (kn, listOf kvs.toArray 0) :: []) F10 ?_ ?_ ⟨oS, oK, oM', oP', oZ', _, _, _, #[], [], rfl, JS, JK, dM, dP, dZ, .inl rfl, fun q hq => nomatch hq⟩
    · refine News.sub N10 ?_
      repeat' (first | exact List.forall_mem_nil _ | refine List.forall_mem_cons.mpr (And.intro ?_ ?_))
      all_goals tb_start
    · repeat' (first | exact List.forall_mem_nil _ | refine List.forall_mem_cons.mpr (And.intro ?_ ?_))
      all_goals k_ne
  · obtain ⟨rfl, rfl⟩ : c2 = c' ∧ oc2 = oc := by
      have e := List.mem_singleton.mp hm3
      exact ⟨congrArg Prod.fst e, congrArg Prod.snd e⟩
    have sub2 : ∀ (x : Addr) (o : Obj), (x, o) ∈ (128, tabObj #[rawInt (⟨153, 4, 157, 25⟩ : Pos).line, rawInt (⟨153, 4, 157, 25⟩ : Pos).col, .ref c2]) :: (c2, oc2) :: (L + 1 + 1 + 1 + 1, oP') :: (D1, listOf (ls1.map fun y => Value.str (ofL [y.1]) y.2).toArray n1) :: (D2, listOf (ls2.map fun y => Value.str (ofL [y.1]) y.2).toArray n2) :: (sp, listOf sps.toArray n3) :: (L + 1 + 1 + 1 + 1 + 1, oZ') :: (L + 1 + 1 + 1, oM') :: (L + 1 + 1, oK) :: (kn, listOf kvs.toArray 0) :: (I, oI) :: (L + 1, oS) :: E → News h₀ L h10 [(c2, oc2), (x, o)] :=
      fun x o hm => News.sub N10 (all_cons (by tb_start) (all_cons hm (List.forall_mem_nil _)))
    have c1 : c2 ≠ L + 1 := neC _ oS _ _ hd (sub2 _ _ (by tb_start)) JS
    have c22 : c2 ≠ L + 1 + 1 := neC _ oK _ _ hd (sub2 _ _ (by tb_start)) JK
    have c3 : c2 ≠ L + 1 + 1 + 1 := neC _ oM' _ _ hd (sub2 _ _ (by tb_start)) dM
    have c4 : c2 ≠ L + 1 + 1 + 1 + 1 := neC _ oP' _ _ hd (sub2 _ _ (by tb_start)) dP
    have c5 : c2 ≠ L + 1 + 1 + 1 + 1 + 1 := neC _ oZ' _ _ hd (sub2 _ _ (by tb_start)) dZ
    have cI : c2 ≠ I := by
      intro e
      have Nx := sub2 I oI (by tb_start)
      have a := (Nx (c2, oc2) (.head _)).1
      have b := (Nx (I, oI) (.tail _ (.head _))).1
      subst e
      dsimp only at a b
      rw [a] at b
      cases b
      exact hoI fs _ t2 hd hv
    refine hret h10 tk10 _ ((L + 1, oS) :: (L + 1 + 1, oK) :: (L + 1 + 1 + 1, oM') :: (L + 1 + 1 + 1 + 1, oP') :: (L + 1 + 1 + 1 + 1 + 1, oZ') :: (128, tabObj #[rawInt (⟨153, 4, 157, 25⟩ : Pos).line, rawInt (⟨153, 4, 157, 25⟩ : Pos).col, .ref c2]) :: (kn, listOf kvs.toArray 0) :: [(c2, oc2)]) F10 ?_ ?_ ⟨oS, oK, oM', oP', oZ', _, _, _, _, [(c2, oc2)], rfl, JS, JK, dM, dP, dZ, .inr ⟨c2, oc2, fs, t2, rfl, .head _, hd, hv⟩, ?_⟩
    · refine News.sub N10 ?_
      repeat' (first | exact List.forall_mem_nil _ | refine List.forall_mem_cons.mpr (And.intro ?_ ?_))
      all_goals tb_start
    · repeat' (first | exact List.forall_mem_nil _ | refine List.forall_mem_cons.mpr (And.intro ?_ ?_))
      all_goals first | exact cI | k_ne
    · intro q hq
      obtain rfl := List.mem_singleton.mp hq
      exact ⟨cT, c1, c22, c3, c4, c5⟩
end Mine
end
section
open PySem PySem.W PyProof.Rows
set_option maxRecDepth 100000
set_option maxHeartbeats 8000000
namespace Mine
theorem news_ord {h₀ h : Heap} {L : Addr} {kn z q m k s t : Addr × Obj} (N : News h₀ L h [kn, z, q, m, k, s, t]) : News h₀ L h [s, k, m, q, z, t, kn] :=
  News.sub N (List.forall_mem_cons.mpr ⟨by k_mem, List.forall_mem_cons.mpr ⟨by k_mem, List.forall_mem_cons.mpr ⟨by k_mem, List.forall_mem_cons.mpr ⟨by k_mem, List.forall_mem_cons.mpr ⟨by k_mem, List.forall_mem_cons.mpr ⟨by k_mem, List.forall_mem_cons.mpr ⟨by k_mem, List.forall_mem_nil _⟩⟩⟩⟩⟩⟩⟩)
theorem range_5 : Builtin.Range.small 0 5 1 = true ∧ Builtin.Range.rangeSize 0 5 1 = ((5 : Nat) : Int) := by decide +kernel
theorem tj_start {L sc kn : Addr} {oS oK oM oP oZ : Obj} {vM vP vZ : Option Value} {kvs : List Value} {m : Str → Option Value} (hS : oS.data = .cell (some (.ref sc))) (hK : oK.data = .cell (some (.ref kn))) (hM : oM.data = .cell vM) (hP : oP.data = .cell vP) (hZ : oZ.data = .cell vZ) :
    TJe L sc kn kvs m [(L + 1, oS), (L + 1 + 1, oK), (L + 1 + 1 + 1, oM), (L + 1 + 1 + 1 + 1, oP), (L + 1 + 1 + 1 + 1 + 1, oZ), (128, tabObj #[]), (kn, listOf kvs.toArray 0)] :=
  ⟨oS, oK, oM, oP, oZ, vM, vP, vZ, #[], [], ⟨rfl, hS, hK, hM, hP, hZ, .inl rfl, fun q hq => nomatch hq⟩⟩
theorem loop5 {w : World} {p : Program} {loose : List Str} {mean : ExcName → Option Value} {mg mb : Str → Option Value} {dp un : Nat} {gd : Option (List Code)} {fa : Addr} {cd : Value} {outer : List Env} {A₀ : Around} {base h₀ : Heap} {L sc kn : Addr} {kvs : List Value} {ns : List Int} {vs : List Value} {m : Str → Option Value} {s : Shared} {news : List (Addr × Obj)} {px : Pos} {r : Addr} {t u v : Tok} {Q : Flow → Shared → Prop} {E : Value → Shared → Prop}
    (F : Fr h₀ L s.heap m) (N : News h₀ L s.heap news) (hJ : TJe L sc kn kvs m news) (B : Below A₀ base outer h₀) (X : (hd.heap_39 w.params).In h₀) (T : Top p loose mean mg mb h₀) (hCH : CodeHd base 132 128)
    (hsc : h₀.IsList sc vs.toArray) (hns : IntsAre vs ns) (hlay : (PyData.list (ns.map .int)).layable0 = true) (hkv : StrsAre kvs knownS) (hr : IsRange s.heap r 0 5 1 t u v)
    (hdp : dp + 20 < recursionLimit) (hun : un + 8 * 20 < cLine) (hlen : ns.length ≤ 63) (hL : @LT.lt Nat _ 128 L) (hkn : @LT.lt Nat _ (L + 1 + 1 + 1 + 1 + 1) kn)
    (hR : ∀ (h' : Heap) (tk : Nat) (m' : Str → Option Value) (news' : List (Addr × Obj)), Fr h₀ L h' m' → News h₀ L h' news' → TJe L sc kn kvs m' news' → Q .next { s with heap := h', toks := tk }) :
    wpAny (model PySem.Challenge.rw_op0114_01.row.prog w) (ktrTop dp un gd (Str.ofString "law") lawScope L fa cd (cellsFrom (L + 1) lawScope.names []) outer) (pyIter (.ref r))
      (fun it s₂ => codeAny (model PySem.Challenge.rw_op0114_01.row.prog w) (ktrTop dp un gd (Str.ofString "law") lawScope L fa cd (cellsFrom (L + 1) lawScope.names []) outer) (.forLoop (.Name (Str.ofString "k") px) it [turnSt 0, turnSt 1, turnSt 2, turnSt 3, turnSt 4, turnSt 5, turnSt 6, turnSt 7, turnSt 8] [] (lawEnv L fa cd))
        (fun r s' => match r with | .ok f => Q f s' | .error e => cameBackBy (model PySem.Challenge.rw_op0114_01.row.prog w) (ktrTop dp un gd (Str.ofString "law") lawScope L fa cd (cellsFrom (L + 1) lawScope.names []) outer) (lawEnv L fa cd) E e s') s₂) E s := by
  generalize hS0 : turnSt 0 = S0
  generalize hS1 : turnSt 1 = S1
  generalize hS2 : turnSt 2 = S2
  generalize hS3 : turnSt 3 = S3
  generalize hS4 : turnSt 4 = S4
  generalize hS5 : turnSt 5 = S5
  generalize hS6 : turnSt 6 = S6
  generalize hS7 : turnSt 7 = S7
  generalize hS8 : turnSt 8 = S8
  have H0 := hS0 ▸ st_more (w := w) (p := p) (loose := loose) (mean := mean) (mg := mg) (mb := mb)
  have H1 := hS1 ▸ st_mode (w := w) (p := p) (loose := loose) (mean := mean) (mg := mg) (mb := mb)
  have H2 := hS2 ▸ st_start (w := w) (p := p) (loose := loose) (mean := mean) (mg := mg) (mb := mb)
  have H3 := hS3 ▸ st_spelled (w := w) (p := p) (loose := loose) (mean := mean) (mg := mg) (mb := mb)
  have H4 := hS4 ▸ st_size (w := w) (p := p) (loose := loose) (mean := mean) (mg := mg) (mb := mb)
  have H5 := hS5 ▸ st_row (w := w) (p := p) (loose := loose) (mean := mean) (mg := mg) (mb := mb)
  have H6 := hS6 ▸ st_shown (w := w) (p := p) (loose := loose) (mean := mean) (mg := mg) (mb := mb)
  have H7 := hS7 ▸ st_meant (w := w) (p := p) (loose := loose) (mean := mean) (mg := mg) (mb := mb)
  have H8 := hS8 ▸ st_if (w := w) (p := p) (loose := loose) (mean := mean) (mg := mg) (mb := mb)
  clear hS0 hS1 hS2 hS3 hS4 hS5 hS6 hS7 hS8
  refine rangeT (env := lawEnv L fa cd) (fun _ => TJe L sc kn kvs) rfl hr range_5.1 range_5.2 F N hJ ?_ hR
  intro i t m₁ h₁ tk₁ news₁ I oI hi hJ off hoI F N
  exact turn S0 S1 S2 S3 S4 S5 S6 S7 S8 H0 H1 H2 H3 H4 H5 H6 H7 H8 dp un gd fa cd outer A₀ base h₀ L sc kn kvs ns vs i t m₁ { s with heap := h₁, toks := tk₁ } news₁ I oI px B X T hdp hun hCH hsc hns hlay hlen hkv hL hkn hi hJ off hoI F N _ (fun h' tk m' news' F' N' o' j' => ⟨rfl, h', tk, m', news', rfl, F', N', o', j'⟩)
theorem loop_law {w : World} {p : Program} {loose : List Str} {mean : ExcName → Option Value} {mg mb : Str → Option Value} {dp un : Nat} {gd : Option (List Code)} {fa : Addr} {cd : Value} {outer : List Env} {A₀ : Around} {base h₀ : Heap} {L sc kn : Addr} {kvs : List Value} {ns : List Int} {vs : List Value} {m : Str → Option Value} {s : Shared} {px : Pos} {r : Addr} {t u v : Tok} {Q : Flow → Shared → Prop} {E : Value → Shared → Prop}
    {oS oK oM oP oZ : Obj} {vM vP vZ : Option Value} {scope : Scope} {body : List Stmt}
    (hscope : scope = lawScope) (hbody : body = [turnSt 0, turnSt 1, turnSt 2, turnSt 3, turnSt 4, turnSt 5, turnSt 6, turnSt 7, turnSt 8])
    (F : Fr h₀ L s.heap m) (N : News h₀ L s.heap [(kn, listOf kvs.toArray 0), (L + 1 + 1 + 1 + 1 + 1, oZ), (L + 1 + 1 + 1 + 1, oP), (L + 1 + 1 + 1, oM), (L + 1 + 1, oK), (L + 1, oS), (128, tabObj #[])])
    (dS : oS.data = .cell (some (.ref sc))) (dK : oK.data = .cell (some (.ref kn))) (dM : oM.data = .cell vM) (dP : oP.data = .cell vP) (dZ : oZ.data = .cell vZ)
    (B : Below A₀ base outer h₀) (X : (hd.heap_39 w.params).In h₀) (T : Top p loose mean mg mb h₀) (hCH : CodeHd base 132 128)
    (hsc : h₀.IsList sc vs.toArray) (hns : IntsAre vs ns) (hlay : (PyData.list (ns.map .int)).layable0 = true) (hkv : StrsAre kvs knownS) (hr : IsRange s.heap r 0 5 1 t u v)
    (hdp : dp + 20 < recursionLimit) (hun : un + 8 * 20 < cLine) (hlen : ns.length ≤ 63) (hL : @LT.lt Nat _ 128 L) (hkn : @LT.lt Nat _ (L + 1 + 1 + 1 + 1 + 1) kn)
    (hR : ∀ (h' : Heap) (tk : Nat) (m' : Str → Option Value) (oS oK oM oP oZ : Obj) (tb : Array Value) (ext : List (Addr × Obj)), Fr h₀ L h' m' → News h₀ L h' ((L + 1, oS) :: (L + 1 + 1, oK) :: (L + 1 + 1 + 1, oM) :: (L + 1 + 1 + 1 + 1, oP) :: (L + 1 + 1 + 1 + 1 + 1, oZ) :: (128, tabObj tb) :: (kn, listOf kvs.toArray 0) :: ext) → TabSt ext ⟨153, 4, 157, 25⟩ ledQual tb → Q .next { s with heap := h', toks := tk }) :
    wpAny (model PySem.Challenge.rw_op0114_01.row.prog w) (ktrTop dp un gd (Str.ofString "law") scope L fa cd (cellsFrom (L + 1) scope.names []) outer) (pyIter (.ref r))
      (fun it s₂ => codeAny (model PySem.Challenge.rw_op0114_01.row.prog w) (ktrTop dp un gd (Str.ofString "law") scope L fa cd (cellsFrom (L + 1) scope.names []) outer) (.forLoop (.Name (Str.ofString "k") px) it body [] (envX (Str.ofString "law") scope L fa cd (cellsFrom (L + 1) scope.names [])))
        (fun r s' => match r with | .ok f => Q f s' | .error e => cameBackBy (model PySem.Challenge.rw_op0114_01.row.prog w) (ktrTop dp un gd (Str.ofString "law") scope L fa cd (cellsFrom (L + 1) scope.names []) outer) (envX (Str.ofString "law") scope L fa cd (cellsFrom (L + 1) scope.names [])) E e s') s₂) E s := by
  subst hscope hbody
  refine loop5 F (news_ord N) (tj_start dS dK dM dP dZ) B X T hCH hsc hns hlay hkv hr hdp hun hlen hL hkn ?_
  intro h' tk m' news' F' N' J
  obtain ⟨oS, oK, oM, oP, oZ, vM, vP, vZ, tb, ext, J⟩ := J
  obtain rfl := J.eq
  exact hR h' tk m' oS oK oM oP oZ tb ext F' N' J.T
end Mine
end
section
open PySem PySem.W PyProof.Rows
set_option maxRecDepth 100000
set_option maxHeartbeats 2000000
namespace Mine
theorem turn_eq : turnBody = [turnSt 0, turnSt 1, turnSt 2, turnSt 3, turnSt 4, turnSt 5, turnSt 6, turnSt 7, turnSt 8] := by with_unfolding_all rfl
theorem law_holds : PySem.Challenge.rw_op0114_01.Holds := hd (by
  k_go0
  (all_goals try k_fold)
  iterate 20 walk1
  k_dflt (refine wpAny_For ?_ (by intro _; rfl))
  iterate 7 walk1
  (try dsimp only)
  with_reducible rename Below callerA _ _ _ => hB
  with_reducible rename Frag.In _ _ => hX
  with_reducible rename Top _ _ _ _ _ _ => hT
  with_reducible rename CodeHd _ _ _ => hCH
  with_reducible rename Heap.IsList (ghostOf _ _) _ _ => hIL
  with_reducible rename IntsAre _ _ => hIA
  with_reducible rename PyData.layable0 (PyData.list _) = true => hlay
  with_reducible rename Fr _ _ _ _ => hF
  with_reducible rename News _ _ _ _ => hN
  with_reducible rename IsRange _ _ _ _ _ _ _ _ => hR9
  k_dflt (refine' loop_law ?hscope ?hbody ?F ?N ?dS ?dK ?dM ?dP ?dZ ?B ?X ?T ?hCH ?hsc ?hns ?hlay ?hkv ?hr ?hdp ?hun ?hlen ?hL ?hkn ?hR)
  case F => exact hF
  case N => exact hN
  case B => exact hB
  case X => exact hX
  case T => exact hT
  case hCH => exact hCH
  case hsc => exact hIL
  case hns => exact hIA
  case hlay => exact hlay
  case hr => exact hR9
  case hkv => exact .cons _ _ (.cons _ _ (.cons _ _ (.cons _ _ (.cons _ _ (.cons _ _ .nil)))))
  case hlen => omega
  case hL => exact ltN (by omega)
  case hkn => exact ltN (by omega)
  case hdp => decide
  case hun => decide
  case dK => assumption
  case dM => assumption
  case dP => assumption
  case dZ => assumption
  case dS => assumption
  case hscope => with_unfolding_all rfl
  case hbody =>
    rw [← turn_eq]
    with_unfolding_all rfl
  case hR =>
    intro h7 tk7 m7 oS7 oK7 oM7 oP7 oZ7 tb7 ext7 F7 N7 TS7
    clear hF hN hR9
    (try dsimp only)
    iterate 4 walk1
    all_goals (try dsimp only)
    all_goals (try k_steps))
end Mine
end
theorem PySem.Challenge.cw_op0114_01_holds : PySem.Challenge.rw_op0114_01.Holds :=
  Mine.law_holds
