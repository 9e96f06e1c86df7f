import PyProof.Rows.All
import Wide.All
import OpenK.AllK
import Wide.FinOn
import PyProof.StrLawsFirst
import PyProof.StrLawsFrom
import PyProof.StrLawsNeg
import PySem.Sre
import Lean
import PySem.Challenge.RW_wr0016_01
set_option Elab.async false
set_option linter.all false
set_option compiler.extract_closed false
section
open PySem PySem.W PyProof.Rows
namespace Mine
set_option Elab.async false
set_option maxRecDepth 100000 in
set_option maxHeartbeats 8000000 in
open_top hd for PySem.Challenge.rw_wr0016_01
end Mine
end

example : 1 = 1 ∧ 2 = 2 := by
  w_top off
  walk1 <;> rfl
section
set_option maxRecDepth 100000
open PySem PySem.W PyProof.Rows PySem.Calls
namespace Mine
noncomputable abbrev lo : List Str := looseW hd.view_39 [Str.ofString "_quoted", Str.ofString "_paren_depth", Str.ofString "_Accumulator"]
/-- locals written out over what is not asked -/
@[reducible] noncomputable def ov (u : Str → Option Value) : List (Str × Value) → Str → Option Value
  | [], y => u y
  | p :: r, y => if y = p.1 then some p.2 else ov u r y
noncomputable def Has (m : Str → Option Value) : List (Str × Value) → Prop
  | [] => True
  | p :: r => m p.1 = some p.2 ∧ Has m r
theorem ov_eq {m : Str → Option Value} : ∀ {l : List (Str × Value)}, Has m l → ov m l = m
  | [], _ => rfl
  | p :: r, h => by
    funext y
    show (if y = p.1 then some p.2 else ov m r y) = m y
    rw [ov_eq h.2]
    by_cases e : y = p.1
    · rw [if_pos e, e]; exact h.1.symm
    · rw [if_neg e]
theorem fr_ov {h₀ h : Heap} {L : Addr} {m : Str → Option Value} {l : List (Str × Value)} (F : Fr h₀ L h m) (H : Has m l) : Fr h₀ L h (ov m l) := by rw [ov_eq H]; exact F
/-- the locals under one letter -/
theorem fr_let {h₀ h : Heap} {L : Addr} {m : Str → Option Value} {P : Prop} (F : Fr h₀ L h m) (k : let M := m; (Fr h₀ L h M → P)) : P := k F
/-- new objects stand apart from the old -/
noncomputable def Apart (ex old : List (Addr × Obj)) : Prop := ∀ p ∈ ex, ∀ q ∈ old, @Ne Nat q.1 p.1
theorem Apart.nil {old : List (Addr × Obj)} : Apart [] old := fun _ h => nomatch h
theorem Apart.cons {ex old : List (Addr × Obj)} {p : Addr × Obj} (h : ∀ q ∈ old, @Ne Nat q.1 p.1) (r : Apart ex old) : Apart (p :: ex) old := fun x hx => by
  rcases List.mem_cons.mp hx with rfl | hx
  · exact h
  · exact r x hx
theorem off1_mem {D : Addr} {l : List (Addr × Obj)} (h : LCg.Off1 D l) : ∀ p ∈ l, @Ne Nat p.1 D := by
  induction l with
  | nil => intro p hp; cases hp
  | cons a r ih =>
    intro p hp
    rcases List.mem_cons.mp hp with e | hp
    · rw [e]; exact h.1
    · exact ih h.2 p hp
/-- the walk stops here -/
noncomputable def Halt (P : Prop) : Prop := P
theorem halt {P : Prop} (h : Halt P) : P := h
theorem unhalt {P : Prop} (h : P) : Halt P := h
/-- what stands below stands apart -/
theorem offN {news : List (Addr × Obj)} {b a : Nat} (h : ∀ p ∈ news, p.1 < b) (h2 : b ≤ a) : ∀ p ∈ news, p.1 ≠ a := fun p hp => Nat.ne_of_lt (Nat.lt_of_lt_of_le (h p hp) h2)
theorem mt3 {p a b c : Addr × Obj} {l : List (Addr × Obj)} (hm : p ∈ l) : p ∈ a :: b :: c :: l := .tail _ (.tail _ (.tail _ hm))
theorem mt4 {p a b c d : Addr × Obj} {l : List (Addr × Obj)} (hm : p ∈ l) : p ∈ a :: b :: c :: d :: l := .tail _ (.tail _ (.tail _ (.tail _ hm)))
theorem mt5 {p a b c d e : Addr × Obj} {l : List (Addr × Obj)} (hm : p ∈ l) : p ∈ a :: b :: c :: d :: e :: l := .tail _ (.tail _ (.tail _ (.tail _ (.tail _ hm))))
theorem mt6 {p a b c d e f : Addr × Obj} {l : List (Addr × Obj)} (hm : p ∈ l) : p ∈ a :: b :: c :: d :: e :: f :: l := .tail _ (.tail _ (.tail _ (.tail _ (.tail _ (.tail _ hm)))))
theorem mt9 {p a b c d e f g h i : Addr × Obj} {l : List (Addr × Obj)} (hm : p ∈ l) : p ∈ a :: b :: c :: d :: e :: f :: g :: h :: i :: l := .tail _ (.tail _ (.tail _ (.tail _ (.tail _ (.tail _ (.tail _ (.tail _ (.tail _ hm))))))))
end Mine
end

example : 1 = 1 ∧ 2 = 2 := by
  w_top off
  walk1 <;> rfl
section
set_option maxRecDepth 100000
open PySem PySem.W PyProof.Rows PySem.Calls
namespace Mine
set_option Elab.async false
noncomputable def runF (way fig : Int) : Nat → Int → Int
  | 0, c => c
  | n + 1, c => if (way.fdiv (2 ^ c.toNat)).fmod 2 = fig then runF way fig n (c + 1) else c
variable {w : World} {A₀ A : Around} {s : Shared} {base h₀ : Heap} {outer : List Env} {L : Addr} {m mg mb : Str → Option Value} {env : Env} {news : List (Addr × Obj)} {mean : ExcName → Option Value} {R : Result → Shared → Prop}
local macro_rules | `(tactic| walk_at "exec While") => `(tactic| skip)
set_option maxHeartbeats 8000000 in
theorem c_run {way size fig : Int} {t1 t2 t3 : Tok} (B : Below A₀ base outer h₀) (F : Fr h₀ L s.heap m) (X₀ : (hd.heap_39 w.params).In h₀) (N : News h₀ L s.heap news)
    (T : Top hd.view_39 lo mean mg mb h₀) (hh : A.handled = none) (hA : A.frames = some (env :: outer)) (hf : env.frame = some L) (hke : env.scope.kind = .function) (hdp : A.depth ≤ 900) (hu : A.units ≤ 5000)
    (h0 : 0 ≤ way) (h1 : size ≤ 8)
    (hR : ∀ h' tk t, Fr h₀ L h' m → News h₀ L h' news → R (.ok (.ret (.int (runF way fig size.toNat 0) t))) { s with heap := h', toks := tk }) :
    codeAny (model PySem.Challenge.rw_wr0016_01.row.prog w) A (.call (.ref 193) ⟨[.int way t1, .int size t2, .int fig t3], []⟩) R s := by
  revert X₀; k_fill; intro X₀
  obtain ⟨_, d, _, gd, u⟩ := A
  dsimp only at hh hA hdp hu
  subst hh hA
  (refine' code_def (binds := [("way", .int way t1), ("size", .int size t2), ("figure", .int fig t3)]) B F X₀ N T rfl hf hke ?k6 ?k7 ?k8 ?k9 ?kB ?_ ?c2 ?c3 ?c4 ?c5; (case k6 => k_is); (case k7 => k_is); (case k8 => exact Nat.lt_of_le_of_lt hdp (by decide)); (case k9 => exact BindsTo.of_eq rfl); (case c5 => decide); (case kB => exact locs rfl); (case c2 => exact rfl); (case c3 => exact rfl); (case c4 => exact rfl))
  intro g' L' h' FG' F' N' B' X' T'
  try dsimp only
  try k_lift B'
  k_fold
  iterate 6 ((((first | (k_unfold; (try dsimp only)) | (k_end; wrow_close) | walk1 | (dsimp only; walk1) | (leave1; walk_say "STEP leave1"; try dsimp only) | fail "no step"))))
  rename Fr _ _ _ _ => F1
  rename News _ _ _ _ => N1
  (refine While_inv2 (h₀ := g') (L := L') (fun n m' news' => ∃ c t, 0 ≤ c ∧ (c = 0 ∨ c ≤ size) ∧ n = (size - c).toNat ∧ news' = news ∧ runF way fig (size - c).toNat c = runF way fig size.toNat 0 ∧
    Has m' [("count", .int c t), ("way", .int way t1), ("size", .int size t2), ("figure", .int fig t3)]) F1 N1 ⟨0, _, by omega, by omega, rfl, rfl, by simp, rfl, rfl, rfl, rfl, trivial⟩ ?_ ?_)
  rotate_left
  passes_own
  rintro n m₁ news₁ h₁ tk₁ F₁ N₁ ⟨c, t, hc0, hc1, rfl, rfl, hr, hm⟩
  replace F₁ := fr_ov F₁ hm
  clear F1 N1 hm
  repeat' (((first | (k_unfold; (try dsimp only)) | walk1 | (dsimp only; walk1))))
  · have e : (size - c).toNat = (size - (c + 1)).toNat + 1 := by omega
    rw [e, runF, if_pos (by assumption)] at hr
    refine ⟨_, _, _, _, (size - (c + 1)).toNat, rfl, by assumption, by assumption, by omega, c + 1, _, by omega, by omega, rfl, rfl, hr, rfl, rfl, rfl, rfl, trivial⟩
  · have e : (size - c).toNat = (size - (c + 1)).toNat + 1 := by omega
    rw [e, runF, if_neg (by assumption)] at hr
    rw [← hr] at hR
    exact hR _ _ _ (by assumption) (by assumption)
  · have e : (size - c).toNat = 0 := by omega
    rw [e, runF] at hr
    rw [← hr] at hR
    exact hR _ _ _ (by assumption) (by assumption)
end Mine
end

example : 1 = 1 ∧ 2 = 2 := by
  w_top off
  walk1 <;> rfl
section
set_option maxRecDepth 100000
open PySem PySem.W PyProof.Rows PySem.Calls
namespace Mine
set_option Elab.async false
variable {w : World} {A₀ A : Around} {s : Shared} {base h₀ : Heap} {outer : List Env} {L : Addr} {m mg mb : Str → Option Value} {env : Env} {news : List (Addr × Obj)} {mean : ExcName → Option Value} {Q : Value → Shared → Prop} {E : Value → Shared → Prop}
local macro_rules | `(tactic| walk_at "inplaceOp Add str") => `(tactic| (refine' SB.iadd ?k ?z; (case z => (rw [sizeLine_eq]; (have e1 : (Str.ofString "\n").length = 1 := by decide +kernel); omega)); intro _ _))
/-- the dict of an Example made by this law -/
noncomputable abbrev exD (P : Params) (tk : Nat → Tok) (src : Str) (k d : Int) (od : Addr) : Obj :=
  dictOf [⟨PyData.keyHash P (Str.ofString "source"), .str (Str.ofString "source") (tk 0), .str src (tk 1)⟩, ⟨PyData.keyHash P (Str.ofString "want"), .str (Str.ofString "want") (tk 2), .str (Str.ofString "") (tk 3)⟩,
    ⟨PyData.keyHash P (Str.ofString "lineno"), .str (Str.ofString "lineno") (tk 4), .int k (tk 5)⟩, ⟨PyData.keyHash P (Str.ofString "indent"), .str (Str.ofString "indent") (tk 6), .int d (tk 7)⟩,
    ⟨PyData.keyHash P (Str.ofString "options"), .str (Str.ofString "options") (tk 8), .ref od⟩, ⟨PyData.keyHash P (Str.ofString "exc_msg"), .str (Str.ofString "exc_msg") (tk 9), .none⟩] 6
/-- a source with its line end -/
noncomputable def srcEnd (x : Str) : Str := if Txt.endswith x (Str.ofString "\n") = true then x else x ++ Str.ofString "\n"
noncomputable def IsEmptyDict (w : World) (o : Obj) : Prop := o.IsDictOf (strKind PySem.Challenge.rw_wr0016_01.row.prog w) []
/-- what the first condition leaves -/
inductive SrcP (s : Shared) (g' : Heap) (L' x' d' : Addr) (news : List (Addr × Obj)) (src : Str) (t2 : Tok) (k : Int) (t3 : Tok) (d : Int) (t4 : Tok) (f : Flow) (s₂ : Shared) : Prop
  | mk (h0 : f = .next) (h' : Heap) (tk : Nat) (m' : Str → Option Value) (t : Tok) (h1 : s₂ = { s with heap := h', toks := tk }) (h2 : Fr g' L' h' m') (h3 : News g' L' h' ((x', instObj 83 d') :: (d', dictOf [] 0) :: news))
      (h4 : Has m' [(Str.ofString "self", .ref x'), (Str.ofString "source", .str (srcEnd src) t), (Str.ofString "want", .str (Str.ofString "") t2), (Str.ofString "exc_msg", .none), (Str.ofString "lineno", .int k t3), (Str.ofString "indent", .int d t4), (Str.ofString "options", .none)]) : SrcP s g' L' x' d' news src t2 k t3 d t4 f s₂
set_option maxHeartbeats 8000000 in
theorem c_ex {src : Str} {k d : Int} {t1 t2 t3 t4 : Tok} (B : Below A₀ base outer h₀) (F : Fr h₀ L s.heap m) (X₀ : (hd.heap_39 w.params).In h₀) (N : News h₀ L s.heap news)
    (T : Top hd.view_39 lo mean mg mb h₀) (hh : A.handled = none) (hA : A.frames = some (env :: outer)) (hf : env.frame = some L) (hke : env.scope.kind = .function) (hdp : A.depth ≤ 900) (hu : A.units ≤ 5000)
    (hsrc : src.length ≤ 1000)
    (hR : ∀ x dx od o tk' h' tk, Fr h₀ L h' m → News h₀ L h' ((od, o) :: (x, instObj 83 dx) :: (dx, exD w.params tk' (srcEnd src) k d od) :: news) → (∀ p ∈ news, p.1 < dx) → dx < x → x < od → (od == sysModules) = false → IsEmptyDict w o →
      Q (.ref x) { s with heap := h', toks := tk }) :
    wpAny (model PySem.Challenge.rw_wr0016_01.row.prog w) A (call (.ref 83) [.str src t1, .str (Str.ofString "") t2, .none, .int k t3, .int d t4]) Q E s := by
  revert X₀; k_fill; intro X₀
  obtain ⟨_, dp, _, gd, u⟩ := A
  dsimp only at hh hA hdp hu
  subst hh hA
  k_dflt (refine' call_cls ?k1 ?k2 ?k3 ?k4 ?k5 ?k6 ?_; (case k1 => k_asm); (case k2 => k_asm); (case k3 => k_asm); (case k4 => k_is); (case k5 => k_is); (case k6 => k_is); k_whole; intro x' d' h' F' N' l1 l2; (have l1s := l1); (try k_lt l1); (try k_lt2 l2))
  k_dflt (refine' code_def ?k1 ?k2 ?k3 ?k4 ?k5 ?kA ?kF ?kK ?k6 ?k7 ?k8 ?k9 ?kB ?_ ?c2 ?c3 ?c4 ?c5; (case kA => exact rfl); (case kF => exact hf); (case kK => exact hke); (case k1 => k_asm); (case k2 => k_asm); (case k3 => k_asm); (case k4 => k_asm); (case k5 => k_asm); (case k6 => k_is); (case k7 => k_is); (case k8 => exact Nat.lt_of_le_of_lt (Nat.succ_le_succ hdp) (by decide)); (case k9 => exact binds_K (by k_in) rfl (by k_is) rfl rfl rfl); (case c5 => decide); (case kB => exact locs rfl); (case c2 => exact rfl); (case c3 => exact rfl); (case c4 => exact rfl))
  intro g' L' h' FG' F' N' B' X' T'
  try dsimp only
  try k_lift B'
  k_fold
  repeat' (first | (k_unfold; (try dsimp only)) | ((fail_if_success (with_reducible show wpAny _ _ (exec (Stmt.If _ _ _ _) _) _ _ _)); walk1) | (dsimp only; (fail_if_success (with_reducible show wpAny _ _ (exec (Stmt.If _ _ _ _) _) _ _ _)); walk1))
  refine wpAny_mono (Q := fun f s₂ => Halt (SrcP s g' L' x' d' news src t2 k t3 d t4 f s₂)) ?_ ?_ (fun _ _ e => e)
  · repeat' (((first | (k_unfold; (try dsimp only)) | walk1 | (dsimp only; walk1))))
    · rename (Txt.endswith _ _ = true) => he
      refine unhalt ⟨rfl, _, _, _, ?tt, rfl, by assumption, by assumption, rfl, ?sr, rfl, rfl, rfl, rfl, rfl, trivial⟩
      case sr =>
        rw [show srcEnd src = src from if_pos he]
        rfl
    · rename (Txt.endswith _ _ = false) => he
      refine unhalt ⟨rfl, _, _, _, ?tt2, rfl, by assumption, by assumption, rfl, ?sr2, rfl, rfl, rfl, rfl, rfl, trivial⟩
      case sr2 =>
        rw [show srcEnd src = src ++ Str.ofString "\n" from if_neg (by rw [he]; exact Bool.false_ne_true)]
        rfl
  · rintro f s₂ ⟨rfl, h3, tk3, m3, ts, rfl, F3, N3, hm3⟩
    replace F3 := fr_ov F3 hm3
    clear hm3 F' N'
    dsimp only
    generalize srcEnd src = src' at *
    repeat' (((first | (k_unfold; (try dsimp only)) | walk1 | (dsimp only; walk1))))
    exact hR x' d' _ _ (fun i => ([_, _, _, _, _, _, _, _, _, _] : List Tok).getD i 0) _ _ (by assumption) (by assumption) l1s (ltN (by omega)) (ltN (by omega)) (by assumption) (by assumption)
end Mine
end

example : 1 = 1 ∧ 2 = 2 := by
  w_top off
  walk1 <;> rfl
section
set_option maxRecDepth 100000
open PySem PySem.W PyProof.Rows PySem.Calls
namespace Mine
set_option Elab.async false
variable {w : World} {A₀ A : Around} {s : Shared} {base h₀ : Heap} {outer : List Env} {L : Addr} {m mg mb : Str → Option Value} {env : Env} {news : List (Addr × Obj)} {mean : ExcName → Option Value} {Q : Value → Shared → Prop} {E : Value → Shared → Prop}
local macro_rules | `(tactic| k_mem) => `(tactic| assumption)
local macro_rules | `(tactic| k_room) => `(tactic| ((try simp only [depth_under_make, depth_under_kw, depth_in1, depth_deeper, depth_caller]); exact Nat.lt_of_le_of_lt (by assumption) (by decide)))
local macro_rules | `(tactic| k_units) => `(tactic| (show _ < _; refine Nat.lt_of_le_of_lt (by assumption) ?_; decide))
theorem empty_eq {w : World} {A : Around} {s : Shared} {h₀ : Heap} {L : Addr} {news : List (Addr × Obj)} {Q : Value → Shared → Prop} {E : Value → Shared → Prop} {a b : Addr} {o o' : Obj}
    (N : News h₀ L s.heap news) (p1 : (a, o) ∈ news) (p2 : (b, o') ∈ news) (e1 : IsEmptyDict w o) (e2 : IsEmptyDict w o') (z1 : (a == sysModules) = false) (z2 : (b == sysModules) = false) (hu : A.units < cLine) (h : Q (.bool true) s) :
    wpAny (model PySem.Challenge.rw_wr0016_01.row.prog w) A (compareOp .Eq (.ref a) (.ref b)) Q E s :=
  keq_pairs N p1 p2 e1 e2 z1 z2 rfl hu KeqHits.nil h
theorem q_of {Q : Value → Shared → Prop} {s : Shared} {v v' : Value} (h : Q v s) (e : v = v') : Q v' s := e ▸ h
set_option maxHeartbeats 8000000 in
theorem c_eq {x dx od y dy od' : Addr} {o o' : Obj} {tka tkb : Nat → Tok} {src src' : Str} {k d k' d' : Int} (B : Below A₀ base outer h₀) (F : Fr h₀ L s.heap m) (X₀ : (hd.heap_39 w.params).In h₀) (N : News h₀ L s.heap news)
    (T : Top hd.view_39 lo mean mg mb h₀) (hh : A.handled = none) (hA : A.frames = some (env :: outer)) (hf : env.frame = some L) (hke : env.scope.kind = .function) (hdp : A.depth ≤ 900) (hu : A.units ≤ 5000)
    (m1 : (x, instObj 83 dx) ∈ news) (m2 : (dx, exD w.params tka src k d od) ∈ news) (m3 : (od, o) ∈ news) (e1 : IsEmptyDict w o) (z1 : (od == sysModules) = false)
    (n1 : (y, instObj 83 dy) ∈ news) (n2 : (dy, exD w.params tkb src' k' d' od') ∈ news) (n3 : (od', o') ∈ news) (e2 : IsEmptyDict w o') (z2 : (od' == sysModules) = false)
    (hR : ∀ h' tk, Fr h₀ L h' m → News h₀ L h' news → Q (.bool (decide (src = src' ∧ k = k' ∧ d = d'))) { s with heap := h', toks := tk }) :
    wpAny (model PySem.Challenge.rw_wr0016_01.row.prog w) A (compareOp .Eq (.ref x) (.ref y)) Q E s := by
  revert X₀; k_fill; intro X₀
  obtain ⟨_, d, _, gd, u⟩ := A
  dsimp only at hh hA hdp hu
  subst hh hA
  ((first | (k_unfold; (try dsimp only); (try clear qk); (try clear ek)) | ((with_reducible show wpAny _ _ (exec _ _) _ _ _); k_fold) | (first | (with_reducible (((with_reducible show wpAny _ _ (compareOp CmpOp.Eq (Value.ref _) (Value.ref _)) _ _ _); refine empty_eq (by k_asm) (by k_mem) (by k_mem) (by assumption) (by assumption) (by assumption) (by assumption) (by (refine Nat.lt_of_le_of_lt (Nat.add_le_add_right (by assumption) _) ?_; decide)) ?_))) | walk1) | (dsimp only; (first | (with_reducible (((with_reducible show wpAny _ _ (compareOp CmpOp.Eq (Value.ref _) (Value.ref _)) _ _ _); refine empty_eq (by k_asm) (by k_mem) (by k_mem) (by assumption) (by assumption) (by assumption) (by assumption) (by (refine Nat.lt_of_le_of_lt (Nat.add_le_add_right (by assumption) _) ?_; decide)) ?_))) | walk1))))
  refine wpAny_call ?_
  ((k_dflt (refine' code_def ?k1 ?k2 ?k3 ?k4 ?k5 ?kA ?kF ?kK ?k6 ?k7 ?k8 ?k9 ?kB ?_ ?c2 ?c3 ?c4 ?c5; (case kA => exact rfl); (case kF => first | exact rfl | assumption); (case kK => first | exact rfl | assumption); (case k1 => k_asm); (case k2 => k_asm); (case k3 => k_asm); (case k4 => k_asm); (case k5 => k_asm); (case k6 => k_is); (case k7 => k_is); (case k8 => k_room); (case k9 => first | exact BindsTo.of_eq rfl | exact binds_K (by k_in) rfl (by k_is) rfl rfl rfl); (case c5 => decide); (case kB => exact locs rfl); (case c2 => exact rfl); (case c3 => exact rfl); (case c4 => exact rfl)); intro g' L' h' FG' F' N' B' X' T'; (try dsimp only); (try k_lift B'); (try k_fold)))
  repeat' (((first | (k_unfold; (try dsimp only); (try clear qk); (try clear ek)) | ((with_reducible show wpAny _ _ (exec _ _) _ _ _); k_fold) | (first | (with_reducible (((with_reducible show wpAny _ _ (compareOp CmpOp.Eq (Value.ref _) (Value.ref _)) _ _ _); refine empty_eq (by k_asm) (by k_mem) (by k_mem) (by assumption) (by assumption) (by assumption) (by assumption) (by (refine Nat.lt_of_le_of_lt (Nat.add_le_add_right (by assumption) _) ?_; decide)) ?_))) | walk1) | (dsimp only; (first | (with_reducible (((with_reducible show wpAny _ _ (compareOp CmpOp.Eq (Value.ref _) (Value.ref _)) _ _ _); refine empty_eq (by k_asm) (by k_mem) (by k_mem) (by assumption) (by assumption) (by assumption) (by assumption) (by (refine Nat.lt_of_le_of_lt (Nat.add_le_add_right (by assumption) _) ?_; decide)) ?_))) | walk1)))))
  all_goals (refine q_of (hR _ _ (by assumption) (by assumption)) (congrArg Value.bool ?_); rw [Bool.eq_iff_iff]; simp only [decide_eq_true_eq, beq_iff_eq, iff_true]; simp_all)
end Mine
end

example : 1 = 1 ∧ 2 = 2 := by
  w_top off
  walk1 <;> rfl
section
set_option maxRecDepth 100000
open PySem PySem.W PyProof.Rows PySem.Calls
namespace Mine
/-- a list's iterator, at its place i -/
noncomputable abbrev itObj (l : Addr) (i : Nat) : Obj := { cls := .type "list_iterator", data := .fields #[.ref l, .int i 0] }
/-- what the object holds in order -/
noncomputable def SeqOf (o : Obj) (vs : List Value) : Prop := ∃ n, o.data = .seq vs.toArray n
section
variable {prog : Program} {w : World} {A : Around} {E : Value → Shared → Prop} {s : Shared} {l I : Addr} {i : Nat} {ol : Obj} {vs : List Value}
theorem next_item {x : Value} {Q : Option Value → Shared → Prop} (hI : s.heap.get? I = some (itObj l i)) (hl : s.heap.get? l = some ol) (hv : SeqOf ol vs) (hx : vs[i]? = some x)
    (hQ : ∀ h', h'.get? I = some (itObj l (i + 1)) → Heap.SameBut I s.heap h' → Q (some x) { s with heap := h' }) : wpAny (model prog w) A (pyNext (.ref I)) Q E s := by
  have hT : s.heap.IsListIter I l i := ⟨_, hI, rfl, rfl⟩
  obtain ⟨n, hd⟩ := hv
  refine wpAny_bind (m := Sem.attempt _) (wpAny_attempt (wpAny_callSpecial?_slot (name := Str.ofString "__next__") hT.typeIs slot_listiter_next (wpAny_call_entry slot_listiter_next hT.typeIs entry_listiter_next ?_ (args_listiter_next _))))
  refine wpAny_bind (m := field (.ref I) 0) (wpAny_field hI rfl (x := .ref l) rfl ?_)
  rw [if_neg (show ¬ (Value.ref l == Value.none) = true from Bool.false_ne_true)]
  refine wpAny_bind (m := field (.ref I) 1) (wpAny_field hI rfl (x := .int i 0) rfl ?_)
  refine wpAny_bind (m := seqItems? (.ref l)) (wpAny_seqItems hl hd ?_)
  have hx' : vs.toArray[(i : Int).toNat]? = some x := by simpa using hx
  simp only [hx']
  refine wpAny_bind (wpAny_setField_rec hI (by simp) fun h' e' sb => wpAny_pure ⟨x, rfl, wpAny_pure (hQ h' ?_ sb)⟩)
  rw [e']
  simp [itObj, rawInt]
theorem next_end {Q : Option Value → Shared → Prop} (hh : A.handled = none) (hI : s.heap.get? I = some (itObj l i)) (hl : s.heap.get? l = some ol) (hv : SeqOf ol vs) (hx : vs[i]? = none)
    (hQ : ∀ h', Heap.ExtBut I s.heap h' → Q none { s with heap := h' }) : wpAny (model prog w) A (pyNext (.ref I)) Q E s := by
  have hT : s.heap.IsListIter I l i := ⟨_, hI, rfl, rfl⟩
  obtain ⟨n, hd⟩ := hv
  refine wpAny_bind (m := Sem.attempt _) (wpAny_attempt (wpAny_callSpecial?_slot (name := Str.ofString "__next__") hT.typeIs slot_listiter_next (wpAny_call_entry slot_listiter_next hT.typeIs entry_listiter_next ?_ (args_listiter_next _))))
  refine wpAny_bind (m := field (.ref I) 0) (wpAny_field hI rfl (x := .ref l) rfl ?_)
  rw [if_neg (show ¬ (Value.ref l == Value.none) = true from Bool.false_ne_true)]
  refine wpAny_bind (m := field (.ref I) 1) (wpAny_field hI rfl (x := .int i 0) rfl ?_)
  refine wpAny_bind (m := seqItems? (.ref l)) (wpAny_seqItems hl hd ?_)
  have hx' : vs.toArray[(i : Int).toNat]? = none := by simpa using hx
  simp only [hx']
  refine wpAny_bind (wpAny_rule (wpAny_bind (wpAny_setField hI rfl (by simp) ?_)))
  refine wpAny_bind (m := newExc (.type "StopIteration") []) ?_
  simp only [newExc, newTuple]
  refine wpAny_bind (wpAny_newObj_type ?_ (by size_fits))
  refine wpAny_bind (m := firstArgMember _ _) (wpAny_of_eq (a := Value.none) (by first | rfl | (simp only [firstArgMember]; rfl)) ?_)
  refine wpAny_newObj_type ?_ (by size_fits)
  simp only [raiseNew]
  refine wpAny_bind (wpAny_handled ?_)
  rw [show A.in1.handled = none from hh]
  refine wpAny_bind (wpAny_pure (wpAny_throw ?_))
  refine wpAny_bind (wpAny_isInstance (T := "StopIteration") (b := true) ⟨_, Heap.get?_push_size _ rfl, rfl⟩ isSubtype_stop ?_)
  exact wpAny_pure (hQ _ (((Heap.SameBut.update ..).extBut.push _).push _))
end
theorem letGo_listiter {prog : Program} {w : World} {A : Around} {E : Value → Shared → Prop} {s : Shared} {target : PySem.Expr} {l I : Addr} {i : Nat} {v : Value} {Q : Unit → Shared → Prop} (hI : s.heap.get? I = some (itObj l i)) (h : Q () s) :
    wpAny (model prog w) A (letOwnedTupleGo target (.ref I) v) Q E s := by
  unfold letOwnedTupleGo
  cases target <;> first
    | exact wpAny_pure h
    | (cases v <;> first
        | exact wpAny_pure h
        | exact wpAny_bind (wpAny_load hI (wpAny_pure h)))
noncomputable def ForStep (h₀ : Heap) (L I l : Addr) (s : Shared) (J : Nat → (Str → Option Value) → List (Addr × Obj) → Prop) (Q : Flow → Shared → Prop) (i : Nat) (f : Flow) (s₃ : Shared) : Prop := match f with
  | .next | .cont => ∃ h' tk m' news', s₃ = { s with heap := h', toks := tk } ∧ Fr h₀ L h' m' ∧ News h₀ L h' ((I, itObj l (i + 1)) :: news') ∧ (∀ p ∈ news', p.1 ≠ I) ∧ J (i + 1) m' news'
  | .brk => Q .next s₃
  | .ret v => Q (.ret v) s₃
section
variable {prog : Program} {w : World} {A : Around} {E : Value → Shared → Prop} {Q : Flow → Shared → Prop} {s : Shared} {env : Env} {h₀ : Heap} {m : Str → Option Value} {news : List (Addr × Obj)} {l I : Addr} {vs : List Value} {target : PySem.Expr} {body : List Stmt}
theorem news_but {h h' : Heap} {L I : Addr} {news : List (Addr × Obj)} (N : News h₀ L h news) (hI : ∀ p ∈ news, p.1 ≠ I) (x : Heap.ExtBut I h h') : News h₀ L h' news :=
  fun p hp => ⟨x _ _ (hI p hp) (N p hp).1, (N p hp).2⟩
theorem fr_but {h h' : Heap} {L I : Addr} (F : Fr h₀ L h m) (hL : L ≠ I) (h0 : h₀.get? I = none) (x : Heap.ExtBut I h h') : Fr h₀ L h' m :=
  ⟨F.ns.at' fun o e => x _ _ hL e, fun b o e => x b o (fun q => by rw [q, h0] at e; cases e) (F.keep b o e), F.above⟩
theorem loop_seq (J : Nat → (Str → Option Value) → List (Addr × Obj) → Prop) (hJ : ∀ i m n, J i m n → ∃ o, (l, o) ∈ n ∧ SeqOf o vs) (hh : A.handled = none)
    (F : Fr h₀ env.locals s.heap m) (N : News h₀ env.locals s.heap ((I, itObj l 0) :: news)) (hI : ∀ p ∈ news, p.1 ≠ I) (h0 : J 0 m news)
    (turn : ∀ i v m₁ news₁ h tk, vs[i]? = some v → J i m₁ news₁ → Fr h₀ env.locals h m₁ → News h₀ env.locals h ((I, itObj l (i + 1)) :: news₁) → (∀ p ∈ news₁, p.1 ≠ I) →
      wpAny (model prog w) A (assign target env v) (fun _ s₂ => wpAny (model prog w) A (execs body env) (ForStep h₀ env.locals I l s J Q i) E s₂) E { s with heap := h, toks := tk })
    (done : ∀ m₁ news₁ h tk, J vs.length m₁ news₁ → Fr h₀ env.locals h m₁ → News h₀ env.locals h news₁ → Q .next { s with heap := h, toks := tk })
    (hE : PassesOwn (model prog w) A env E) :
    codeAny (model prog w) A (.forLoop target (.ref I) body [] env) (fun r s' => match r with | .ok f => Q f s' | .error e => cameBackBy (model prog w) A env E e s') s := by
  refine codeAny_forLoop_any (fun k s' => ∃ h' tk m' news' i, s' = { s with heap := h', toks := tk } ∧ Fr h₀ env.locals h' m' ∧ News h₀ env.locals h' ((I, itObj l i) :: news') ∧ (∀ p ∈ news', p.1 ≠ I) ∧ J i m' news' ∧ i ≤ vs.length ∧ k = vs.length - i) ?_ vs.length
    ⟨s.heap, s.toks, m, news, 0, rfl, F, N, hI, h0, Nat.zero_le _, rfl⟩
  rintro k s' ⟨h', tk, m', news', i, rfl, F', N', hI', hJ', hi, rfl⟩
  obtain ⟨o, hlo, hso⟩ := hJ _ _ _ hJ'
  have NI := N' _ (List.mem_cons_self ..)
  have Nr : News h₀ env.locals h' news' := fun p hp => N' p (List.mem_cons_of_mem _ hp)
  have hl := (Nr _ hlo).1
  by_cases hlt : i < vs.length
  · refine next_item NI.1 hl hso (List.getElem?_eq_getElem hlt) fun h₁ e₁ sb => ?_
    refine letGo_listiter e₁ ?_
    have F₁ : Fr h₀ env.locals h₁ m' := fr_but F' (Ne.symm NI.2.1) NI.2.2 sb.extBut
    have N₁ : News h₀ env.locals h₁ ((I, itObj l (i + 1)) :: news') := fun p hp => by
      rcases List.mem_cons.mp hp with rfl | hp
      · exact ⟨e₁, NI.2⟩
      · exact news_but Nr hI' sb.extBut p hp
    refine wpAny_passesOwn hE (wpAny_mono (turn i _ m' news' h₁ tk (List.getElem?_eq_getElem hlt) hJ' F₁ N₁ hI') (fun _ s₂ h₂ => wpAny_passesOwn hE (wpAny_mono h₂ (fun f s₃ h₃ => ?_) fun _ _ e => e)) fun _ _ e => e)
    cases f with
    | brk => exact h₃
    | ret v => exact h₃
    | next =>
      obtain ⟨h₄, tk₄, m₄, news₄, rfl, F₄, N₄, hI₄, hJ₄⟩ := h₃
      exact ⟨vs.length - (i + 1), by omega, h₄, tk₄, m₄, news₄, i + 1, rfl, F₄, N₄, hI₄, hJ₄, hlt, rfl⟩
    | cont =>
      obtain ⟨h₄, tk₄, m₄, news₄, rfl, F₄, N₄, hI₄, hJ₄⟩ := h₃
      exact ⟨vs.length - (i + 1), by omega, h₄, tk₄, m₄, news₄, i + 1, rfl, F₄, N₄, hI₄, hJ₄, hlt, rfl⟩
  · have he : i = vs.length := by omega
    subst he
    refine next_end hh NI.1 hl hso (List.getElem?_eq_none (Nat.le_refl _)) fun h₁ x => wpAny_execs_nil ?_
    exact done m' news' h₁ tk hJ' (fr_but F' (Ne.symm NI.2.1) NI.2.2 x) (news_but Nr hI' x)
end
theorem iter_list {prog : Program} {w : World} {A : Around} {E : Value → Shared → Prop} {s : Shared} {h₀ : Heap} {L : Addr} {m : Str → Option Value} {news : List (Addr × Obj)} {l : Addr} {vs : Array Value} {n : Nat} {Q : Value → Shared → Prop}
    (F : Fr h₀ L s.heap m) (N : News h₀ L s.heap news) (hm : (l, W.listOf vs n) ∈ news) (h : ∀ I h', Fr h₀ L h' m → News h₀ L h' ((I, itObj l 0) :: news) → (∀ p ∈ news, @LT.lt Nat _ p.1 I) → Q (.ref I) { s with heap := h' }) :
    wpAny (model prog w) A (pyIter (.ref l)) Q E s :=
  wpAny_pyIter_list ⟨_, (N _ hm).1, rfl, n, rfl⟩ (h _ _ (F.push _) (N.push F _) fun p hp => Heap.lt_size (N p hp).1)
/-- lists of ints, told by the ledger -/
inductive RowsIn (n : List (Addr × Obj)) : List Value → List (List Int) → Prop
  | nil : RowsIn n [] []
  | cons {a : Addr} {xs : List Value} {k : Nat} {row : List Int} {vs : List Value} {rows : List (List Int)} : (a, W.listOf xs.toArray k) ∈ n → IntsAre xs row → RowsIn n vs rows → RowsIn n (.ref a :: vs) (row :: rows)
theorem RowsIn.mono {n n' : List (Addr × Obj)} {vs : List Value} {rows : List (List Int)} (h : RowsIn n vs rows) (hs : ∀ p ∈ n, p ∈ n') : RowsIn n' vs rows := by
  induction h with
  | nil => exact .nil
  | cons a b _ ih => exact .cons (hs _ a) b ih
theorem RowsIn.snoc {n : List (Addr × Obj)} {vs : List Value} {rows : List (List Int)} (h : RowsIn n vs rows) {a : Addr} {xs : List Value} {k : Nat} {row : List Int} (hm : (a, W.listOf xs.toArray k) ∈ n) (hi : IntsAre xs row) : RowsIn n (vs ++ [.ref a]) (rows ++ [row]) := by
  induction h with
  | nil => exact .cons hm hi .nil
  | cons x y _ ih => exact .cons x y ih
theorem RowsIn.length {n : List (Addr × Obj)} {vs : List Value} {rows : List (List Int)} (h : RowsIn n vs rows) : vs.length = rows.length := by
  induction h with
  | nil => rfl
  | cons _ _ _ ih => simp [ih]
end Mine
end

example : 1 = 1 ∧ 2 = 2 := by
  w_top off
  walk1 <;> rfl
section
set_option maxRecDepth 100000
open PySem PySem.W PyProof.Rows PySem.Calls
namespace Mine
set_option Elab.async false
variable {w : World} {A₀ A : Around} {s : Shared} {base h₀ : Heap} {outer : List Env} {L : Addr} {m mg mb : Str → Option Value} {env : Env} {news : List (Addr × Obj)} {mean : ExcName → Option Value} {R : Result → Shared → Prop}
local macro_rules | `(tactic| walk_at "CompSrcT") => `(tactic| refine halt ?_)
local macro_rules | `(tactic| k_mem) => `(tactic| assumption)
local macro_rules | `(tactic| k_room) => `(tactic| ((try simp only [depth_under_make, depth_under_kw, depth_in1, depth_deeper, depth_caller]); exact Nat.lt_of_le_of_lt (by assumption) (by decide)))
local macro_rules | `(tactic| k_all) => `(tactic| first | assumption | exact offN (by assumption) (by omega))
theorem sh_mem {k : Int} (h0 : 0 ≤ k) (h1 : k ≤ 8) : 1 ≤ Int.fdiv 256 (2 ^ k.toNat) ∧ Int.fdiv 256 (2 ^ k.toNat) ≤ 256 := by
  obtain ⟨n, rfl⟩ := Int.eq_ofNat_of_zero_le h0
  have : n ≤ 8 := by omega
  have key : ∀ n : Nat, n ≤ 8 → 1 ≤ Int.fdiv 256 (2 ^ n) ∧ Int.fdiv 256 (2 ^ n) ≤ 256 := by decide +kernel
  exact key n this
theorem sh_ne {k : Int} (h0 : 0 ≤ k) (h1 : k ≤ 8) : Int.fdiv 256 (2 ^ k.toNat) ≠ 0 := by have := sh_mem h0 h1; omega
theorem sh_small {k : Int} (h0 : 0 ≤ k) (h1 : k ≤ 8) : (Int.fdiv 256 (2 ^ k.toNat)).natAbs < 1073741824 := by have := sh_mem h0 h1; omega
noncomputable def figs (t : Int) : List Int := (rangeKs 0 9).foldl (fun l k => if (t.fdiv (Int.fdiv 256 (2 ^ k.toNat))).fmod 2 = 1 then l ++ [k] else l) []
noncomputable def sumsGo : List Int → Int → List (List Int) → List (List Int)
  | [], _, rows => rows
  | d :: r, t, rows => if t = 256 ∨ t.fmod ((256 : Int).fdiv (2 ^ d.toNat)) ≠ 0 then rows else sumsGo r (t + (256 : Int).fdiv (2 ^ d.toNat)) (rows ++ [figs (t + (256 : Int).fdiv (2 ^ d.toNat))])
/-- what holds ahead of each depth -/
inductive InvC (news : List (Addr × Obj)) (ds : List Int) (lr Z : Addr) (i : Nat) (m' : Str → Option Value) (n' : List (Addr × Obj)) : Prop
  | mk (rs : List Value) (rn : Nat) (ct : Obj) (tot : Int) (t : Tok) (ex : List (Addr × Obj)) (rows : List (List Int)) (h1 : n' = (lr, W.listOf rs.toArray rn) :: (Z + 1, ct) :: (ex ++ news)) (h2 : ct.data = .cell (some (.int tot t)))
      (h3 : Apart ex news) (h4 : ∀ p ∈ ex ++ news, p.1 ≠ lr) (h5 : ∀ p ∈ ex ++ news, p.1 ≠ Z + 1) (h6 : RowsIn ex rs rows) (h7 : sumsGo (ds.drop i) tot rows = sumsGo ds 0 []) (h8 : 0 ≤ tot) (h9 : rs.length = i) (h10 : Has m' [(Str.ofString "rows", .ref lr)]) : InvC news ds lr Z i m' n'
local macro_rules | `(tactic| size_fits) => `(tactic| (rw [sizeLine_eq]; simp only [List.size_toArray]; omega))
local macro_rules | `(tactic| k_mem) => `(tactic| (refine List.Mem.tail _ ?_; assumption))
set_option maxHeartbeats 8000000 in
theorem c_sums {ld : Addr} {dvs : List Value} {dn : Nat} {ds : List Int} (B : Below A₀ base outer h₀) (F : Fr h₀ L s.heap m) (X₀ : (hd.heap_39 w.params).In h₀) (N : News h₀ L s.heap news)
    (T : Top hd.view_39 lo mean mg mb h₀) (hh : A.handled = none) (hA : A.frames = some (env :: outer)) (hf : env.frame = some L) (hke : env.scope.kind = .function) (hdp : A.depth ≤ 900) (hu : A.units ≤ 5000)
    (hm : (ld, W.listOf dvs.toArray dn) ∈ news) (hi : IntsAre dvs ds) (hb : ∀ d ∈ ds, 0 ≤ d ∧ d ≤ 8) (hlen : ds.length ≤ 100)
    (hR : ∀ lr rs rn ex h' tk, Fr h₀ L h' m → News h₀ L h' (ex ++ news) → Apart ex news → (lr, W.listOf rs.toArray rn) ∈ ex → RowsIn ex rs (sumsGo ds 0 []) → R (.ok (.ret (.ref lr))) { s with heap := h', toks := tk }) :
    codeAny (model PySem.Challenge.rw_wr0016_01.row.prog w) A (.call (.ref 181) ⟨[.ref ld], []⟩) R s := by
  revert X₀; k_fill; intro X₀
  obtain ⟨_, d, _, gd, u⟩ := A
  dsimp only at hh hA hdp hu
  subst hh hA
  ((k_dflt (refine' code_defC ?k1 ?k2 ?k3 ?k4 ?k5 ?kA ?kF ?kK ?k6 ?k7 ?k8 ?k9 ?kB ?kD ?_ ?c2 ?c3 ?c4; (case kA => exact rfl); (case kF => first | exact rfl | assumption); (case kK => first | exact rfl | assumption); (case k1 => k_asm); (case k2 => k_asm); (case k3 => k_asm); (case k4 => k_asm); (case k5 => k_asm); (case k6 => k_is); (case k7 => k_is); (case k8 => k_room); (case k9 => first | exact BindsTo.of_eq rfl | exact binds_K (by k_in) rfl (by k_is) rfl rfl rfl | fail "k_enter: no rule for these arguments"); (case kB => exact rfl); (case kD => decide +kernel); (case c2 => exact rfl); (case c3 => exact rfl); (case c4 => exact rfl))))
  intro g' L' h' tk' cells' FG' F' N' Y' B' X' T' l1
  obtain ⟨o', hE', d1'⟩ := CellsAre.one Y'
  subst hE'
  clear Y'
  simp only [List.cons_append, List.nil_append] at N'
  (try dsimp only); (try k_lift B'); (try k_fold)
  repeat' (((first | (k_unfold; (try dsimp only)) | ((fail_if_success (with_reducible show wpAny _ _ (exec (Stmt.For _ _ _ _ _) _) _ _ _)); (fail_if_success (with_reducible show wpAny _ _ (exec (Stmt.While _ _ _ _) _) _ _ _)); (first | ((with_reducible show wpAny _ _ (pyIter (Value.ref _)) _ _ _); ((refine' iter_list ?k1 ?k2 ?k3 ?_; (case k1 => k_asm); (case k2 => k_asm); (case k3 => k_mem)))) | ((with_reducible show wpAny _ _ (binaryOp Operator.Mod (Value.int _ _) (Value.int _ _)) _ _ _); ((refine' mod_int' ?k1 ?_; (case k1 => exact sh_ne (by omega) (by omega))))) | ((with_reducible show wpAny _ _ (binaryOp Operator.FloorDiv (Value.int _ _) (Value.int _ _)) _ _ _); ((refine' floordiv_int ?k1 ?_ ?k2; (case k1 => exact sh_ne (by omega) (by omega)); (case k2 => exact .inl (PyProof.noPylong_small (sh_small (by omega) (by omega))))))) | walk1)) | (dsimp only; (first | ((with_reducible show wpAny _ _ (pyIter (Value.ref _)) _ _ _); ((refine' iter_list ?k1 ?k2 ?k3 ?_; (case k1 => k_asm); (case k2 => k_asm); (case k3 => k_mem)))) | ((with_reducible show wpAny _ _ (binaryOp Operator.Mod (Value.int _ _) (Value.int _ _)) _ _ _); ((refine' mod_int' ?k1 ?_; (case k1 => exact sh_ne (by omega) (by omega))))) | ((with_reducible show wpAny _ _ (binaryOp Operator.FloorDiv (Value.int _ _) (Value.int _ _)) _ _ _); ((refine' floordiv_int ?k1 ?_ ?k2; (case k1 => exact sh_ne (by omega) (by omega)); (case k2 => exact .inl (PyProof.noPylong_small (sh_small (by omega) (by omega))))))) | walk1)))))
  (refine wpAny_For ?_ (by intro _; rfl); repeat' (((first | (k_unfold; (try dsimp only)) | ((fail_if_success (with_reducible show wpAny _ _ (exec (Stmt.For _ _ _ _ _) _) _ _ _)); (fail_if_success (with_reducible show wpAny _ _ (exec (Stmt.While _ _ _ _) _) _ _ _)); (first | ((with_reducible show wpAny _ _ (pyIter (Value.ref _)) _ _ _); ((refine' iter_list ?k1 ?k2 ?k3 ?_; (case k1 => k_asm); (case k2 => k_asm); (case k3 => k_mem)))) | ((with_reducible show wpAny _ _ (binaryOp Operator.Mod (Value.int _ _) (Value.int _ _)) _ _ _); ((refine' mod_int' ?k1 ?_; (case k1 => exact sh_ne (by omega) (by omega))))) | ((with_reducible show wpAny _ _ (binaryOp Operator.FloorDiv (Value.int _ _) (Value.int _ _)) _ _ _); ((refine' floordiv_int ?k1 ?_ ?k2; (case k1 => exact sh_ne (by omega) (by omega)); (case k2 => exact .inl (PyProof.noPylong_small (sh_small (by omega) (by omega))))))) | walk1)) | (dsimp only; (first | ((with_reducible show wpAny _ _ (pyIter (Value.ref _)) _ _ _); ((refine' iter_list ?k1 ?k2 ?k3 ?_; (case k1 => k_asm); (case k2 => k_asm); (case k3 => k_mem)))) | ((with_reducible show wpAny _ _ (binaryOp Operator.Mod (Value.int _ _) (Value.int _ _)) _ _ _); ((refine' mod_int' ?k1 ?_; (case k1 => exact sh_ne (by omega) (by omega))))) | ((with_reducible show wpAny _ _ (binaryOp Operator.FloorDiv (Value.int _ _) (Value.int _ _)) _ _ _); ((refine' floordiv_int ?k1 ?_ ?k2; (case k1 => exact sh_ne (by omega) (by omega)); (case k2 => exact .inl (PyProof.noPylong_small (sh_small (by omega) (by omega))))))) | walk1))))))
  rename Fr _ _ _ _ => F1
  rename News _ _ _ _ => N1
  rename_i lr _ l2 _ _ oc _ _ dc I _ hI0
  refine loop_seq (vs := dvs) (InvC news ds lr L') ?_ rfl F1 N1 ?_ ?_ ?_ ?_ ?_
  · rintro i m' n' ⟨rs, rn, ct, tot, t, ex, rows, rfl, _⟩
    exact ⟨_, List.Mem.tail _ (List.Mem.tail _ (List.mem_append_right _ hm)), dn, rfl⟩
  · exact fun p hp => Nat.ne_of_lt (hI0 p hp)
  · exact ⟨[], 0, oc, 0, _, [], [], rfl, dc, .nil, offN l1 (by omega), offN l1 (by omega), .nil, rfl, by omega, rfl, rfl, trivial⟩
  · rintro i v m₁ news₁ h₁ tk₁ hv ⟨rs, rn, ct, tot, t, ex, rows, rfl, hct, hs, ho1, ho2, hrows, hgo, htot, hrl, hmm⟩ F₁ N₁ hI1
    have hn : i < ds.length := by
      have h1 : i < dvs.length := by
        rcases Nat.lt_or_ge i dvs.length with h | h
        · exact h
        · rw [List.getElem?_eq_none h] at hv; cases hv
      rw [← hi.length]; exact h1
    obtain ⟨t', ht'⟩ := hi.get i ds[i] (by simp [hn])
    rw [ht'] at hv
    obtain rfl := Option.some.inj hv
    have hd := hb ds[i] (List.getElem_mem hn)
    have hdrop : ds.drop i = ds[i] :: ds.drop (i + 1) := List.drop_eq_getElem_cons hn
    rw [hdrop, sumsGo] at hgo
    have hI2 : ∀ p ∈ ex ++ news, p.1 ≠ I := fun p hp => hI1 p (List.Mem.tail _ (List.Mem.tail _ hp))
    have hlrI : @LT.lt Nat _ lr I := hI0 _ (List.Mem.head _)
    have hLI : @LT.lt Nat _ (L' + 1) I := hI0 _ (List.Mem.tail _ (List.Mem.head _))
    replace F₁ := fr_ov F₁ hmm
    generalize ds[i] = dd at *
    have hd1 := hd.1
    have hd2 := hd.2
    generalize hrest : ex ++ news = rest at *
    clear F1 N1 hmm hI1 hI0 hi hb hm
    repeat' (((first | (k_unfold; (try dsimp only)) | (first | ((with_reducible show wpAny _ _ (pyIter (Value.ref _)) _ _ _); ((refine' iter_list ?k1 ?k2 ?k3 ?_; (case k1 => k_asm); (case k2 => k_asm); (case k3 => k_mem)))) | ((with_reducible show wpAny _ _ (binaryOp Operator.Mod (Value.int _ _) (Value.int _ _)) _ _ _); ((refine' mod_int' ?k1 ?_; (case k1 => exact sh_ne (by omega) (by omega))))) | ((with_reducible show wpAny _ _ (binaryOp Operator.FloorDiv (Value.int _ _) (Value.int _ _)) _ _ _); ((refine' floordiv_int ?k1 ?_ ?k2; (case k1 => exact sh_ne (by omega) (by omega)); (case k2 => exact .inl (PyProof.noPylong_small (sh_small (by omega) (by omega))))))) | walk1) | (dsimp only; (first | ((with_reducible show wpAny _ _ (pyIter (Value.ref _)) _ _ _); ((refine' iter_list ?k1 ?k2 ?k3 ?_; (case k1 => k_asm); (case k2 => k_asm); (case k3 => k_mem)))) | ((with_reducible show wpAny _ _ (binaryOp Operator.Mod (Value.int _ _) (Value.int _ _)) _ _ _); ((refine' mod_int' ?k1 ?_; (case k1 => exact sh_ne (by omega) (by omega))))) | ((with_reducible show wpAny _ _ (binaryOp Operator.FloorDiv (Value.int _ _) (Value.int _ _)) _ _ _); ((refine' floordiv_int ?k1 ?_ ?k2; (case k1 => exact sh_ne (by omega) (by omega)); (case k2 => exact .inl (PyProof.noPylong_small (sh_small (by omega) (by omega))))))) | walk1)))))
    all_goals try dsimp only [ForStep]
    rotate_left 2
    · refine unhalt ?_
      rename_i oc2 hoc2 _ _ _ _ _ _ _ _
      refine LCt.CompSrcT.range (by rfl) (by k_asm) (by k_asm) (by assumption) (by decide) (by rfl) (by exact Nat.le_of_ble_eq_true rfl) ?_
      intro gg
      refine kci_range (fun l k => if ((tot + Int.fdiv 256 (2 ^ dd.toNat)).fdiv (Int.fdiv 256 (2 ^ k.toNat))).fmod 2 = 1 then l ++ [k] else l) (fun k' t' I' oI' C' oC' D' m' ys' l' h' tk' E' hlo' hhi' hI' hC' hx' F' N' off' ne' _ => ?_) ?_ ?_
      · have hk8 : k' ≤ 8 := by
          have h9 := hhi'
          simp at h9
          omega
        (try k_fold)
        repeat' (((first | (k_unfold; (try dsimp only)) | (first | ((with_reducible show wpAny _ _ (pyIter (Value.ref _)) _ _ _); ((refine' iter_list ?k1 ?k2 ?k3 ?_; (case k1 => k_asm); (case k2 => k_asm); (case k3 => k_mem)))) | ((with_reducible show wpAny _ _ (binaryOp Operator.Mod (Value.int _ _) (Value.int _ _)) _ _ _); ((refine' mod_int' ?k1 ?_; (case k1 => exact sh_ne (by omega) (by omega))))) | ((with_reducible show wpAny _ _ (binaryOp Operator.FloorDiv (Value.int _ _) (Value.int _ _)) _ _ _); ((refine' floordiv_int ?k1 ?_ ?k2; (case k1 => exact sh_ne (by omega) (by omega)); (case k2 => exact .inl (PyProof.noPylong_small (sh_small (by omega) (by omega))))))) | walk1) | (dsimp only; (first | ((with_reducible show wpAny _ _ (pyIter (Value.ref _)) _ _ _); ((refine' iter_list ?k1 ?k2 ?k3 ?_; (case k1 => k_asm); (case k2 => k_asm); (case k3 => k_mem)))) | ((with_reducible show wpAny _ _ (binaryOp Operator.Mod (Value.int _ _) (Value.int _ _)) _ _ _); ((refine' mod_int' ?k1 ?_; (case k1 => exact sh_ne (by omega) (by omega))))) | ((with_reducible show wpAny _ _ (binaryOp Operator.FloorDiv (Value.int _ _) (Value.int _ _)) _ _ _); ((refine' floordiv_int ?k1 ?_ ?k2; (case k1 => exact sh_ne (by omega) (by omega)); (case k2 => exact .inl (PyProof.noPylong_small (sh_small (by omega) (by omega))))))) | walk1)))))
        · exact LCg.CompEnd.intro (by assumption) (by assumption) _ (fun p hp => hp) off' trivial (kci_el (if_pos (by assumption)) rfl rfl)
        · exact LCg.CompEnd.intro (by assumption) (by assumption) _ (fun p hp => hp) off' trivial (kci_no (if_neg (by assumption)) rfl)
      · intro ys hys hyl
        repeat' (((first | (k_unfold; (try dsimp only)) | (first | ((with_reducible show wpAny _ _ (pyIter (Value.ref _)) _ _ _); ((refine' iter_list ?k1 ?k2 ?k3 ?_; (case k1 => k_asm); (case k2 => k_asm); (case k3 => k_mem)))) | ((with_reducible show wpAny _ _ (binaryOp Operator.Mod (Value.int _ _) (Value.int _ _)) _ _ _); ((refine' mod_int' ?k1 ?_; (case k1 => exact sh_ne (by omega) (by omega))))) | ((with_reducible show wpAny _ _ (binaryOp Operator.FloorDiv (Value.int _ _) (Value.int _ _)) _ _ _); ((refine' floordiv_int ?k1 ?_ ?k2; (case k1 => exact sh_ne (by omega) (by omega)); (case k2 => exact .inl (PyProof.noPylong_small (sh_small (by omega) (by omega))))))) | walk1) | (dsimp only; (first | ((with_reducible show wpAny _ _ (pyIter (Value.ref _)) _ _ _); ((refine' iter_list ?k1 ?k2 ?k3 ?_; (case k1 => k_asm); (case k2 => k_asm); (case k3 => k_mem)))) | ((with_reducible show wpAny _ _ (binaryOp Operator.Mod (Value.int _ _) (Value.int _ _)) _ _ _); ((refine' mod_int' ?k1 ?_; (case k1 => exact sh_ne (by omega) (by omega))))) | ((with_reducible show wpAny _ _ (binaryOp Operator.FloorDiv (Value.int _ _) (Value.int _ _)) _ _ _); ((refine' floordiv_int ?k1 ?_ ?k2; (case k1 => exact sh_ne (by omega) (by omega)); (case k2 => exact .inl (PyProof.noPylong_small (sh_small (by omega) (by omega))))))) | walk1)))))
        rename News _ _ _ _ => N2
        rename Fr _ _ _ _ => F2
        rename_i D2 _ _ hD2 _
        rw [if_neg (by rintro (h | h) <;> contradiction)] at hgo
        have e1 : rs.toArray.push (Value.ref D2) = (rs ++ [Value.ref D2]).toArray := by simp
        rw [e1] at N2
        subst hrest
        have hD3 := off1_mem hD2.2.2.2
        refine ⟨_, _, _, (lr, W.listOf (rs ++ [Value.ref D2]).toArray (rn + 1)) :: (L' + 1, _) :: (((D2, LCg.lst ys) :: ex) ++ news), rfl, F2, kst_newsOf N2 ?_, ?_, _, _, _, _, _, _, _, rfl, oc2, hs.cons fun q hq => hD3 q (List.mem_append_right _ hq), ?_, ?_,
          (hrows.mono fun p hp => .tail _ hp).snoc (List.Mem.head _) hys, hgo, ?_, ?_, rfl, trivial⟩
        · intro p hp
          simp only [List.mem_cons, List.cons_append] at hp ⊢
          rcases hp with h | h | h | h | h <;> simp [h]
        · exact List.forall_mem_cons.mpr ⟨Nat.ne_of_lt hlrI, List.forall_mem_cons.mpr ⟨Nat.ne_of_lt hLI, List.forall_mem_cons.mpr ⟨Ne.symm hD2.1, hI2⟩⟩⟩
        · exact List.forall_mem_cons.mpr ⟨Ne.symm hD2.2.1, ho1⟩
        · exact List.forall_mem_cons.mpr ⟨Ne.symm hD2.2.2.1, ho2⟩
        · have := (sh_mem hd1 hd2).1
          omega
        · simp [hrl]
      · intro l k
        dsimp only
        split
        · simp
        · omega
    all_goals (
      rw [if_pos (by first | exact .inl (by assumption) | exact .inr (by assumption))] at hgo
      repeat' (((first | (k_unfold; (try dsimp only)) | (first | ((with_reducible show wpAny _ _ (pyIter (Value.ref _)) _ _ _); ((refine' iter_list ?k1 ?k2 ?k3 ?_; (case k1 => k_asm); (case k2 => k_asm); (case k3 => k_mem)))) | ((with_reducible show wpAny _ _ (binaryOp Operator.Mod (Value.int _ _) (Value.int _ _)) _ _ _); ((refine' mod_int' ?k1 ?_; (case k1 => exact sh_ne (by omega) (by omega))))) | ((with_reducible show wpAny _ _ (binaryOp Operator.FloorDiv (Value.int _ _) (Value.int _ _)) _ _ _); ((refine' floordiv_int ?k1 ?_ ?k2; (case k1 => exact sh_ne (by omega) (by omega)); (case k2 => exact .inl (PyProof.noPylong_small (sh_small (by omega) (by omega))))))) | walk1) | (dsimp only; (first | ((with_reducible show wpAny _ _ (pyIter (Value.ref _)) _ _ _); ((refine' iter_list ?k1 ?k2 ?k3 ?_; (case k1 => k_asm); (case k2 => k_asm); (case k3 => k_mem)))) | ((with_reducible show wpAny _ _ (binaryOp Operator.Mod (Value.int _ _) (Value.int _ _)) _ _ _); ((refine' mod_int' ?k1 ?_; (case k1 => exact sh_ne (by omega) (by omega))))) | ((with_reducible show wpAny _ _ (binaryOp Operator.FloorDiv (Value.int _ _) (Value.int _ _)) _ _ _); ((refine' floordiv_int ?k1 ?_ ?k2; (case k1 => exact sh_ne (by omega) (by omega)); (case k2 => exact .inl (PyProof.noPylong_small (sh_small (by omega) (by omega))))))) | walk1)))))
      subst hrest
      rename Fr h₀ _ _ _ => F3
      rename News h₀ _ _ _ => N3)
    all_goals (rw [← hgo] at hR; exact hR lr rs rn ((lr, _) :: ex) _ _ F3 (kst_newsOf N3 (by intro p hp; simp only [List.mem_cons, List.cons_append] at hp ⊢; rcases hp with h | h <;> simp [h])) (hs.cons fun q hq => ho1 q (List.mem_append_right _ hq)) (List.Mem.head _) (hrows.mono fun p hp => .tail _ hp))
  · rintro m₁ news₁ h₁ tk₁ ⟨rs, rn, ct, tot, t, ex, rows, rfl, hct, hs, ho1, ho2, hrows, hgo, htot, hrl, hmm⟩ F₁ N₁
    rw [List.drop_of_length_le (by rw [hi.length]; exact Nat.le_refl _), sumsGo] at hgo
    replace F₁ := fr_ov F₁ hmm
    clear F1 N1 hmm
    dsimp only
    repeat' (((first | (k_unfold; (try dsimp only)) | (first | ((with_reducible show wpAny _ _ (pyIter (Value.ref _)) _ _ _); ((refine' iter_list ?k1 ?k2 ?k3 ?_; (case k1 => k_asm); (case k2 => k_asm); (case k3 => k_mem)))) | ((with_reducible show wpAny _ _ (binaryOp Operator.Mod (Value.int _ _) (Value.int _ _)) _ _ _); ((refine' mod_int' ?k1 ?_; (case k1 => exact sh_ne (by omega) (by omega))))) | ((with_reducible show wpAny _ _ (binaryOp Operator.FloorDiv (Value.int _ _) (Value.int _ _)) _ _ _); ((refine' floordiv_int ?k1 ?_ ?k2; (case k1 => exact sh_ne (by omega) (by omega)); (case k2 => exact .inl (PyProof.noPylong_small (sh_small (by omega) (by omega))))))) | walk1) | (dsimp only; (first | ((with_reducible show wpAny _ _ (pyIter (Value.ref _)) _ _ _); ((refine' iter_list ?k1 ?k2 ?k3 ?_; (case k1 => k_asm); (case k2 => k_asm); (case k3 => k_mem)))) | ((with_reducible show wpAny _ _ (binaryOp Operator.Mod (Value.int _ _) (Value.int _ _)) _ _ _); ((refine' mod_int' ?k1 ?_; (case k1 => exact sh_ne (by omega) (by omega))))) | ((with_reducible show wpAny _ _ (binaryOp Operator.FloorDiv (Value.int _ _) (Value.int _ _)) _ _ _); ((refine' floordiv_int ?k1 ?_ ?k2; (case k1 => exact sh_ne (by omega) (by omega)); (case k2 => exact .inl (PyProof.noPylong_small (sh_small (by omega) (by omega))))))) | walk1)))))
    rename Fr h₀ _ _ _ => F3
    rename News h₀ _ _ _ => N3
    rw [← hgo] at hR
    exact hR lr rs rn ((lr, _) :: ex) _ _ F3 (kst_newsOf N3 (by intro p hp; simp only [List.mem_cons, List.cons_append] at hp ⊢; rcases hp with h | h <;> simp [h])) (hs.cons fun q hq => ho1 q (List.mem_append_right _ hq)) (List.Mem.head _) (hrows.mono fun p hp => .tail _ hp)
  · passes_own
end Mine
end

example : 1 = 1 ∧ 2 = 2 := by
  w_top off
  walk1 <;> rfl
section
set_option maxRecDepth 100000
open PySem PySem.W PyProof.Rows PySem.Calls
namespace Mine
set_option Elab.async false
/-- an _Accumulator: its parts, its dict -/
noncomputable abbrev accObj (vs : Array Value) (n : Nat) (dx : Addr) : Obj := { cls := .ref 167, dict := some dx, data := .seq vs n }
/-- its own dict, as made by this law -/
noncomputable abbrev accD (P : Params) (t0 t1 : Tok) : Obj := dictOf [⟨PyData.keyHash P (Str.ofString "_initial_size"), .str (Str.ofString "_initial_size") t0, .int 0 t1⟩] 1
section
variable {w : World} {A : Around} {s : Shared} {h₀ : Heap} {L : Addr} {m : Str → Option Value} {news : List (Addr × Obj)} {Q : Value → Shared → Prop} {E : Value → Shared → Prop} {h : Heap}
theorem acc_mro (P : Params) : mroIn (hd.heap_39 P) 167 (.type "list") = some true := by kernel_rfl
theorem acc_list (X : (hd.heap_39 w.params).In h) {a dx : Addr} {vs : Array Value} {n : Nat} (ha : h.get? a = some (accObj vs n dx)) : Looks (model PySem.Challenge.rw_wr0016_01.row.prog w) h (isInstance (.ref a) (.type "list")) true :=
  ((Looks.ld ha).andThen .now).andThen (looks_mroIn X (acc_mro _))
theorem check_meth {M : Model} {i owner n : String} {self : Value} {rest : List Value} {Q : Unit → Shared → Prop} (hk : builtinKind i = some .method) (hs : splitId i = some (owner, n))
    (hi : Looks M s.heap (isInstance self (.type owner)) true) (ha : argsOk i ⟨self :: rest, []⟩) (q : Q () s) : wpAny M A (checkBuiltinCall i ⟨self :: rest, []⟩) Q E s := by
  unfold checkBuiltinCall
  simp only [hk, hs]
  refine wpAny_bind (hi.here ?_)
  rw [if_neg (by decide)]
  unfold argsOk at ha
  cases hsig : Manifest.signature? i with
  | none => exact wpAny_pure q
  | some sig =>
    rw [hsig] at ha
    exact wpAny_of_eq ha q
theorem call_on {prog : Program} {i : String} {B : Builtin} {self : Value} {rest : List Value} (plain : plainId i = true) (entry : entryFor table i = some B)
    (chk : ∀ {Q' : Unit → Shared → Prop} {E' : Value → Shared → Prop}, Q' () s → wpAny (model prog w) A.in1 (checkBuiltinCall i ⟨self :: rest, []⟩) Q' E' s)
    (hc : wpAny (model prog w) A.in1 (B ⟨self :: rest, []⟩) (fun fin s' => ∃ v, fin = .done (.ret v) ∧ Q v s') E s) : wpAny (model prog w) A (call (.builtin i) (self :: rest)) Q E s :=
  wpAny_call (codeAny_call_builtin plain entry (chk (wpAny_mono hc (fun fin s' hf => by obtain ⟨v, rfl, q⟩ := hf; exact q) fun _ _ e => e)))
/-- a write to the parts, on the ledger -/
theorem acc_write {a dx : Addr} {vs vs' : Array Value} {n n' : Nat} {news' : List (Addr × Obj)} {f : Array Value → Array Value} (F : Fr h₀ L s.heap m) (N : News h₀ L s.heap news) (U : Upd a (accObj vs n dx) (accObj vs' n' dx) news news')
    (e : Obj.mapSeq f (accObj vs n dx) = accObj vs' n' dx) : s.heap.get? a = some (accObj vs n dx) ∧ Fr h₀ L (s.heap.update a (Obj.mapSeq f)) m ∧ News h₀ L (s.heap.update a (Obj.mapSeq f)) news' := by
  obtain ⟨pre, post, rfl, rfl, p1, p2⟩ := U.split
  obtain ⟨F', N'⟩ := news_upd (f := Obj.mapSeq f) F N p1 p2 e rfl
  exact ⟨(N (a, accObj vs n dx) (by simp)).1, F', N'⟩
theorem acc_append (X : (hd.heap_39 w.params).In h₀) {a dx : Addr} {vs : List Value} {n : Nat} {v : Value} {news' : List (Addr × Obj)} (F : Fr h₀ L s.heap m) (N : News h₀ L s.heap news)
    (U : Upd a (accObj vs.toArray n dx) (accObj (vs ++ [v]).toArray (n + 1) dx) news news') (hz : vs.length ≤ 1000) (hq : ∀ h', Fr h₀ L h' m → News h₀ L h' news' → Q .none { s with heap := h' }) :
    wpAny (model PySem.Challenge.rw_wr0016_01.row.prog w) A (call (.builtin "list.append") [.ref a, v]) Q E s := by
  have e : Obj.mapSeq (·.push v) (accObj vs.toArray n dx) = accObj (vs ++ [v]).toArray (n + 1) dx := by
    simp [Obj.mapSeq, accObj]
  obtain ⟨ha, F', N'⟩ := acc_write F N U e
  refine call_on (slot_list_append).plain entry_list_append (fun q => check_meth (owner := "list") (n := "append") (by decide +kernel) (by decide +kernel) (acc_list (X.keeps F.keep) ha) (args_list_append _ _) q) ?_
  show wpAny _ _ (updateSeq a (·.push v) >>= fun _ => ret .none) _ _ s
  refine wpAny_bind (wpAny_updateSeq ha rfl (wpAny_pure ⟨.none, rfl, hq _ F' N'⟩) (by rw [sizeLine_eq]; simp; omega) (by rw [sizeLine_eq]; simp; omega))
theorem len_run {M : Model} {a dx : Addr} {vs : List Value} {n : Nat} (ha : s.heap.get? a = some (accObj vs.toArray n dx)) (hq : ∀ t, Q (.int vs.length t) { s with toks := s.toks + 1 }) :
    wpAny M A (Builtin.«list.__len__» ⟨[.ref a], []⟩) (fun fin s' => ∃ v, fin = .done (.ret v) ∧ Q v s') E s := by
  show wpAny _ _ (seqSize a >>= fun n => retInt (n : Int)) _ _ s
  unfold seqSize
  refine wpAny_bind (wpAny_bind (wpAny_loadPart ha (wpAny_pure ?_)))
  unfold retInt
  refine wpAny_bind (wpAny_mkInt' (wpAny_pure ⟨_, rfl, ?_⟩))
  simpa using hq _
theorem pop_run {prog : Program} {a dx : Addr} {vs : List Value} {n : Nat} {v : Value} {news' : List (Addr × Obj)} (F : Fr h₀ L s.heap m) (N : News h₀ L s.heap news)
    (U : Upd a (accObj (vs ++ [v]).toArray n dx) (accObj vs.toArray (n + 1) dx) news news') (hz : vs.length ≤ 1000) (hq : ∀ h', Fr h₀ L h' m → News h₀ L h' news' → Q v { s with heap := h' }) :
    wpAny (model prog w) A (Builtin.«list.pop» ⟨[.ref a], []⟩) (fun fin s' => ∃ v, fin = .done (.ret v) ∧ Q v s') E s := by
  have e : Obj.mapSeq (·.eraseIdxIfInBounds vs.length) (accObj (vs ++ [v]).toArray n dx) = accObj vs.toArray (n + 1) dx := by
    have e1 : (vs ++ [v]).eraseIdx vs.length = vs := by rw [List.eraseIdx_append_of_length_le (Nat.le_refl _)]; simp
    simp [Obj.mapSeq, accObj, Array.eraseIdxIfInBounds, e1]
  obtain ⟨ha, F', N'⟩ := acc_write F N U e
  show wpAny _ _ (do
      if !Builtin.List.listFitsIndex (-1) then rule "list.pop.index-too-large"; raiseError "OverflowError" "Python int too large to convert to C ssize_t"
      let xs ← Builtin.List.listItems (.ref a)
      if xs.isEmpty then rule "list.pop.empty"; raiseError "IndexError" "pop from empty list"
      match (seqIndex? (-1) xs.size).bind fun k => xs[k]?.map (k, ·) with
      | some (k, x) => Builtin.List.listUpdate (.ref a) (·.eraseIdxIfInBounds k); ret x
      | none => rule "list.pop.out-of-range"; raiseError "IndexError" "pop index out of range") _ _ s
  rw [if_neg (by decide)]
  unfold Builtin.List.listItems
  refine wpAny_bind (wpAny_bind (wpAny_seqItems ha rfl (wpAny_pure ?_)))
  rw [if_neg (by simp)]
  have e2 : (seqIndex? (-1) (vs ++ [v]).toArray.size).bind (fun k => (vs ++ [v]).toArray[k]?.map (k, ·)) = some (vs.length, v) := by
    rw [seqIndex_neg (by decide) (by simp; omega)]
    have : (-1 + (((vs ++ [v]).toArray.size : Nat) : Int)).toNat = vs.length := by simp; omega
    rw [this]
    simp
  rw [e2]
  dsimp only
  unfold Builtin.List.listUpdate
  dsimp only
  refine wpAny_bind (wpAny_updateSeq ha rfl (wpAny_pure ⟨v, rfl, hq _ F' N'⟩) (by rw [sizeLine_eq]; simp; omega) ?_)
  rw [sizeLine_eq]
  have e1 : (vs ++ [v]).eraseIdx vs.length = vs := by rw [List.eraseIdx_append_of_length_le (Nat.le_refl _)]; simp
  simp [Array.eraseIdxIfInBounds, e1]
  omega
theorem acc_find (P : Params) : findIn (hd.heap_39 P) (.ref 167) (Str.ofString "__iter__") = some (some (.builtin "list.__iter__")) := by kernel_rfl
theorem acc_iter (X : (hd.heap_39 w.params).In h₀) {a dx : Addr} {vs : Array Value} {n : Nat} (F : Fr h₀ L s.heap m) (N : News h₀ L s.heap news) (hm : (a, accObj vs n dx) ∈ news)
    (hq : ∀ I h', Fr h₀ L h' m → News h₀ L h' ((I, itObj a 0) :: news) → (∀ p ∈ news, @LT.lt Nat _ p.1 I) → Q (.ref I) { s with heap := h' }) :
    wpAny (model PySem.Challenge.rw_wr0016_01.row.prog w) A (pyIter (.ref a)) Q E s := by
  have ha := (N _ hm).1
  have X' := X.keeps F.keep
  have hT : Looks (model PySem.Challenge.rw_wr0016_01.row.prog w) s.heap (typeOf (.ref a)) (.ref 167) := (Looks.ld ha).andThen .now
  have hs : Looks (model PySem.Challenge.rw_wr0016_01.row.prog w) s.heap (specialOf (.ref a) (Str.ofString "__iter__")) (some (.builtin "list.__iter__")) := hT.andThen (looks_findIn X' (acc_find _))
  have run : ∀ {Q₁ : Value → Shared → Prop} {E₁ : Value → Shared → Prop} {A' : Around}, Q₁ (.ref s.heap.objs.size) { s with heap := s.heap.push (itObj a 0) } → wpAny (model PySem.Challenge.rw_wr0016_01.row.prog w) A' (call (.builtin "list.__iter__") [.ref a]) Q₁ E₁ s := by
    intro Q₁ E₁ A' hq₁
    refine call_on slot_list_iter.plain entry_list_iter (fun q => check_slot (owner := "list") (n := "__iter__") (by decide +kernel) (by decide +kernel) (acc_list X' ha) (args_list_iter _) q) ?_
    show wpAny _ _ (do ret (← newFields "list_iterator" [.ref a, rawInt 0])) _ _ s
    exact wpAny_bind (wpAny_newObj_type (wpAny_pure ⟨_, rfl, hq₁⟩))
  have fin : Q (.ref s.heap.objs.size) { s with heap := s.heap.push (itObj a 0) } := hq _ _ (F.push _) (N.push F _) fun p hp => Heap.lt_size (N p hp).1
  have hI : (s.heap.push (itObj a 0)).IsListIter s.heap.objs.size a 0 := ⟨_, Heap.get?_push_size _ rfl, rfl, rfl⟩
  have hIt : ({ s with heap := s.heap.push (itObj a 0) } : Shared).TypeIs (.ref s.heap.objs.size) "list_iterator" := hI.typeIs
  have step : wpAny (model PySem.Challenge.rw_wr0016_01.row.prog w) A (call (.builtin "list.__iter__") ([.ref a] ++ [])) (fun v s' => v = .ref s.heap.objs.size ∧ s' = { s with heap := s.heap.push (itObj a 0) }) E s := run ⟨rfl, rfl⟩
  unfold pyIter
  refine wpAny_bind (hs.here ?_)
  dsimp only
  unfold callSpecialIfBoundUnlessNone? bindSpecialIfBound?
  refine wpAny_bind (wpAny_holding (wpAny_bind (wpAny_bind (hs.here ?_))))
  dsimp only
  have hb := slot_list_iter.bind (.ref a)
  refine wpAny_bind (wpAny_askSetting ?_)
  have inner : ∀ {Q₂ : Option (Value × List Value) → Shared → Prop} {E₂ : Value → Shared → Prop}, Q₂ (some (.builtin "list.__iter__", [.ref a])) s → wpAny (model PySem.Challenge.rw_wr0016_01.row.prog w) A (do return some (← bindSpecial (.builtin "list.__iter__") (.ref a))) Q₂ E₂ s := fun hq₂ =>
    wpAny_bind (wpAny_of_eq hb (wpAny_pure hq₂))
  have rest : wpAny (model PySem.Challenge.rw_wr0016_01.row.prog w) A (do
      if (Value.builtin "list.__iter__" == .none) = true then return some (← (do rule "iter.none"; raiseError "TypeError" s!"'{← typeNameOf (.ref a)}' object is not iterable"))
      return some (← call (.builtin "list.__iter__") [.ref a])) (fun r s' => wpAny (model PySem.Challenge.rw_wr0016_01.row.prog w) A (match r with
        | some it => do match ← specialOf it (Str.ofString "__next__") with
          | none => rule "iter.non-iterator"; raiseError "TypeError" s!"iter() returned non-iterator of type '{← typeNameOf it}'"
          | some _ => pure it
        | none => do match ← bindSpecialIfBound? (.ref a) (Str.ofString "__getitem__") with
          | none => rule "iter.not-iterable"; raiseError "TypeError" s!"'{← typeNameOf (.ref a)}' object is not iterable"
          | some _ => rule "iter.getitem-fallback"; newFields "iterator" [.ref a, ← mkInt 0]) Q E s') E s := by
    rw [if_neg (by decide)]
    refine wpAny_bind (wpAny_mono step (fun v s' hv => ?_) fun _ _ e => e)
    obtain ⟨rfl, rfl⟩ := hv
    exact wpAny_pure (wpAny_bind (wpAny_specialOf hIt slot_listiter_next.lookup (wpAny_pure fin)))
  split
  · exact inner rest
  · exact wpAny_tryCatch (inner rest)
end
end Mine
end

example : 1 = 1 ∧ 2 = 2 := by
  w_top off
  walk1 <;> rfl
section
set_option maxRecDepth 100000
open PySem PySem.W PyProof.Rows PySem.Calls
namespace Mine
set_option Elab.async false
section
variable {w : World} {A : Around} {s : Shared} {h₀ : Heap} {L : Addr} {m : Str → Option Value} {news : List (Addr × Obj)} {E : Value → Shared → Prop} {h : Heap} {g : Array GenState} {d : Drawn} {t : Nat} {os : OsState}
theorem slot_md_get : Slot "method_descriptor" (Str.ofString "__get__") "method_descriptor.__get__" := .of (owner := "method_descriptor") (n := "__get__") (by rw [typeLookup_type, builtinLookup_eq_fast]; kernel_rfl) (by decide +kernel) (by decide +kernel) (by decide +kernel)
  (by first | exact .inl (by decide +kernel) | exact .inr (by decide +kernel)) (by rw [isSubtype_type]; kernel_rfl)
theorem slot_wd_get : Slot "wrapper_descriptor" (Str.ofString "__get__") "wrapper_descriptor.__get__" := .of (owner := "wrapper_descriptor") (n := "__get__") (by rw [typeLookup_type, builtinLookup_eq_fast]; kernel_rfl) (by decide +kernel) (by decide +kernel) (by decide +kernel)
  (by first | exact .inl (by decide +kernel) | exact .inr (by decide +kernel)) (by rw [isSubtype_type]; kernel_rfl)
theorem md_run {M : Model} {a : Addr} {Q : Fin → Shared → Prop} (hl : Looks M h (isInstance (.ref a) (.type "list")) true)
    (hq : Q (.done (.ret (.ref h.objs.size))) ⟨h.push { cls := .type "builtin_function_or_method", data := .fields #[.builtin "list.pop", .ref a] }, g, d, t, os⟩) :
    wpAny M A (Builtin.«method_descriptor.__get__» ⟨[.builtin "list.pop", .ref a, .ref 167], []⟩) Q E ⟨h, g, d, t, os⟩ := by
  have e : ".".intercalate ("list.pop".cutAt '.').dropLast = "list" := by decide +kernel
  rw [← e] at hl
  unfold Builtin.«method_descriptor.__get__»
  repeat lk
  exact hq
theorem wd_run {M : Model} {a : Addr} {id : String} {Q : Fin → Shared → Prop} (e : ".".intercalate (id.cutAt '.').dropLast = "list") (hl : Looks M h (isInstance (.ref a) (.type "list")) true)
    (hq : Q (.done (.ret (.ref h.objs.size))) ⟨h.push { cls := .type "method-wrapper", data := .fields #[.builtin id, .ref a] }, g, d, t, os⟩) :
    wpAny M A (Builtin.«wrapper_descriptor.__get__» ⟨[.builtin id, .ref a, .ref 167], []⟩) Q E ⟨h, g, d, t, os⟩ := by
  rw [← e] at hl
  unfold Builtin.«wrapper_descriptor.__get__»
  repeat lk
  exact hq
theorem super_ga {K : Frag} {so a : Addr} {desc id gid : String} {gB : Builtin} {bo : Obj} {name : Str} {tk : Tok} {Q : Fin → Shared → Prop} (slot : Slot desc (Str.ofString "__get__") gid) (entry : entryFor table gid = some gB)
    (args : argsOk gid ⟨[.builtin id, .ref a, .ref 167], []⟩) (ty : typeOf (.builtin id) = pure (.type desc)) (hso : h.get? so = some (ks_superObj 167 a 167)) (X : K.In h)
    (hno : Looks (model PySem.Challenge.rw_wr0016_01.row.prog w) h (opaqueClassAbove (.ref 167)) none) (hC : Looks (model PySem.Challenge.rw_wr0016_01.row.prog w) h (mroOf (.ref 167)) [.ref 167, .type "list", .type "object"])
    (hf : alongIn K name [.type "list", .type "object"] = some (some (.builtin id))) (hx : a ≠ 167) (hn : (name == ("__class__" : Str)) = false)
    (run : ∀ {A' : Around} {Q' : Fin → Shared → Prop} {E' : Value → Shared → Prop}, Q' (.done (.ret (.ref h.objs.size))) ⟨h.push bo, g, d, t, os⟩ → wpAny (model PySem.Challenge.rw_wr0016_01.row.prog w) A' (gB ⟨[.builtin id, .ref a, .ref 167], []⟩) Q' E' ⟨h, g, d, t, os⟩)
    (hq : Q (.done (.ret (.ref h.objs.size))) ⟨h.push bo, g, d, t, os⟩) :
    wpAny (model PySem.Challenge.rw_wr0016_01.row.prog w) A (Builtin.«super.__getattribute__» ⟨[.ref so, .str name tk], []⟩) Q E ⟨h, g, d, t, os⟩ := by
  have hlk := slot.lookup
  have hne : (Value.ref a == Value.ref 167) = false := by simp [hx]
  have hT : (⟨h, g, d, t, os⟩ : Shared).TypeIs (.builtin id) desc := ty
  have hdt : (ks_superObj 167 a 167).data = .fields #[.ref 167, .ref a, .ref 167] := rfl
  have f0 : (#[.ref 167, .ref a, .ref 167] : Array Value)[0]? = some (.ref 167) := rfl
  have f1 : (#[.ref 167, .ref a, .ref 167] : Array Value)[1]? = some (.ref a) := rfl
  have f2 : (#[.ref 167, .ref a, .ref 167] : Array Value)[2]? = some (.ref 167) := rfl
  have hl : (([.ref 167, .type "list", .type "object"] : List Value).dropWhile (· != .ref 167)).drop 1 = [.type "list", .type "object"] := by decide +kernel
  unfold Builtin.«super.__getattribute__»
  repeat (first
    | (with_reducible refine wpAny_field hso hdt f0 ?_) | (with_reducible refine wpAny_field hso hdt f1 ?_) | (with_reducible refine wpAny_field hso hdt f2 ?_)
    | (with_reducible refine ks_wpAny_notOpaque hno ?_)
    | (with_reducible refine Looks.at hC ?_; rw [hl])
    | (refine ks_forIn_along X (fun _ _ => rfl) rfl ?_ hf)
    | (with_reducible refine wpAny_typeOf hT ?_)
    | (with_reducible refine wpAny_call_entry slot hT entry ?_ args)
    | (with_reducible refine run ?_)
    | (with_reducible refine ⟨_, rfl, ?_⟩)
    | (simp only [hn, hne, Bool.or_false, Bool.false_eq_true, if_false])
    | wp_step
    | dsimp only)
  all_goals exact hq
theorem super_method {so a dx : Addr} {vs : Array Value} {n : Nat} {desc id gid : String} {gB : Builtin} {bt : String} {name : Str} {pl : Sem Bool} {Q : Value × List Value → Shared → Prop} (X₀ : (hd.heap_39 w.params).In h₀) (F : Fr h₀ L s.heap m) (N : News h₀ L s.heap news)
    (hm : (so, ks_superObj 167 a 167) ∈ news) (hma : (a, accObj vs n dx) ∈ news) (slot : Slot desc (Str.ofString "__get__") gid) (entry : entryFor table gid = some gB)
    (args : argsOk gid ⟨[.builtin id, .ref a, .ref 167], []⟩) (ty : typeOf (.builtin id) = pure (.type desc))
    (hf : alongIn (hd.heap_39 w.params) name [.type "list", .type "object"] = some (some (.builtin id))) (hn : (name == ("__class__" : Str)) = false)
    (run : ∀ {t' : Nat} {A' : Around} {Q' : Fin → Shared → Prop} {E' : Value → Shared → Prop}, Q' (.done (.ret (.ref s.heap.objs.size))) { s with heap := s.heap.push { cls := .type bt, data := .fields #[.builtin id, .ref a] }, toks := t' } → wpAny (model PySem.Challenge.rw_wr0016_01.row.prog w) A' (gB ⟨[.builtin id, .ref a, .ref 167], []⟩) Q' E' { s with toks := t' })
    (hq : ∀ q h', Fr h₀ L h' m → News h₀ L h' ((q, { cls := .type bt, data := .fields #[.builtin id, .ref a] }) :: news) → (∀ p ∈ news, @LT.lt Nat _ p.1 q) → Q (.ref q, []) { s with heap := h', toks := s.toks + 1 }) :
    wpAny (model PySem.Challenge.rw_wr0016_01.row.prog w) A (getMethod (.ref so) name pl) Q E s := by
  have X := X₀.keeps F.keep
  have hso := (N _ hm).1
  have hC : Looks (model PySem.Challenge.rw_wr0016_01.row.prog w) s.heap (mroOf (.ref 167)) [.ref 167, .type "list", .type "object"] := by
    have hc : (clsIn (hd.heap_39 w.params) 167).map (·.mro) = some [.ref 167, .type "list", .type "object"] := by kernel_rfl
    obtain ⟨cd, h1, h2⟩ := Option.map_eq_some_iff.mp hc
    rw [← h2]
    exact (looks_clsIn X h1).andThen .now
  have hno : Looks (model PySem.Challenge.rw_wr0016_01.row.prog w) s.heap (opaqueClassAbove (.ref 167)) none := looks_opaque X (by kernel_rfl)
  have hx : a ≠ 167 := fun e => by
    have h1 := (N _ hma).2.2
    have h2 : ((hd.heap_39 w.params).lookup 167).isSome = true := by kernel_rfl
    obtain ⟨o, h2⟩ := Option.isSome_iff_exists.mp h2
    rw [e, X₀ _ _ h2] at h1
    cases h1
  have hlk := PySem.F.ks_slot_super_ga.lookup
  have hcan := PySem.F.ks_canon_super_ga
  obtain ⟨hp, g, d, t, os⟩ := s
  have hT : ∀ t', (⟨hp, g, d, t', os⟩ : Shared).TypeIs (.ref so) "super" := fun _ => ⟨_, hso, rfl⟩
  have fin : Q (.ref hp.objs.size, []) ⟨hp.push { cls := .type bt, data := .fields #[.builtin id, .ref a] }, g, d, t + 1, os⟩ :=
    hq _ _ (F.push _) (N.push F _) fun p h1 => Heap.lt_size (N p h1).1
  unfold getMethod
  refine wpAny_bind (wpAny_specialOf (hT _) hlk ?_)
  show wpAny _ _ (if (Manifest.canonical "super.__getattribute__" != "object.__getattribute__") = true then _ else _) _ _ _
  rw [if_pos hcan]
  unfold getAttr getAttrBy
  refine wpAny_bind (wpAny_bind (wpAny_mkText (wpAny_holding (wpAny_bind (wpAny_typeOf (hT _) (wpAny_bind (wpAny_of_eq hlk ?_)))))))
  show wpAny _ _ (getAttrByItsOwn (.ref so) (.str name t) (.type "super") (.builtin "super.__getattribute__") true false) _ _ _
  unfold getAttrByItsOwn hookBefore callGetattribute boundAndCalled
  refine wpAny_bind (wpAny_of_eq (show (if onTheHeap (.type "super") then typeLookup (.type "super") "__getattr__" else pure none) = pure none from rfl) ?_)
  refine wpAny_bind (wpAny_attempt (wpAny_holding ?_))
  show wpAny _ _ (bindSpecial (.builtin "super.__getattribute__") (.ref so) >>= _) _ _ _
  refine wpAny_bind (wpAny_of_eq (PySem.F.ks_slot_super_ga.bind _) ?_)
  refine wpAny_mono (Q := fun v s' => v = .ref hp.objs.size ∧ s' = ⟨hp.push { cls := .type bt, data := .fields #[.builtin id, .ref a] }, g, d, t + 1, os⟩) (E := fun _ _ => False)
    (wpAny_call_entry PySem.F.ks_slot_super_ga (hT _) PySem.F.ks_entry_super_ga (super_ga slot entry args ty hso X hno hC hf hx hn run ⟨_, rfl, rfl, rfl⟩) (PySem.F.ks_gaArgs_super _ _)) (fun v s' hv => ?_) fun _ _ z => z.elim
  obtain ⟨rfl, rfl⟩ := hv
  exact wpAny_pure (wpAny_pure fin)
end
end Mine
end

example : 1 = 1 ∧ 2 = 2 := by
  w_top off
  walk1 <;> rfl
section
set_option maxRecDepth 100000
open PySem PySem.W PyProof.Rows PySem.Calls
namespace Mine
set_option Elab.async false
section
variable {w : World} {A : Around} {s : Shared} {h₀ : Heap} {L : Addr} {m : Str → Option Value} {news : List (Addr × Obj)} {Q : Value → Shared → Prop} {E : Value → Shared → Prop}
theorem bound_slot {q a : Addr} {id : String} {B : Builtin} (hq : s.heap.get? q = some { cls := .type "method-wrapper", data := .fields #[.builtin id, .ref a] }) (plain : plainId id = true) (entry : entryFor table id = some B)
    (chk : checkBoundCall id ⟨[.ref a], []⟩ = pure ())
    (hc : wpAny (model PySem.Challenge.rw_wr0016_01.row.prog w) A.in1 (B ⟨[.ref a], []⟩) (fun fin s' => ∃ v, fin = .done (.ret v) ∧ Q v s') E s) :
    wpAny (model PySem.Challenge.rw_wr0016_01.row.prog w) A (call (.ref q) []) Q E s := by
  refine wpAny_call (codeAny_of_tree ?_)
  show wpAny _ A.in1 (callAny (.ref q) ⟨[], []⟩) _ _ _
  unfold callAny
  refine wpAny_bind (wpAny_load hq ?_)
  show wpAny _ _ (do checkBoundCall id ⟨[.ref a], []⟩; return ← again (.builtin id ⟨[.ref a], []⟩)) _ _ _
  refine wpAny_bind (wpAny_of_eq chk (wpAny_bind (wpAny_pure (wpAny_pure ⟨plainId_quiet plain _, codeAny_builtin entry ?_⟩))))
  rw [Around.under_plainId plain]
  exact wpAny_mono hc (fun fin s' hf => by obtain ⟨v, rfl, q⟩ := hf; exact q) fun _ _ e => e
theorem pop_chk {A' : Around} {Q' : Unit → Shared → Prop} {E' : Value → Shared → Prop} (X : (hd.heap_39 w.params).In s.heap) {a dx : Addr} {vs : Array Value} {n : Nat} (ha : s.heap.get? a = some (accObj vs n dx)) (q : Q' () s) :
    wpAny (model PySem.Challenge.rw_wr0016_01.row.prog w) A' (checkBoundCall "list.pop" ⟨[.ref a], []⟩) Q' E' s := by
  have h1 : Looks (model PySem.Challenge.rw_wr0016_01.row.prog w) s.heap (isInstance (.ref a) (.type "module")) false := ((Looks.ld ha).andThen .now).andThen (looks_mroIn X (by kernel_rfl))
  have h2 : Looks (model PySem.Challenge.rw_wr0016_01.row.prog w) s.heap (typeOf (.ref a)) (.ref 167) := (Looks.ld ha).andThen .now
  have h3 : Looks (model PySem.Challenge.rw_wr0016_01.row.prog w) s.heap (typeOf (.ref 167)) (.type "type") := looks_typeIn X (by kernel_rfl)
  have h4 : Looks (model PySem.Challenge.rw_wr0016_01.row.prog w) s.heap (isType (.ref a)) false := (Looks.ld ha).andThen .now
  have hc : ((hd.heap_39 w.params).lookup 167).isSome = true := by kernel_rfl
  have h5 : (clsIn (hd.heap_39 w.params) 167).map (·.qualname) = some (Str.ofString "_Accumulator") := by kernel_rfl
  obtain ⟨cd, h6, h7⟩ := Option.map_eq_some_iff.mp h5
  have h8 : Looks (model PySem.Challenge.rw_wr0016_01.row.prog w) s.heap (classData 167) cd := looks_clsIn X h6
  have key : (match Manifest.signature? "list.pop" with
    | some sig => Bind.checkArgs "list.pop" { sig with full := s!"{(Str.ofString "_Accumulator").toString}.{Bind.lastOf "list.pop"}" } ⟨[.ref a], []⟩
    | none => unsupported "") = pure () := by kernel_rfl
  have hk : builtinKind "list.pop" = some .method := by decide +kernel
  have hv : Manifest.varargsMethods.contains "list.pop" = false := by decide +kernel
  unfold checkBoundCall
  cases hs : Manifest.signature? "list.pop" with
  | none => exact wpAny_pure q
  | some sig =>
    rw [hs] at key
    dsimp only at key ⊢
    rw [hk]
    dsimp only
    rw [if_neg (by decide)]
    refine wpAny_bind (h1.here ?_)
    rw [if_neg (by rw [hv]; decide)]
    refine wpAny_bind (h4.here ?_)
    rw [if_neg (by decide)]
    refine wpAny_bind (h2.here ?_)
    dsimp only
    refine wpAny_bind (h8.here ?_)
    refine wpAny_bind (h3.here ?_)
    rw [if_pos (by decide), h7]
    exact wpAny_of_eq key q
theorem bound_pop (X : (hd.heap_39 w.params).In h₀) {qa a dx : Addr} {vs : List Value} {n : Nat} {v : Value} {news' : List (Addr × Obj)} (F : Fr h₀ L s.heap m) (N : News h₀ L s.heap news) (hq : (qa, ({ cls := .type "builtin_function_or_method", data := .fields #[.builtin "list.pop", .ref a] } : Obj)) ∈ news)
    (U : Upd a (accObj (vs ++ [v]).toArray n dx) (accObj vs.toArray (n + 1) dx) news news') (hz : vs.length ≤ 1000) (hQ : ∀ h', Fr h₀ L h' m → News h₀ L h' news' → Q v { s with heap := h' }) :
    wpAny (model PySem.Challenge.rw_wr0016_01.row.prog w) A (call (.ref qa) []) Q E s := by
  have hU := U
  obtain ⟨pre, post, rfl, rfl, p1, p2⟩ := hU.split
  have ha := (N (a, accObj (vs ++ [v]).toArray n dx) (by simp)).1
  refine wpAny_call (codeAny_of_tree ?_)
  show wpAny _ A.in1 (callAny (.ref qa) ⟨[], []⟩) _ _ _
  unfold callAny
  refine wpAny_bind (wpAny_load (N _ hq).1 ?_)
  show wpAny _ _ (do checkBoundCall "list.pop" ⟨[.ref a], []⟩; return ← again (.builtin "list.pop" ⟨[.ref a], []⟩)) _ _ _
  refine wpAny_bind (pop_chk (X.keeps F.keep) ha (wpAny_bind (wpAny_pure (wpAny_pure ⟨plainId_quiet (by decide +kernel) _, ?_⟩))))
  refine codeAny_builtin (b := Builtin.«list.pop») (entryFor_of_tree (by kernel_rfl)) ?_
  rw [Around.under_plainId (by decide +kernel)]
  exact wpAny_mono (pop_run F N U hz hQ) (fun fin s' hf => by obtain ⟨v, rfl, q⟩ := hf; exact q) fun _ _ e => e
theorem bound_len {qa a dx : Addr} {vs : List Value} {n : Nat} (N : News h₀ L s.heap news) (hq : (qa, ({ cls := .type "method-wrapper", data := .fields #[.builtin "list.__len__", .ref a] } : Obj)) ∈ news) (ha : (a, accObj vs.toArray n dx) ∈ news)
    (hQ : ∀ t, Q (.int vs.length t) { s with toks := s.toks + 1 }) : wpAny (model PySem.Challenge.rw_wr0016_01.row.prog w) A (call (.ref qa) []) Q E s :=
  bound_slot (N _ hq).1 (by decide +kernel) (entryFor_of_tree (by kernel_rfl)) (by kernel_rfl) (len_run (N _ ha).1 hQ)
theorem bound_init {qa a dx : Addr} {n : Nat} (F : Fr h₀ L s.heap m) (N : News h₀ L s.heap news) (hq : (qa, ({ cls := .type "method-wrapper", data := .fields #[.builtin "list.__init__", .ref a] } : Obj)) ∈ news)
    (U : Upd a (accObj #[] n dx) (accObj #[] n dx) news news) (hQ : ∀ h', Fr h₀ L h' m → News h₀ L h' news → Q .none { s with heap := h' }) : wpAny (model PySem.Challenge.rw_wr0016_01.row.prog w) A (call (.ref qa) []) Q E s := by
  refine bound_slot (N _ hq).1 (by decide +kernel) (B := Builtin.«list.__init__») (entryFor_of_tree (by kernel_rfl)) (by kernel_rfl) ?_
  obtain ⟨ha, F', N'⟩ := acc_write (f := fun _ => #[]) F N U (by simp [Obj.mapSeq, accObj])
  show wpAny _ _ (Builtin.List.listItems (.ref a) >>= fun old => Builtin.List.listUpdate (.ref a) (fun _ => #[]) >>= fun _ => letGo old.toList.reverse >>= fun _ => ret .none) _ _ s
  unfold Builtin.List.listItems
  refine wpAny_bind (wpAny_bind (wpAny_seqItems ha rfl (wpAny_pure ?_)))
  unfold Builtin.List.listUpdate
  dsimp only
  refine wpAny_bind (wpAny_updateSeq ha rfl (wpAny_bind (wpAny_letGo (wpAny_pure ⟨_, rfl, hQ _ F' N'⟩))) (by rw [sizeLine_eq]; simp) (by rw [sizeLine_eq]; simp))
end
end Mine
end

example : 1 = 1 ∧ 2 = 2 := by
  w_top off
  walk1 <;> rfl
section
set_option maxRecDepth 100000
open PySem PySem.W PyProof.Rows PySem.Calls
namespace Mine
set_option Elab.async false
section
variable {w : World} {A : Around} {R : Result → Shared → Prop} {h : Heap} {g : Array GenState} {d : Drawn} {t : Nat} {os : OsState}
noncomputable abbrev mdl (w : World) : Model := model PySem.Challenge.rw_wr0016_01.row.prog w
structure AccCls (M : Model) (h : Heap) (cd : ClassData) : Prop where
  obj : ∃ oc od sl, h.get? 167 = some ⟨oc, od, .cls cd, sl⟩
  e1 : cd.abstract = false
  e2 : cd.hasDel = false
  e4 : cd.mro.isEmpty = false
  made : Looks M h (Bind.madeBy (.ref 167)) (some "list.__new__")
  base : Looks M h (Bind.staticBase (.ref 167)) (.ref 167)
  self : Looks M h (isSubtype (.ref 167) (.ref 167)) true
  top : Looks M h (isSubtype (.ref 167) (.type "list")) true
  call : Looks M h (specialOf (.ref 167) "__call__") (some (.builtin "type.__call__"))
  typ : Looks M h (isInstance (.ref 167) (.type "type")) true
  new : Looks M h (typeLookup (.ref 167) "__new__") (some (.builtin "list.__new__"))
  init : Looks M h (typeLookup (.ref 167) "__init__") (some (.ref 104))
  bindI : ∀ self, Looks M h (bindSpecial (.ref 104) self) (.ref 104, [self])
theorem acc_cls (X : (hd.heap_39 w.params).In h) : ∃ cd, AccCls (mdl w) h cd := by
  have h0 : ((hd.heap_39 w.params).lookup 167).map (fun o => (match o.data with | .cls cd => (cd.abstract, cd.hasDel, cd.mro) | _ => (true, true, []), (o.slots.toList[4]?).join, o.cls)) = some ((false, false, [.ref 167, .type "list", .type "object"]), some (.builtin "list.__new__"), .type "type") := by kernel_rfl
  obtain ⟨⟨oc, od, dt, sl⟩, ho, h1⟩ := Option.map_eq_some_iff.mp h0
  cases dt with
  | cls cd =>
    simp only [Prod.mk.injEq] at h1
    obtain ⟨⟨e1, e2, e3⟩, e4, e5⟩ := h1
    have hc : clsIn (hd.heap_39 w.params) 167 = some cd := by unfold clsIn; rw [ho]
    have hm : Looks (mdl w) h (mroOf (.ref 167)) cd.mro := (looks_clsIn X hc).andThen .now
    have made : Looks (mdl w) h (Bind.madeBy (.ref 167)) (some "list.__new__") := by
      intro A Q E s k q
      unfold Bind.madeBy
      refine wpAny_bind (hm A _ E s k ?_)
      rw [e3, List.forIn_cons]
      refine wpAny_bind (wpAny_bind (wpAny_bind (wpAny_bind (wpAny_loadPart (k _ _ (X _ _ ho)) (wpAny_pure ?_)))))
      dsimp only
      rw [← Array.getElem?_toList, e4]
      exact wpAny_pure (wpAny_pure (wpAny_pure q))
    refine ⟨cd, ⟨oc, od, sl, X _ _ ho⟩, e1, e2, by rw [e3]; rfl, made, ?_, looks_mroIn X (by kernel_rfl), looks_mroIn X (by kernel_rfl), looks_specialIn X (by kernel_rfl), looks_instIn X (by kernel_rfl), looks_findIn X (by kernel_rfl), looks_findIn X (by kernel_rfl), fun self => bind_fn X self (by kernel_rfl)⟩
    intro A Q E s k q
    unfold Bind.staticBase
    refine wpAny_bind (hm A _ E s k ?_)
    rw [e3, List.forIn_cons]
    exact wpAny_bind (wpAny_bind (wpAny_bind (made A _ E s k (wpAny_pure (wpAny_pure (wpAny_pure q))))))
  | _ => simp at h1
theorem new_acc {cd : ClassData} (Y : AccCls (mdl w) h cd) (hq : R (.ok (.ret (.ref (h.objs.size + 1)))) ⟨(h.push emptyDict).push (accObj #[] 0 h.objs.size), g, d, t, os⟩) :
    codeAny (mdl w) A (.call (.builtin "list.__new__") ⟨[.ref 167], []⟩) R ⟨h, g, d, t, os⟩ := by
  obtain ⟨⟨oc, od, sl, hC⟩, e1, e2, e4, made, base, self, top, call, typ, new, init, bindI⟩ := Y
  refine codeAny_call_builtin_code (Code.quiet_builtin _ (by decide +kernel)) ?_
  have hk : builtinKind "list.__new__" = some .builtinFn := by decide +kernel
  have hs : splitId "list.__new__" = some ("list", "__new__") := by decide +kernel
  have hca : Manifest.canonical "list.__new__" = Manifest.canonical "list.__new__" := rfl
  have key : (match Manifest.signature? "list.__new__" with
    | some sig => Bind.checkArgs "list.__new__" sig ⟨[.ref 167], []⟩
    | none => pure ()) = pure () := by kernel_rfl
  have ht : Looks (mdl w) h (isType (.ref 167)) true := (Looks.ld hC).andThen .now
  have fin : codeAny (mdl w) A (.builtin "list.__new__" ⟨[.ref 167], []⟩) R ⟨h, g, d, t, os⟩ := by
    refine codeAny_builtin_stack F.entry_list_new rfl fun p st => ?_
    rw [Around.under_plainId F.plain_list_new _]
    simp only [owner_list_new]
    repeat lk
    refine nd_load (Heap.get?_push_of_some _ (Heap.get?_push_of_some _ hC)) ?_
    refine wpAny_pure ?_
    dsimp only
    rw [e2]
    refine wpAny_pure ?_
    rw [if_neg (by decide)]
    refine wpAny_pure (wpAny_pure ?_)
    show R _ _
    rw [Heap.size_push]
    exact hq
  simp only [checkBuiltinCall, hk, hs]
  rw [if_pos (by decide)]
  refine wpAny_bind (ht.here ?_)
  rw [if_neg (by decide)]
  refine wpAny_bind (top.here ?_)
  rw [if_neg (by decide)]
  refine wpAny_bind (base.here (wpAny_bind (made.here ?_)))
  dsimp only
  rw [if_neg (by simp)]
  cases hsig : Manifest.signature? "list.__new__" with
  | none => exact wpAny_pure fin
  | some sig =>
    rw [hsig] at key
    exact wpAny_of_eq key fin
end
end Mine
end

example : 1 = 1 ∧ 2 = 2 := by
  w_top off
  walk1 <;> rfl
section
set_option maxRecDepth 100000
open PySem PySem.W PyProof.Rows PySem.Calls Builtin Builtin.ObjectAttr Builtin.Getset_descriptor
namespace Mine
set_option Elab.async false
section
variable {w : World} {A : Around} {R : Result → Shared → Prop} {h : Heap} {g : Array GenState} {d : Drawn} {t : Nat} {os : OsState}
theorem make_acc0 {cd : ClassData} (Y : AccCls (mdl w) h cd)
    (hq : codeAny (mdl w) (A.under (.builtin "type.__call__" ⟨[.ref 167], []⟩)) (.call (.ref 104) ⟨[.ref (h.objs.size + 1)], []⟩) (InitBack (h.objs.size + 1) R) ⟨(h.push emptyDict).push (accObj #[] 0 h.objs.size), g, d, t, os⟩) :
    codeAny (mdl w) A (.call (.ref 167) ⟨[], []⟩) R ⟨h, g, d, t, os⟩ := by
  have Y' := Y
  obtain ⟨⟨oc, od, sl, hC⟩, e1, e2, e4, made, base, self, top, call, typ, new, init, bindI⟩ := Y
  refine codeAny_of_tree ?_
  show wpAny _ _ (callAny (.ref 167) _) _ _ _
  refine nd_load hC ?_
  show wpAny _ _ (callAny.viaDunder (.ref 167) _) _ _ _
  unfold callAny.viaDunder
  refine wpAny_bind (call.at ?_)
  dsimp only
  rw [tc_bind]
  refine wpAny_bind (wpAny_pure (wpAny_bind (wpAny_pure ?_)))
  refine wpAny_pure (a := Fin.again (.call (.builtin "type.__call__") ⟨[.ref 167], []⟩)) (And.intro rfl ?_)
  refine codeAny_call_builtin_at (Code.quiet_builtin _ (by decide +kernel)) entry_typeCall (check_slot tc_kind tc_split typ (tc_args _ _ _) ?_)
  unfold Builtin.«type.__call__»
  have hm : Looks (mdl w) h (mroOf (.ref 167)) cd.mro := ((Looks.ld (part := none) hC).andThen .now).andThen .now
  repeat (first | simp only [e4, Bool.false_eq_true, if_false] | with_reducible refine wpAny_call ?_ | lk)
  refine new_acc Y' ?_
  have k : ∀ b o, h.get? b = some o → ((h.push emptyDict).push (accObj #[] 0 h.objs.size)).get? b = some o := fun b o e => Heap.get?_push_of_some _ (Heap.get?_push_of_some _ e)
  have hx : ((h.push emptyDict).push (accObj #[] 0 h.objs.size)).get? (h.objs.size + 1) = some (accObj #[] 0 h.objs.size) := by heap_get
  have t1 : Looks (mdl w) ((h.push emptyDict).push (accObj #[] 0 h.objs.size)) (typeOf (.ref (h.objs.size + 1))) (.ref 167) := (Looks.ld hx).andThen .now
  have s1 := self.keeps k
  have i1 := init.keeps k
  have b1 := (bindI (.ref (h.objs.size + 1))).keeps k
  unfold isInstance callSpecial? specialOf
  repeat (first | with_reducible refine wpAny_call ?_ | lk)
  refine codeAny_mono hq fun r s' z => ?_
  rcases r with e | (v | _ | _ | _) <;> first | exact z | exact z.elim | skip
  obtain ⟨rfl, z⟩ := z
  exact wpAny_pure (wpAny_pure z)
end
section
variable {w : World} {A : Around} {s : Shared} {h₀ : Heap} {L : Addr} {m : Str → Option Value} {news news' : List (Addr × Obj)} {R : Result → Shared → Prop} {E : Value → Shared → Prop}
theorem make_acc (F : Fr h₀ L s.heap m) (N : News h₀ L s.heap news) (X : (hd.heap_39 w.params).In h₀)
    (h : ∀ x dx h', Fr h₀ L h' m → News h₀ L h' ((x, accObj #[] 0 dx) :: (dx, emptyDict) :: news) → (∀ p ∈ news, @LT.lt Nat _ p.1 dx) → @LT.lt Nat _ dx x →
      codeAny (mdl w) (A.under (.builtin "type.__call__" ⟨[.ref 167], []⟩)) (.call (.ref 104) ⟨[.ref x], []⟩) (InitBack x R) { s with heap := h' }) :
    codeAny (mdl w) A (.call (.ref 167) ⟨[], []⟩) R s := by
  obtain ⟨hh, g, d, t, os⟩ := s
  obtain ⟨cd, Y⟩ := acc_cls (X.keeps F.keep)
  refine make_acc0 Y (h _ hh.objs.size _ ((F.push _).push _) ?_ (fun p hp => Heap.lt_size (N p hp).1) (Nat.lt_succ_self _))
  have := (N.push F emptyDict).push (F.push _) (accObj #[] 0 hh.objs.size)
  rwa [Heap.size_push] at this
theorem refuse_list (self : Value) : refuseLoop self "__setattr__" [.ref 167, .type "list", .type "object"] = pure () := by
  rw [refuseLoop_ref]
  kernel_rfl
theorem accInst {a dx : Addr} {vs : Array Value} {n : Nat} {od : Obj} (N : News h₀ L s.heap news) (h1 : (a, accObj vs n dx) ∈ news) (h2 : (dx, od) ∈ news) : InstAt s.heap a (accObj vs n dx) 167 (some od) := ⟨(N _ h1).1, rfl, rfl, (N _ h2).1⟩
theorem acc_osa {a dx : Addr} {vs : Array Value} {n : Nat} {tk tv : Tok} {i : Int} {name : Str} {od od' : Obj} {pre post : List (Addr × Obj)} {es : List DictEntry} {k : Nat} (X₀ : (hd.heap_39 w.params).In h₀) (F : Fr h₀ L s.heap m) (N : News h₀ L s.heap (pre ++ (dx, od) :: post))
    (h1 : ∀ p ∈ pre, p.1 ≠ dx) (h2 : ∀ p ∈ post, p.1 ≠ dx) (hm : (a, accObj vs n dx) ∈ pre ++ (dx, od) :: post) (hn : findIn (hd.heap_39 w.params) (.ref 167) name = some none)
    (hl : (lookIn name od).isSome = true) (e : Obj.putName name (PyData.keyHash w.params name) (.str name s.toks) (.int i tv) od = od') (e' : od'.data = .dict es.toArray k) (hz : es.length ≤ 1000)
    (h : ∀ h', Fr h₀ L h' m → News h₀ L h' (pre ++ (dx, od') :: post) → R (.ok (.ret .none)) { s with heap := h', toks := s.toks + 1 }) :
    codeAny (mdl w) A (.call (.builtin "object.__setattr__") ⟨[.ref a, .str name tk, .int i tv], []⟩) R s := by
  have X := X₀.keeps F.keep
  have I := accInst N hm (show (dx, od) ∈ _ by simp)
  have SF := PySem.F.store_object
  have hc : (clsIn (hd.heap_39 w.params) 167).map (fun cd => (cd.mro, cd.hasDict)) = some ([.ref 167, .type "list", .type "object"], true) := by kernel_rfl
  obtain ⟨cd, hc, hc'⟩ := Option.map_eq_some_iff.mp hc
  obtain ⟨ho, hd'⟩ := Prod.mk.inj hc'
  have sub : Looks (mdl w) s.heap (isInstance (.ref a) (.type "object")) true := I.type.andThen (looks_mroIn X (by kernel_rfl))
  refine codeAny_call_builtin SF.slot.plain SF.entry (@check_slot (mdl w) _ _ s "object.__setattr__" "object" "__setattr__" (.ref a) [.str name tk, .int i tv] [] _ SF.kind SF.split sub (SF.args (.ref a) (.str name tk) (.int i tv)) ?_)
  have hm' : Looks (mdl w) s.heap (mroOf (.ref 167)) [.ref 167, .type "list", .type "object"] := ho ▸ (looks_clsIn X hc).andThen .now
  rw [osa_eq, refuse_eq]
  refine wpAny_bind (wpAny_bind (I.type.here (wpAny_bind (hm'.here ?_))))
  rw [refuse_list]
  refine wpAny_pure (wpAny_bind (I.type.here (wpAny_bind ((looks_findIn X hn).here (wpAny_bind (wpAny_pure ?_))))))
  dsimp only
  obtain ⟨U1, U2⟩ := news_upd (f := Obj.putName name (PyData.keyHash w.params name) (.str name s.toks) (.int i tv)) F N h1 h2 e (by obtain ⟨_, _, dd, _⟩ := od'; cases e'; rfl)
  have D := (N (dx, od) (by simp)).1
  have D' := (U2 (dx, od') (by simp)).1
  obtain ⟨hx, hcl, hnn, -⟩ := I
  refine wpAny_bind (wpAny_pure (wpAny_bind (wpAny_bind (wpAny_loadPart hx (wpAny_bind ((looks_clsIn X hc).here ?_))))))
  rw [hd']
  refine wpAny_pure (a := some dx) (wpAny_bind (wpAny_pure (wpAny_bind ?_)))
  unfold nsSet
  refine wpAny_bind (wpAny_bind (wpAny_askSetting (wpAny_pure (wpAny_bind (wpAny_mkText (wpAny_bind (wpAny_loadPart D ?_)))))))
  unfold lookIn at hl
  split at hl
  · rename_i es₀ n₀ q
    rw [q]
    dsimp only
    have c : (!es₀.any (·.key.isStr name) && es₀.any (·.refKey)) = false := by
      rw [← Array.any_toList, ← Array.any_toList]
      split at hl
      · rename_i en he
        rw [List.any_eq_true.mpr ⟨en, List.mem_of_find?_eq_some he, List.find?_some he⟩]; rfl
      · split at hl
        · cases hl
        · rename_i z; rw [Bool.not_eq_true] at z; rw [z, Bool.and_false]
    rw [aRefKeyMayBeTheName_at, c]
    refine wpAny_updatePart D ?_
    refine wpAny_bind (wpAny_lookBehind D' (by rw [e']; exact pastItsLine_dict (by rw [List.size_toArray, sizeLine_eq]; omega)) ?_)
    exact wpAny_pure (h _ U1 U2)
  · cases hl
end
end Mine
end

example : 1 = 1 ∧ 2 = 2 := by
  w_top off
  walk1 <;> rfl
section
set_option maxRecDepth 100000
open PySem PySem.W PyProof.Rows PySem.Calls Builtin Builtin.ObjectAttr Builtin.Getset_descriptor
namespace Mine
set_option Elab.async false
section
variable {w : World} {A : Around} {s : Shared} {h₀ : Heap} {L : Addr} {m : Str → Option Value} {news news' : List (Addr × Obj)} {R : Result → Shared → Prop} {E : Value → Shared → Prop}
theorem acc_method {a dx : Addr} {vs : Array Value} {n : Nat} {es : List DictEntry} {k : Nat} {f : Value} {tf : String} {name : Str} {pl : Sem Bool} {Q : Value × List Value → Shared → Prop} (X₀ : (hd.heap_39 w.params).In h₀) (F : Fr h₀ L s.heap m) (N : News h₀ L s.heap news)
    (h1 : (a, accObj vs n dx) ∈ news) (h2 : (dx, dictOf es k) ∈ news) (hf : findIn (hd.heap_39 w.params) (.ref 167) name = some (some f)) (ht : typeIn (hd.heap_39 w.params) f = some (.type tf)) (htf : (Value.type tf != .type "function" && Value.type tf != .type "method_descriptor" && Value.type tf != .type "wrapper_descriptor") = false)
    (hl : getL name es = some none) (h : Q (f, [.ref a]) s) : wpAny (mdl w) A (getMethod (.ref a) name pl) Q E s := by
  have X := X₀.keeps F.keep
  have I := accInst N h1 h2
  have hga : findIn (hd.heap_39 w.params) (.ref 167) "__getattribute__" = some (some (.builtin "list.__getattribute__")) := by kernel_rfl
  have hk : findIn (hd.heap_39 w.params) (.ref 167) "__getattr__" = some none := by kernel_rfl
  have hcan : (Manifest.canonical "list.__getattribute__" != "object.__getattribute__") = false := by decide +kernel
  unfold getMethod specialOf
  refine wpAny_bind (wpAny_bind (I.type.here ((looks_findIn X hga).here ?_)))
  dsimp only
  rw [hcan, if_neg (by decide)]
  refine wpAny_bind (wpAny_bind (I.type.here ((looks_findIn X hk).here ?_)))
  refine wpAny_bind (wpAny_bind (I.type.here ((looks_findIn X hf).here (wpAny_bind ((looks_typeIn X ht).here ?_)))))
  rw [htf, if_neg (by decide)]
  refine wpAny_bind (wpAny_loadPart I.at_ ?_)
  have hd := (N _ h2).1
  refine wpAny_bind (wpAny_bind (wpAny_loadPart hd ?_))
  rw [nsLook_of (show lookIn name (dictOf es k) = some none by rw [lookIn_dict, hl])]
  exact wpAny_pure (wpAny_bind (wpAny_rule (wpAny_pure h)))
theorem acc_set {a dx : Addr} {vs : Array Value} {n : Nat} {tv : Tok} {i : Int} {name : Str} {es es' : List DictEntry} {k k' : Nat} {Q : Unit → Shared → Prop} (X₀ : (hd.heap_39 w.params).In h₀) (F : Fr h₀ L s.heap m) (N : News h₀ L s.heap news)
    (h1 : (a, accObj vs n dx) ∈ news) (U : Upd dx (dictOf es k) (dictOf es' k') news news') (hn : findIn (hd.heap_39 w.params) (.ref 167) name = some none)
    (hl : (getL name es).isSome = true) (e : (putL name (PyData.keyHash w.params name) (.str name (s.toks + 1)) (.int i tv) es, putN name es k) = (es', k')) (hz : es'.length ≤ 1000)
    (h : ∀ h', Fr h₀ L h' m → News h₀ L h' news' → Q () { s with heap := h', toks := s.toks + 2 }) : wpAny (mdl w) A (setAttr (.ref a) name (.int i tv)) Q E s := by
  have U' := U
  obtain ⟨pre, post, rfl, rfl, a1, b1⟩ := U'.split
  obtain ⟨e1, e2⟩ := Prod.mk.inj e
  refine set_plain (X₀.keeps F.keep) (accInst N h1 (show (dx, dictOf es k) ∈ _ by simp)) (by kernel_rfl) ?_
  exact acc_osa (s := { s with toks := s.toks + 1 }) X₀ F N a1 b1 h1 hn (by rw [lookIn_dict]; exact hl) (by rw [putName_dict, e1, e2]) rfl hz fun h' F' N' => h h' F' N'
theorem super_pop {so a dx : Addr} {vs : Array Value} {n : Nat} {pl : Sem Bool} {Q : Value × List Value → Shared → Prop} (X₀ : (hd.heap_39 w.params).In h₀) (F : Fr h₀ L s.heap m) (N : News h₀ L s.heap news)
    (hm : (so, ks_superObj 167 a 167) ∈ news) (hma : (a, accObj vs n dx) ∈ news)
    (hq : ∀ q h', Fr h₀ L h' m → News h₀ L h' ((q, { cls := .type "builtin_function_or_method", data := .fields #[.builtin "list.pop", .ref a] }) :: news) → (∀ p ∈ news, @LT.lt Nat _ p.1 q) → Q (.ref q, []) { s with heap := h', toks := s.toks + 1 }) :
    wpAny (mdl w) A (getMethod (.ref so) (Str.ofString "pop") pl) Q E s :=
  super_method X₀ F N hm hma slot_md_get (entryFor_of_tree (by kernel_rfl)) (by unfold argsOk; kernel_rfl) (by kernel_rfl) (by kernel_rfl) (by decide +kernel)
    (fun hq' => md_run (acc_list (X₀.keeps F.keep) (N _ hma).1) hq') hq
theorem super_len {so a dx : Addr} {vs : Array Value} {n : Nat} {pl : Sem Bool} {Q : Value × List Value → Shared → Prop} (X₀ : (hd.heap_39 w.params).In h₀) (F : Fr h₀ L s.heap m) (N : News h₀ L s.heap news)
    (hm : (so, ks_superObj 167 a 167) ∈ news) (hma : (a, accObj vs n dx) ∈ news)
    (hq : ∀ q h', Fr h₀ L h' m → News h₀ L h' ((q, { cls := .type "method-wrapper", data := .fields #[.builtin "list.__len__", .ref a] }) :: news) → (∀ p ∈ news, @LT.lt Nat _ p.1 q) → Q (.ref q, []) { s with heap := h', toks := s.toks + 1 }) :
    wpAny (mdl w) A (getMethod (.ref so) (Str.ofString "__len__") pl) Q E s :=
  super_method X₀ F N hm hma slot_wd_get (entryFor_of_tree (by kernel_rfl)) (by unfold argsOk; kernel_rfl) (by kernel_rfl) (by kernel_rfl) (by decide +kernel)
    (fun hq' => wd_run (by decide +kernel) (acc_list (X₀.keeps F.keep) (N _ hma).1) hq') hq
theorem super_init {so a dx : Addr} {vs : Array Value} {n : Nat} {pl : Sem Bool} {Q : Value × List Value → Shared → Prop} (X₀ : (hd.heap_39 w.params).In h₀) (F : Fr h₀ L s.heap m) (N : News h₀ L s.heap news)
    (hm : (so, ks_superObj 167 a 167) ∈ news) (hma : (a, accObj vs n dx) ∈ news)
    (hq : ∀ q h', Fr h₀ L h' m → News h₀ L h' ((q, { cls := .type "method-wrapper", data := .fields #[.builtin "list.__init__", .ref a] }) :: news) → (∀ p ∈ news, @LT.lt Nat _ p.1 q) → Q (.ref q, []) { s with heap := h', toks := s.toks + 1 }) :
    wpAny (mdl w) A (getMethod (.ref so) (Str.ofString "__init__") pl) Q E s :=
  super_method X₀ F N hm hma slot_wd_get (entryFor_of_tree (by kernel_rfl)) (by unfold argsOk; kernel_rfl) (by kernel_rfl) (by kernel_rfl) (by decide +kernel)
    (fun hq' => wd_run (by decide +kernel) (acc_list (X₀.keeps F.keep) (N _ hma).1) hq') hq
theorem callWith_b0 {M : Model} {pos : Pos} {u a : Addr} {id bt : String} {env : Env} {Q : Value → Shared → Prop} (N : News h₀ L s.heap news) (hm : (u, ({ cls := .type bt, data := .fields #[.builtin id, .ref a] } : Obj)) ∈ news)
    (hb : (Value.type bt == .type "builtin_function_or_method" || Value.type bt == .type "method-wrapper") = true) (hb2 : (Value.type bt != .type "method") = true)
    (h : wpAny M A (call (.ref u) []) Q E s) : wpAny M A (callWith pos (.ref u) [] (backTo pos (starEach [] env)) []) Q E s := by
  show wpAny M A (callWith pos (.ref u) [] [] []) Q E s
  unfold callWith
  refine wpAny_bind (wpAny_holding (evalArgs_nil3 (wpAny_bind (wpAny_standAt ?_))))
  refine wpAny_bind (m := keeperOf (.ref u)) ?_
  unfold keeperOf
  refine wpAny_bind (wpAny_load (N _ hm).1 ?_)
  simp only [hb, hb2, if_true]
  refine wpAny_pure ?_
  exact wpAny_bind (wpAny_mono h (fun r s₂ hr => wpAny_bind (wpAny_holding (wpAny_point (wpAny_pure hr)))) fun _ _ x => x)
end
end Mine
end

example : 1 = 1 ∧ 2 = 2 := by
  w_top off
  walk1 <;> rfl
section
set_option maxRecDepth 100000
open PySem PySem.W PyProof.Rows PySem.Calls
namespace Mine
set_option Elab.async false
variable {w : World} {A₀ A : Around} {s : Shared} {base h₀ : Heap} {outer : List Env} {L : Addr} {m mg mb : Str → Option Value} {env : Env} {news news' : List (Addr × Obj)} {mean : ExcName → Option Value} {Q : Value → Shared → Prop} {E : Value → Shared → Prop}
local macro_rules | `(tactic| k_mem) => `(tactic| assumption)
local macro_rules | `(tactic| k_mem) => `(tactic| (refine List.Mem.tail _ ?_; assumption))
local macro_rules | `(tactic| k_mem) => `(tactic| (refine List.Mem.tail _ (List.Mem.tail _ ?_); assumption))
local macro_rules | `(tactic| k_room) => `(tactic| ((try simp only [depth_under_make, depth_under_kw, depth_in1, depth_deeper, depth_caller]); exact Nat.lt_of_le_of_lt (by assumption) (by decide)))
local macro_rules | `(tactic| k_room) => `(tactic| ((try simp only [depth_under_make, depth_under_kw, depth_in1, depth_deeper, depth_caller]); exact Nat.lt_of_lt_of_le (show _ < 995 by omega) (by decide)))
local macro_rules | `(tactic| k_units) => `(tactic| (show _ < _; refine Nat.lt_of_le_of_lt (by assumption) ?_; decide))
local macro_rules | `(tactic| k_all) => `(tactic| first | assumption | exact offN (by assumption) (by omega))
local macro_rules | `(tactic| k_inst) => `(tactic| exact accInst (by k_asm) (by k_mem) (by k_mem))
set_option maxHeartbeats 8000000 in
theorem c_new (B : Below A₀ base outer h₀) (F : Fr h₀ L s.heap m) (X₀ : (hd.heap_39 w.params).In h₀) (N : News h₀ L s.heap news)
    (T : Top hd.view_39 lo mean mg mb h₀) (hh : A.handled = none) (hA : A.frames = some (env :: outer)) (hf : env.frame = some L) (hke : env.scope.kind = .function) (hdp : A.depth ≤ 900) (hu : A.units ≤ 5000)
    (hR : ∀ x dx t0 t1 h' tk, Fr h₀ L h' m → News h₀ L h' ((x, accObj #[] 0 dx) :: (dx, accD w.params t0 t1) :: news) → (∀ p ∈ news, @LT.lt Nat _ p.1 dx) → @LT.lt Nat _ dx x →
      Q (.ref x) { s with heap := h', toks := tk }) :
    wpAny (model PySem.Challenge.rw_wr0016_01.row.prog w) A (call (.ref 167) []) Q E s := by
  revert X₀; k_fill; intro X₀
  obtain ⟨_, d, _, gd, u⟩ := A
  dsimp only at hh hA hdp hu
  subst hh hA
  refine wpAny_call ?_
  refine make_acc F N X₀ ?_
  intro x' d' h' F' N' l1 l2
  have l1s := l1
  replace N' : News h₀ L h' ((x', accObj #[] 0 d') :: (d', dictOf [] 0) :: news) := N'
  (try k_lt l1); (try k_lt2 l2)
  clear F N
  rename Fr _ _ _ _ => F
  (k_dflt (refine' ks_code_super (binds := [(Str.ofString "self", .ref x'), (Str.ofString "initial_size", .int 0 418)]) ?k1 ?k2 ?k3 ?k4 ?k5 ?kA ?kF ?kK ?k6 ?k7 ?k8 ?k9 ?kB ?_ ?c1 ?c2 ?c3 ?c4; (case kA => exact rfl); (case kF => first | exact rfl | assumption); (case kK => first | exact rfl | assumption); (case k1 => k_asm); (case k2 => k_asm); (case k3 => k_asm); (case k4 => k_asm); (case k5 => k_asm); (case k6 => k_is); (case k7 => k_is); (case k8 => k_room); (case k9 => first | exact BindsTo.of_eq rfl | exact binds_K (by k_in) rfl (by k_is) rfl rfl rfl); (case kB => exact locs rfl); (case c1 => decide); (case c2 => exact rfl); (case c3 => exact rfl); (case c4 => exact rfl)); intro g' L' h' FG' F' N' B' X' T' l1; (try k_lt l1); (try dsimp only); (try k_lift B'); (try k_fold))
  repeat' (((first | ((first | (ks_step "execs cons"; refine ks_wpAt_execs_cons ?_) | (ks_step "exec Expr"; refine ks_wpAt_Expr_any ?_) | (ks_step "exec Return"; refine ks_wpAt_Return_some ?_) | (ks_step "eval Call"; refine ks_wpAt_MethodCall ?_) | (ks_step "attributeBase Call"; refine' ks_node ?a1 ?a2 ?a3 ?a4 ?a5 ?a6 ?a7 ?a8 ?a9 ?b1 ?b2 ?b3 ?b4 ?b5 ?b6 ?b7 ?b8 ?b9 ?c1 ?c2 ?c3 ?c4 ?_; (case a1 => k_asm); (case a2 => k_asm); (case a3 => k_asm); (case a4 => k_asm); (case a5 => k_is); (case a6 => rfl); (case a7 => rfl); (case a8 => k_inst); (case a9 => k_is); (case b1 => rfl); (case b2 => first | rfl | decide +kernel); (case b3 => k_is); (case b4 => k_is); (case b5 => k_is); (case b6 => k_is); (case b7 => decide); (case b8 => rfl); (case b9 => rfl); (case c1 => rfl); (case c2 => rfl); (case c3 => decide +kernel); (case c4 => first | boot_by_name | rfl | kernel_rfl); intro so' h' F' N' l1; (try k_lt l1)))) | (dsimp only; ((first | (ks_step "execs cons"; refine ks_wpAt_execs_cons ?_) | (ks_step "exec Expr"; refine ks_wpAt_Expr_any ?_) | (ks_step "exec Return"; refine ks_wpAt_Return_some ?_) | (ks_step "eval Call"; refine ks_wpAt_MethodCall ?_) | (ks_step "attributeBase Call"; refine' ks_node ?a1 ?a2 ?a3 ?a4 ?a5 ?a6 ?a7 ?a8 ?a9 ?b1 ?b2 ?b3 ?b4 ?b5 ?b6 ?b7 ?b8 ?b9 ?c1 ?c2 ?c3 ?c4 ?_; (case a1 => k_asm); (case a2 => k_asm); (case a3 => k_asm); (case a4 => k_asm); (case a5 => k_is); (case a6 => rfl); (case a7 => rfl); (case a8 => k_inst); (case a9 => k_is); (case b1 => rfl); (case b2 => first | rfl | decide +kernel); (case b3 => k_is); (case b4 => k_is); (case b5 => k_is); (case b6 => k_is); (case b7 => decide); (case b8 => rfl); (case b9 => rfl); (case c1 => rfl); (case c2 => rfl); (case c3 => decide +kernel); (case c4 => first | boot_by_name | rfl | kernel_rfl); intro so' h' F' N' l1; (try k_lt l1))))) | (k_unfold; (try dsimp only)) | (first | (with_reducible ((with_reducible show wpAny _ _ (callWith _ _ _ _ _) _ _ _); ((k_here; k_dflt (refine' callWith_b0 ?k1 ?k2 ?k3 ?k4 ?_; (case k1 => k_asm); (case k2 => k_mem); (case k3 => decide +kernel); (case k4 => decide +kernel)))))) | (with_reducible ((with_reducible show wpAny _ _ (call (Value.ref _) _) _ _ _); ((k_here; k_dflt (first | (refine' bound_init ?k2 ?k3 ?k4 ?k5 ?_; (case k2 => k_asm); (case k3 => k_asm); (case k4 => k_mem); (case k5 => k_upd); k_whole; intro h' F' N'; (try k_sweep)) | (refine' bound_len ?k3 ?k4 ?k5 ?_; (case k3 => k_asm); (case k4 => k_mem); (case k5 => k_mem); k_whole; intro _) | (refine' bound_pop ?k2 ?k3 ?k4 ?k5 ?k6 ?k7 ?_; (case k2 => k_asm); (case k3 => k_asm); (case k4 => k_asm); (case k5 => k_mem); (case k6 => k_upd); (case k7 => omega); k_whole; intro _ _ _; (try k_sweep); (try dsimp only))))))) | (with_reducible ((with_reducible show wpAny _ _ (getMethod (Value.ref _) _ _) _ _ _); ((k_here; k_dflt (first | (refine' super_init ?k1 ?k2 ?k3 ?k4 ?k5 ?_; (case k1 => k_asm); (case k2 => k_asm); (case k3 => k_asm); (case k4 => k_mem); (case k5 => k_mem); intro q' h' F' N' l1; (try k_lt l1)) | (refine' super_len ?k1 ?k2 ?k3 ?k4 ?k5 ?_; (case k1 => k_asm); (case k2 => k_asm); (case k3 => k_asm); (case k4 => k_mem); (case k5 => k_mem); intro q' h' F' N' l1; (try k_lt l1)) | (refine' super_pop ?k1 ?k2 ?k3 ?k4 ?k5 ?_; (case k1 => k_asm); (case k2 => k_asm); (case k3 => k_asm); (case k4 => k_mem); (case k5 => k_mem); intro _ _ _ _ l1; (try k_lt l1)) | (refine' acc_method ?k1 ?k2 ?k3 ?k4 ?k5 ?k6 ?k7 ?k8 ?k9 ?_; (case k1 => k_asm); (case k2 => k_asm); (case k3 => k_asm); (case k4 => k_mem); (case k5 => k_mem); (case k6 => k_is); (case k7 => k_is); (case k8 => exact rfl); (case k9 => k_get); k_whole)))))) | (with_reducible ((with_reducible show wpAny _ _ (setAttr (Value.ref _) _ _) _ _ _); ((k_here; k_dflt (refine' acc_set ?k1 ?k2 ?k3 ?k4 ?k5 ?k6 ?k7 ?k8 ?k9 ?_; (case k1 => k_asm); (case k2 => k_asm); (case k3 => k_asm); (case k4 => k_mem); (case k5 => k_upd); (case k6 => k_is); (case k7 => k_get); (case k8 => k_put); (case k9 => exact Nat.le_of_ble_eq_true rfl); k_whole; intro _ _ _; (try k_sweep); (try dsimp only)))))) | walk1) | (dsimp only; (first | (with_reducible ((with_reducible show wpAny _ _ (callWith _ _ _ _ _) _ _ _); ((k_here; k_dflt (refine' callWith_b0 ?k1 ?k2 ?k3 ?k4 ?_; (case k1 => k_asm); (case k2 => k_mem); (case k3 => decide +kernel); (case k4 => decide +kernel)))))) | (with_reducible ((with_reducible show wpAny _ _ (call (Value.ref _) _) _ _ _); ((k_here; k_dflt (first | (refine' bound_init ?k2 ?k3 ?k4 ?k5 ?_; (case k2 => k_asm); (case k3 => k_asm); (case k4 => k_mem); (case k5 => k_upd); k_whole; intro h' F' N'; (try k_sweep)) | (refine' bound_len ?k3 ?k4 ?k5 ?_; (case k3 => k_asm); (case k4 => k_mem); (case k5 => k_mem); k_whole; intro _) | (refine' bound_pop ?k2 ?k3 ?k4 ?k5 ?k6 ?k7 ?_; (case k2 => k_asm); (case k3 => k_asm); (case k4 => k_asm); (case k5 => k_mem); (case k6 => k_upd); (case k7 => omega); k_whole; intro _ _ _; (try k_sweep); (try dsimp only))))))) | (with_reducible ((with_reducible show wpAny _ _ (getMethod (Value.ref _) _ _) _ _ _); ((k_here; k_dflt (first | (refine' super_init ?k1 ?k2 ?k3 ?k4 ?k5 ?_; (case k1 => k_asm); (case k2 => k_asm); (case k3 => k_asm); (case k4 => k_mem); (case k5 => k_mem); intro q' h' F' N' l1; (try k_lt l1)) | (refine' super_len ?k1 ?k2 ?k3 ?k4 ?k5 ?_; (case k1 => k_asm); (case k2 => k_asm); (case k3 => k_asm); (case k4 => k_mem); (case k5 => k_mem); intro q' h' F' N' l1; (try k_lt l1)) | (refine' super_pop ?k1 ?k2 ?k3 ?k4 ?k5 ?_; (case k1 => k_asm); (case k2 => k_asm); (case k3 => k_asm); (case k4 => k_mem); (case k5 => k_mem); intro _ _ _ _ l1; (try k_lt l1)) | (refine' acc_method ?k1 ?k2 ?k3 ?k4 ?k5 ?k6 ?k7 ?k8 ?k9 ?_; (case k1 => k_asm); (case k2 => k_asm); (case k3 => k_asm); (case k4 => k_mem); (case k5 => k_mem); (case k6 => k_is); (case k7 => k_is); (case k8 => exact rfl); (case k9 => k_get); k_whole)))))) | (with_reducible ((with_reducible show wpAny _ _ (setAttr (Value.ref _) _ _) _ _ _); ((k_here; k_dflt (refine' acc_set ?k1 ?k2 ?k3 ?k4 ?k5 ?k6 ?k7 ?k8 ?k9 ?_; (case k1 => k_asm); (case k2 => k_asm); (case k3 => k_asm); (case k4 => k_mem); (case k5 => k_upd); (case k6 => k_is); (case k7 => k_get); (case k8 => k_put); (case k9 => exact Nat.le_of_ble_eq_true rfl); k_whole; intro _ _ _; (try k_sweep); (try dsimp only)))))) | walk1)))))
  rename Fr h₀ _ _ _ => F3
  rename News h₀ _ _ _ => N3
  exact hR x' d' _ _ _ _ F3 (kst_newsOf N3 fun p hp => .tail _ (.tail _ hp)) l1s l2
theorem of_allLt {d : Nat} : ∀ {l : List (Addr × Obj)}, AllLt d l → ∀ p ∈ l, @LT.lt Nat _ p.1 d
  | [], _, _, h => nomatch h
  | q :: r, h, p, hp => by
    rcases List.mem_cons.mp hp with rfl | hp
    · exact h.1
    · exact of_allLt h.2 p hp
noncomputable abbrev tup2 (x y : Str) (ta tb : Tok) : Obj := { cls := .type "tuple", data := .seq #[.str x ta, .str y tb] }
set_option maxHeartbeats 8000000 in
theorem c_push {a dx : Addr} {vs : List Value} {n : Nat} {t0 t1 ta tb : Tok} {x y : Str} (B : Below A₀ base outer h₀) (F : Fr h₀ L s.heap m) (X₀ : (hd.heap_39 w.params).In h₀) (N : News h₀ L s.heap ((a, accObj vs.toArray n dx) :: news))
    (T : Top hd.view_39 lo mean mg mb h₀) (hh : A.handled = none) (hA : A.frames = some (env :: outer)) (hf : env.frame = some L) (hke : env.scope.kind = .function) (hdp : A.depth ≤ 900) (hu : A.units ≤ 5000)
    (hmd : (dx, accD w.params t0 t1) ∈ news) (hap : ∀ p ∈ news, p.1 ≠ a) (hz : vs.length ≤ 1000)
    (hR : ∀ t h' tk, Fr h₀ L h' m → News h₀ L h' ((t, tup2 x y ta tb) :: (a, accObj (vs ++ [Value.ref t]).toArray (n + 1) dx) :: news) → @LT.lt Nat _ a t → (∀ p ∈ news, @LT.lt Nat _ p.1 t) → Q .none { s with heap := h', toks := tk }) :
    wpAny (model PySem.Challenge.rw_wr0016_01.row.prog w) A (call (.ref 111) [.ref a, .str x ta, .str y tb]) Q E s := by
  revert X₀; k_fill; intro X₀
  obtain ⟨_, d, _, gd, u⟩ := A
  dsimp only at hh hA hdp hu
  subst hh hA
  refine wpAny_call ?_
  ((k_dflt (refine' code_def ?k1 ?k2 ?k3 ?k4 ?k5 ?kA ?kF ?kK ?k6 ?k7 ?k8 ?k9 ?kB ?_ ?c2 ?c3 ?c4 ?c5; (case kA => exact rfl); (case kF => first | exact rfl | assumption); (case kK => first | exact rfl | assumption); (case k1 => k_asm); (case k2 => k_asm); (case k3 => k_asm); (case k4 => k_asm); (case k5 => k_asm); (case k6 => k_is); (case k7 => k_is); (case k8 => k_room); (case k9 => first | exact BindsTo.of_eq rfl | exact binds_K (by k_in) rfl (by k_is) rfl rfl rfl); (case c5 => decide); (case kB => exact locs rfl); (case c2 => exact rfl); (case c3 => exact rfl); (case c4 => exact rfl)); intro g' L' h' FG' F' N' B' X' T'; (try dsimp only); (try k_lift B'); (try k_fold)))
  repeat' (((first | ((first | (ks_step "execs cons"; refine ks_wpAt_execs_cons ?_) | (ks_step "exec Expr"; refine ks_wpAt_Expr_any ?_) | (ks_step "exec Return"; refine ks_wpAt_Return_some ?_) | (ks_step "eval Call"; refine ks_wpAt_MethodCall ?_) | (ks_step "attributeBase Call"; refine' ks_node ?a1 ?a2 ?a3 ?a4 ?a5 ?a6 ?a7 ?a8 ?a9 ?b1 ?b2 ?b3 ?b4 ?b5 ?b6 ?b7 ?b8 ?b9 ?c1 ?c2 ?c3 ?c4 ?_; (case a1 => k_asm); (case a2 => k_asm); (case a3 => k_asm); (case a4 => k_asm); (case a5 => k_is); (case a6 => rfl); (case a7 => rfl); (case a8 => k_inst); (case a9 => k_is); (case b1 => rfl); (case b2 => first | rfl | decide +kernel); (case b3 => k_is); (case b4 => k_is); (case b5 => k_is); (case b6 => k_is); (case b7 => decide); (case b8 => rfl); (case b9 => rfl); (case c1 => rfl); (case c2 => rfl); (case c3 => decide +kernel); (case c4 => first | boot_by_name | rfl | kernel_rfl); intro so' h' F' N' l1; (try k_lt l1)))) | (dsimp only; ((first | (ks_step "execs cons"; refine ks_wpAt_execs_cons ?_) | (ks_step "exec Expr"; refine ks_wpAt_Expr_any ?_) | (ks_step "exec Return"; refine ks_wpAt_Return_some ?_) | (ks_step "eval Call"; refine ks_wpAt_MethodCall ?_) | (ks_step "attributeBase Call"; refine' ks_node ?a1 ?a2 ?a3 ?a4 ?a5 ?a6 ?a7 ?a8 ?a9 ?b1 ?b2 ?b3 ?b4 ?b5 ?b6 ?b7 ?b8 ?b9 ?c1 ?c2 ?c3 ?c4 ?_; (case a1 => k_asm); (case a2 => k_asm); (case a3 => k_asm); (case a4 => k_asm); (case a5 => k_is); (case a6 => rfl); (case a7 => rfl); (case a8 => k_inst); (case a9 => k_is); (case b1 => rfl); (case b2 => first | rfl | decide +kernel); (case b3 => k_is); (case b4 => k_is); (case b5 => k_is); (case b6 => k_is); (case b7 => decide); (case b8 => rfl); (case b9 => rfl); (case c1 => rfl); (case c2 => rfl); (case c3 => decide +kernel); (case c4 => first | boot_by_name | rfl | kernel_rfl); intro so' h' F' N' l1; (try k_lt l1))))) | (k_unfold; (try dsimp only)) | (first | (with_reducible ((with_reducible show wpAny _ _ (call (Value.builtin "list.append") _) _ _ _); ((k_here; k_dflt (refine' acc_append ?k1 ?k2 ?k3 ?k4 ?k5 ?_; (case k1 => k_asm); (case k2 => k_asm); (case k3 => k_asm); (case k4 => k_upd); (case k5 => omega); k_whole; intro _ _ _; (try k_sweep); (try dsimp only)))))) | (with_reducible ((with_reducible show wpAny _ _ (callWith _ _ _ _ _) _ _ _); ((k_here; k_dflt (refine' callWith_b0 ?k1 ?k2 ?k3 ?k4 ?_; (case k1 => k_asm); (case k2 => k_mem); (case k3 => decide +kernel); (case k4 => decide +kernel)))))) | (with_reducible ((with_reducible show wpAny _ _ (call (Value.ref _) _) _ _ _); ((k_here; k_dflt (first | (refine' bound_init ?k2 ?k3 ?k4 ?k5 ?_; (case k2 => k_asm); (case k3 => k_asm); (case k4 => k_mem); (case k5 => k_upd); k_whole; intro h' F' N'; (try k_sweep)) | (refine' bound_len ?k3 ?k4 ?k5 ?_; (case k3 => k_asm); (case k4 => k_mem); (case k5 => k_mem); k_whole; intro _) | (refine' bound_pop ?k2 ?k3 ?k4 ?k5 ?k6 ?k7 ?_; (case k2 => k_asm); (case k3 => k_asm); (case k4 => k_asm); (case k5 => k_mem); (case k6 => k_upd); (case k7 => omega); k_whole; intro _ _ _; (try k_sweep); (try dsimp only))))))) | (with_reducible ((with_reducible show wpAny _ _ (getMethod (Value.ref _) _ _) _ _ _); ((k_here; k_dflt (first | (refine' super_init ?k1 ?k2 ?k3 ?k4 ?k5 ?_; (case k1 => k_asm); (case k2 => k_asm); (case k3 => k_asm); (case k4 => k_mem); (case k5 => k_mem); intro q' h' F' N' l1; (try k_lt l1)) | (refine' super_len ?k1 ?k2 ?k3 ?k4 ?k5 ?_; (case k1 => k_asm); (case k2 => k_asm); (case k3 => k_asm); (case k4 => k_mem); (case k5 => k_mem); intro q' h' F' N' l1; (try k_lt l1)) | (refine' super_pop ?k1 ?k2 ?k3 ?k4 ?k5 ?_; (case k1 => k_asm); (case k2 => k_asm); (case k3 => k_asm); (case k4 => k_mem); (case k5 => k_mem); intro _ _ _ _ l1; (try k_lt l1)) | (refine' acc_method ?k1 ?k2 ?k3 ?k4 ?k5 ?k6 ?k7 ?k8 ?k9 ?_; (case k1 => k_asm); (case k2 => k_asm); (case k3 => k_asm); (case k4 => k_mem); (case k5 => k_mem); (case k6 => k_is); (case k7 => k_is); (case k8 => exact rfl); (case k9 => k_get); k_whole)))))) | (with_reducible ((with_reducible show wpAny _ _ (setAttr (Value.ref _) _ _) _ _ _); ((k_here; k_dflt (refine' acc_set ?k1 ?k2 ?k3 ?k4 ?k5 ?k6 ?k7 ?k8 ?k9 ?_; (case k1 => k_asm); (case k2 => k_asm); (case k3 => k_asm); (case k4 => k_mem); (case k5 => k_upd); (case k6 => k_is); (case k7 => k_get); (case k8 => k_put); (case k9 => exact Nat.le_of_ble_eq_true rfl); k_whole; intro _ _ _; (try k_sweep); (try dsimp only)))))) | walk1) | (dsimp only; (first | (with_reducible ((with_reducible show wpAny _ _ (call (Value.builtin "list.append") _) _ _ _); ((k_here; k_dflt (refine' acc_append ?k1 ?k2 ?k3 ?k4 ?k5 ?_; (case k1 => k_asm); (case k2 => k_asm); (case k3 => k_asm); (case k4 => k_upd); (case k5 => omega); k_whole; intro _ _ _; (try k_sweep); (try dsimp only)))))) | (with_reducible ((with_reducible show wpAny _ _ (callWith _ _ _ _ _) _ _ _); ((k_here; k_dflt (refine' callWith_b0 ?k1 ?k2 ?k3 ?k4 ?_; (case k1 => k_asm); (case k2 => k_mem); (case k3 => decide +kernel); (case k4 => decide +kernel)))))) | (with_reducible ((with_reducible show wpAny _ _ (call (Value.ref _) _) _ _ _); ((k_here; k_dflt (first | (refine' bound_init ?k2 ?k3 ?k4 ?k5 ?_; (case k2 => k_asm); (case k3 => k_asm); (case k4 => k_mem); (case k5 => k_upd); k_whole; intro h' F' N'; (try k_sweep)) | (refine' bound_len ?k3 ?k4 ?k5 ?_; (case k3 => k_asm); (case k4 => k_mem); (case k5 => k_mem); k_whole; intro _) | (refine' bound_pop ?k2 ?k3 ?k4 ?k5 ?k6 ?k7 ?_; (case k2 => k_asm); (case k3 => k_asm); (case k4 => k_asm); (case k5 => k_mem); (case k6 => k_upd); (case k7 => omega); k_whole; intro _ _ _; (try k_sweep); (try dsimp only))))))) | (with_reducible ((with_reducible show wpAny _ _ (getMethod (Value.ref _) _ _) _ _ _); ((k_here; k_dflt (first | (refine' super_init ?k1 ?k2 ?k3 ?k4 ?k5 ?_; (case k1 => k_asm); (case k2 => k_asm); (case k3 => k_asm); (case k4 => k_mem); (case k5 => k_mem); intro q' h' F' N' l1; (try k_lt l1)) | (refine' super_len ?k1 ?k2 ?k3 ?k4 ?k5 ?_; (case k1 => k_asm); (case k2 => k_asm); (case k3 => k_asm); (case k4 => k_mem); (case k5 => k_mem); intro q' h' F' N' l1; (try k_lt l1)) | (refine' super_pop ?k1 ?k2 ?k3 ?k4 ?k5 ?_; (case k1 => k_asm); (case k2 => k_asm); (case k3 => k_asm); (case k4 => k_mem); (case k5 => k_mem); intro _ _ _ _ l1; (try k_lt l1)) | (refine' acc_method ?k1 ?k2 ?k3 ?k4 ?k5 ?k6 ?k7 ?k8 ?k9 ?_; (case k1 => k_asm); (case k2 => k_asm); (case k3 => k_asm); (case k4 => k_mem); (case k5 => k_mem); (case k6 => k_is); (case k7 => k_is); (case k8 => exact rfl); (case k9 => k_get); k_whole)))))) | (with_reducible ((with_reducible show wpAny _ _ (setAttr (Value.ref _) _ _) _ _ _); ((k_here; k_dflt (refine' acc_set ?k1 ?k2 ?k3 ?k4 ?k5 ?k6 ?k7 ?k8 ?k9 ?_; (case k1 => k_asm); (case k2 => k_asm); (case k3 => k_asm); (case k4 => k_mem); (case k5 => k_upd); (case k6 => k_is); (case k7 => k_get); (case k8 => k_put); (case k9 => exact Nat.le_of_ble_eq_true rfl); k_whole; intro _ _ _; (try k_sweep); (try dsimp only)))))) | walk1)))))
  rename Fr h₀ _ _ _ => F3
  rename News h₀ _ _ _ => N3
  rename (@LT.lt Nat _ _ _ ∧ AllLt _ _) => l1
  exact hR _ _ _ F3 N3 l1.1 (of_allLt l1.2)
set_option maxHeartbeats 8000000 in
theorem c_count {a dx : Addr} {vs : List Value} {n : Nat} {t0 t1 : Tok} (B : Below A₀ base outer h₀) (F : Fr h₀ L s.heap m) (X₀ : (hd.heap_39 w.params).In h₀) (N : News h₀ L s.heap news)
    (T : Top hd.view_39 lo mean mg mb h₀) (hh : A.handled = none) (hA : A.frames = some (env :: outer)) (hf : env.frame = some L) (hke : env.scope.kind = .function) (hdp : A.depth ≤ 901)
    (hma : (a, accObj vs.toArray n dx) ∈ news) (hmd : (dx, accD w.params t0 t1) ∈ news) (hz : vs.length ≤ 1000)
    (hR : ∀ h' t tk, Fr h₀ L h' m → News h₀ L h' news → Q (.int vs.length t) { s with heap := h', toks := tk }) :
    wpAny (model PySem.Challenge.rw_wr0016_01.row.prog w) A (call (.ref 164) [.ref a]) Q E s := by
  revert X₀; k_fill; intro X₀
  obtain ⟨_, d, _, gd, u⟩ := A
  dsimp only at hh hA hdp
  subst hh hA
  refine wpAny_call ?_
  (k_dflt (refine' ks_code_super (binds := [(Str.ofString "self", .ref a)]) ?k1 ?k2 ?k3 ?k4 ?k5 ?kA ?kF ?kK ?k6 ?k7 ?k8 ?k9 ?kB ?_ ?c1 ?c2 ?c3 ?c4; (case kA => exact rfl); (case kF => first | exact rfl | assumption); (case kK => first | exact rfl | assumption); (case k1 => k_asm); (case k2 => k_asm); (case k3 => k_asm); (case k4 => k_asm); (case k5 => k_asm); (case k6 => k_is); (case k7 => k_is); (case k8 => k_room); (case k9 => first | exact BindsTo.of_eq rfl | exact binds_K (by k_in) rfl (by k_is) rfl rfl rfl); (case kB => exact locs rfl); (case c1 => decide); (case c2 => exact rfl); (case c3 => exact rfl); (case c4 => exact rfl)); intro g' L' h' FG' F' N' B' X' T' l1; (try k_lt l1); (try dsimp only); (try k_lift B'); (try k_fold))
  repeat' (((first | ((first | (ks_step "execs cons"; refine ks_wpAt_execs_cons ?_) | (ks_step "exec Expr"; refine ks_wpAt_Expr_any ?_) | (ks_step "exec Return"; refine ks_wpAt_Return_some ?_) | (ks_step "eval Call"; refine ks_wpAt_MethodCall ?_) | (ks_step "attributeBase Call"; refine' ks_node ?a1 ?a2 ?a3 ?a4 ?a5 ?a6 ?a7 ?a8 ?a9 ?b1 ?b2 ?b3 ?b4 ?b5 ?b6 ?b7 ?b8 ?b9 ?c1 ?c2 ?c3 ?c4 ?_; (case a1 => k_asm); (case a2 => k_asm); (case a3 => k_asm); (case a4 => k_asm); (case a5 => k_is); (case a6 => rfl); (case a7 => rfl); (case a8 => k_inst); (case a9 => k_is); (case b1 => rfl); (case b2 => first | rfl | decide +kernel); (case b3 => k_is); (case b4 => k_is); (case b5 => k_is); (case b6 => k_is); (case b7 => decide); (case b8 => rfl); (case b9 => rfl); (case c1 => rfl); (case c2 => rfl); (case c3 => decide +kernel); (case c4 => first | boot_by_name | rfl | kernel_rfl); intro so' h' F' N' l1; (try k_lt l1)))) | (dsimp only; ((first | (ks_step "execs cons"; refine ks_wpAt_execs_cons ?_) | (ks_step "exec Expr"; refine ks_wpAt_Expr_any ?_) | (ks_step "exec Return"; refine ks_wpAt_Return_some ?_) | (ks_step "eval Call"; refine ks_wpAt_MethodCall ?_) | (ks_step "attributeBase Call"; refine' ks_node ?a1 ?a2 ?a3 ?a4 ?a5 ?a6 ?a7 ?a8 ?a9 ?b1 ?b2 ?b3 ?b4 ?b5 ?b6 ?b7 ?b8 ?b9 ?c1 ?c2 ?c3 ?c4 ?_; (case a1 => k_asm); (case a2 => k_asm); (case a3 => k_asm); (case a4 => k_asm); (case a5 => k_is); (case a6 => rfl); (case a7 => rfl); (case a8 => k_inst); (case a9 => k_is); (case b1 => rfl); (case b2 => first | rfl | decide +kernel); (case b3 => k_is); (case b4 => k_is); (case b5 => k_is); (case b6 => k_is); (case b7 => decide); (case b8 => rfl); (case b9 => rfl); (case c1 => rfl); (case c2 => rfl); (case c3 => decide +kernel); (case c4 => first | boot_by_name | rfl | kernel_rfl); intro so' h' F' N' l1; (try k_lt l1))))) | (k_unfold; (try dsimp only)) | (first | (with_reducible ((with_reducible show wpAny _ _ (call (Value.builtin "list.append") _) _ _ _); ((k_here; k_dflt (refine' acc_append ?k1 ?k2 ?k3 ?k4 ?k5 ?_; (case k1 => k_asm); (case k2 => k_asm); (case k3 => k_asm); (case k4 => k_upd); (case k5 => omega); k_whole; intro _ _ _; (try k_sweep); (try dsimp only)))))) | (with_reducible ((with_reducible show wpAny _ _ (callWith _ _ _ _ _) _ _ _); ((k_here; k_dflt (refine' callWith_b0 ?k1 ?k2 ?k3 ?k4 ?_; (case k1 => k_asm); (case k2 => k_mem); (case k3 => decide +kernel); (case k4 => decide +kernel)))))) | (with_reducible ((with_reducible show wpAny _ _ (call (Value.ref _) _) _ _ _); ((k_here; k_dflt (first | (refine' bound_init ?k2 ?k3 ?k4 ?k5 ?_; (case k2 => k_asm); (case k3 => k_asm); (case k4 => k_mem); (case k5 => k_upd); k_whole; intro h' F' N'; (try k_sweep)) | (refine' bound_len ?k3 ?k4 ?k5 ?_; (case k3 => k_asm); (case k4 => k_mem); (case k5 => k_mem); k_whole; intro _) | (refine' bound_pop ?k2 ?k3 ?k4 ?k5 ?k6 ?k7 ?_; (case k2 => k_asm); (case k3 => k_asm); (case k4 => k_asm); (case k5 => k_mem); (case k6 => k_upd); (case k7 => omega); k_whole; intro _ _ _; (try k_sweep); (try dsimp only))))))) | (with_reducible ((with_reducible show wpAny _ _ (getMethod (Value.ref _) _ _) _ _ _); ((k_here; k_dflt (first | (refine' super_init ?k1 ?k2 ?k3 ?k4 ?k5 ?_; (case k1 => k_asm); (case k2 => k_asm); (case k3 => k_asm); (case k4 => k_mem); (case k5 => k_mem); intro q' h' F' N' l1; (try k_lt l1)) | (refine' super_len ?k1 ?k2 ?k3 ?k4 ?k5 ?_; (case k1 => k_asm); (case k2 => k_asm); (case k3 => k_asm); (case k4 => k_mem); (case k5 => k_mem); intro q' h' F' N' l1; (try k_lt l1)) | (refine' super_pop ?k1 ?k2 ?k3 ?k4 ?k5 ?_; (case k1 => k_asm); (case k2 => k_asm); (case k3 => k_asm); (case k4 => k_mem); (case k5 => k_mem); intro _ _ _ _ l1; (try k_lt l1)) | (refine' acc_method ?k1 ?k2 ?k3 ?k4 ?k5 ?k6 ?k7 ?k8 ?k9 ?_; (case k1 => k_asm); (case k2 => k_asm); (case k3 => k_asm); (case k4 => k_mem); (case k5 => k_mem); (case k6 => k_is); (case k7 => k_is); (case k8 => exact rfl); (case k9 => k_get); k_whole)))))) | (with_reducible ((with_reducible show wpAny _ _ (setAttr (Value.ref _) _ _) _ _ _); ((k_here; k_dflt (refine' acc_set ?k1 ?k2 ?k3 ?k4 ?k5 ?k6 ?k7 ?k8 ?k9 ?_; (case k1 => k_asm); (case k2 => k_asm); (case k3 => k_asm); (case k4 => k_mem); (case k5 => k_upd); (case k6 => k_is); (case k7 => k_get); (case k8 => k_put); (case k9 => exact Nat.le_of_ble_eq_true rfl); k_whole; intro _ _ _; (try k_sweep); (try dsimp only)))))) | walk1) | (dsimp only; (first | (with_reducible ((with_reducible show wpAny _ _ (call (Value.builtin "list.append") _) _ _ _); ((k_here; k_dflt (refine' acc_append ?k1 ?k2 ?k3 ?k4 ?k5 ?_; (case k1 => k_asm); (case k2 => k_asm); (case k3 => k_asm); (case k4 => k_upd); (case k5 => omega); k_whole; intro _ _ _; (try k_sweep); (try dsimp only)))))) | (with_reducible ((with_reducible show wpAny _ _ (callWith _ _ _ _ _) _ _ _); ((k_here; k_dflt (refine' callWith_b0 ?k1 ?k2 ?k3 ?k4 ?_; (case k1 => k_asm); (case k2 => k_mem); (case k3 => decide +kernel); (case k4 => decide +kernel)))))) | (with_reducible ((with_reducible show wpAny _ _ (call (Value.ref _) _) _ _ _); ((k_here; k_dflt (first | (refine' bound_init ?k2 ?k3 ?k4 ?k5 ?_; (case k2 => k_asm); (case k3 => k_asm); (case k4 => k_mem); (case k5 => k_upd); k_whole; intro h' F' N'; (try k_sweep)) | (refine' bound_len ?k3 ?k4 ?k5 ?_; (case k3 => k_asm); (case k4 => k_mem); (case k5 => k_mem); k_whole; intro _) | (refine' bound_pop ?k2 ?k3 ?k4 ?k5 ?k6 ?k7 ?_; (case k2 => k_asm); (case k3 => k_asm); (case k4 => k_asm); (case k5 => k_mem); (case k6 => k_upd); (case k7 => omega); k_whole; intro _ _ _; (try k_sweep); (try dsimp only))))))) | (with_reducible ((with_reducible show wpAny _ _ (getMethod (Value.ref _) _ _) _ _ _); ((k_here; k_dflt (first | (refine' super_init ?k1 ?k2 ?k3 ?k4 ?k5 ?_; (case k1 => k_asm); (case k2 => k_asm); (case k3 => k_asm); (case k4 => k_mem); (case k5 => k_mem); intro q' h' F' N' l1; (try k_lt l1)) | (refine' super_len ?k1 ?k2 ?k3 ?k4 ?k5 ?_; (case k1 => k_asm); (case k2 => k_asm); (case k3 => k_asm); (case k4 => k_mem); (case k5 => k_mem); intro q' h' F' N' l1; (try k_lt l1)) | (refine' super_pop ?k1 ?k2 ?k3 ?k4 ?k5 ?_; (case k1 => k_asm); (case k2 => k_asm); (case k3 => k_asm); (case k4 => k_mem); (case k5 => k_mem); intro _ _ _ _ l1; (try k_lt l1)) | (refine' acc_method ?k1 ?k2 ?k3 ?k4 ?k5 ?k6 ?k7 ?k8 ?k9 ?_; (case k1 => k_asm); (case k2 => k_asm); (case k3 => k_asm); (case k4 => k_mem); (case k5 => k_mem); (case k6 => k_is); (case k7 => k_is); (case k8 => exact rfl); (case k9 => k_get); k_whole)))))) | (with_reducible ((with_reducible show wpAny _ _ (setAttr (Value.ref _) _ _) _ _ _); ((k_here; k_dflt (refine' acc_set ?k1 ?k2 ?k3 ?k4 ?k5 ?k6 ?k7 ?k8 ?k9 ?_; (case k1 => k_asm); (case k2 => k_asm); (case k3 => k_asm); (case k4 => k_mem); (case k5 => k_upd); (case k6 => k_is); (case k7 => k_get); (case k8 => k_put); (case k9 => exact Nat.le_of_ble_eq_true rfl); k_whole; intro _ _ _; (try k_sweep); (try dsimp only)))))) | walk1)))))
  rename Fr h₀ _ _ _ => F3
  rename News h₀ _ _ _ => N3
  exact hR _ _ _ F3 (kst_newsOf N3 fun p hp => .tail _ (.tail _ hp))
set_option maxHeartbeats 8000000 in
theorem c_pop0 {a dx : Addr} {n : Nat} {t0 t1 : Tok} (B : Below A₀ base outer h₀) (F : Fr h₀ L s.heap m) (X₀ : (hd.heap_39 w.params).In h₀) (N : News h₀ L s.heap ((a, accObj #[] n dx) :: news))
    (T : Top hd.view_39 lo mean mg mb h₀) (hh : A.handled = none) (hA : A.frames = some (env :: outer)) (hf : env.frame = some L) (hke : env.scope.kind = .function) (hdp : A.depth ≤ 900) (hu : A.units ≤ 5000)
    (hmd : (dx, accD w.params t0 t1) ∈ news) (hap : ∀ p ∈ news, p.1 ≠ a)
    (hR : ∀ t ta tb h' tk, Fr h₀ L h' m → News h₀ L h' ((t, tup2 (Str.ofString "") (Str.ofString "") ta tb) :: (a, accObj #[] n dx) :: news) → @LT.lt Nat _ a t → (∀ p ∈ news, @LT.lt Nat _ p.1 t) → Q (.ref t) { s with heap := h', toks := tk }) :
    wpAny (model PySem.Challenge.rw_wr0016_01.row.prog w) A (call (.ref 127) [.ref a]) Q E s := by
  revert X₀; k_fill; intro X₀
  obtain ⟨_, d, _, gd, u⟩ := A
  dsimp only at hh hA hdp hu
  subst hh hA
  refine wpAny_call ?_
  (k_dflt (refine' ks_code_super (binds := [(Str.ofString "self", .ref a)]) ?k1 ?k2 ?k3 ?k4 ?k5 ?kA ?kF ?kK ?k6 ?k7 ?k8 ?k9 ?kB ?_ ?c1 ?c2 ?c3 ?c4; (case kA => exact rfl); (case kF => first | exact rfl | assumption); (case kK => first | exact rfl | assumption); (case k1 => k_asm); (case k2 => k_asm); (case k3 => k_asm); (case k4 => k_asm); (case k5 => k_asm); (case k6 => k_is); (case k7 => k_is); (case k8 => k_room); (case k9 => first | exact BindsTo.of_eq rfl | exact binds_K (by k_in) rfl (by k_is) rfl rfl rfl); (case kB => exact locs rfl); (case c1 => decide); (case c2 => exact rfl); (case c3 => exact rfl); (case c4 => exact rfl)); intro g' L' h' FG' F' N' B' X' T' l1; (try k_lt l1); (try dsimp only); (try k_lift B'); (try k_fold))
  repeat' (((first | ((first | (ks_step "execs cons"; refine ks_wpAt_execs_cons ?_) | (ks_step "exec Expr"; refine ks_wpAt_Expr_any ?_) | (ks_step "exec Return"; refine ks_wpAt_Return_some ?_) | (ks_step "eval Call"; refine ks_wpAt_MethodCall ?_) | (ks_step "attributeBase Call"; refine' ks_node ?a1 ?a2 ?a3 ?a4 ?a5 ?a6 ?a7 ?a8 ?a9 ?b1 ?b2 ?b3 ?b4 ?b5 ?b6 ?b7 ?b8 ?b9 ?c1 ?c2 ?c3 ?c4 ?_; (case a1 => k_asm); (case a2 => k_asm); (case a3 => k_asm); (case a4 => k_asm); (case a5 => k_is); (case a6 => rfl); (case a7 => rfl); (case a8 => k_inst); (case a9 => k_is); (case b1 => rfl); (case b2 => first | rfl | decide +kernel); (case b3 => k_is); (case b4 => k_is); (case b5 => k_is); (case b6 => k_is); (case b7 => decide); (case b8 => rfl); (case b9 => rfl); (case c1 => rfl); (case c2 => rfl); (case c3 => decide +kernel); (case c4 => first | boot_by_name | rfl | kernel_rfl); intro so' h' F' N' l1; (try k_lt l1)))) | (dsimp only; ((first | (ks_step "execs cons"; refine ks_wpAt_execs_cons ?_) | (ks_step "exec Expr"; refine ks_wpAt_Expr_any ?_) | (ks_step "exec Return"; refine ks_wpAt_Return_some ?_) | (ks_step "eval Call"; refine ks_wpAt_MethodCall ?_) | (ks_step "attributeBase Call"; refine' ks_node ?a1 ?a2 ?a3 ?a4 ?a5 ?a6 ?a7 ?a8 ?a9 ?b1 ?b2 ?b3 ?b4 ?b5 ?b6 ?b7 ?b8 ?b9 ?c1 ?c2 ?c3 ?c4 ?_; (case a1 => k_asm); (case a2 => k_asm); (case a3 => k_asm); (case a4 => k_asm); (case a5 => k_is); (case a6 => rfl); (case a7 => rfl); (case a8 => k_inst); (case a9 => k_is); (case b1 => rfl); (case b2 => first | rfl | decide +kernel); (case b3 => k_is); (case b4 => k_is); (case b5 => k_is); (case b6 => k_is); (case b7 => decide); (case b8 => rfl); (case b9 => rfl); (case c1 => rfl); (case c2 => rfl); (case c3 => decide +kernel); (case c4 => first | boot_by_name | rfl | kernel_rfl); intro so' h' F' N' l1; (try k_lt l1))))) | (k_unfold; (try dsimp only)) | (first | (with_reducible ((with_reducible show wpAny _ _ (call (Value.ref _) _) _ _ _); ((k_here; k_dflt (refine' c_count ?k1 ?k2 ?k3 ?k4 ?k5 ?k6 ?k7 ?k8 ?k9 ?ka ?kb ?kc ?kd ?_; (case k1 => k_asm); (case k2 => k_asm); (case k3 => k_asm); (case k4 => k_asm); (case k5 => k_asm); (case k6 => rfl); (case k7 => rfl); (case k8 => rfl); (case k9 => rfl); (case ka => (try simp only [depth_under_make, depth_under_kw, depth_in1, depth_deeper, depth_caller]); omega); (case kb => k_mem); (case kc => k_mem); (case kd => first | omega | exact Nat.zero_le _ | (simp; omega)); intro _ _ _ _ _; (try dsimp only)))))) | (with_reducible ((with_reducible show wpAny _ _ (call (Value.builtin "list.append") _) _ _ _); ((k_here; k_dflt (refine' acc_append ?k1 ?k2 ?k3 ?k4 ?k5 ?_; (case k1 => k_asm); (case k2 => k_asm); (case k3 => k_asm); (case k4 => k_upd); (case k5 => omega); k_whole; intro _ _ _; (try k_sweep); (try dsimp only)))))) | (with_reducible ((with_reducible show wpAny _ _ (callWith _ _ _ _ _) _ _ _); ((k_here; k_dflt (refine' callWith_b0 ?k1 ?k2 ?k3 ?k4 ?_; (case k1 => k_asm); (case k2 => k_mem); (case k3 => decide +kernel); (case k4 => decide +kernel)))))) | (with_reducible ((with_reducible show wpAny _ _ (call (Value.ref _) _) _ _ _); ((k_here; k_dflt (first | (refine' bound_init ?k2 ?k3 ?k4 ?k5 ?_; (case k2 => k_asm); (case k3 => k_asm); (case k4 => k_mem); (case k5 => k_upd); k_whole; intro h' F' N'; (try k_sweep)) | (refine' bound_len ?k3 ?k4 ?k5 ?_; (case k3 => k_asm); (case k4 => k_mem); (case k5 => k_mem); k_whole; intro _) | (refine' bound_pop ?k2 ?k3 ?k4 ?k5 ?k6 ?k7 ?_; (case k2 => k_asm); (case k3 => k_asm); (case k4 => k_asm); (case k5 => k_mem); (case k6 => k_upd); (case k7 => omega); k_whole; intro _ _ _; (try k_sweep); (try dsimp only))))))) | (with_reducible ((with_reducible show wpAny _ _ (getMethod (Value.ref _) _ _) _ _ _); ((k_here; k_dflt (first | (refine' super_init ?k1 ?k2 ?k3 ?k4 ?k5 ?_; (case k1 => k_asm); (case k2 => k_asm); (case k3 => k_asm); (case k4 => k_mem); (case k5 => k_mem); intro q' h' F' N' l1; (try k_lt l1)) | (refine' super_len ?k1 ?k2 ?k3 ?k4 ?k5 ?_; (case k1 => k_asm); (case k2 => k_asm); (case k3 => k_asm); (case k4 => k_mem); (case k5 => k_mem); intro q' h' F' N' l1; (try k_lt l1)) | (refine' super_pop ?k1 ?k2 ?k3 ?k4 ?k5 ?_; (case k1 => k_asm); (case k2 => k_asm); (case k3 => k_asm); (case k4 => k_mem); (case k5 => k_mem); intro _ _ _ _ l1; (try k_lt l1)) | (refine' acc_method ?k1 ?k2 ?k3 ?k4 ?k5 ?k6 ?k7 ?k8 ?k9 ?_; (case k1 => k_asm); (case k2 => k_asm); (case k3 => k_asm); (case k4 => k_mem); (case k5 => k_mem); (case k6 => k_is); (case k7 => k_is); (case k8 => exact rfl); (case k9 => k_get); k_whole)))))) | (with_reducible ((with_reducible show wpAny _ _ (setAttr (Value.ref _) _ _) _ _ _); ((k_here; k_dflt (refine' acc_set ?k1 ?k2 ?k3 ?k4 ?k5 ?k6 ?k7 ?k8 ?k9 ?_; (case k1 => k_asm); (case k2 => k_asm); (case k3 => k_asm); (case k4 => k_mem); (case k5 => k_upd); (case k6 => k_is); (case k7 => k_get); (case k8 => k_put); (case k9 => exact Nat.le_of_ble_eq_true rfl); k_whole; intro _ _ _; (try k_sweep); (try dsimp only)))))) | walk1) | (dsimp only; (first | (with_reducible ((with_reducible show wpAny _ _ (call (Value.ref _) _) _ _ _); ((k_here; k_dflt (refine' c_count ?k1 ?k2 ?k3 ?k4 ?k5 ?k6 ?k7 ?k8 ?k9 ?ka ?kb ?kc ?kd ?_; (case k1 => k_asm); (case k2 => k_asm); (case k3 => k_asm); (case k4 => k_asm); (case k5 => k_asm); (case k6 => rfl); (case k7 => rfl); (case k8 => rfl); (case k9 => rfl); (case ka => (try simp only [depth_under_make, depth_under_kw, depth_in1, depth_deeper, depth_caller]); omega); (case kb => k_mem); (case kc => k_mem); (case kd => first | omega | exact Nat.zero_le _ | (simp; omega)); intro _ _ _ _ _; (try dsimp only)))))) | (with_reducible ((with_reducible show wpAny _ _ (call (Value.builtin "list.append") _) _ _ _); ((k_here; k_dflt (refine' acc_append ?k1 ?k2 ?k3 ?k4 ?k5 ?_; (case k1 => k_asm); (case k2 => k_asm); (case k3 => k_asm); (case k4 => k_upd); (case k5 => omega); k_whole; intro _ _ _; (try k_sweep); (try dsimp only)))))) | (with_reducible ((with_reducible show wpAny _ _ (callWith _ _ _ _ _) _ _ _); ((k_here; k_dflt (refine' callWith_b0 ?k1 ?k2 ?k3 ?k4 ?_; (case k1 => k_asm); (case k2 => k_mem); (case k3 => decide +kernel); (case k4 => decide +kernel)))))) | (with_reducible ((with_reducible show wpAny _ _ (call (Value.ref _) _) _ _ _); ((k_here; k_dflt (first | (refine' bound_init ?k2 ?k3 ?k4 ?k5 ?_; (case k2 => k_asm); (case k3 => k_asm); (case k4 => k_mem); (case k5 => k_upd); k_whole; intro h' F' N'; (try k_sweep)) | (refine' bound_len ?k3 ?k4 ?k5 ?_; (case k3 => k_asm); (case k4 => k_mem); (case k5 => k_mem); k_whole; intro _) | (refine' bound_pop ?k2 ?k3 ?k4 ?k5 ?k6 ?k7 ?_; (case k2 => k_asm); (case k3 => k_asm); (case k4 => k_asm); (case k5 => k_mem); (case k6 => k_upd); (case k7 => omega); k_whole; intro _ _ _; (try k_sweep); (try dsimp only))))))) | (with_reducible ((with_reducible show wpAny _ _ (getMethod (Value.ref _) _ _) _ _ _); ((k_here; k_dflt (first | (refine' super_init ?k1 ?k2 ?k3 ?k4 ?k5 ?_; (case k1 => k_asm); (case k2 => k_asm); (case k3 => k_asm); (case k4 => k_mem); (case k5 => k_mem); intro q' h' F' N' l1; (try k_lt l1)) | (refine' super_len ?k1 ?k2 ?k3 ?k4 ?k5 ?_; (case k1 => k_asm); (case k2 => k_asm); (case k3 => k_asm); (case k4 => k_mem); (case k5 => k_mem); intro q' h' F' N' l1; (try k_lt l1)) | (refine' super_pop ?k1 ?k2 ?k3 ?k4 ?k5 ?_; (case k1 => k_asm); (case k2 => k_asm); (case k3 => k_asm); (case k4 => k_mem); (case k5 => k_mem); intro _ _ _ _ l1; (try k_lt l1)) | (refine' acc_method ?k1 ?k2 ?k3 ?k4 ?k5 ?k6 ?k7 ?k8 ?k9 ?_; (case k1 => k_asm); (case k2 => k_asm); (case k3 => k_asm); (case k4 => k_mem); (case k5 => k_mem); (case k6 => k_is); (case k7 => k_is); (case k8 => exact rfl); (case k9 => k_get); k_whole)))))) | (with_reducible ((with_reducible show wpAny _ _ (setAttr (Value.ref _) _ _) _ _ _); ((k_here; k_dflt (refine' acc_set ?k1 ?k2 ?k3 ?k4 ?k5 ?k6 ?k7 ?k8 ?k9 ?_; (case k1 => k_asm); (case k2 => k_asm); (case k3 => k_asm); (case k4 => k_mem); (case k5 => k_upd); (case k6 => k_is); (case k7 => k_get); (case k8 => k_put); (case k9 => exact Nat.le_of_ble_eq_true rfl); k_whole; intro _ _ _; (try k_sweep); (try dsimp only)))))) | walk1)))))
  rename Fr h₀ _ _ _ => F3
  rename News h₀ _ _ _ => N3
  rename (@LT.lt Nat _ _ _ ∧ AllLt _ _) => l1
  exact hR _ _ _ _ _ F3 N3 l1.1 (of_allLt l1.2)
set_option maxHeartbeats 8000000 in
theorem c_pop1 {a dx : Addr} {vs : List Value} {v : Value} {n : Nat} {t0 t1 : Tok} (B : Below A₀ base outer h₀) (F : Fr h₀ L s.heap m) (X₀ : (hd.heap_39 w.params).In h₀) (N : News h₀ L s.heap ((a, accObj (vs ++ [v]).toArray n dx) :: news))
    (T : Top hd.view_39 lo mean mg mb h₀) (hh : A.handled = none) (hA : A.frames = some (env :: outer)) (hf : env.frame = some L) (hke : env.scope.kind = .function) (hdp : A.depth ≤ 900) (hu : A.units ≤ 5000)
    (hmd : (dx, accD w.params t0 t1) ∈ news) (hap : ∀ p ∈ news, p.1 ≠ a) (hz : vs.length ≤ 500)
    (hR : ∀ h' tk, Fr h₀ L h' m → News h₀ L h' ((a, accObj vs.toArray (n + 1) dx) :: news) → Q v { s with heap := h', toks := tk }) :
    wpAny (model PySem.Challenge.rw_wr0016_01.row.prog w) A (call (.ref 127) [.ref a]) Q E s := by
  revert X₀; k_fill; intro X₀
  have hz2 : (vs ++ [v]).length ≤ 1000 := by simp; omega
  obtain ⟨_, d, _, gd, u⟩ := A
  dsimp only at hh hA hdp hu
  subst hh hA
  refine wpAny_call ?_
  (k_dflt (refine' ks_code_super (binds := [(Str.ofString "self", .ref a)]) ?k1 ?k2 ?k3 ?k4 ?k5 ?kA ?kF ?kK ?k6 ?k7 ?k8 ?k9 ?kB ?_ ?c1 ?c2 ?c3 ?c4; (case kA => exact rfl); (case kF => first | exact rfl | assumption); (case kK => first | exact rfl | assumption); (case k1 => k_asm); (case k2 => k_asm); (case k3 => k_asm); (case k4 => k_asm); (case k5 => k_asm); (case k6 => k_is); (case k7 => k_is); (case k8 => k_room); (case k9 => first | exact BindsTo.of_eq rfl | exact binds_K (by k_in) rfl (by k_is) rfl rfl rfl); (case kB => exact locs rfl); (case c1 => decide); (case c2 => exact rfl); (case c3 => exact rfl); (case c4 => exact rfl)); intro g' L' h' FG' F' N' B' X' T' l1; (try k_lt l1); (try dsimp only); (try k_lift B'); (try k_fold))
  repeat' (((first | ((first | (ks_step "execs cons"; refine ks_wpAt_execs_cons ?_) | (ks_step "exec Expr"; refine ks_wpAt_Expr_any ?_) | (ks_step "exec Return"; refine ks_wpAt_Return_some ?_) | (ks_step "eval Call"; refine ks_wpAt_MethodCall ?_) | (ks_step "attributeBase Call"; refine' ks_node ?a1 ?a2 ?a3 ?a4 ?a5 ?a6 ?a7 ?a8 ?a9 ?b1 ?b2 ?b3 ?b4 ?b5 ?b6 ?b7 ?b8 ?b9 ?c1 ?c2 ?c3 ?c4 ?_; (case a1 => k_asm); (case a2 => k_asm); (case a3 => k_asm); (case a4 => k_asm); (case a5 => k_is); (case a6 => rfl); (case a7 => rfl); (case a8 => k_inst); (case a9 => k_is); (case b1 => rfl); (case b2 => first | rfl | decide +kernel); (case b3 => k_is); (case b4 => k_is); (case b5 => k_is); (case b6 => k_is); (case b7 => decide); (case b8 => rfl); (case b9 => rfl); (case c1 => rfl); (case c2 => rfl); (case c3 => decide +kernel); (case c4 => first | boot_by_name | rfl | kernel_rfl); intro so' h' F' N' l1; (try k_lt l1)))) | (dsimp only; ((first | (ks_step "execs cons"; refine ks_wpAt_execs_cons ?_) | (ks_step "exec Expr"; refine ks_wpAt_Expr_any ?_) | (ks_step "exec Return"; refine ks_wpAt_Return_some ?_) | (ks_step "eval Call"; refine ks_wpAt_MethodCall ?_) | (ks_step "attributeBase Call"; refine' ks_node ?a1 ?a2 ?a3 ?a4 ?a5 ?a6 ?a7 ?a8 ?a9 ?b1 ?b2 ?b3 ?b4 ?b5 ?b6 ?b7 ?b8 ?b9 ?c1 ?c2 ?c3 ?c4 ?_; (case a1 => k_asm); (case a2 => k_asm); (case a3 => k_asm); (case a4 => k_asm); (case a5 => k_is); (case a6 => rfl); (case a7 => rfl); (case a8 => k_inst); (case a9 => k_is); (case b1 => rfl); (case b2 => first | rfl | decide +kernel); (case b3 => k_is); (case b4 => k_is); (case b5 => k_is); (case b6 => k_is); (case b7 => decide); (case b8 => rfl); (case b9 => rfl); (case c1 => rfl); (case c2 => rfl); (case c3 => decide +kernel); (case c4 => first | boot_by_name | rfl | kernel_rfl); intro so' h' F' N' l1; (try k_lt l1))))) | (k_unfold; (try dsimp only)) | (first | (with_reducible ((with_reducible show wpAny _ _ (call (Value.ref _) _) _ _ _); ((k_here; k_dflt (refine' c_count ?k1 ?k2 ?k3 ?k4 ?k5 ?k6 ?k7 ?k8 ?k9 ?ka ?kb ?kc ?kd ?_; (case k1 => k_asm); (case k2 => k_asm); (case k3 => k_asm); (case k4 => k_asm); (case k5 => k_asm); (case k6 => rfl); (case k7 => rfl); (case k8 => rfl); (case k9 => rfl); (case ka => (try simp only [depth_under_make, depth_under_kw, depth_in1, depth_deeper, depth_caller]); omega); (case kb => k_mem); (case kc => k_mem); (case kd => first | omega | exact Nat.zero_le _ | (simp; omega)); intro _ _ _ _ _; (try dsimp only)))))) | (with_reducible ((with_reducible show wpAny _ _ (call (Value.builtin "list.append") _) _ _ _); ((k_here; k_dflt (refine' acc_append ?k1 ?k2 ?k3 ?k4 ?k5 ?_; (case k1 => k_asm); (case k2 => k_asm); (case k3 => k_asm); (case k4 => k_upd); (case k5 => omega); k_whole; intro _ _ _; (try k_sweep); (try dsimp only)))))) | (with_reducible ((with_reducible show wpAny _ _ (callWith _ _ _ _ _) _ _ _); ((k_here; k_dflt (refine' callWith_b0 ?k1 ?k2 ?k3 ?k4 ?_; (case k1 => k_asm); (case k2 => k_mem); (case k3 => decide +kernel); (case k4 => decide +kernel)))))) | (with_reducible ((with_reducible show wpAny _ _ (call (Value.ref _) _) _ _ _); ((k_here; k_dflt (first | (refine' bound_init ?k2 ?k3 ?k4 ?k5 ?_; (case k2 => k_asm); (case k3 => k_asm); (case k4 => k_mem); (case k5 => k_upd); k_whole; intro h' F' N'; (try k_sweep)) | (refine' bound_len ?k3 ?k4 ?k5 ?_; (case k3 => k_asm); (case k4 => k_mem); (case k5 => k_mem); k_whole; intro _) | (refine' bound_pop ?k2 ?k3 ?k4 ?k5 ?k6 ?k7 ?_; (case k2 => k_asm); (case k3 => k_asm); (case k4 => k_asm); (case k5 => k_mem); (case k6 => k_upd); (case k7 => omega); k_whole; intro _ _ _; (try k_sweep); (try dsimp only))))))) | (with_reducible ((with_reducible show wpAny _ _ (getMethod (Value.ref _) _ _) _ _ _); ((k_here; k_dflt (first | (refine' super_init ?k1 ?k2 ?k3 ?k4 ?k5 ?_; (case k1 => k_asm); (case k2 => k_asm); (case k3 => k_asm); (case k4 => k_mem); (case k5 => k_mem); intro q' h' F' N' l1; (try k_lt l1)) | (refine' super_len ?k1 ?k2 ?k3 ?k4 ?k5 ?_; (case k1 => k_asm); (case k2 => k_asm); (case k3 => k_asm); (case k4 => k_mem); (case k5 => k_mem); intro q' h' F' N' l1; (try k_lt l1)) | (refine' super_pop ?k1 ?k2 ?k3 ?k4 ?k5 ?_; (case k1 => k_asm); (case k2 => k_asm); (case k3 => k_asm); (case k4 => k_mem); (case k5 => k_mem); intro _ _ _ _ l1; (try k_lt l1)) | (refine' acc_method ?k1 ?k2 ?k3 ?k4 ?k5 ?k6 ?k7 ?k8 ?k9 ?_; (case k1 => k_asm); (case k2 => k_asm); (case k3 => k_asm); (case k4 => k_mem); (case k5 => k_mem); (case k6 => k_is); (case k7 => k_is); (case k8 => exact rfl); (case k9 => k_get); k_whole)))))) | (with_reducible ((with_reducible show wpAny _ _ (setAttr (Value.ref _) _ _) _ _ _); ((k_here; k_dflt (refine' acc_set ?k1 ?k2 ?k3 ?k4 ?k5 ?k6 ?k7 ?k8 ?k9 ?_; (case k1 => k_asm); (case k2 => k_asm); (case k3 => k_asm); (case k4 => k_mem); (case k5 => k_upd); (case k6 => k_is); (case k7 => k_get); (case k8 => k_put); (case k9 => exact Nat.le_of_ble_eq_true rfl); k_whole; intro _ _ _; (try k_sweep); (try dsimp only)))))) | walk1) | (dsimp only; (first | (with_reducible ((with_reducible show wpAny _ _ (call (Value.ref _) _) _ _ _); ((k_here; k_dflt (refine' c_count ?k1 ?k2 ?k3 ?k4 ?k5 ?k6 ?k7 ?k8 ?k9 ?ka ?kb ?kc ?kd ?_; (case k1 => k_asm); (case k2 => k_asm); (case k3 => k_asm); (case k4 => k_asm); (case k5 => k_asm); (case k6 => rfl); (case k7 => rfl); (case k8 => rfl); (case k9 => rfl); (case ka => (try simp only [depth_under_make, depth_under_kw, depth_in1, depth_deeper, depth_caller]); omega); (case kb => k_mem); (case kc => k_mem); (case kd => first | omega | exact Nat.zero_le _ | (simp; omega)); intro _ _ _ _ _; (try dsimp only)))))) | (with_reducible ((with_reducible show wpAny _ _ (call (Value.builtin "list.append") _) _ _ _); ((k_here; k_dflt (refine' acc_append ?k1 ?k2 ?k3 ?k4 ?k5 ?_; (case k1 => k_asm); (case k2 => k_asm); (case k3 => k_asm); (case k4 => k_upd); (case k5 => omega); k_whole; intro _ _ _; (try k_sweep); (try dsimp only)))))) | (with_reducible ((with_reducible show wpAny _ _ (callWith _ _ _ _ _) _ _ _); ((k_here; k_dflt (refine' callWith_b0 ?k1 ?k2 ?k3 ?k4 ?_; (case k1 => k_asm); (case k2 => k_mem); (case k3 => decide +kernel); (case k4 => decide +kernel)))))) | (with_reducible ((with_reducible show wpAny _ _ (call (Value.ref _) _) _ _ _); ((k_here; k_dflt (first | (refine' bound_init ?k2 ?k3 ?k4 ?k5 ?_; (case k2 => k_asm); (case k3 => k_asm); (case k4 => k_mem); (case k5 => k_upd); k_whole; intro h' F' N'; (try k_sweep)) | (refine' bound_len ?k3 ?k4 ?k5 ?_; (case k3 => k_asm); (case k4 => k_mem); (case k5 => k_mem); k_whole; intro _) | (refine' bound_pop ?k2 ?k3 ?k4 ?k5 ?k6 ?k7 ?_; (case k2 => k_asm); (case k3 => k_asm); (case k4 => k_asm); (case k5 => k_mem); (case k6 => k_upd); (case k7 => omega); k_whole; intro _ _ _; (try k_sweep); (try dsimp only))))))) | (with_reducible ((with_reducible show wpAny _ _ (getMethod (Value.ref _) _ _) _ _ _); ((k_here; k_dflt (first | (refine' super_init ?k1 ?k2 ?k3 ?k4 ?k5 ?_; (case k1 => k_asm); (case k2 => k_asm); (case k3 => k_asm); (case k4 => k_mem); (case k5 => k_mem); intro q' h' F' N' l1; (try k_lt l1)) | (refine' super_len ?k1 ?k2 ?k3 ?k4 ?k5 ?_; (case k1 => k_asm); (case k2 => k_asm); (case k3 => k_asm); (case k4 => k_mem); (case k5 => k_mem); intro q' h' F' N' l1; (try k_lt l1)) | (refine' super_pop ?k1 ?k2 ?k3 ?k4 ?k5 ?_; (case k1 => k_asm); (case k2 => k_asm); (case k3 => k_asm); (case k4 => k_mem); (case k5 => k_mem); intro _ _ _ _ l1; (try k_lt l1)) | (refine' acc_method ?k1 ?k2 ?k3 ?k4 ?k5 ?k6 ?k7 ?k8 ?k9 ?_; (case k1 => k_asm); (case k2 => k_asm); (case k3 => k_asm); (case k4 => k_mem); (case k5 => k_mem); (case k6 => k_is); (case k7 => k_is); (case k8 => exact rfl); (case k9 => k_get); k_whole)))))) | (with_reducible ((with_reducible show wpAny _ _ (setAttr (Value.ref _) _ _) _ _ _); ((k_here; k_dflt (refine' acc_set ?k1 ?k2 ?k3 ?k4 ?k5 ?k6 ?k7 ?k8 ?k9 ?_; (case k1 => k_asm); (case k2 => k_asm); (case k3 => k_asm); (case k4 => k_mem); (case k5 => k_upd); (case k6 => k_is); (case k7 => k_get); (case k8 => k_put); (case k9 => exact Nat.le_of_ble_eq_true rfl); k_whole; intro _ _ _; (try k_sweep); (try dsimp only)))))) | walk1)))))
  · rename ((((vs ++ [v]).length : Nat) : Int) = 0) => h0
    simp at h0
    omega
  rename Fr h₀ _ _ _ => F3
  rename News h₀ _ _ _ => N3
  exact hR _ _ F3 (kst_newsOf N3 fun p hp => .tail _ (.tail _ hp))
end Mine
end

example : 1 = 1 ∧ 2 = 2 := by
  w_top off
  walk1 <;> rfl
section
set_option maxRecDepth 100000
open PySem PySem.W PyProof.Rows PySem.Calls
namespace Mine
set_option Elab.async false
/-- two lists, part by part -/
inductive All2 {α β : Type} (R : α → β → Prop) : List α → List β → Prop
  | nil : All2 R [] []
  | cons {a b l m} : R a b → All2 R l m → All2 R (a :: l) (b :: m)
namespace All2
variable {α β : Type} {R S : α → β → Prop}
theorem mono {l : List α} {m : List β} (h : All2 R l m) (f : ∀ a b, R a b → S a b) : All2 S l m := by
  induction h with
  | nil => exact .nil
  | cons a _ ih => exact .cons (f _ _ a) ih
theorem length {l : List α} {m : List β} (h : All2 R l m) : l.length = m.length := by
  induction h with
  | nil => rfl
  | cons _ _ ih => simp [ih]
theorem append {l l' : List α} {m m' : List β} (h : All2 R l m) (h' : All2 R l' m') : All2 R (l ++ l') (m ++ m') := by
  induction h with
  | nil => exact h'
  | cons a _ ih => exact .cons a ih
theorem snoc {l : List α} {m : List β} {a : α} {b : β} (h : All2 R l m) (r : R a b) : All2 R (l ++ [a]) (m ++ [b]) := h.append (.cons r .nil)
theorem get {l : List α} {m : List β} (h : All2 R l m) : ∀ {i : Nat} {a : α}, l[i]? = some a → ∃ b, m[i]? = some b ∧ R a b := by
  induction h with
  | nil => intro i a e; simp at e
  | cons r _ ih =>
    intro i a e
    cases i with
    | zero => simp at e; exact ⟨_, rfl, e ▸ r⟩
    | succ i => simpa using ih (by simpa using e)
theorem unsnoc {l : List α} {m : List β} {b : β} (h : All2 R l (m ++ [b])) : ∃ l' a, l = l' ++ [a] ∧ All2 R l' m ∧ R a b := by
  induction m generalizing l with
  | nil =>
    cases h with
    | cons r h => cases h; exact ⟨[], _, rfl, .nil, r⟩
  | cons x m ih =>
    cases h with
    | cons r h =>
      obtain ⟨l', a, rfl, h1, h2⟩ := ih h
      exact ⟨_ :: l', a, rfl, .cons r h1, h2⟩
theorem nil_inv {l : List α} (h : All2 R l []) : l = [] := by cases h; rfl
end All2
theorem walks_acc {prog : Program} {w : World} {A : Around} (hh : A.handled = none) (I a : Addr) (hne : a ≠ I) (vs : List Value) :
    Walks prog w A I [I, a] [I] vs.length (fun i v => vs[i]? = some v) (fun i h => h.get? I = some (itObj a i) ∧ ∃ o, h.get? a = some o ∧ SeqOf o vs) where
  sub := fun b hb => by simp at hb; simp [hb]
  frame := fun i h h' st hk => ⟨hk I (by simp) _ st.1, by obtain ⟨o, e, s⟩ := st.2; exact ⟨o, hk a (by simp) _ e, s⟩⟩
  item := fun i s Q E hi st hQ => by
    obtain ⟨o, e, so⟩ := st.2
    refine next_item st.1 e so (x := vs[i]) (by simp [hi]) fun h' hit' hs' => ?_
    exact hQ _ h' s.toks (by simp [hi]) ⟨hit', o, hs'.extBut _ _ hne e, so⟩ fun b o hb e => hs'.extBut b o (fun h => hb (by simp [h])) e
  done := fun s Q E st hQ => by
    obtain ⟨o, e, so⟩ := st.2
    exact next_end hh st.1 e so (by simp) fun h' he' => hQ h' s.toks fun b o hb e => he' b o (fun h => hb (by simp [h])) e
  self := fun i s Q E st hQ => by
    have hI : s.heap.IsListIter I a i := ⟨_, st.1, rfl, rfl⟩
    exact wpAny_pyIter_listiter hI hQ
section
variable {w : World} {A : Around} {s : Shared} {h₀ : Heap} {L : Addr} {m : Str → Option Value} {env : Env} {news : List (Addr × Obj)} {E : Value → Shared → Prop}
noncomputable abbrev SrcA (a : Addr) (vs : List Value) (n : Nat) (dx : Addr) (nw : List (Addr × Obj)) : Prop := (a, accObj vs.toArray n dx) ∈ nw
theorem ListComp_A {elt iter : PySem.Expr} {x x₂ : Str} {px px₂ tp : Pos} {tk} {scope : Scope} {cl : List (Str × Addr)} {pos : Pos} {Q : Value → Shared → Prop} (X : (hd.heap_39 w.params).In h₀)
    (hclos : closureFor scope env = pure cl) (hcell : ∀ y ∈ scope.names, y.2 ≠ .cell) (hkind : scope.kind = .function)
    (hnames : ∀ y ∈ scope.names, y.2 = .local → scope.names.lookup y.1 = some .local) (hx : scope.names.lookup x = some .local) (hx₂ : scope.names.lookup x₂ = some .local) (hxx : x ≠ x₂)
    (h : wpAny (mdl w) A (eval iter env) (fun xv s₁ => Halt (∃ a vs n dx news, xv = .ref a ∧ A.handled = none ∧ Fr h₀ L s₁.heap m ∧ News h₀ L s₁.heap news ∧ (a, accObj vs.toArray n dx) ∈ news ∧ vs.length ≤ sizeLine ∧
      ∀ s₂ : Shared, (∃ h, s₂ = { s₁ with heap := h }) → LCp.CompRestP PySem.Challenge.rw_wr0016_01.row.prog w A h₀ L m env elt x x₂ scope cl s₂ (SrcA a vs n dx) (fun i v => vs[i]? = some v) (LCg.FinE h₀ L m s₂ Q) vs.length 0 [] news)) E s)
    (hs : ∀ x, foldedSetIterable iter env x = pure x := by intro _; rfl) :
    wpAny (mdl w) A (eval (.ListComp elt [⟨.Tuple [.Name x px, .Name x₂ px₂] tk tp, iter, [], 0⟩] scope pos) env) Q E s := by
  rw [eval_ListComp]
  refine wpAny_comprehension_free (use := none) rfl hs hclos hkind hnames (wpAny_mono h (fun xv s₁ h₁ => ?_) fun _ _ e => e)
  obtain ⟨a, vs, n, dx, news, rfl, hh, F, N, hm, hsz, R⟩ := h₁
  refine acc_iter X F N hm fun I h' F' N' hI => ?_
  have hma : (a, accObj vs.toArray n dx) ∈ (I, itObj a 0) :: news := List.mem_cons_of_mem _ hm
  have hlt : @LT.lt Nat _ a I := hI _ hm
  refine LCp.block_P (walks_acc hh I a (Nat.ne_of_lt hlt) vs) hsz (fun i h st => ⟨_, st.1⟩) (S := SrcA a vs n dx) (news := news) ?_ hcell hkind hx hx₂ hxx hh (fun i h st => ⟨a, i, _, st.1, rfl, rfl⟩)
    ⟨(N' _ List.mem_cons_self).1, _, (N' _ hma).1, _, rfl⟩ (fun b hb => ?_) F' (fun p hp => N' p (List.mem_cons_of_mem _ hp)) (Ne.symm (N' _ List.mem_cons_self).2.1) (N' _ List.mem_cons_self).2.2 (fun p hp => Nat.ne_of_lt (hI p hp)) hm (R _ ⟨_, rfl⟩) ?_
  · intro i h h' o nw st e e' k N S
    refine ⟨?_, _, (N _ S).1, _, rfl⟩
    rw [e', ← e]; exact st.1
  · rcases List.mem_cons.mp hb with rfl | hb
    · exact Heap.lt_size (N' _ List.mem_cons_self).1
    · rw [List.mem_singleton.mp hb]; exact Heap.lt_size (N' _ hma).1
  · intro D C h tk m' ys news' F' N' o1 hn hC₀ hD₀ hCL hDL hCD offC fin
    refine ⟨m', hn, fun h'' hs'' => fin D h'' tk (F'.change hs'' hCL hC₀) (fun p hp => ?_) o1⟩
    refine ⟨hs''.extBut _ _ ?_ (N' p hp).1, (N' p hp).2⟩
    rcases List.mem_cons.mp hp with rfl | hp
    · exact Ne.symm hCD
    · exact offC p hp
/-- how a pair of the pile lies in the ledger -/
noncomputable def PairAt (nw : List (Addr × Obj)) (sp : Nat → Str) (v : Value) (p : Nat × Str) : Prop := ∃ t ta tb, v = .ref t ∧ (t, tup2 (sp p.1) p.2 ta tb) ∈ nw
noncomputable abbrev PileIn (nw : List (Addr × Obj)) (sp : Nat → Str) : List Value → List (Nat × Str) → Prop := All2 (PairAt nw sp)
theorem PileIn.mono {nw nw' : List (Addr × Obj)} {sp : Nat → Str} {vs : List Value} {ps : List (Nat × Str)} (h : PileIn nw sp vs ps) (f : ∀ p ∈ nw, p ∈ nw') : PileIn nw' sp vs ps :=
  All2.mono h fun _ _ ⟨t, ta, tb, e, hm⟩ => ⟨t, ta, tb, e, f _ hm⟩
theorem row_rest {elt : PySem.Expr} {x x₂ : Str} {scope : Scope} {cl : List (Str × Addr)} {S : List (Addr × Obj) → Prop} {Fin : List Value → List (Addr × Obj) → Prop} {sp : Nat → Str} {vs : List Value} {ps : List (Nat × Str)}
    (hp : PileIn news sp vs ps)
    (turn : ∀ (b : Nat) (t : Str) ta tb I oI C oC D m₂ ys h tk (E' : Value → Shared → Prop), (b, t) ∈ ps → LCg.NsObj oC m₂ → m₂ x = some (.str (sp b) ta) → m₂ x₂ = some (.str t tb) → Fr h₀ L h m → News h₀ L h ((I, oI) :: (C, oC) :: (D, LCg.lst ys) :: news) → LCg.Off3 I C D news → ((@Ne Nat I C) ∧ (@Ne Nat I D) ∧ (@Ne Nat C D)) →
      wpAny (mdl w) A (eval elt (compEnvC scope cl C env)) (LCg.CompEnd h₀ L m { s with heap := h, toks := tk } I oI C oC D (LCg.lst ys) S (fun y news' => news' = news ∧ ∃ t', y = .int b t')) E' { s with heap := h, toks := tk })
    (fin : ∀ ys, IntsAre ys (ps.map fun p => (p.1 : Int)) → Fin ys news) :
    LCp.CompRestP PySem.Challenge.rw_wr0016_01.row.prog w A h₀ L m env elt x x₂ scope cl s S (fun i v => vs[i]? = some v) Fin vs.length 0 [] news := by
  have key : ∀ (j i : Nat) (ys : List Value), i + j = vs.length → IntsAre ys ((ps.take i).map fun p => (p.1 : Int)) → LCp.CompRestP PySem.Challenge.rw_wr0016_01.row.prog w A h₀ L m env elt x x₂ scope cl s S (fun i v => vs[i]? = some v) Fin j i ys news := by
    intro j
    induction j with
    | zero =>
      intro i ys hi hy
      have e : i = ps.length := by rw [← hp.length]; omega
      subst e
      rw [List.take_length] at hy
      exact LCp.CompRestP.zero (fin ys hy)
    | succ j ih =>
      intro i ys hi hy
      refine LCp.CompRestP.succ fun v hv => ?_
      obtain ⟨p, hpi, t, ta, tb, rfl, hm⟩ := hp.get hv
      refine ⟨t, _, _, _, _, rfl, hm, rfl, rfl, ?_⟩
      intro I oI C oC D m₂ h tk E' hC hx hx2 F N off ne
      refine wpAny_mono (turn p.1 p.2 ta tb I oI C oC D m₂ ys h tk E' (List.mem_of_getElem? hpi) hC hx hx2 F N off ne) (fun y s₂ hq => ?_) fun _ _ e => e
      obtain ⟨h', tk', nw, e, F', N', off', hS, rfl, t', rfl⟩ := hq
      refine ⟨h', tk', _, e, F', N', off', hS, ih (i + 1) _ (by omega) ?_⟩
      rw [List.take_add_one, hpi, List.map_append]
      exact IntsAre.append hy (.cons _ t' .nil)
  exact key vs.length 0 [] (by omega) .nil
end
end Mine
end

example : 1 = 1 ∧ 2 = 2 := by
  w_top off
  walk1 <;> rfl
section
set_option maxRecDepth 100000
open PySem PySem.W PyProof.Rows PySem.Calls
namespace Mine
set_option Elab.async false
variable {w : World} {A₀ A : Around} {s : Shared} {base h₀ : Heap} {outer : List Env} {L : Addr} {m mg mb : Str → Option Value} {env : Env} {news news' : List (Addr × Obj)} {mean : ExcName → Option Value} {Q : Value → Shared → Prop} {E : Value → Shared → Prop} {R : Result → Shared → Prop}
noncomputable def sp (n : Nat) : Str := ⟨(List.replicate n 32).toArray⟩
noncomputable def wt (st : List (Nat × Str)) : Nat := (st.map fun p => p.2.length + 2).sum
/-- the stack, its top first, and a new part -/
noncomputable def mrg : List (Nat × Str) → Nat → Str → List (Nat × Str)
  | [], n, x => [(n, x)]
  | (b, t) :: r, n, x => if b = n then mrg r (n - 1) (Str.ofString "(" ++ t ++ x ++ Str.ofString ")") else (n, x) :: (b, t) :: r
noncomputable def stops : List (Nat × Str) → Nat → Bool
  | [], _ => false
  | (b, _) :: _, d => b == 0 || decide (d < b)
noncomputable def pileGo : List (Nat × Str) → List (Nat × Str) → List (List Int) → List (Nat × Str) × List (List Int)
  | [], st, rows => (st, rows)
  | (d, x) :: r, st, rows => if stops st d = true then (st, rows) else pileGo r (mrg st d x) (rows ++ [(mrg st d x).reverse.map fun p => (p.1 : Int)])
noncomputable def LineAt (P : Params) (nw : List (Addr × Obj)) (v : Value) (p : Nat × Str) : Prop := ∃ x dx od tk k, v = .ref x ∧ (x, instObj 83 dx) ∈ nw ∧ (dx, exD P tk (p.2 ++ Str.ofString "\n") k p.1 od) ∈ nw
noncomputable abbrev LinesIn (P : Params) (nw : List (Addr × Obj)) : List Value → List (Nat × Str) → Prop := All2 (LineAt P nw)
/-- what pop hands out -/
noncomputable def lastB : List (Nat × Str) → Str × Str
  | [] => (Str.ofString "", Str.ofString "")
  | (b, t) :: _ => (sp b, t)
noncomputable def same : List (Nat × Str) → Nat → Bool
  | [], _ => false
  | (b, _) :: _, n => b == n
theorem c_popL {a dx : Addr} {vs : List Value} {st : List (Nat × Str)} {n : Nat} {t0 t1 : Tok} {pl : List (Addr × Obj)} (B : Below A₀ base outer h₀) (F : Fr h₀ L s.heap m) (X₀ : (hd.heap_39 w.params).In h₀) (N : News h₀ L s.heap ((a, accObj vs.toArray n dx) :: news))
    (T : Top hd.view_39 lo mean mg mb h₀) (hh : A.handled = none) (hA : A.frames = some (env :: outer)) (hf : env.frame = some L) (hke : env.scope.kind = .function) (hdp : A.depth ≤ 900) (hu : A.units ≤ 5000)
    (hmd : (dx, accD w.params t0 t1) ∈ news) (hap : ∀ p ∈ news, p.1 ≠ a) (hp : PileIn pl sp vs st.reverse) (hpl : ∀ p ∈ pl, p ∈ news) (hz : st.length ≤ 500)
    (hR : ∀ t ta tb vs' n' ex h' tk, Fr h₀ L h' m → News h₀ L h' ((a, accObj vs'.toArray n' dx) :: (ex ++ news)) → (∀ p ∈ ex, @LT.lt Nat _ a p.1 ∧ ∀ q ∈ news, @LT.lt Nat _ q.1 p.1) → (t, tup2 (lastB st).1 (lastB st).2 ta tb) ∈ ex ++ news → PileIn (ex ++ pl) sp vs' st.tail.reverse →
      Q (.ref t) { s with heap := h', toks := tk }) :
    wpAny (model PySem.Challenge.rw_wr0016_01.row.prog w) A (call (.ref 127) [.ref a]) Q E s := by
  cases st with
  | nil =>
    cases hp.nil_inv
    refine c_pop0 B F X₀ N T hh hA hf hke hdp hu hmd hap fun t ta tb h' tk F' N' l1 l2 => ?_
    exact hR t ta tb [] n [(t, tup2 (Str.ofString "") (Str.ofString "") ta tb)] h' tk F' (kst_newsOf N' (by (intro p hp; simp only [List.mem_cons, List.mem_append, List.nil_append, List.cons_append, List.append_assoc] at hp ⊢; (repeat' (first | (simp only [hp, true_or, or_true, eq_self]; done) | (rcases hp with hp | hp)))))) (by simpa using ⟨l1, fun a b => l2 (a, b)⟩) (List.Mem.head _) .nil
  | cons p st =>
    rw [List.reverse_cons] at hp
    obtain ⟨vs, v, rfl, h1, t, ta, tb, rfl, h2⟩ := All2.unsnoc hp
    have hl := h1.length
    refine c_pop1 B F X₀ N T hh hA hf hke hdp hu hmd hap (by simp at hl hz; omega) fun h' tk F' N' => ?_
    exact hR t ta tb vs (n + 1) [] h' tk F' N' (fun p hp => nomatch hp) (hpl _ h2) h1
end Mine
end

example : 1 = 1 ∧ 2 = 2 := by
  w_top off
  walk1 <;> rfl
section
set_option maxRecDepth 100000
open PySem PySem.W PyProof.Rows PySem.Calls
namespace Mine
set_option Elab.async false
/-- a text of code points -/
noncomputable def tx (l : List Nat) : Str := ⟨l.toArray⟩
theorem tx_app (a b : List Nat) : tx a ++ tx b = tx (a ++ b) := by apply Str.ext'; simp [tx, Str.cps_append]
theorem tx_len (a : List Nat) : (tx a).length = a.length := by simp [tx, Str.length]
theorem tx_inj {a b : List Nat} (h : tx a = tx b) : a = b := by
  have := congrArg (fun s : Str => s.cps.toList) h
  simpa [tx] using this
theorem tx_of (s : Str) : s = tx s.cps.toList := by simp [tx]
theorem tx_toList (a : List Nat) : (tx a).cps.toList = a := by simp [tx]
theorem sp_tx (n : Nat) : sp n = tx (List.replicate n 32) := rfl
theorem sp_len (n : Nat) : (sp n).length = n := by rw [sp_tx, tx_len]; simp
theorem sp_inj {a b : Nat} (h : sp a = sp b) : a = b := by have := congrArg Str.length h; rwa [sp_len, sp_len] at this
theorem mul_tx (c n : Nat) : Txt.mul (tx [c]) (n : Int) = tx (List.replicate n c) := by
  have fr : ∀ (k : Nat) (acc : Array Nat), ((List.replicate k #[c]).foldl (· ++ ·) acc).toList = acc.toList ++ List.replicate k c := by
    intro k
    induction k with
    | zero => simp
    | succ k ih =>
      intro acc
      rw [List.replicate_succ, List.foldl_cons, ih]
      simp [List.replicate_succ]
  unfold Txt.mul
  by_cases h : (n : Int) < 1
  · have : n = 0 := by omega
    subst this
    rw [if_pos h]; rfl
  · rw [if_neg h]
    by_cases h2 : n = 1
    · subst h2; rfl
    · rw [if_neg (by simp [tx, Str.length]; omega)]
      apply Str.ext'
      show (List.replicate (n : Int).toNat #[c]).foldl (· ++ ·) #[] = _
      rw [Int.toNat_natCast]
      apply Array.toList_inj.mp
      rw [fr]
      simp [tx]
theorem space_tx : Str.ofString " " = tx [32] := by decide +kernel
theorem nl_tx : Str.ofString "\n" = tx [10] := by decide +kernel
theorem lp_tx : Str.ofString "(" = tx [40] := by decide +kernel
theorem rp_tx : Str.ofString ")" = tx [41] := by decide +kernel
theorem mul_sp (n : Nat) : Txt.mul (Str.ofString " ") (n : Int) = sp n := by rw [space_tx, mul_tx, sp_tx]
theorem slice_to (a b : List Nat) : Txt.slice (tx (a ++ b)) none (some (a.length : Int)) = tx a := by
  refine (StrLaws.sliceText_to ⟨by omega, by rw [tx_toList]; simp; omega⟩).trans ?_
  rw [tx_toList]; simp [tx]
theorem slice_from (a b : List Nat) : Txt.slice (tx (a ++ b)) (some (a.length : Int)) none = tx b := by
  refine (StrLaws.sliceText_from ⟨by omega, by rw [tx_toList]; simp; omega⟩).trans ?_
  rw [tx_toList]
  have e : (((a ++ b).length : Int) - a.length).toNat = b.length := by simp; omega
  rw [e]; simp [tx]
theorem slice_mid (a b c : List Nat) : Txt.slice (tx (a ++ b ++ c)) (some (a.length : Int)) (some ((a.length : Int) + b.length)) = tx b := by
  refine (StrLaws.sliceText_plain ⟨by omega, by omega, by rw [tx_toList]; simp; omega⟩).trans ?_
  rw [tx_toList]
  have e : ((a.length : Int) + b.length - a.length).toNat = b.length := by omega
  rw [e]; simp [tx]
theorem slice_m1 (a : List Nat) (c : Nat) : Txt.slice (tx (a ++ [c])) none (some (-1)) = tx a := by
  refine (StrLaws.sliceText_to_neg (by omega) (by rw [tx_len]; simp; omega)).trans ?_
  rw [tx_toList, tx_len]
  have e : (-1 + ((a ++ [c]).length : Int) - 0).toNat = a.length := by simp; omega
  rw [e]; simp [tx]
theorem slice_line (x : Str) : Txt.slice (x ++ Str.ofString "\n") none (some (-1)) = x := by
  conv => lhs; rw [tx_of x, nl_tx, tx_app, slice_m1]
  exact (tx_of x).symm
theorem slice_sp (n : Nat) : Txt.slice (sp n) (some 1) none = sp (n - 1) := by
  cases n with
  | zero => decide +kernel
  | succ n =>
    have := slice_from [32] (List.replicate n 32)
    rw [sp_tx, List.replicate_succ]
    exact this
theorem sp_zero {n : Nat} (h : sp n = Str.ofString "") : n = 0 := by
  have := congrArg Str.length h
  rw [sp_len] at this
  exact this
theorem len_pos_ne {x : Str} (h : 1 ≤ x.length) : (x != Str.ofString "") = true := by
  rw [bne_iff_ne]
  intro e
  rw [e] at h
  revert h
  decide +kernel
theorem stops_eq {st : List (Nat × Str)} {d : Nat} (h : ∀ p ∈ st, p.1 ≤ 8 ∧ 1 ≤ p.2.length) :
    stops st d = ((lastB st).2 != Str.ofString "" && ((lastB st).1 == Str.ofString "" || decide (d < (lastB st).1.length))) := by
  cases st with
  | nil => simp [stops, lastB]
  | cons p r =>
    obtain ⟨b, t⟩ := p
    have ht := len_pos_ne (h (b, t) (List.Mem.head _)).2
    simp only [stops, lastB, sp_len] at ht ⊢
    rw [ht, Bool.true_and]
    congr 1
    rw [Bool.eq_iff_iff, beq_iff_eq, beq_iff_eq]
    exact ⟨fun e => by rw [e]; decide +kernel, sp_zero⟩
theorem same_eq {st : List (Nat × Str)} {n : Nat} (h : ∀ p ∈ st, p.1 ≤ 8 ∧ 1 ≤ p.2.length) :
    same st n = ((lastB st).2 != Str.ofString "" && ((lastB st).1 == sp n)) := by
  cases st with
  | nil => simp [same, lastB]
  | cons p r =>
    obtain ⟨b, t⟩ := p
    have ht := len_pos_ne (h (b, t) (List.Mem.head _)).2
    simp only [same, lastB] at ht ⊢
    rw [ht, Bool.true_and, Bool.eq_iff_iff, beq_iff_eq, beq_iff_eq]
    exact ⟨fun e => by rw [e], sp_inj⟩
theorem mrg_same {b n : Nat} {t x : Str} {r : List (Nat × Str)} (h : same ((b, t) :: r) n = true) : mrg ((b, t) :: r) n x = mrg r (n - 1) (Str.ofString "(" ++ t ++ x ++ Str.ofString ")") := by
  rw [mrg, if_pos (beq_iff_eq.mp h)]
theorem mrg_diff {n : Nat} {x : Str} {st : List (Nat × Str)} (h : same st n = false) : mrg st n x = (n, x) :: st := by
  cases st with
  | nil => rfl
  | cons p r => rw [mrg, if_neg (by intro e; rw [same, e] at h; simp at h)]
theorem Apart.append {a b old : List (Addr × Obj)} (h : Apart a old) (h' : Apart b old) : Apart (a ++ b) old := fun p hp => (List.mem_append.mp hp).elim (h p) (h' p)
theorem Apart.of_lt {ex old : List (Addr × Obj)} (h : ∀ p ∈ ex, ∀ q ∈ old, @LT.lt Nat _ q.1 p.1) : Apart ex old := fun p hp q hq => Nat.ne_of_lt (h p hp q hq)
end Mine
end

example : 1 = 1 ∧ 2 = 2 := by
  w_top off
  walk1 <;> rfl
section
set_option maxRecDepth 100000
open PySem PySem.W PyProof.Rows PySem.Calls
namespace Mine
set_option Elab.async false
variable {w : World} {A₀ A : Around} {s : Shared} {base h₀ : Heap} {outer : List Env} {L : Addr} {m mg mb : Str → Option Value} {env : Env} {news news' : List (Addr × Obj)} {mean : ExcName → Option Value} {Q : Value → Shared → Prop} {E : Value → Shared → Prop} {R : Result → Shared → Prop}
/-- what holds ahead of each line -/
inductive InvP (w : World) (news : List (Addr × Obj)) (ls : List (Nat × Str)) (pa pdx rl : Addr) (t0 t1 : Tok) (i : Nat) (m' : Str → Option Value) (n' : List (Addr × Obj)) : Prop
  | mk (st : List (Nat × Str)) (rows : List (List Int)) (vs rs : List Value) (pn rn : Nat) (ex : List (Addr × Obj))
      (h1 : n' = (pa, accObj vs.toArray pn pdx) :: (rl, W.listOf rs.toArray rn) :: (pdx, accD w.params t0 t1) :: (ex ++ news)) (h2 : PileIn (ex ++ news) sp vs st.reverse) (h3 : RowsIn (ex ++ news) rs rows) (h4 : pileGo (ls.drop i) st rows = pileGo ls [] [])
      (h5 : Apart ex news) (h6 : ∀ p ∈ (rl, W.listOf rs.toArray rn) :: (pdx, accD w.params t0 t1) :: (ex ++ news), @Ne Nat p.1 pa) (h7 : ∀ p ∈ (pdx, accD w.params t0 t1) :: (ex ++ news), @Ne Nat p.1 rl)
      (h8 : wt st ≤ 30 * i) (h9 : st.length ≤ i) (h10 : rs.length = i) (h11 : ∀ p ∈ st, p.1 ≤ 8 ∧ 1 ≤ p.2.length) (h12 : Has m' [(Str.ofString "rows", .ref rl), (Str.ofString "pile", .ref pa)]) : InvP w news ls pa pdx rl t0 t1 i m' n'
/-- what holds ahead of each pop -/
inductive InvQ (rest1 q1 : List (Addr × Obj)) (pa pdx rl : Addr) (mr : List (Nat × Str)) (i : Nat) (k : Nat) (m' : Str → Option Value) (nw : List (Addr × Obj)) : Prop
  | mk (n : Nat) (y : Str) (st' : List (Nat × Str)) (vs' : List Value) (pn' : Nat) (ex' : List (Addr × Obj)) (lt' : Addr) (ta' tb' tl ty : Tok)
      (h1 : nw = (pa, accObj vs'.toArray pn' pdx) :: (ex' ++ rest1)) (h2 : PileIn (ex' ++ q1) sp vs' st'.tail.reverse) (h3 : (lt', tup2 (lastB st').1 (lastB st').2 ta' tb') ∈ ex' ++ rest1) (h4 : mrg st' n y = mr)
      (h5 : wt st' + y.length ≤ 30 * i + 20) (h6 : 1 ≤ y.length) (h7 : n ≤ 8) (h8 : ∀ p ∈ st', p.1 ≤ 8 ∧ 1 ≤ p.2.length) (h9 : st'.length ≤ i) (h10 : ∀ p ∈ ex', @LT.lt Nat _ pa p.1 ∧ ∀ q ∈ rest1, @LT.lt Nat _ q.1 p.1) (h11 : k = st'.length)
      (h12 : Has m' [(Str.ofString "last", .ref lt'), (Str.ofString "lead", .str (sp n) tl), (Str.ofString "text", .str y ty), (Str.ofString "pile", .ref pa), (Str.ofString "rows", .ref rl)]) : InvQ rest1 q1 pa pdx rl mr i k m' nw
/-- what a condition leaves -/
inductive CondP (s : Shared) (g' : Heap) (L' : Addr) (ld : List (Addr × Obj)) (bv : Bool) (lt : Addr) (lead text : Str) (pa rl : Addr) (b : Bool) (s₂ : Shared) : Prop
  | mk (h' : Heap) (tk : Nat) (m' : Str → Option Value) (tl ty : Tok) (h1 : s₂ = { s with heap := h', toks := tk }) (h2 : Fr g' L' h' m') (h3 : News g' L' h' ld) (h4 : b = bv)
      (h5 : Has m' [(Str.ofString "last", .ref lt), (Str.ofString "lead", .str lead tl), (Str.ofString "text", .str text ty), (Str.ofString "pile", .ref pa), (Str.ofString "rows", .ref rl)]) : CondP s g' L' ld bv lt lead text pa rl b s₂
/-- what the push of the last piece leaves -/
inductive PutP (s : Shared) (g' : Heap) (L' pa pdx : Addr) (rest1 q1 : List (Addr × Obj)) (sr : List (Nat × Str)) (lead text : Str) (tl ty : Tok) (rl : Addr) (f : Flow) (s₂ : Shared) : Prop
  | mk (h0 : f = .next) (h' : Heap) (tk : Nat) (m' : Str → Option Value) (vs3 : List Value) (pn3 : Nat) (ex3 : List (Addr × Obj)) (h1 : s₂ = { s with heap := h', toks := tk }) (h2 : Fr g' L' h' m') (h3 : News g' L' h' ((pa, accObj (List.toArray vs3) pn3 pdx) :: (ex3 ++ rest1)))
      (h4 : PileIn (ex3 ++ q1) sp vs3 sr) (h5 : ∀ p ∈ ex3, @LT.lt Nat _ pa p.1 ∧ ∀ q ∈ rest1, @LT.lt Nat _ q.1 p.1) (h6 : Has m' [(Str.ofString "lead", .str lead tl), (Str.ofString "text", .str text ty), (Str.ofString "pile", .ref pa), (Str.ofString "rows", .ref rl)]) : PutP s g' L' pa pdx rest1 q1 sr lead text tl ty rl f s₂
local macro_rules | `(tactic| k_mem) => `(tactic| assumption)
local macro_rules | `(tactic| k_mem) => `(tactic| (refine List.Mem.tail _ ?_; assumption))
local macro_rules | `(tactic| k_mem) => `(tactic| (refine List.Mem.tail _ (List.Mem.tail _ ?_); assumption))
local macro_rules | `(tactic| k_room) => `(tactic| ((try simp only [depth_under_make, depth_under_kw, depth_in1, depth_deeper, depth_caller]); exact Nat.lt_of_le_of_lt (by assumption) (by decide)))
local macro_rules | `(tactic| k_room) => `(tactic| ((try simp only [depth_under_make, depth_under_kw, depth_in1, depth_deeper, depth_caller]); exact Nat.lt_of_lt_of_le (show _ < 995 by omega) (by decide)))
local macro_rules | `(tactic| k_units) => `(tactic| (show _ < _; refine Nat.lt_of_le_of_lt (by assumption) ?_; decide))
local macro_rules | `(tactic| k_all) => `(tactic| first | assumption | exact offN (by assumption) (by omega))
local macro_rules | `(tactic| k_inst) => `(tactic| exact accInst (by k_asm) (by k_mem) (by k_mem))
local macro_rules | `(tactic| walk_at "call ref") => `(tactic| (k_here; k_dflt (refine' c_new ?k1 ?k2 ?k3 ?k4 ?k5 ?k6 ?k7 ?k8 ?k9 ?ka ?kb ?_; (case k1 => k_asm); (case k2 => k_asm); (case k3 => k_asm); (case k4 => k_asm); (case k5 => k_asm); (case k6 => rfl); (case k7 => rfl); (case k8 => rfl); (case k9 => rfl); (case ka => (try simp only [depth_under_make, depth_under_kw, depth_in1, depth_deeper, depth_caller]); omega); (case kb => (simp only [Around.deeper_units]; omega)); intro x' d' t0' t1' h' tk' F' N' l1 l2; (try k_lt l1); (try k_lt2 l2); (try dsimp only))))
local macro_rules | `(tactic| walk_at "eval ListComp") => `(tactic| refine halt ?_)
local macro_rules | `(tactic| size_fits) => `(tactic| (rw [sizeLine_eq]; simp only [List.size_toArray]; omega))
set_option maxHeartbeats 8000000 in
theorem c_pile {ll : Addr} {lvs : List Value} {ln : Nat} {ls : List (Nat × Str)} (B : Below A₀ base outer h₀) (F : Fr h₀ L s.heap m) (X₀ : (hd.heap_39 w.params).In h₀) (N : News h₀ L s.heap news)
    (T : Top hd.view_39 lo mean mg mb h₀) (hh : A.handled = none) (hA : A.frames = some (env :: outer)) (hf : env.frame = some L) (hke : env.scope.kind = .function) (hdp : A.depth ≤ 890) (hu : A.units ≤ 4900)
    (hm : (ll, W.listOf lvs.toArray ln) ∈ news) (hi : LinesIn w.params news lvs ls) (hb : ∀ p ∈ ls, p.1 ≤ 8 ∧ 1 ≤ p.2.length ∧ p.2.length ≤ 20) (hlen : ls.length ≤ 10)
    (hR : ∀ t pa rl (vs : List Value) pn dx t0 t1 rs rn ex h' tk, Fr h₀ L h' m → News h₀ L h' (ex ++ news) → Apart ex news → (t, ({ cls := .type "tuple", data := .seq #[.ref pa, .ref rl] } : Obj)) ∈ ex → (pa, accObj vs.toArray pn dx) ∈ ex → (dx, accD w.params t0 t1) ∈ ex → (rl, W.listOf rs.toArray rn) ∈ ex → RowsIn (ex ++ news) rs (pileGo ls [] []).2 → PileIn (ex ++ news) sp vs (pileGo ls [] []).1.reverse → R (.ok (.ret (.ref t))) { s with heap := h', toks := tk }) :
    codeAny (model PySem.Challenge.rw_wr0016_01.row.prog w) A (.call (.ref 186) ⟨[.ref ll], []⟩) R s := by
  revert X₀; k_fill; intro X₀
  obtain ⟨_, d, _, gd, u⟩ := A
  dsimp only at hh hA hdp hu
  subst hh hA
  ((k_dflt (refine' code_def ?k1 ?k2 ?k3 ?k4 ?k5 ?kA ?kF ?kK ?k6 ?k7 ?k8 ?k9 ?kB ?_ ?c2 ?c3 ?c4 ?c5; (case kA => exact rfl); (case kF => first | exact rfl | assumption); (case kK => first | exact rfl | assumption); (case k1 => k_asm); (case k2 => k_asm); (case k3 => k_asm); (case k4 => k_asm); (case k5 => k_asm); (case k6 => k_is); (case k7 => k_is); (case k8 => k_room); (case k9 => first | exact BindsTo.of_eq rfl | exact binds_K (by k_in) rfl (by k_is) rfl rfl rfl); (case c5 => decide); (case kB => exact locs rfl); (case c2 => exact rfl); (case c3 => exact rfl); (case c4 => exact rfl)); intro g' L' h' FG' F' N' B' X' T'; (try dsimp only); (try k_lift B'); (try k_fold)))
  repeat' (((first | (k_unfold; (try dsimp only)) | ((fail_if_success (with_reducible show wpAny _ _ (exec (Stmt.For _ _ _ _ _) _) _ _ _)); (fail_if_success (with_reducible show wpAny _ _ (exec (Stmt.While _ _ _ _) _) _ _ _)); (first | (((with_reducible show wpAny _ _ (subscriptTail _ (PySem.Expr.Slice (some _) none none _) _ _) _ _ _); (with_reducible rename Fr _ _ _ _ => F'); (with_reducible rename News _ _ _ _ => N'); (refine slice_strN_sn (hsz := ?hsz) (s := ⟨_, _, _, _, _⟩) F' N' ?_); (case hsz => (rw [sp_len, sizeLine_eq]; omega)); intro _ _ _ _ _)) | ((k_here; (with_reducible show wpAny _ _ (call (Value.builtin "len") [Value.str _ _]) _ _ _); refine SBL.len (by omega) ?_)) | ((with_reducible show wpAny _ _ (getMethod (Value.ref _) _ _) _ _ _); ((k_here; k_dflt (refine' acc_method ?k1 ?k2 ?k3 ?k4 ?k5 ?k6 ?k7 ?k8 ?k9 ?_; (case k1 => k_asm); (case k2 => k_asm); (case k3 => k_asm); (case k4 => k_mem); (case k5 => k_mem); (case k6 => k_is); (case k7 => k_is); (case k8 => exact rfl); (case k9 => k_get); k_whole)))) | (((with_reducible show wpAny _ _ (call (Value.ref 111) _) _ _ _); refine halt ?_)) | (((with_reducible show wpAny _ _ (call (Value.ref 127) _) _ _ _); refine halt ?_)) | ((with_reducible show wpAny _ _ (pyIter (Value.ref _)) _ _ _); ((refine' iter_list ?k1 ?k2 ?k3 ?_; (case k1 => k_asm); (case k2 => k_asm); (case k3 => k_mem)))) | walk1)) | (dsimp only; (first | (((with_reducible show wpAny _ _ (subscriptTail _ (PySem.Expr.Slice (some _) none none _) _ _) _ _ _); (with_reducible rename Fr _ _ _ _ => F'); (with_reducible rename News _ _ _ _ => N'); (refine slice_strN_sn (hsz := ?hsz) (s := ⟨_, _, _, _, _⟩) F' N' ?_); (case hsz => (rw [sp_len, sizeLine_eq]; omega)); intro _ _ _ _ _)) | ((k_here; (with_reducible show wpAny _ _ (call (Value.builtin "len") [Value.str _ _]) _ _ _); refine SBL.len (by omega) ?_)) | ((with_reducible show wpAny _ _ (getMethod (Value.ref _) _ _) _ _ _); ((k_here; k_dflt (refine' acc_method ?k1 ?k2 ?k3 ?k4 ?k5 ?k6 ?k7 ?k8 ?k9 ?_; (case k1 => k_asm); (case k2 => k_asm); (case k3 => k_asm); (case k4 => k_mem); (case k5 => k_mem); (case k6 => k_is); (case k7 => k_is); (case k8 => exact rfl); (case k9 => k_get); k_whole)))) | (((with_reducible show wpAny _ _ (call (Value.ref 111) _) _ _ _); refine halt ?_)) | (((with_reducible show wpAny _ _ (call (Value.ref 127) _) _ _ _); refine halt ?_)) | ((with_reducible show wpAny _ _ (pyIter (Value.ref _)) _ _ _); ((refine' iter_list ?k1 ?k2 ?k3 ?_; (case k1 => k_asm); (case k2 => k_asm); (case k3 => k_mem)))) | walk1)))))
  (refine wpAny_For ?_ (by intro _; rfl); repeat' (((first | (k_unfold; (try dsimp only)) | ((fail_if_success (with_reducible show wpAny _ _ (exec (Stmt.For _ _ _ _ _) _) _ _ _)); (fail_if_success (with_reducible show wpAny _ _ (exec (Stmt.While _ _ _ _) _) _ _ _)); (first | (((with_reducible show wpAny _ _ (subscriptTail _ (PySem.Expr.Slice (some _) none none _) _ _) _ _ _); (with_reducible rename Fr _ _ _ _ => F'); (with_reducible rename News _ _ _ _ => N'); (refine slice_strN_sn (hsz := ?hsz) (s := ⟨_, _, _, _, _⟩) F' N' ?_); (case hsz => (rw [sp_len, sizeLine_eq]; omega)); intro _ _ _ _ _)) | ((k_here; (with_reducible show wpAny _ _ (call (Value.builtin "len") [Value.str _ _]) _ _ _); refine SBL.len (by omega) ?_)) | ((with_reducible show wpAny _ _ (getMethod (Value.ref _) _ _) _ _ _); ((k_here; k_dflt (refine' acc_method ?k1 ?k2 ?k3 ?k4 ?k5 ?k6 ?k7 ?k8 ?k9 ?_; (case k1 => k_asm); (case k2 => k_asm); (case k3 => k_asm); (case k4 => k_mem); (case k5 => k_mem); (case k6 => k_is); (case k7 => k_is); (case k8 => exact rfl); (case k9 => k_get); k_whole)))) | (((with_reducible show wpAny _ _ (call (Value.ref 111) _) _ _ _); refine halt ?_)) | (((with_reducible show wpAny _ _ (call (Value.ref 127) _) _ _ _); refine halt ?_)) | ((with_reducible show wpAny _ _ (pyIter (Value.ref _)) _ _ _); ((refine' iter_list ?k1 ?k2 ?k3 ?_; (case k1 => k_asm); (case k2 => k_asm); (case k3 => k_mem)))) | walk1)) | (dsimp only; (first | (((with_reducible show wpAny _ _ (subscriptTail _ (PySem.Expr.Slice (some _) none none _) _ _) _ _ _); (with_reducible rename Fr _ _ _ _ => F'); (with_reducible rename News _ _ _ _ => N'); (refine slice_strN_sn (hsz := ?hsz) (s := ⟨_, _, _, _, _⟩) F' N' ?_); (case hsz => (rw [sp_len, sizeLine_eq]; omega)); intro _ _ _ _ _)) | ((k_here; (with_reducible show wpAny _ _ (call (Value.builtin "len") [Value.str _ _]) _ _ _); refine SBL.len (by omega) ?_)) | ((with_reducible show wpAny _ _ (getMethod (Value.ref _) _ _) _ _ _); ((k_here; k_dflt (refine' acc_method ?k1 ?k2 ?k3 ?k4 ?k5 ?k6 ?k7 ?k8 ?k9 ?_; (case k1 => k_asm); (case k2 => k_asm); (case k3 => k_asm); (case k4 => k_mem); (case k5 => k_mem); (case k6 => k_is); (case k7 => k_is); (case k8 => exact rfl); (case k9 => k_get); k_whole)))) | (((with_reducible show wpAny _ _ (call (Value.ref 111) _) _ _ _); refine halt ?_)) | (((with_reducible show wpAny _ _ (call (Value.ref 127) _) _ _ _); refine halt ?_)) | ((with_reducible show wpAny _ _ (pyIter (Value.ref _)) _ _ _); ((refine' iter_list ?k1 ?k2 ?k3 ?_; (case k1 => k_asm); (case k2 => k_asm); (case k3 => k_mem)))) | walk1))))))
  rename Fr _ _ _ _ => F1
  rename News _ _ _ _ => N1
  rename_i pa pdx t0 t1 _ _ l1 l1d _ rl _ l2 _ _ _ I _ hI0
  refine loop_seq (vs := lvs) (InvP w news ls pa pdx rl t0 t1) ?_ rfl F1 (kst_newsOf (l' := (I, itObj ll 0) :: (pa, accObj #[] 0 pdx) :: (rl, W.listOf #[] 0) :: (pdx, accD w.params t0 t1) :: ([] ++ news)) N1 ?_) ?_ ?_ ?_ ?_ ?_
  · rintro i m' n' ⟨st, rows, vs, rs, pn, rn, ex, rfl, _⟩
    exact ⟨_, List.Mem.tail _ (List.Mem.tail _ (List.Mem.tail _ (List.mem_append_right _ hm))), ln, rfl⟩
  · (intro p hp; simp only [List.mem_cons, List.mem_append, List.nil_append, List.cons_append, List.append_assoc] at hp ⊢; (repeat' (first | (simp only [hp, true_or, or_true, eq_self]; done) | (rcases hp with hp | hp))))
  · intro p hp
    refine Nat.ne_of_lt (hI0 p ?_)
    revert p hp
    (intro p hp; simp only [List.mem_cons, List.mem_append, List.nil_append, List.cons_append, List.append_assoc] at hp ⊢; (repeat' (first | (simp only [hp, true_or, or_true, eq_self]; done) | (rcases hp with hp | hp))))
  · have l2' := of_allLt l2.2.2
    refine ⟨[], [], [], [], 0, 0, [], rfl, .nil, .nil, rfl, .nil, ?_, ?_, Nat.zero_le _, Nat.zero_le _, rfl, (fun p hp => nomatch hp), rfl, rfl, trivial⟩
    · exact List.forall_mem_cons.mpr ⟨Nat.ne_of_gt l2.1, List.forall_mem_cons.mpr ⟨Nat.ne_of_lt l1d, fun p hp => Nat.ne_of_lt (Nat.lt_trans (l1 p hp) l1d)⟩⟩
    · exact List.forall_mem_cons.mpr ⟨Nat.ne_of_lt l2.2.1, fun p hp => Nat.ne_of_lt (l2' p hp)⟩
  · rintro i v m₁ news₁ h₁ tk₁ hv ⟨st, rows, vs, rs, pn, rn, ex, rfl, hst, hrows, hgo, hap, hpa, hrl, hwt, hsl, hrsl, hsb, hmm⟩ F₁ N₁ hI1
    obtain ⟨⟨dd, x⟩, hx, xa, xd, xo, xtk, xk, rfl, hx1, hx2⟩ := hi.get hv
    have hi10 : i < ls.length := (List.getElem?_eq_some_iff.mp hx).1
    have hxb := hb (dd, x) (List.mem_of_getElem? hx)
    dsimp only at hx2 hxb
    have hdrop : ls.drop i = (dd, x) :: ls.drop (i + 1) := by rw [List.drop_eq_getElem_cons hi10]; congr 1; exact (List.getElem?_eq_some_iff.mp hx).2
    rw [hdrop, pileGo] at hgo
    replace F₁ := fr_ov F₁ hmm
    refine fr_let F₁ ?_
    clear F₁
    intro M1 F₁
    have hIpa : @LT.lt Nat _ pa I := hI0 _ (List.Mem.tail _ (List.Mem.head _))
    have hIrl : @LT.lt Nat _ rl I := hI0 _ (List.Mem.head _)
    have hpl : ∀ p ∈ ex ++ news, p ∈ (I, itObj ll (i + 1)) :: (rl, W.listOf rs.toArray rn) :: (pdx, accD w.params t0 t1) :: (ex ++ news) := by (intro p hp; simp only [List.mem_cons, List.mem_append, List.nil_append, List.cons_append, List.append_assoc] at hp ⊢; (repeat' (first | (simp only [hp, true_or, or_true, eq_self]; done) | (rcases hp with hp | hp))))
    have hD : (pdx, accD w.params t0 t1) ∈ (I, itObj ll (i + 1)) :: (rl, W.listOf rs.toArray rn) :: (pdx, accD w.params t0 t1) :: (ex ++ news) := List.Mem.tail _ (List.Mem.tail _ (List.Mem.head _))
    replace hx1 : (xa, instObj 83 xd) ∈ (I, itObj ll (i + 1)) :: (rl, W.listOf rs.toArray rn) :: (pdx, accD w.params t0 t1) :: (ex ++ news) := List.Mem.tail _ (List.Mem.tail _ (List.Mem.tail _ (List.mem_append_right _ hx1)))
    replace hx2 : (xd, exD w.params xtk (x ++ Str.ofString "\n") xk (↑dd) xo) ∈ (I, itObj ll (i + 1)) :: (rl, W.listOf rs.toArray rn) :: (pdx, accD w.params t0 t1) :: (ex ++ news) := List.Mem.tail _ (List.Mem.tail _ (List.Mem.tail _ (List.mem_append_right _ hx2)))
    replace N₁ : News g' L' h₁ ((pa, accObj vs.toArray pn pdx) :: (I, itObj ll (i + 1)) :: (rl, W.listOf rs.toArray rn) :: (pdx, accD w.params t0 t1) :: (ex ++ news)) := kst_newsOf N₁ (by (intro p hp; simp only [List.mem_cons, List.mem_append, List.nil_append, List.cons_append, List.append_assoc] at hp ⊢; (repeat' (first | (simp only [hp, true_or, or_true, eq_self]; done) | (rcases hp with hp | hp)))))
    have hpa1 : ∀ p ∈ (I, itObj ll (i + 1)) :: (rl, W.listOf rs.toArray rn) :: (pdx, accD w.params t0 t1) :: (ex ++ news), @Ne Nat p.1 pa := List.forall_mem_cons.mpr ⟨Nat.ne_of_gt hIpa, hpa⟩
    have hnr0 : ∀ q ∈ news, q ∈ (I, itObj ll (i + 1)) :: (rl, W.listOf rs.toArray rn) :: (pdx, accD w.params t0 t1) :: (ex ++ news) := by (intro p hp; simp only [List.mem_cons, List.mem_append, List.nil_append, List.cons_append, List.append_assoc] at hp ⊢; (repeat' (first | (simp only [hp, true_or, or_true, eq_self]; done) | (rcases hp with hp | hp))))
    generalize hrest : (I, itObj ll (i + 1)) :: (rl, W.listOf rs.toArray rn) :: (pdx, accD w.params t0 t1) :: (ex ++ news) = rest at N₁ hD hx1 hx2 hpa1 hnr0 hpl
    have hsl10 : st.length ≤ 10 := by omega
    clear F1 N1 hi hb hm hI0
    repeat' (((first | (k_unfold; (try dsimp only); (try clear qk); (try clear ek)) | ((with_reducible show wpAny _ _ (exec _ _) _ _ _); k_fold) | ((fail_if_success (with_reducible show wpAny _ _ (exec (Stmt.For _ _ _ _ _) _) _ _ _)); (fail_if_success (with_reducible show wpAny _ _ (exec (Stmt.While _ _ _ _) _) _ _ _)); (first | (((with_reducible show wpAny _ _ (subscriptTail _ (PySem.Expr.Slice (some _) none none _) _ _) _ _ _); (with_reducible rename Fr _ _ _ _ => F'); (with_reducible rename News _ _ _ _ => N'); (refine slice_strN_sn (hsz := ?hsz) (s := ⟨_, _, _, _, _⟩) F' N' ?_); (case hsz => (rw [sp_len, sizeLine_eq]; omega)); intro _ _ _ _ _)) | ((k_here; (with_reducible show wpAny _ _ (call (Value.builtin "len") [Value.str _ _]) _ _ _); refine SBL.len (by omega) ?_)) | ((with_reducible show wpAny _ _ (getMethod (Value.ref _) _ _) _ _ _); ((k_here; k_dflt (refine' acc_method ?k1 ?k2 ?k3 ?k4 ?k5 ?k6 ?k7 ?k8 ?k9 ?_; (case k1 => k_asm); (case k2 => k_asm); (case k3 => k_asm); (case k4 => k_mem); (case k5 => k_mem); (case k6 => k_is); (case k7 => k_is); (case k8 => exact rfl); (case k9 => k_get); k_whole)))) | (((with_reducible show wpAny _ _ (call (Value.ref 111) _) _ _ _); refine halt ?_)) | (((with_reducible show wpAny _ _ (call (Value.ref 127) _) _ _ _); refine halt ?_)) | ((with_reducible show wpAny _ _ (pyIter (Value.ref _)) _ _ _); ((refine' iter_list ?k1 ?k2 ?k3 ?_; (case k1 => k_asm); (case k2 => k_asm); (case k3 => k_mem)))) | walk1)) | (dsimp only; (first | (((with_reducible show wpAny _ _ (subscriptTail _ (PySem.Expr.Slice (some _) none none _) _ _) _ _ _); (with_reducible rename Fr _ _ _ _ => F'); (with_reducible rename News _ _ _ _ => N'); (refine slice_strN_sn (hsz := ?hsz) (s := ⟨_, _, _, _, _⟩) F' N' ?_); (case hsz => (rw [sp_len, sizeLine_eq]; omega)); intro _ _ _ _ _)) | ((k_here; (with_reducible show wpAny _ _ (call (Value.builtin "len") [Value.str _ _]) _ _ _); refine SBL.len (by omega) ?_)) | ((with_reducible show wpAny _ _ (getMethod (Value.ref _) _ _) _ _ _); ((k_here; k_dflt (refine' acc_method ?k1 ?k2 ?k3 ?k4 ?k5 ?k6 ?k7 ?k8 ?k9 ?_; (case k1 => k_asm); (case k2 => k_asm); (case k3 => k_asm); (case k4 => k_mem); (case k5 => k_mem); (case k6 => k_is); (case k7 => k_is); (case k8 => exact rfl); (case k9 => k_get); k_whole)))) | (((with_reducible show wpAny _ _ (call (Value.ref 111) _) _ _ _); refine halt ?_)) | (((with_reducible show wpAny _ _ (call (Value.ref 127) _) _ _ _); refine halt ?_)) | ((with_reducible show wpAny _ _ (pyIter (Value.ref _)) _ _ _); ((refine' iter_list ?k1 ?k2 ?k3 ?_; (case k1 => k_asm); (case k2 => k_asm); (case k3 => k_mem)))) | walk1)))))
    refine unhalt ?_
    show wpAny _ _ (call (.ref 127) [.ref pa]) _ _ _
    refine c_popL (by k_asm) (by k_asm) (by k_asm) (by k_asm) (by k_asm) rfl rfl rfl rfl ?_ ?_ hD hpa1 hst hpl (by omega) ?_
    · simp only [depth_deeper]; omega
    · simp only [Around.deeper_units]; omega
    intro lt ta tb vs1 pn1 ex1 h1 tk1 F1 N1 hex1 hlt hst1
    have hD' : (pdx, accD w.params t0 t1) ∈ ex1 ++ rest := List.mem_append_right _ hD
    have hx1' : (xa, instObj 83 xd) ∈ ex1 ++ rest := List.mem_append_right _ hx1
    have hx2' : (xd, exD w.params xtk (x ++ Str.ofString "\n") xk (↑dd) xo) ∈ ex1 ++ rest := List.mem_append_right _ hx2
    have hpa2 : ∀ p ∈ ex1 ++ rest, @Ne Nat p.1 pa := fun p hp => (List.mem_append.mp hp).elim (fun h => Nat.ne_of_gt (hex1 p h).1) (hpa1 p)
    have hnr : ∀ q ∈ news, q ∈ ex1 ++ rest := fun q hq => List.mem_append_right _ (hnr0 q hq)
    have hpl1 : ∀ p ∈ ex1 ++ (ex ++ news), p ∈ ex1 ++ rest := fun p hp => (List.mem_append.mp hp).elim (fun h => List.mem_append_left _ h) fun h => List.mem_append_right _ (hpl p h)
    generalize hq1 : ex1 ++ (ex ++ news) = q1 at hst1 hpl1
    generalize hrest1 : ex1 ++ rest = rest1 at N1 hlt hD' hx1' hx2' hpa2 hnr hpl1
    have hlen1 : (lastB st).1.length ≤ 8 := by
      cases st with
      | nil => decide +kernel
      | cons p r => exact (sp_len p.1).symm ▸ (hsb p (List.Mem.head _)).1
    have hlen2 : (lastB st).2.length ≤ 400 := by
      cases st with
      | nil => decide +kernel
      | cons p r => simp only [wt, List.map_cons, List.sum_cons] at hwt; show p.2.length ≤ 400; omega
    generalize hlb1 : (lastB st).1 = l1s at hlt hlen1
    generalize hlb2 : (lastB st).2 = l2s at hlt hlen2
    dsimp only
    repeat' (((first | (k_unfold; (try dsimp only); (try clear qk); (try clear ek)) | ((with_reducible show wpAny _ _ (exec _ _) _ _ _); k_fold) | ((fail_if_success (with_reducible show wpAny _ _ (exec (Stmt.For _ _ _ _ _) _) _ _ _)); (fail_if_success (with_reducible show wpAny _ _ (exec (Stmt.While _ _ _ _) _) _ _ _)); (fail_if_success (with_reducible show wpAny _ _ (isTrue _ _ _) _ _ _)); (first | (((with_reducible show wpAny _ _ (subscriptTail _ (PySem.Expr.Slice (some _) none none _) _ _) _ _ _); (with_reducible rename Fr _ _ _ _ => F'); (with_reducible rename News _ _ _ _ => N'); (refine slice_strN_sn (hsz := ?hsz) (s := ⟨_, _, _, _, _⟩) F' N' ?_); (case hsz => (rw [sp_len, sizeLine_eq]; omega)); intro _ _ _ _ _)) | ((k_here; (with_reducible show wpAny _ _ (call (Value.builtin "len") [Value.str _ _]) _ _ _); refine SBL.len (by omega) ?_)) | ((with_reducible show wpAny _ _ (getMethod (Value.ref _) _ _) _ _ _); ((k_here; k_dflt (refine' acc_method ?k1 ?k2 ?k3 ?k4 ?k5 ?k6 ?k7 ?k8 ?k9 ?_; (case k1 => k_asm); (case k2 => k_asm); (case k3 => k_asm); (case k4 => k_mem); (case k5 => k_mem); (case k6 => k_is); (case k7 => k_is); (case k8 => exact rfl); (case k9 => k_get); k_whole)))) | (((with_reducible show wpAny _ _ (call (Value.ref 111) _) _ _ _); refine halt ?_)) | (((with_reducible show wpAny _ _ (call (Value.ref 127) _) _ _ _); refine halt ?_)) | ((with_reducible show wpAny _ _ (pyIter (Value.ref _)) _ _ _); ((refine' iter_list ?k1 ?k2 ?k3 ?_; (case k1 => k_asm); (case k2 => k_asm); (case k3 => k_mem)))) | walk1)) | (dsimp only; (fail_if_success (with_reducible show wpAny _ _ (isTrue _ _ _) _ _ _)); (first | (((with_reducible show wpAny _ _ (subscriptTail _ (PySem.Expr.Slice (some _) none none _) _ _) _ _ _); (with_reducible rename Fr _ _ _ _ => F'); (with_reducible rename News _ _ _ _ => N'); (refine slice_strN_sn (hsz := ?hsz) (s := ⟨_, _, _, _, _⟩) F' N' ?_); (case hsz => (rw [sp_len, sizeLine_eq]; omega)); intro _ _ _ _ _)) | ((k_here; (with_reducible show wpAny _ _ (call (Value.builtin "len") [Value.str _ _]) _ _ _); refine SBL.len (by omega) ?_)) | ((with_reducible show wpAny _ _ (getMethod (Value.ref _) _ _) _ _ _); ((k_here; k_dflt (refine' acc_method ?k1 ?k2 ?k3 ?k4 ?k5 ?k6 ?k7 ?k8 ?k9 ?_; (case k1 => k_asm); (case k2 => k_asm); (case k3 => k_asm); (case k4 => k_mem); (case k5 => k_mem); (case k6 => k_is); (case k7 => k_is); (case k8 => exact rfl); (case k9 => k_get); k_whole)))) | (((with_reducible show wpAny _ _ (call (Value.ref 111) _) _ _ _); refine halt ?_)) | (((with_reducible show wpAny _ _ (call (Value.ref 127) _) _ _ _); refine halt ?_)) | ((with_reducible show wpAny _ _ (pyIter (Value.ref _)) _ _ _); ((refine' iter_list ?k1 ?k2 ?k3 ?_; (case k1 => k_asm); (case k2 => k_asm); (case k3 => k_mem)))) | walk1)))))
    refine wpAny_mono (Q := fun b s₂ => Halt (CondP s g' L' ((pa, accObj vs1.toArray pn1 pdx) :: rest1) (stops st dd) lt (sp dd) x pa rl b s₂)) ?_ ?_ (fun _ _ e => e)
    · (try k_fold)
      repeat' (((first | (k_unfold; (try dsimp only); (try clear qk); (try clear ek)) | ((with_reducible show wpAny _ _ (exec _ _) _ _ _); k_fold) | ((fail_if_success (with_reducible show wpAny _ _ (exec (Stmt.For _ _ _ _ _) _) _ _ _)); (fail_if_success (with_reducible show wpAny _ _ (exec (Stmt.While _ _ _ _) _) _ _ _)); (first | (((with_reducible show wpAny _ _ (subscriptTail _ (PySem.Expr.Slice (some _) none none _) _ _) _ _ _); (with_reducible rename Fr _ _ _ _ => F'); (with_reducible rename News _ _ _ _ => N'); (refine slice_strN_sn (hsz := ?hsz) (s := ⟨_, _, _, _, _⟩) F' N' ?_); (case hsz => (rw [sp_len, sizeLine_eq]; omega)); intro _ _ _ _ _)) | ((k_here; (with_reducible show wpAny _ _ (call (Value.builtin "len") [Value.str _ _]) _ _ _); refine SBL.len (by omega) ?_)) | ((with_reducible show wpAny _ _ (getMethod (Value.ref _) _ _) _ _ _); ((k_here; k_dflt (refine' acc_method ?k1 ?k2 ?k3 ?k4 ?k5 ?k6 ?k7 ?k8 ?k9 ?_; (case k1 => k_asm); (case k2 => k_asm); (case k3 => k_asm); (case k4 => k_mem); (case k5 => k_mem); (case k6 => k_is); (case k7 => k_is); (case k8 => exact rfl); (case k9 => k_get); k_whole)))) | (((with_reducible show wpAny _ _ (call (Value.ref 111) _) _ _ _); refine halt ?_)) | (((with_reducible show wpAny _ _ (call (Value.ref 127) _) _ _ _); refine halt ?_)) | ((with_reducible show wpAny _ _ (pyIter (Value.ref _)) _ _ _); ((refine' iter_list ?k1 ?k2 ?k3 ?_; (case k1 => k_asm); (case k2 => k_asm); (case k3 => k_mem)))) | walk1)) | (dsimp only; (first | (((with_reducible show wpAny _ _ (subscriptTail _ (PySem.Expr.Slice (some _) none none _) _ _) _ _ _); (with_reducible rename Fr _ _ _ _ => F'); (with_reducible rename News _ _ _ _ => N'); (refine slice_strN_sn (hsz := ?hsz) (s := ⟨_, _, _, _, _⟩) F' N' ?_); (case hsz => (rw [sp_len, sizeLine_eq]; omega)); intro _ _ _ _ _)) | ((k_here; (with_reducible show wpAny _ _ (call (Value.builtin "len") [Value.str _ _]) _ _ _); refine SBL.len (by omega) ?_)) | ((with_reducible show wpAny _ _ (getMethod (Value.ref _) _ _) _ _ _); ((k_here; k_dflt (refine' acc_method ?k1 ?k2 ?k3 ?k4 ?k5 ?k6 ?k7 ?k8 ?k9 ?_; (case k1 => k_asm); (case k2 => k_asm); (case k3 => k_asm); (case k4 => k_mem); (case k5 => k_mem); (case k6 => k_is); (case k7 => k_is); (case k8 => exact rfl); (case k9 => k_get); k_whole)))) | (((with_reducible show wpAny _ _ (call (Value.ref 111) _) _ _ _); refine halt ?_)) | (((with_reducible show wpAny _ _ (call (Value.ref 127) _) _ _ _); refine halt ?_)) | ((with_reducible show wpAny _ _ (pyIter (Value.ref _)) _ _ _); ((refine' iter_list ?k1 ?k2 ?k3 ?_; (case k1 => k_asm); (case k2 => k_asm); (case k3 => k_mem)))) | walk1)))))
      all_goals (
        rename Fr g' L' _ _ => F3
        rename News g' L' _ _ => N3
        refine unhalt ⟨_, _, _, ?tl, ?ty, rfl, F3, kst_newsOf N3 (fun p hp => List.Mem.tail _ hp), ?eq, rfl, ?lead, ?text, rfl, rfl, trivial⟩
        case lead => exact congrArg (fun v => some (Value.str v _)) (mul_sp dd)
        case text => exact congrArg (fun v => some (Value.str v _)) (slice_line x)
        case eq =>
          rw [stops_eq hsb, hlb1, hlb2]
          first
            | (rename (l2s != _) = false => e1; rw [e1]; rfl)
            | (rename (l2s != _) = true => e1; rename (l1s == _) = true => e2; rw [e1, e2]; rfl)
            | (rename (l2s != _) = true => e1; rename (l1s == _) = false => e2; rw [e1, e2, Bool.true_and, Bool.false_or]; first | exact (decide_eq_true (by omega)).symm | exact (decide_eq_false (by omega)).symm))
    · rintro b s₂ ⟨h', tk, m', tl, ty, rfl, F3, N3, rfl, hm3⟩
      replace F3 := fr_ov F3 hm3
      refine fr_let F3 ?_
      clear F3
      intro M3 F3
      cases hs : stops st dd with
      | true =>
        rw [if_pos rfl]
        repeat' (((first | (k_unfold; (try dsimp only); (try clear qk); (try clear ek)) | ((with_reducible show wpAny _ _ (exec _ _) _ _ _); k_fold) | ((fail_if_success (with_reducible show wpAny _ _ (exec (Stmt.For _ _ _ _ _) _) _ _ _)); (fail_if_success (with_reducible show wpAny _ _ (exec (Stmt.While _ _ _ _) _) _ _ _)); (first | (((with_reducible show wpAny _ _ (subscriptTail _ (PySem.Expr.Slice (some _) none none _) _ _) _ _ _); (with_reducible rename Fr _ _ _ _ => F'); (with_reducible rename News _ _ _ _ => N'); (refine slice_strN_sn (hsz := ?hsz) (s := ⟨_, _, _, _, _⟩) F' N' ?_); (case hsz => (rw [sp_len, sizeLine_eq]; omega)); intro _ _ _ _ _)) | ((k_here; (with_reducible show wpAny _ _ (call (Value.builtin "len") [Value.str _ _]) _ _ _); refine SBL.len (by omega) ?_)) | ((with_reducible show wpAny _ _ (getMethod (Value.ref _) _ _) _ _ _); ((k_here; k_dflt (refine' acc_method ?k1 ?k2 ?k3 ?k4 ?k5 ?k6 ?k7 ?k8 ?k9 ?_; (case k1 => k_asm); (case k2 => k_asm); (case k3 => k_asm); (case k4 => k_mem); (case k5 => k_mem); (case k6 => k_is); (case k7 => k_is); (case k8 => exact rfl); (case k9 => k_get); k_whole)))) | (((with_reducible show wpAny _ _ (call (Value.ref 111) _) _ _ _); refine halt ?_)) | (((with_reducible show wpAny _ _ (call (Value.ref 127) _) _ _ _); refine halt ?_)) | ((with_reducible show wpAny _ _ (pyIter (Value.ref _)) _ _ _); ((refine' iter_list ?k1 ?k2 ?k3 ?_; (case k1 => k_asm); (case k2 => k_asm); (case k3 => k_mem)))) | walk1)) | (dsimp only; (first | (((with_reducible show wpAny _ _ (subscriptTail _ (PySem.Expr.Slice (some _) none none _) _ _) _ _ _); (with_reducible rename Fr _ _ _ _ => F'); (with_reducible rename News _ _ _ _ => N'); (refine slice_strN_sn (hsz := ?hsz) (s := ⟨_, _, _, _, _⟩) F' N' ?_); (case hsz => (rw [sp_len, sizeLine_eq]; omega)); intro _ _ _ _ _)) | ((k_here; (with_reducible show wpAny _ _ (call (Value.builtin "len") [Value.str _ _]) _ _ _); refine SBL.len (by omega) ?_)) | ((with_reducible show wpAny _ _ (getMethod (Value.ref _) _ _) _ _ _); ((k_here; k_dflt (refine' acc_method ?k1 ?k2 ?k3 ?k4 ?k5 ?k6 ?k7 ?k8 ?k9 ?_; (case k1 => k_asm); (case k2 => k_asm); (case k3 => k_asm); (case k4 => k_mem); (case k5 => k_mem); (case k6 => k_is); (case k7 => k_is); (case k8 => exact rfl); (case k9 => k_get); k_whole)))) | (((with_reducible show wpAny _ _ (call (Value.ref 111) _) _ _ _); refine halt ?_)) | (((with_reducible show wpAny _ _ (call (Value.ref 127) _) _ _ _); refine halt ?_)) | ((with_reducible show wpAny _ _ (pyIter (Value.ref _)) _ _ _); ((refine' iter_list ?k1 ?k2 ?k3 ?_; (case k1 => k_asm); (case k2 => k_asm); (case k3 => k_mem)))) | walk1)))))
        refine unhalt ?_
        refine c_push (by k_asm) (by k_asm) (by k_asm) (by k_asm) (by k_asm) rfl rfl rfl rfl ?_ ?_ hD' hpa2 (by have := hst1.length; simp at this; omega) ?_
        · simp only [depth_deeper]; omega
        · simp only [Around.deeper_units]; omega
        intro t2 h2 tk2 F4 N4 l4 l5
        dsimp only
        repeat' (((first | (k_unfold; (try dsimp only); (try clear qk); (try clear ek)) | ((with_reducible show wpAny _ _ (exec _ _) _ _ _); k_fold) | ((fail_if_success (with_reducible show wpAny _ _ (exec (Stmt.For _ _ _ _ _) _) _ _ _)); (fail_if_success (with_reducible show wpAny _ _ (exec (Stmt.While _ _ _ _) _) _ _ _)); (first | (((with_reducible show wpAny _ _ (subscriptTail _ (PySem.Expr.Slice (some _) none none _) _ _) _ _ _); (with_reducible rename Fr _ _ _ _ => F'); (with_reducible rename News _ _ _ _ => N'); (refine slice_strN_sn (hsz := ?hsz) (s := ⟨_, _, _, _, _⟩) F' N' ?_); (case hsz => (rw [sp_len, sizeLine_eq]; omega)); intro _ _ _ _ _)) | ((k_here; (with_reducible show wpAny _ _ (call (Value.builtin "len") [Value.str _ _]) _ _ _); refine SBL.len (by omega) ?_)) | ((with_reducible show wpAny _ _ (getMethod (Value.ref _) _ _) _ _ _); ((k_here; k_dflt (refine' acc_method ?k1 ?k2 ?k3 ?k4 ?k5 ?k6 ?k7 ?k8 ?k9 ?_; (case k1 => k_asm); (case k2 => k_asm); (case k3 => k_asm); (case k4 => k_mem); (case k5 => k_mem); (case k6 => k_is); (case k7 => k_is); (case k8 => exact rfl); (case k9 => k_get); k_whole)))) | (((with_reducible show wpAny _ _ (call (Value.ref 111) _) _ _ _); refine halt ?_)) | (((with_reducible show wpAny _ _ (call (Value.ref 127) _) _ _ _); refine halt ?_)) | ((with_reducible show wpAny _ _ (pyIter (Value.ref _)) _ _ _); ((refine' iter_list ?k1 ?k2 ?k3 ?_; (case k1 => k_asm); (case k2 => k_asm); (case k3 => k_mem)))) | walk1)) | (dsimp only; (first | (((with_reducible show wpAny _ _ (subscriptTail _ (PySem.Expr.Slice (some _) none none _) _ _) _ _ _); (with_reducible rename Fr _ _ _ _ => F'); (with_reducible rename News _ _ _ _ => N'); (refine slice_strN_sn (hsz := ?hsz) (s := ⟨_, _, _, _, _⟩) F' N' ?_); (case hsz => (rw [sp_len, sizeLine_eq]; omega)); intro _ _ _ _ _)) | ((k_here; (with_reducible show wpAny _ _ (call (Value.builtin "len") [Value.str _ _]) _ _ _); refine SBL.len (by omega) ?_)) | ((with_reducible show wpAny _ _ (getMethod (Value.ref _) _ _) _ _ _); ((k_here; k_dflt (refine' acc_method ?k1 ?k2 ?k3 ?k4 ?k5 ?k6 ?k7 ?k8 ?k9 ?_; (case k1 => k_asm); (case k2 => k_asm); (case k3 => k_asm); (case k4 => k_mem); (case k5 => k_mem); (case k6 => k_is); (case k7 => k_is); (case k8 => exact rfl); (case k9 => k_get); k_whole)))) | (((with_reducible show wpAny _ _ (call (Value.ref 111) _) _ _ _); refine halt ?_)) | (((with_reducible show wpAny _ _ (call (Value.ref 127) _) _ _ _); refine halt ?_)) | ((with_reducible show wpAny _ _ (pyIter (Value.ref _)) _ _ _); ((refine' iter_list ?k1 ?k2 ?k3 ?_; (case k1 => k_asm); (case k2 => k_asm); (case k3 => k_mem)))) | walk1)))))
        dsimp only [ForStep]
        repeat' (((first | (k_unfold; (try dsimp only); (try clear qk); (try clear ek)) | ((with_reducible show wpAny _ _ (exec _ _) _ _ _); k_fold) | ((fail_if_success (with_reducible show wpAny _ _ (exec (Stmt.For _ _ _ _ _) _) _ _ _)); (fail_if_success (with_reducible show wpAny _ _ (exec (Stmt.While _ _ _ _) _) _ _ _)); (first | (((with_reducible show wpAny _ _ (subscriptTail _ (PySem.Expr.Slice (some _) none none _) _ _) _ _ _); (with_reducible rename Fr _ _ _ _ => F'); (with_reducible rename News _ _ _ _ => N'); (refine slice_strN_sn (hsz := ?hsz) (s := ⟨_, _, _, _, _⟩) F' N' ?_); (case hsz => (rw [sp_len, sizeLine_eq]; omega)); intro _ _ _ _ _)) | ((k_here; (with_reducible show wpAny _ _ (call (Value.builtin "len") [Value.str _ _]) _ _ _); refine SBL.len (by omega) ?_)) | ((with_reducible show wpAny _ _ (getMethod (Value.ref _) _ _) _ _ _); ((k_here; k_dflt (refine' acc_method ?k1 ?k2 ?k3 ?k4 ?k5 ?k6 ?k7 ?k8 ?k9 ?_; (case k1 => k_asm); (case k2 => k_asm); (case k3 => k_asm); (case k4 => k_mem); (case k5 => k_mem); (case k6 => k_is); (case k7 => k_is); (case k8 => exact rfl); (case k9 => k_get); k_whole)))) | (((with_reducible show wpAny _ _ (call (Value.ref 111) _) _ _ _); refine halt ?_)) | (((with_reducible show wpAny _ _ (call (Value.ref 127) _) _ _ _); refine halt ?_)) | ((with_reducible show wpAny _ _ (pyIter (Value.ref _)) _ _ _); ((refine' iter_list ?k1 ?k2 ?k3 ?_; (case k1 => k_asm); (case k2 => k_asm); (case k3 => k_mem)))) | walk1)) | (dsimp only; (first | (((with_reducible show wpAny _ _ (subscriptTail _ (PySem.Expr.Slice (some _) none none _) _ _) _ _ _); (with_reducible rename Fr _ _ _ _ => F'); (with_reducible rename News _ _ _ _ => N'); (refine slice_strN_sn (hsz := ?hsz) (s := ⟨_, _, _, _, _⟩) F' N' ?_); (case hsz => (rw [sp_len, sizeLine_eq]; omega)); intro _ _ _ _ _)) | ((k_here; (with_reducible show wpAny _ _ (call (Value.builtin "len") [Value.str _ _]) _ _ _); refine SBL.len (by omega) ?_)) | ((with_reducible show wpAny _ _ (getMethod (Value.ref _) _ _) _ _ _); ((k_here; k_dflt (refine' acc_method ?k1 ?k2 ?k3 ?k4 ?k5 ?k6 ?k7 ?k8 ?k9 ?_; (case k1 => k_asm); (case k2 => k_asm); (case k3 => k_asm); (case k4 => k_mem); (case k5 => k_mem); (case k6 => k_is); (case k7 => k_is); (case k8 => exact rfl); (case k9 => k_get); k_whole)))) | (((with_reducible show wpAny _ _ (call (Value.ref 111) _) _ _ _); refine halt ?_)) | (((with_reducible show wpAny _ _ (call (Value.ref 127) _) _ _ _); refine halt ?_)) | ((with_reducible show wpAny _ _ (pyIter (Value.ref _)) _ _ _); ((refine' iter_list ?k1 ?k2 ?k3 ?_; (case k1 => k_asm); (case k2 => k_asm); (case k3 => k_mem)))) | walk1)))))
        rename Fr h₀ _ _ _ => F5
        rename News h₀ _ _ _ => N5
        rw [if_pos hs] at hgo
        rename_i tt _ _ _ l6 _ _
        have l7 := of_allLt l6.2.2
        have N6 := kst_newsOf (l' := ((tt, ({ cls := .type "tuple", data := .seq #[.ref pa, .ref rl] } : Obj)) :: (t2, tup2 l1s l2s ta tb) :: (pa, accObj (vs1 ++ [Value.ref t2]).toArray (pn1 + 1) pdx) :: (rl, W.listOf rs.toArray rn) :: (pdx, accD w.params t0 t1) :: (ex1 ++ ex)) ++ news) N5 (by (try rw [← hrest1]); (try rw [← hrest]); (intro p hp; simp only [List.mem_cons, List.mem_append, List.nil_append, List.cons_append, List.append_assoc] at hp ⊢; (repeat' (first | (simp only [hp, true_or, or_true, eq_self]; done) | (rcases hp with hp | hp)))))
        cases st with
        | nil => simp [stops] at hs
        | cons p r =>
          refine hR tt pa rl _ _ pdx t0 t1 rs rn _ _ _ F5 N6 ?_ (List.Mem.head _) (List.Mem.tail _ (List.Mem.tail _ (List.Mem.head _))) (List.Mem.tail _ (List.Mem.tail _ (List.Mem.tail _ (List.Mem.tail _ (List.Mem.head _))))) (List.Mem.tail _ (List.Mem.tail _ (List.Mem.tail _ (List.Mem.head _)))) ?_ ?_
          · refine .cons (fun q hq => Nat.ne_of_lt (l7 q (hnr q hq))) (.cons (fun q hq => Nat.ne_of_lt (l5 q (hnr q hq))) (.cons (fun q hq => Nat.ne_of_lt (Nat.lt_trans (l1 q hq) l1d)) (.cons (fun q hq => Nat.ne_of_lt (of_allLt l2.2.2 q hq)) (.cons (fun q hq => Nat.ne_of_lt (l1 q hq)) (.append (Apart.of_lt fun p hp q hq => (hex1 p hp).2 q (hnr0 q hq)) hap)))))
          · rw [← hgo]; exact hrows.mono (by (intro p hp; simp only [List.mem_cons, List.mem_append, List.nil_append, List.cons_append, List.append_assoc] at hp ⊢; (repeat' (first | (simp only [hp, true_or, or_true, eq_self]; done) | (rcases hp with hp | hp)))))
          · rw [← hgo, List.reverse_cons]
            refine All2.snoc (PileIn.mono hst1 ?_) ⟨t2, ta, tb, rfl, ?_⟩
            · (try rw [← hq1]); (intro p hp; simp only [List.mem_cons, List.mem_append, List.nil_append, List.cons_append, List.append_assoc] at hp ⊢; (repeat' (first | (simp only [hp, true_or, or_true, eq_self]; done) | (rcases hp with hp | hp))))
            · subst hlb1 hlb2
              exact List.Mem.tail _ (List.Mem.head _)
      | false =>
        rw [if_neg Bool.false_ne_true]
        repeat' (((first | (k_unfold; (try dsimp only); (try clear qk); (try clear ek)) | ((with_reducible show wpAny _ _ (exec _ _) _ _ _); k_fold) | ((fail_if_success (with_reducible show wpAny _ _ (exec (Stmt.For _ _ _ _ _) _) _ _ _)); (fail_if_success (with_reducible show wpAny _ _ (exec (Stmt.While _ _ _ _) _) _ _ _)); (first | (((with_reducible show wpAny _ _ (subscriptTail _ (PySem.Expr.Slice (some _) none none _) _ _) _ _ _); (with_reducible rename Fr _ _ _ _ => F'); (with_reducible rename News _ _ _ _ => N'); (refine slice_strN_sn (hsz := ?hsz) (s := ⟨_, _, _, _, _⟩) F' N' ?_); (case hsz => (rw [sp_len, sizeLine_eq]; omega)); intro _ _ _ _ _)) | ((k_here; (with_reducible show wpAny _ _ (call (Value.builtin "len") [Value.str _ _]) _ _ _); refine SBL.len (by omega) ?_)) | ((with_reducible show wpAny _ _ (getMethod (Value.ref _) _ _) _ _ _); ((k_here; k_dflt (refine' acc_method ?k1 ?k2 ?k3 ?k4 ?k5 ?k6 ?k7 ?k8 ?k9 ?_; (case k1 => k_asm); (case k2 => k_asm); (case k3 => k_asm); (case k4 => k_mem); (case k5 => k_mem); (case k6 => k_is); (case k7 => k_is); (case k8 => exact rfl); (case k9 => k_get); k_whole)))) | (((with_reducible show wpAny _ _ (call (Value.ref 111) _) _ _ _); refine halt ?_)) | (((with_reducible show wpAny _ _ (call (Value.ref 127) _) _ _ _); refine halt ?_)) | ((with_reducible show wpAny _ _ (pyIter (Value.ref _)) _ _ _); ((refine' iter_list ?k1 ?k2 ?k3 ?_; (case k1 => k_asm); (case k2 => k_asm); (case k3 => k_mem)))) | walk1)) | (dsimp only; (first | (((with_reducible show wpAny _ _ (subscriptTail _ (PySem.Expr.Slice (some _) none none _) _ _) _ _ _); (with_reducible rename Fr _ _ _ _ => F'); (with_reducible rename News _ _ _ _ => N'); (refine slice_strN_sn (hsz := ?hsz) (s := ⟨_, _, _, _, _⟩) F' N' ?_); (case hsz => (rw [sp_len, sizeLine_eq]; omega)); intro _ _ _ _ _)) | ((k_here; (with_reducible show wpAny _ _ (call (Value.builtin "len") [Value.str _ _]) _ _ _); refine SBL.len (by omega) ?_)) | ((with_reducible show wpAny _ _ (getMethod (Value.ref _) _ _) _ _ _); ((k_here; k_dflt (refine' acc_method ?k1 ?k2 ?k3 ?k4 ?k5 ?k6 ?k7 ?k8 ?k9 ?_; (case k1 => k_asm); (case k2 => k_asm); (case k3 => k_asm); (case k4 => k_mem); (case k5 => k_mem); (case k6 => k_is); (case k7 => k_is); (case k8 => exact rfl); (case k9 => k_get); k_whole)))) | (((with_reducible show wpAny _ _ (call (Value.ref 111) _) _ _ _); refine halt ?_)) | (((with_reducible show wpAny _ _ (call (Value.ref 127) _) _ _ _); refine halt ?_)) | ((with_reducible show wpAny _ _ (pyIter (Value.ref _)) _ _ _); ((refine' iter_list ?k1 ?k2 ?k3 ?_; (case k1 => k_asm); (case k2 => k_asm); (case k3 => k_mem)))) | walk1)))))
        rename Fr g' L' _ _ => F4
        rename News g' L' _ _ => N4
        refine While_inv2 (h₀ := g') (L := L') (InvQ rest1 q1 pa pdx rl (mrg st dd x) i) F4 N4
          ⟨dd, x, st, vs1, pn1, [], lt, _, _, _, _, rfl, hst1, by rw [hlb1, hlb2]; exact hlt, rfl, by omega, hxb.2.1, hxb.1, hsb, hsl, fun _ h => (nomatch h), rfl, rfl, rfl, rfl, rfl, rfl, trivial⟩ ?_ ?_
        rotate_left
        · passes_own
        rintro k m₂ nw h₂ tk₂ F5 N5 ⟨n, y, st', vs', pn', ex', lt', ta', tb', tl', ty', rfl, hst2, hlt2, hmg, hwt2, hy1, hn8, hsb2, hsl2, hex2, rfl, hm5⟩
        replace F5 := fr_ov F5 hm5
        refine fr_let F5 ?_
        clear F5
        intro M5 F5
        have hD2 : (pdx, accD w.params t0 t1) ∈ ex' ++ rest1 := List.mem_append_right _ hD'
        have hpa3 : ∀ p ∈ ex' ++ rest1, @Ne Nat p.1 pa := fun p hp => (List.mem_append.mp hp).elim (fun h => Nat.ne_of_gt (hex2 p h).1) (hpa2 p)
        have hpl2 : ∀ p ∈ ex' ++ q1, p ∈ ex' ++ rest1 := fun p hp => (List.mem_append.mp hp).elim (fun h => List.mem_append_left _ h) fun h => List.mem_append_right _ (hpl1 p h)
        generalize hrest2 : ex' ++ rest1 = rest2 at N5 hlt2 hD2 hpa3 hpl2
        have hlen3 : (lastB st').1.length ≤ 8 := by
          cases st' with
          | nil => decide +kernel
          | cons p r => exact (sp_len p.1).symm ▸ (hsb2 p (List.Mem.head _)).1
        have hlen4 : (lastB st').2.length + y.length ≤ 400 := by
          cases st' with
          | nil => have : (lastB []).2.length = 0 := by decide +kernel
                   omega
          | cons p r => simp only [wt, List.map_cons, List.sum_cons] at hwt2; show p.2.length + y.length ≤ 400; omega
        generalize hlb3 : (lastB st').1 = l3s at hlt2 hlen3
        generalize hlb4 : (lastB st').2 = l4s at hlt2 hlen4
        refine wpAny_mono (Q := fun b s₂ => Halt (CondP s g' L' ((pa, accObj vs'.toArray pn' pdx) :: rest2) (same st' n) lt' (sp n) y pa rl b s₂)) ?_ ?_ (fun _ _ e => e)
        · (try k_fold)
          repeat' (((first | (k_unfold; (try dsimp only); (try clear qk); (try clear ek)) | ((with_reducible show wpAny _ _ (exec _ _) _ _ _); k_fold) | ((fail_if_success (with_reducible show wpAny _ _ (exec (Stmt.For _ _ _ _ _) _) _ _ _)); (fail_if_success (with_reducible show wpAny _ _ (exec (Stmt.While _ _ _ _) _) _ _ _)); (first | (((with_reducible show wpAny _ _ (subscriptTail _ (PySem.Expr.Slice (some _) none none _) _ _) _ _ _); (with_reducible rename Fr _ _ _ _ => F'); (with_reducible rename News _ _ _ _ => N'); (refine slice_strN_sn (hsz := ?hsz) (s := ⟨_, _, _, _, _⟩) F' N' ?_); (case hsz => (rw [sp_len, sizeLine_eq]; omega)); intro _ _ _ _ _)) | ((k_here; (with_reducible show wpAny _ _ (call (Value.builtin "len") [Value.str _ _]) _ _ _); refine SBL.len (by omega) ?_)) | ((with_reducible show wpAny _ _ (getMethod (Value.ref _) _ _) _ _ _); ((k_here; k_dflt (refine' acc_method ?k1 ?k2 ?k3 ?k4 ?k5 ?k6 ?k7 ?k8 ?k9 ?_; (case k1 => k_asm); (case k2 => k_asm); (case k3 => k_asm); (case k4 => k_mem); (case k5 => k_mem); (case k6 => k_is); (case k7 => k_is); (case k8 => exact rfl); (case k9 => k_get); k_whole)))) | (((with_reducible show wpAny _ _ (call (Value.ref 111) _) _ _ _); refine halt ?_)) | (((with_reducible show wpAny _ _ (call (Value.ref 127) _) _ _ _); refine halt ?_)) | ((with_reducible show wpAny _ _ (pyIter (Value.ref _)) _ _ _); ((refine' iter_list ?k1 ?k2 ?k3 ?_; (case k1 => k_asm); (case k2 => k_asm); (case k3 => k_mem)))) | walk1)) | (dsimp only; (first | (((with_reducible show wpAny _ _ (subscriptTail _ (PySem.Expr.Slice (some _) none none _) _ _) _ _ _); (with_reducible rename Fr _ _ _ _ => F'); (with_reducible rename News _ _ _ _ => N'); (refine slice_strN_sn (hsz := ?hsz) (s := ⟨_, _, _, _, _⟩) F' N' ?_); (case hsz => (rw [sp_len, sizeLine_eq]; omega)); intro _ _ _ _ _)) | ((k_here; (with_reducible show wpAny _ _ (call (Value.builtin "len") [Value.str _ _]) _ _ _); refine SBL.len (by omega) ?_)) | ((with_reducible show wpAny _ _ (getMethod (Value.ref _) _ _) _ _ _); ((k_here; k_dflt (refine' acc_method ?k1 ?k2 ?k3 ?k4 ?k5 ?k6 ?k7 ?k8 ?k9 ?_; (case k1 => k_asm); (case k2 => k_asm); (case k3 => k_asm); (case k4 => k_mem); (case k5 => k_mem); (case k6 => k_is); (case k7 => k_is); (case k8 => exact rfl); (case k9 => k_get); k_whole)))) | (((with_reducible show wpAny _ _ (call (Value.ref 111) _) _ _ _); refine halt ?_)) | (((with_reducible show wpAny _ _ (call (Value.ref 127) _) _ _ _); refine halt ?_)) | ((with_reducible show wpAny _ _ (pyIter (Value.ref _)) _ _ _); ((refine' iter_list ?k1 ?k2 ?k3 ?_; (case k1 => k_asm); (case k2 => k_asm); (case k3 => k_mem)))) | walk1)))))
          all_goals (
            rename Fr g' L' _ _ => F6
            rename News g' L' _ _ => N6
            refine unhalt ⟨_, _, _, _, _, rfl, F6, N6, ?eq, rfl, rfl, rfl, rfl, rfl, trivial⟩
            case eq =>
              rw [same_eq hsb2, hlb3, hlb4]
              first
                | (rename (l4s != _) = false => e1; rw [e1]; rfl)
                | (rename (l4s != _) = true => e1; rename (l3s == _) = true => e2; rw [e1, e2]; rfl)
                | (rename (l4s != _) = true => e1; rename (l3s == _) = false => e2; rw [e1, e2]; rfl))
        · rintro b s₂ ⟨h', tk, m', tl, ty, rfl, F6, N6, rfl, hm6⟩
          replace F6 := fr_ov F6 hm6
          refine fr_let F6 ?_
          clear F6
          intro M6 F6
          cases hsm : same st' n with
          | true =>
            rw [if_pos rfl]
            repeat' (((first | (k_unfold; (try dsimp only); (try clear qk); (try clear ek)) | ((with_reducible show wpAny _ _ (exec _ _) _ _ _); k_fold) | ((fail_if_success (with_reducible show wpAny _ _ (exec (Stmt.For _ _ _ _ _) _) _ _ _)); (fail_if_success (with_reducible show wpAny _ _ (exec (Stmt.While _ _ _ _) _) _ _ _)); (first | (((with_reducible show wpAny _ _ (subscriptTail _ (PySem.Expr.Slice (some _) none none _) _ _) _ _ _); (with_reducible rename Fr _ _ _ _ => F'); (with_reducible rename News _ _ _ _ => N'); (refine slice_strN_sn (hsz := ?hsz) (s := ⟨_, _, _, _, _⟩) F' N' ?_); (case hsz => (rw [sp_len, sizeLine_eq]; omega)); intro _ _ _ _ _)) | ((k_here; (with_reducible show wpAny _ _ (call (Value.builtin "len") [Value.str _ _]) _ _ _); refine SBL.len (by omega) ?_)) | ((with_reducible show wpAny _ _ (getMethod (Value.ref _) _ _) _ _ _); ((k_here; k_dflt (refine' acc_method ?k1 ?k2 ?k3 ?k4 ?k5 ?k6 ?k7 ?k8 ?k9 ?_; (case k1 => k_asm); (case k2 => k_asm); (case k3 => k_asm); (case k4 => k_mem); (case k5 => k_mem); (case k6 => k_is); (case k7 => k_is); (case k8 => exact rfl); (case k9 => k_get); k_whole)))) | (((with_reducible show wpAny _ _ (call (Value.ref 111) _) _ _ _); refine halt ?_)) | (((with_reducible show wpAny _ _ (call (Value.ref 127) _) _ _ _); refine halt ?_)) | ((with_reducible show wpAny _ _ (pyIter (Value.ref _)) _ _ _); ((refine' iter_list ?k1 ?k2 ?k3 ?_; (case k1 => k_asm); (case k2 => k_asm); (case k3 => k_mem)))) | walk1)) | (dsimp only; (first | (((with_reducible show wpAny _ _ (subscriptTail _ (PySem.Expr.Slice (some _) none none _) _ _) _ _ _); (with_reducible rename Fr _ _ _ _ => F'); (with_reducible rename News _ _ _ _ => N'); (refine slice_strN_sn (hsz := ?hsz) (s := ⟨_, _, _, _, _⟩) F' N' ?_); (case hsz => (rw [sp_len, sizeLine_eq]; omega)); intro _ _ _ _ _)) | ((k_here; (with_reducible show wpAny _ _ (call (Value.builtin "len") [Value.str _ _]) _ _ _); refine SBL.len (by omega) ?_)) | ((with_reducible show wpAny _ _ (getMethod (Value.ref _) _ _) _ _ _); ((k_here; k_dflt (refine' acc_method ?k1 ?k2 ?k3 ?k4 ?k5 ?k6 ?k7 ?k8 ?k9 ?_; (case k1 => k_asm); (case k2 => k_asm); (case k3 => k_asm); (case k4 => k_mem); (case k5 => k_mem); (case k6 => k_is); (case k7 => k_is); (case k8 => exact rfl); (case k9 => k_get); k_whole)))) | (((with_reducible show wpAny _ _ (call (Value.ref 111) _) _ _ _); refine halt ?_)) | (((with_reducible show wpAny _ _ (call (Value.ref 127) _) _ _ _); refine halt ?_)) | ((with_reducible show wpAny _ _ (pyIter (Value.ref _)) _ _ _); ((refine' iter_list ?k1 ?k2 ?k3 ?_; (case k1 => k_asm); (case k2 => k_asm); (case k3 => k_mem)))) | walk1)))))
            rename Fr g' L' _ _ => F7
            rename News g' L' _ _ => N7
            refine unhalt ?_
            show wpAny _ _ (call (.ref 127) [.ref pa]) _ _ _
            refine c_popL (by k_asm) F7 (by k_asm) (kst_newsOf N7 fun p hp => List.Mem.tail _ hp) (by k_asm) rfl rfl rfl rfl ?_ ?_ hD2 hpa3 hst2 hpl2 (by simp; omega) ?_
            · simp only [depth_deeper]; omega
            · simp only [Around.deeper_units]; omega
            intro lt3 ta3 tb3 vs3 pn3 ex3 h3 tk3 F8 N8 hex3 hlt3 hst3
            dsimp only
            repeat' (((first | (k_unfold; (try dsimp only); (try clear qk); (try clear ek)) | ((with_reducible show wpAny _ _ (exec _ _) _ _ _); k_fold) | ((fail_if_success (with_reducible show wpAny _ _ (exec (Stmt.For _ _ _ _ _) _) _ _ _)); (fail_if_success (with_reducible show wpAny _ _ (exec (Stmt.While _ _ _ _) _) _ _ _)); (first | (((with_reducible show wpAny _ _ (subscriptTail _ (PySem.Expr.Slice (some _) none none _) _ _) _ _ _); (with_reducible rename Fr _ _ _ _ => F'); (with_reducible rename News _ _ _ _ => N'); (refine slice_strN_sn (hsz := ?hsz) (s := ⟨_, _, _, _, _⟩) F' N' ?_); (case hsz => (rw [sp_len, sizeLine_eq]; omega)); intro _ _ _ _ _)) | ((k_here; (with_reducible show wpAny _ _ (call (Value.builtin "len") [Value.str _ _]) _ _ _); refine SBL.len (by omega) ?_)) | ((with_reducible show wpAny _ _ (getMethod (Value.ref _) _ _) _ _ _); ((k_here; k_dflt (refine' acc_method ?k1 ?k2 ?k3 ?k4 ?k5 ?k6 ?k7 ?k8 ?k9 ?_; (case k1 => k_asm); (case k2 => k_asm); (case k3 => k_asm); (case k4 => k_mem); (case k5 => k_mem); (case k6 => k_is); (case k7 => k_is); (case k8 => exact rfl); (case k9 => k_get); k_whole)))) | (((with_reducible show wpAny _ _ (call (Value.ref 111) _) _ _ _); refine halt ?_)) | (((with_reducible show wpAny _ _ (call (Value.ref 127) _) _ _ _); refine halt ?_)) | ((with_reducible show wpAny _ _ (pyIter (Value.ref _)) _ _ _); ((refine' iter_list ?k1 ?k2 ?k3 ?_; (case k1 => k_asm); (case k2 => k_asm); (case k3 => k_mem)))) | walk1)) | (dsimp only; (first | (((with_reducible show wpAny _ _ (subscriptTail _ (PySem.Expr.Slice (some _) none none _) _ _) _ _ _); (with_reducible rename Fr _ _ _ _ => F'); (with_reducible rename News _ _ _ _ => N'); (refine slice_strN_sn (hsz := ?hsz) (s := ⟨_, _, _, _, _⟩) F' N' ?_); (case hsz => (rw [sp_len, sizeLine_eq]; omega)); intro _ _ _ _ _)) | ((k_here; (with_reducible show wpAny _ _ (call (Value.builtin "len") [Value.str _ _]) _ _ _); refine SBL.len (by omega) ?_)) | ((with_reducible show wpAny _ _ (getMethod (Value.ref _) _ _) _ _ _); ((k_here; k_dflt (refine' acc_method ?k1 ?k2 ?k3 ?k4 ?k5 ?k6 ?k7 ?k8 ?k9 ?_; (case k1 => k_asm); (case k2 => k_asm); (case k3 => k_asm); (case k4 => k_mem); (case k5 => k_mem); (case k6 => k_is); (case k7 => k_is); (case k8 => exact rfl); (case k9 => k_get); k_whole)))) | (((with_reducible show wpAny _ _ (call (Value.ref 111) _) _ _ _); refine halt ?_)) | (((with_reducible show wpAny _ _ (call (Value.ref 127) _) _ _ _); refine halt ?_)) | ((with_reducible show wpAny _ _ (pyIter (Value.ref _)) _ _ _); ((refine' iter_list ?k1 ?k2 ?k3 ?_; (case k1 => k_asm); (case k2 => k_asm); (case k3 => k_mem)))) | walk1)))))
            rename Fr g' L' _ _ => F9
            rename News g' L' _ _ => N9
            cases st' with
            | nil => cases hsm
            | cons p r =>
              obtain ⟨b, t⟩ := p
              subst hlb3 hlb4
              have e1 : (Str.ofString "(").length = 1 := by decide +kernel
              have e2 : (Str.ofString ")").length = 1 := by decide +kernel
              refine ⟨_, _, _, _, r.length, rfl, F9, kst_newsOf (l' := (pa, accObj vs3.toArray pn3 pdx) :: ((ex3 ++ ex') ++ rest1)) N9 (by (try rw [← hrest2]); (intro p hp; simp only [List.mem_cons, List.mem_append, List.nil_append, List.cons_append, List.append_assoc] at hp ⊢; (repeat' (first | (simp only [hp, true_or, or_true, eq_self]; done) | (rcases hp with hp | hp))))), Nat.lt_succ_self _, n - 1, Str.ofString "(" ++ t ++ y ++ Str.ofString ")", r, vs3, pn3, ex3 ++ ex', lt3, ta3, tb3, ?tl2, ?ty2, rfl,
                by rw [List.append_assoc]; exact hst3, by subst hrest2; rw [List.append_assoc]; exact hlt3, (mrg_same hsm).symm.trans hmg, ?wt, ?y1, by omega, fun p hp => hsb2 p (List.Mem.tail _ hp), by simp at hsl2; omega, ?ex, rfl, rfl, ?lead2, ?text2, rfl, rfl, trivial⟩
              case lead2 => exact congrArg (fun v => some (Value.str v _)) (slice_sp n)
              case text2 => exact rfl
              case wt =>
                simp only [wt, List.map_cons, List.sum_cons, Str.length_append, e1, e2] at hwt2 ⊢
                omega
              case y1 => simp only [Str.length_append, e1, e2]; omega
              case ex =>
                intro p hp
                rcases List.mem_append.mp hp with hp | hp
                · exact ⟨(hex3 p hp).1, fun q hq => (hex3 p hp).2 q (by (try rw [← hrest2]); exact List.mem_append_right _ hq)⟩
                · exact hex2 p hp
          | false =>
            rw [if_neg Bool.false_ne_true]
            repeat' (((first | (k_unfold; (try dsimp only); (try clear qk); (try clear ek)) | ((with_reducible show wpAny _ _ (exec _ _) _ _ _); k_fold) | ((fail_if_success (with_reducible show wpAny _ _ (exec (Stmt.If _ _ _ _) _) _ _ _)); (first | (((with_reducible show wpAny _ _ (subscriptTail _ (PySem.Expr.Slice (some _) none none _) _ _) _ _ _); (with_reducible rename Fr _ _ _ _ => F'); (with_reducible rename News _ _ _ _ => N'); (refine slice_strN_sn (hsz := ?hsz) (s := ⟨_, _, _, _, _⟩) F' N' ?_); (case hsz => (rw [sp_len, sizeLine_eq]; omega)); intro _ _ _ _ _)) | ((k_here; (with_reducible show wpAny _ _ (call (Value.builtin "len") [Value.str _ _]) _ _ _); refine SBL.len (by omega) ?_)) | ((with_reducible show wpAny _ _ (getMethod (Value.ref _) _ _) _ _ _); ((k_here; k_dflt (refine' acc_method ?k1 ?k2 ?k3 ?k4 ?k5 ?k6 ?k7 ?k8 ?k9 ?_; (case k1 => k_asm); (case k2 => k_asm); (case k3 => k_asm); (case k4 => k_mem); (case k5 => k_mem); (case k6 => k_is); (case k7 => k_is); (case k8 => exact rfl); (case k9 => k_get); k_whole)))) | (((with_reducible show wpAny _ _ (call (Value.ref 111) _) _ _ _); refine halt ?_)) | (((with_reducible show wpAny _ _ (call (Value.ref 127) _) _ _ _); refine halt ?_)) | ((with_reducible show wpAny _ _ (pyIter (Value.ref _)) _ _ _); ((refine' iter_list ?k1 ?k2 ?k3 ?_; (case k1 => k_asm); (case k2 => k_asm); (case k3 => k_mem)))) | walk1)) | (dsimp only; (fail_if_success (with_reducible show wpAny _ _ (exec (Stmt.If _ _ _ _) _) _ _ _)); (first | (((with_reducible show wpAny _ _ (subscriptTail _ (PySem.Expr.Slice (some _) none none _) _ _) _ _ _); (with_reducible rename Fr _ _ _ _ => F'); (with_reducible rename News _ _ _ _ => N'); (refine slice_strN_sn (hsz := ?hsz) (s := ⟨_, _, _, _, _⟩) F' N' ?_); (case hsz => (rw [sp_len, sizeLine_eq]; omega)); intro _ _ _ _ _)) | ((k_here; (with_reducible show wpAny _ _ (call (Value.builtin "len") [Value.str _ _]) _ _ _); refine SBL.len (by omega) ?_)) | ((with_reducible show wpAny _ _ (getMethod (Value.ref _) _ _) _ _ _); ((k_here; k_dflt (refine' acc_method ?k1 ?k2 ?k3 ?k4 ?k5 ?k6 ?k7 ?k8 ?k9 ?_; (case k1 => k_asm); (case k2 => k_asm); (case k3 => k_asm); (case k4 => k_mem); (case k5 => k_mem); (case k6 => k_is); (case k7 => k_is); (case k8 => exact rfl); (case k9 => k_get); k_whole)))) | (((with_reducible show wpAny _ _ (call (Value.ref 111) _) _ _ _); refine halt ?_)) | (((with_reducible show wpAny _ _ (call (Value.ref 127) _) _ _ _); refine halt ?_)) | ((with_reducible show wpAny _ _ (pyIter (Value.ref _)) _ _ _); ((refine' iter_list ?k1 ?k2 ?k3 ?_; (case k1 => k_asm); (case k2 => k_asm); (case k3 => k_mem)))) | walk1)))))
            refine wpAny_mono (Q := fun f s₂ => Halt (PutP s g' L' pa pdx rest1 q1 st'.reverse (sp n) y tl ty rl f s₂)) ?_ ?_ (fun _ _ e => e)
            · (try k_fold)
              repeat' (((first | (k_unfold; (try dsimp only); (try clear qk); (try clear ek)) | ((with_reducible show wpAny _ _ (exec _ _) _ _ _); k_fold) | ((fail_if_success (with_reducible show wpAny _ _ (exec (Stmt.For _ _ _ _ _) _) _ _ _)); (fail_if_success (with_reducible show wpAny _ _ (exec (Stmt.While _ _ _ _) _) _ _ _)); (first | (((with_reducible show wpAny _ _ (subscriptTail _ (PySem.Expr.Slice (some _) none none _) _ _) _ _ _); (with_reducible rename Fr _ _ _ _ => F'); (with_reducible rename News _ _ _ _ => N'); (refine slice_strN_sn (hsz := ?hsz) (s := ⟨_, _, _, _, _⟩) F' N' ?_); (case hsz => (rw [sp_len, sizeLine_eq]; omega)); intro _ _ _ _ _)) | ((k_here; (with_reducible show wpAny _ _ (call (Value.builtin "len") [Value.str _ _]) _ _ _); refine SBL.len (by omega) ?_)) | ((with_reducible show wpAny _ _ (getMethod (Value.ref _) _ _) _ _ _); ((k_here; k_dflt (refine' acc_method ?k1 ?k2 ?k3 ?k4 ?k5 ?k6 ?k7 ?k8 ?k9 ?_; (case k1 => k_asm); (case k2 => k_asm); (case k3 => k_asm); (case k4 => k_mem); (case k5 => k_mem); (case k6 => k_is); (case k7 => k_is); (case k8 => exact rfl); (case k9 => k_get); k_whole)))) | (((with_reducible show wpAny _ _ (call (Value.ref 111) _) _ _ _); refine halt ?_)) | (((with_reducible show wpAny _ _ (call (Value.ref 127) _) _ _ _); refine halt ?_)) | ((with_reducible show wpAny _ _ (pyIter (Value.ref _)) _ _ _); ((refine' iter_list ?k1 ?k2 ?k3 ?_; (case k1 => k_asm); (case k2 => k_asm); (case k3 => k_mem)))) | walk1)) | (dsimp only; (first | (((with_reducible show wpAny _ _ (subscriptTail _ (PySem.Expr.Slice (some _) none none _) _ _) _ _ _); (with_reducible rename Fr _ _ _ _ => F'); (with_reducible rename News _ _ _ _ => N'); (refine slice_strN_sn (hsz := ?hsz) (s := ⟨_, _, _, _, _⟩) F' N' ?_); (case hsz => (rw [sp_len, sizeLine_eq]; omega)); intro _ _ _ _ _)) | ((k_here; (with_reducible show wpAny _ _ (call (Value.builtin "len") [Value.str _ _]) _ _ _); refine SBL.len (by omega) ?_)) | ((with_reducible show wpAny _ _ (getMethod (Value.ref _) _ _) _ _ _); ((k_here; k_dflt (refine' acc_method ?k1 ?k2 ?k3 ?k4 ?k5 ?k6 ?k7 ?k8 ?k9 ?_; (case k1 => k_asm); (case k2 => k_asm); (case k3 => k_asm); (case k4 => k_mem); (case k5 => k_mem); (case k6 => k_is); (case k7 => k_is); (case k8 => exact rfl); (case k9 => k_get); k_whole)))) | (((with_reducible show wpAny _ _ (call (Value.ref 111) _) _ _ _); refine halt ?_)) | (((with_reducible show wpAny _ _ (call (Value.ref 127) _) _ _ _); refine halt ?_)) | ((with_reducible show wpAny _ _ (pyIter (Value.ref _)) _ _ _); ((refine' iter_list ?k1 ?k2 ?k3 ?_; (case k1 => k_asm); (case k2 => k_asm); (case k3 => k_mem)))) | walk1)))))
              · refine unhalt ?_
                refine c_push (by k_asm) (by k_asm) (by k_asm) (by k_asm) (by k_asm) rfl rfl rfl rfl ?_ ?_ hD2 hpa3 (by have := hst2.length; simp at this; omega) ?_
                · simp only [depth_deeper]; omega
                · simp only [Around.deeper_units]; omega
                intro t4 h4 tk4 F8 N8 l4 l5
                dsimp only
                repeat' (((first | (k_unfold; (try dsimp only); (try clear qk); (try clear ek)) | ((with_reducible show wpAny _ _ (exec _ _) _ _ _); k_fold) | ((fail_if_success (with_reducible show wpAny _ _ (exec (Stmt.For _ _ _ _ _) _) _ _ _)); (fail_if_success (with_reducible show wpAny _ _ (exec (Stmt.While _ _ _ _) _) _ _ _)); (first | (((with_reducible show wpAny _ _ (subscriptTail _ (PySem.Expr.Slice (some _) none none _) _ _) _ _ _); (with_reducible rename Fr _ _ _ _ => F'); (with_reducible rename News _ _ _ _ => N'); (refine slice_strN_sn (hsz := ?hsz) (s := ⟨_, _, _, _, _⟩) F' N' ?_); (case hsz => (rw [sp_len, sizeLine_eq]; omega)); intro _ _ _ _ _)) | ((k_here; (with_reducible show wpAny _ _ (call (Value.builtin "len") [Value.str _ _]) _ _ _); refine SBL.len (by omega) ?_)) | ((with_reducible show wpAny _ _ (getMethod (Value.ref _) _ _) _ _ _); ((k_here; k_dflt (refine' acc_method ?k1 ?k2 ?k3 ?k4 ?k5 ?k6 ?k7 ?k8 ?k9 ?_; (case k1 => k_asm); (case k2 => k_asm); (case k3 => k_asm); (case k4 => k_mem); (case k5 => k_mem); (case k6 => k_is); (case k7 => k_is); (case k8 => exact rfl); (case k9 => k_get); k_whole)))) | (((with_reducible show wpAny _ _ (call (Value.ref 111) _) _ _ _); refine halt ?_)) | (((with_reducible show wpAny _ _ (call (Value.ref 127) _) _ _ _); refine halt ?_)) | ((with_reducible show wpAny _ _ (pyIter (Value.ref _)) _ _ _); ((refine' iter_list ?k1 ?k2 ?k3 ?_; (case k1 => k_asm); (case k2 => k_asm); (case k3 => k_mem)))) | walk1)) | (dsimp only; (first | (((with_reducible show wpAny _ _ (subscriptTail _ (PySem.Expr.Slice (some _) none none _) _ _) _ _ _); (with_reducible rename Fr _ _ _ _ => F'); (with_reducible rename News _ _ _ _ => N'); (refine slice_strN_sn (hsz := ?hsz) (s := ⟨_, _, _, _, _⟩) F' N' ?_); (case hsz => (rw [sp_len, sizeLine_eq]; omega)); intro _ _ _ _ _)) | ((k_here; (with_reducible show wpAny _ _ (call (Value.builtin "len") [Value.str _ _]) _ _ _); refine SBL.len (by omega) ?_)) | ((with_reducible show wpAny _ _ (getMethod (Value.ref _) _ _) _ _ _); ((k_here; k_dflt (refine' acc_method ?k1 ?k2 ?k3 ?k4 ?k5 ?k6 ?k7 ?k8 ?k9 ?_; (case k1 => k_asm); (case k2 => k_asm); (case k3 => k_asm); (case k4 => k_mem); (case k5 => k_mem); (case k6 => k_is); (case k7 => k_is); (case k8 => exact rfl); (case k9 => k_get); k_whole)))) | (((with_reducible show wpAny _ _ (call (Value.ref 111) _) _ _ _); refine halt ?_)) | (((with_reducible show wpAny _ _ (call (Value.ref 127) _) _ _ _); refine halt ?_)) | ((with_reducible show wpAny _ _ (pyIter (Value.ref _)) _ _ _); ((refine' iter_list ?k1 ?k2 ?k3 ?_; (case k1 => k_asm); (case k2 => k_asm); (case k3 => k_mem)))) | walk1)))))
                rename Fr g' L' _ _ => F9
                rename News g' L' _ _ => N9
                cases st' with
                | nil => rename (l4s != _) = true => e1; rw [← hlb4] at e1; simp [lastB] at e1
                | cons p r =>
                  refine unhalt ⟨rfl, _, _, _, vs' ++ [Value.ref t4], pn' + 1, (t4, tup2 l3s l4s ta' tb') :: ex', rfl, F9, kst_newsOf N9 (by (try rw [← hrest2]); (intro p hp; simp only [List.mem_cons, List.mem_append, List.nil_append, List.cons_append, List.append_assoc] at hp ⊢; (repeat' (first | (simp only [hp, true_or, or_true, eq_self]; done) | (rcases hp with hp | hp))))), ?_, ?_, rfl, rfl, rfl, rfl, trivial⟩
                  · rw [List.reverse_cons]
                    refine All2.snoc (PileIn.mono hst2 ?_) ⟨t4, ta', tb', rfl, ?_⟩
                    · (intro p hp; simp only [List.mem_cons, List.mem_append, List.nil_append, List.cons_append, List.append_assoc] at hp ⊢; (repeat' (first | (simp only [hp, true_or, or_true, eq_self]; done) | (rcases hp with hp | hp))))
                    · subst hlb3 hlb4
                      exact List.Mem.head _
                  · exact List.forall_mem_cons.mpr ⟨⟨l4, fun q hq => l5 q (hrest2 ▸ List.mem_append_right _ hq)⟩, hex2⟩
              · rename Fr g' L' _ _ => F9
                rename News g' L' _ _ => N9
                cases st' with
                | nil => exact unhalt ⟨rfl, _, _, _, vs', pn', ex', rfl, F9, hrest2 ▸ N9, hst2, hex2, rfl, rfl, rfl, rfl, trivial⟩
                | cons p r =>
                  rename (l4s != _) = false => e1
                  rw [← hlb4] at e1
                  have := len_pos_ne (hsb2 p (List.Mem.head _)).2
                  rw [show (lastB (p :: r)).2 = p.2 from rfl, this] at e1
                  cases e1
            · rintro f s₂ ⟨rfl, h', tk, m', vs3, pn3, ex3, rfl, F7, N7, hst3, hex3, hm7⟩
              replace F7 := fr_ov F7 hm7
              try dsimp only
              have hD3 : (pdx, accD w.params t0 t1) ∈ ex3 ++ rest1 := List.mem_append_right _ hD'
              have hpa4 : ∀ p ∈ ex3 ++ rest1, @Ne Nat p.1 pa := fun p hp => (List.mem_append.mp hp).elim (fun h => Nat.ne_of_gt (hex3 p h).1) (hpa2 p)
              generalize hrest3 : ex3 ++ rest1 = rest3 at N7 hD3 hpa4
              repeat' (((first | (k_unfold; (try dsimp only); (try clear qk); (try clear ek)) | ((with_reducible show wpAny _ _ (exec _ _) _ _ _); k_fold) | ((fail_if_success (with_reducible show wpAny _ _ (exec (Stmt.For _ _ _ _ _) _) _ _ _)); (fail_if_success (with_reducible show wpAny _ _ (exec (Stmt.While _ _ _ _) _) _ _ _)); (first | (((with_reducible show wpAny _ _ (subscriptTail _ (PySem.Expr.Slice (some _) none none _) _ _) _ _ _); (with_reducible rename Fr _ _ _ _ => F'); (with_reducible rename News _ _ _ _ => N'); (refine slice_strN_sn (hsz := ?hsz) (s := ⟨_, _, _, _, _⟩) F' N' ?_); (case hsz => (rw [sp_len, sizeLine_eq]; omega)); intro _ _ _ _ _)) | ((k_here; (with_reducible show wpAny _ _ (call (Value.builtin "len") [Value.str _ _]) _ _ _); refine SBL.len (by omega) ?_)) | ((with_reducible show wpAny _ _ (getMethod (Value.ref _) _ _) _ _ _); ((k_here; k_dflt (refine' acc_method ?k1 ?k2 ?k3 ?k4 ?k5 ?k6 ?k7 ?k8 ?k9 ?_; (case k1 => k_asm); (case k2 => k_asm); (case k3 => k_asm); (case k4 => k_mem); (case k5 => k_mem); (case k6 => k_is); (case k7 => k_is); (case k8 => exact rfl); (case k9 => k_get); k_whole)))) | (((with_reducible show wpAny _ _ (call (Value.ref 111) _) _ _ _); refine halt ?_)) | (((with_reducible show wpAny _ _ (call (Value.ref 127) _) _ _ _); refine halt ?_)) | ((with_reducible show wpAny _ _ (pyIter (Value.ref _)) _ _ _); ((refine' iter_list ?k1 ?k2 ?k3 ?_; (case k1 => k_asm); (case k2 => k_asm); (case k3 => k_mem)))) | walk1)) | (dsimp only; (first | (((with_reducible show wpAny _ _ (subscriptTail _ (PySem.Expr.Slice (some _) none none _) _ _) _ _ _); (with_reducible rename Fr _ _ _ _ => F'); (with_reducible rename News _ _ _ _ => N'); (refine slice_strN_sn (hsz := ?hsz) (s := ⟨_, _, _, _, _⟩) F' N' ?_); (case hsz => (rw [sp_len, sizeLine_eq]; omega)); intro _ _ _ _ _)) | ((k_here; (with_reducible show wpAny _ _ (call (Value.builtin "len") [Value.str _ _]) _ _ _); refine SBL.len (by omega) ?_)) | ((with_reducible show wpAny _ _ (getMethod (Value.ref _) _ _) _ _ _); ((k_here; k_dflt (refine' acc_method ?k1 ?k2 ?k3 ?k4 ?k5 ?k6 ?k7 ?k8 ?k9 ?_; (case k1 => k_asm); (case k2 => k_asm); (case k3 => k_asm); (case k4 => k_mem); (case k5 => k_mem); (case k6 => k_is); (case k7 => k_is); (case k8 => exact rfl); (case k9 => k_get); k_whole)))) | (((with_reducible show wpAny _ _ (call (Value.ref 111) _) _ _ _); refine halt ?_)) | (((with_reducible show wpAny _ _ (call (Value.ref 127) _) _ _ _); refine halt ?_)) | ((with_reducible show wpAny _ _ (pyIter (Value.ref _)) _ _ _); ((refine' iter_list ?k1 ?k2 ?k3 ?_; (case k1 => k_asm); (case k2 => k_asm); (case k3 => k_mem)))) | walk1)))))
              refine unhalt ?_
              refine c_push (by k_asm) (by k_asm) (by k_asm) (by k_asm) (by k_asm) rfl rfl rfl rfl ?_ ?_ hD3 hpa4 (by have := hst3.length; simp at this; omega) ?_
              · simp only [depth_deeper]; omega
              · simp only [Around.deeper_units]; omega
              intro t5 h5 tk5 F8 N8 l4 l5
              dsimp only
              have hIr : ∀ q ∈ rest, q ∈ rest3 := fun q hq => by (try rw [← hrest3]); (try rw [← hrest1]); simp [hq]
              have hZ : ∀ p ∈ (I, itObj ll (i + 1)) :: (pa, accObj (vs3 ++ [Value.ref t5]).toArray (pn3 + 1) pdx) :: (t5, tup2 (sp n) y tl ty) :: (pdx, accD w.params t0 t1) :: (ex3 ++ (ex1 ++ (ex ++ news))), @Ne Nat p.1 rl := by
                have hrlr : (rl, W.listOf rs.toArray rn) ∈ rest := by (try rw [← hrest]); exact List.Mem.tail _ (List.Mem.head _)
                refine List.forall_mem_cons.mpr ⟨Nat.ne_of_gt hIrl, List.forall_mem_cons.mpr ⟨Nat.ne_of_lt l2.1, List.forall_mem_cons.mpr ⟨Nat.ne_of_gt (l5 _ (hIr _ hrlr)), List.forall_mem_cons.mpr ⟨Nat.ne_of_lt l2.2.1, fun p hp => ?_⟩⟩⟩⟩
                rcases List.mem_append.mp hp with hp | hp
                · exact Nat.ne_of_gt ((hex3 p hp).2 _ (by (try rw [← hrest1]); exact List.mem_append_right _ hrlr))
                · rcases List.mem_append.mp hp with hp | hp
                  · exact Nat.ne_of_gt ((hex1 p hp).2 _ hrlr)
                  · exact hrl p (List.Mem.tail _ hp)
              replace N8 : News g' L' h5 ((rl, W.listOf rs.toArray rn) :: (I, itObj ll (i + 1)) :: (pa, accObj (vs3 ++ [Value.ref t5]).toArray (pn3 + 1) pdx) :: (t5, tup2 (sp n) y tl ty) :: (pdx, accD w.params t0 t1) :: (ex3 ++ (ex1 ++ (ex ++ news)))) := kst_newsOf N8 (by (try rw [← hrest3]); (try rw [← hrest1]); (try rw [← hrest]); (intro p hp; simp only [List.mem_cons, List.mem_append, List.nil_append, List.cons_append, List.append_assoc] at hp ⊢; (repeat' (first | (simp only [hp, true_or, or_true, eq_self]; done) | (rcases hp with hp | hp)))))
              have hst5 : PileIn ((t5, tup2 (sp n) y tl ty) :: (ex3 ++ (ex1 ++ (ex ++ news)))) sp (vs3 ++ [Value.ref t5]) (((n, y) :: st').reverse) := by
                rw [List.reverse_cons]
                refine All2.snoc (PileIn.mono hst3 ?_) ⟨t5, tl, ty, rfl, List.Mem.head _⟩
                (try rw [← hq1]); (intro p hp; simp only [List.mem_cons, List.mem_append, List.nil_append, List.cons_append, List.append_assoc] at hp ⊢; (repeat' (first | (simp only [hp, true_or, or_true, eq_self]; done) | (rcases hp with hp | hp))))
              have hsb3 : ∀ p ∈ ((n, y) :: st').reverse, p.1 ≤ 8 := by
                intro p hp
                rcases List.mem_cons.mp (List.mem_reverse.mp hp) with rfl | hp
                · exact hn8
                · exact (hsb2 p hp).1
              have hpaR : (pa, accObj (vs3 ++ [Value.ref t5]).toArray (pn3 + 1) pdx) ∈ (I, itObj ll (i + 1)) :: (pa, accObj (vs3 ++ [Value.ref t5]).toArray (pn3 + 1) pdx) :: (t5, tup2 (sp n) y tl ty) :: (pdx, accD w.params t0 t1) :: (ex3 ++ (ex1 ++ (ex ++ news))) := List.Mem.tail _ (List.Mem.head _)
              have hstR : PileIn ((I, itObj ll (i + 1)) :: (pa, accObj (vs3 ++ [Value.ref t5]).toArray (pn3 + 1) pdx) :: (t5, tup2 (sp n) y tl ty) :: (pdx, accD w.params t0 t1) :: (ex3 ++ (ex1 ++ (ex ++ news)))) sp (vs3 ++ [Value.ref t5]) (((n, y) :: st').reverse) := PileIn.mono hst5 (by (intro p hp; simp only [List.mem_cons, List.mem_append, List.nil_append, List.cons_append, List.append_assoc] at hp ⊢; (repeat' (first | (simp only [hp, true_or, or_true, eq_self]; done) | (rcases hp with hp | hp)))))
              have hvl : (vs3 ++ [Value.ref t5]).length ≤ 100 := by have := hst5.length; rw [this]; simp; omega
              generalize hRR : (I, itObj ll (i + 1)) :: (pa, accObj (vs3 ++ [Value.ref t5]).toArray (pn3 + 1) pdx) :: (t5, tup2 (sp n) y tl ty) :: (pdx, accD w.params t0 t1) :: (ex3 ++ (ex1 ++ (ex ++ news))) = RR at N8 hZ hpaR hstR
              generalize hps : ((n, y) :: st').reverse = ps at hstR hsb3
              repeat' (((first | (k_unfold; (try dsimp only); (try clear qk); (try clear ek)) | ((with_reducible show wpAny _ _ (exec _ _) _ _ _); k_fold) | ((fail_if_success (with_reducible show wpAny _ _ (exec (Stmt.For _ _ _ _ _) _) _ _ _)); (fail_if_success (with_reducible show wpAny _ _ (exec (Stmt.While _ _ _ _) _) _ _ _)); (first | (((with_reducible show wpAny _ _ (subscriptTail _ (PySem.Expr.Slice (some _) none none _) _ _) _ _ _); (with_reducible rename Fr _ _ _ _ => F'); (with_reducible rename News _ _ _ _ => N'); (refine slice_strN_sn (hsz := ?hsz) (s := ⟨_, _, _, _, _⟩) F' N' ?_); (case hsz => (rw [sp_len, sizeLine_eq]; omega)); intro _ _ _ _ _)) | ((k_here; (with_reducible show wpAny _ _ (call (Value.builtin "len") [Value.str _ _]) _ _ _); refine SBL.len (by omega) ?_)) | ((with_reducible show wpAny _ _ (getMethod (Value.ref _) _ _) _ _ _); ((k_here; k_dflt (refine' acc_method ?k1 ?k2 ?k3 ?k4 ?k5 ?k6 ?k7 ?k8 ?k9 ?_; (case k1 => k_asm); (case k2 => k_asm); (case k3 => k_asm); (case k4 => k_mem); (case k5 => k_mem); (case k6 => k_is); (case k7 => k_is); (case k8 => exact rfl); (case k9 => k_get); k_whole)))) | (((with_reducible show wpAny _ _ (call (Value.ref 111) _) _ _ _); refine halt ?_)) | (((with_reducible show wpAny _ _ (call (Value.ref 127) _) _ _ _); refine halt ?_)) | ((with_reducible show wpAny _ _ (pyIter (Value.ref _)) _ _ _); ((refine' iter_list ?k1 ?k2 ?k3 ?_; (case k1 => k_asm); (case k2 => k_asm); (case k3 => k_mem)))) | walk1)) | (dsimp only; (first | (((with_reducible show wpAny _ _ (subscriptTail _ (PySem.Expr.Slice (some _) none none _) _ _) _ _ _); (with_reducible rename Fr _ _ _ _ => F'); (with_reducible rename News _ _ _ _ => N'); (refine slice_strN_sn (hsz := ?hsz) (s := ⟨_, _, _, _, _⟩) F' N' ?_); (case hsz => (rw [sp_len, sizeLine_eq]; omega)); intro _ _ _ _ _)) | ((k_here; (with_reducible show wpAny _ _ (call (Value.builtin "len") [Value.str _ _]) _ _ _); refine SBL.len (by omega) ?_)) | ((with_reducible show wpAny _ _ (getMethod (Value.ref _) _ _) _ _ _); ((k_here; k_dflt (refine' acc_method ?k1 ?k2 ?k3 ?k4 ?k5 ?k6 ?k7 ?k8 ?k9 ?_; (case k1 => k_asm); (case k2 => k_asm); (case k3 => k_asm); (case k4 => k_mem); (case k5 => k_mem); (case k6 => k_is); (case k7 => k_is); (case k8 => exact rfl); (case k9 => k_get); k_whole)))) | (((with_reducible show wpAny _ _ (call (Value.ref 111) _) _ _ _); refine halt ?_)) | (((with_reducible show wpAny _ _ (call (Value.ref 127) _) _ _ _); refine halt ?_)) | ((with_reducible show wpAny _ _ (pyIter (Value.ref _)) _ _ _); ((refine' iter_list ?k1 ?k2 ?k3 ?_; (case k1 => k_asm); (case k2 => k_asm); (case k3 => k_mem)))) | walk1)))))
              rename Fr g' L' _ _ => F9
              rename News g' L' _ _ => N9
              refine unhalt ?_
              refine ListComp_A (h₀ := g') (L := L') (m := ov m' [(Str.ofString "lead", .str (sp n) tl), (Str.ofString "text", .str y ty), (Str.ofString "pile", .ref pa), (Str.ofString "rows", .ref rl)]) (by k_asm) (by with_unfolding_all rfl) (by decide) rfl (by decide) rfl rfl (by decide) ?_
              repeat' (((first | (k_unfold; (try dsimp only); (try clear qk); (try clear ek)) | ((with_reducible show wpAny _ _ (exec _ _) _ _ _); k_fold) | ((fail_if_success (with_reducible show wpAny _ _ (exec (Stmt.For _ _ _ _ _) _) _ _ _)); (fail_if_success (with_reducible show wpAny _ _ (exec (Stmt.While _ _ _ _) _) _ _ _)); (first | (((with_reducible show wpAny _ _ (subscriptTail _ (PySem.Expr.Slice (some _) none none _) _ _) _ _ _); (with_reducible rename Fr _ _ _ _ => F'); (with_reducible rename News _ _ _ _ => N'); (refine slice_strN_sn (hsz := ?hsz) (s := ⟨_, _, _, _, _⟩) F' N' ?_); (case hsz => (rw [sp_len, sizeLine_eq]; omega)); intro _ _ _ _ _)) | ((k_here; (with_reducible show wpAny _ _ (call (Value.builtin "len") [Value.str _ _]) _ _ _); refine SBL.len (by omega) ?_)) | ((with_reducible show wpAny _ _ (getMethod (Value.ref _) _ _) _ _ _); ((k_here; k_dflt (refine' acc_method ?k1 ?k2 ?k3 ?k4 ?k5 ?k6 ?k7 ?k8 ?k9 ?_; (case k1 => k_asm); (case k2 => k_asm); (case k3 => k_asm); (case k4 => k_mem); (case k5 => k_mem); (case k6 => k_is); (case k7 => k_is); (case k8 => exact rfl); (case k9 => k_get); k_whole)))) | (((with_reducible show wpAny _ _ (call (Value.ref 111) _) _ _ _); refine halt ?_)) | (((with_reducible show wpAny _ _ (call (Value.ref 127) _) _ _ _); refine halt ?_)) | ((with_reducible show wpAny _ _ (pyIter (Value.ref _)) _ _ _); ((refine' iter_list ?k1 ?k2 ?k3 ?_; (case k1 => k_asm); (case k2 => k_asm); (case k3 => k_mem)))) | walk1)) | (dsimp only; (first | (((with_reducible show wpAny _ _ (subscriptTail _ (PySem.Expr.Slice (some _) none none _) _ _) _ _ _); (with_reducible rename Fr _ _ _ _ => F'); (with_reducible rename News _ _ _ _ => N'); (refine slice_strN_sn (hsz := ?hsz) (s := ⟨_, _, _, _, _⟩) F' N' ?_); (case hsz => (rw [sp_len, sizeLine_eq]; omega)); intro _ _ _ _ _)) | ((k_here; (with_reducible show wpAny _ _ (call (Value.builtin "len") [Value.str _ _]) _ _ _); refine SBL.len (by omega) ?_)) | ((with_reducible show wpAny _ _ (getMethod (Value.ref _) _ _) _ _ _); ((k_here; k_dflt (refine' acc_method ?k1 ?k2 ?k3 ?k4 ?k5 ?k6 ?k7 ?k8 ?k9 ?_; (case k1 => k_asm); (case k2 => k_asm); (case k3 => k_asm); (case k4 => k_mem); (case k5 => k_mem); (case k6 => k_is); (case k7 => k_is); (case k8 => exact rfl); (case k9 => k_get); k_whole)))) | (((with_reducible show wpAny _ _ (call (Value.ref 111) _) _ _ _); refine halt ?_)) | (((with_reducible show wpAny _ _ (call (Value.ref 127) _) _ _ _); refine halt ?_)) | ((with_reducible show wpAny _ _ (pyIter (Value.ref _)) _ _ _); ((refine' iter_list ?k1 ?k2 ?k3 ?_; (case k1 => k_asm); (case k2 => k_asm); (case k3 => k_mem)))) | walk1)))))
              refine unhalt ⟨pa, vs3 ++ [Value.ref t5], pn3 + 1, pdx, _, rfl, rfl, F9, N9, List.Mem.tail _ hpaR, by rw [sizeLine_eq]; omega, ?_⟩
              rintro s₃ ⟨g3, rfl⟩
              refine row_rest (PileIn.mono hstR fun p hp => List.Mem.tail _ hp) ?_ ?_
              · intro b t ta5 tb5 I5 oI5 C5 oC5 D5 m5 ys h6 tk6 E6 hbt hC5 hx5 hx6 F10 N10 off10 ne10
                have hb8 := hsb3 _ hbt
                have hspb := sp_len b
                dsimp only at hb8
                repeat' (((first | (k_unfold; (try dsimp only); (try clear qk); (try clear ek)) | ((with_reducible show wpAny _ _ (exec _ _) _ _ _); k_fold) | ((fail_if_success (with_reducible show wpAny _ _ (exec (Stmt.For _ _ _ _ _) _) _ _ _)); (fail_if_success (with_reducible show wpAny _ _ (exec (Stmt.While _ _ _ _) _) _ _ _)); (first | (((with_reducible show wpAny _ _ (subscriptTail _ (PySem.Expr.Slice (some _) none none _) _ _) _ _ _); (with_reducible rename Fr _ _ _ _ => F'); (with_reducible rename News _ _ _ _ => N'); (refine slice_strN_sn (hsz := ?hsz) (s := ⟨_, _, _, _, _⟩) F' N' ?_); (case hsz => (rw [sp_len, sizeLine_eq]; omega)); intro _ _ _ _ _)) | ((k_here; (with_reducible show wpAny _ _ (call (Value.builtin "len") [Value.str _ _]) _ _ _); refine SBL.len (by omega) ?_)) | ((with_reducible show wpAny _ _ (getMethod (Value.ref _) _ _) _ _ _); ((k_here; k_dflt (refine' acc_method ?k1 ?k2 ?k3 ?k4 ?k5 ?k6 ?k7 ?k8 ?k9 ?_; (case k1 => k_asm); (case k2 => k_asm); (case k3 => k_asm); (case k4 => k_mem); (case k5 => k_mem); (case k6 => k_is); (case k7 => k_is); (case k8 => exact rfl); (case k9 => k_get); k_whole)))) | (((with_reducible show wpAny _ _ (call (Value.ref 111) _) _ _ _); refine halt ?_)) | (((with_reducible show wpAny _ _ (call (Value.ref 127) _) _ _ _); refine halt ?_)) | ((with_reducible show wpAny _ _ (pyIter (Value.ref _)) _ _ _); ((refine' iter_list ?k1 ?k2 ?k3 ?_; (case k1 => k_asm); (case k2 => k_asm); (case k3 => k_mem)))) | walk1)) | (dsimp only; (first | (((with_reducible show wpAny _ _ (subscriptTail _ (PySem.Expr.Slice (some _) none none _) _ _) _ _ _); (with_reducible rename Fr _ _ _ _ => F'); (with_reducible rename News _ _ _ _ => N'); (refine slice_strN_sn (hsz := ?hsz) (s := ⟨_, _, _, _, _⟩) F' N' ?_); (case hsz => (rw [sp_len, sizeLine_eq]; omega)); intro _ _ _ _ _)) | ((k_here; (with_reducible show wpAny _ _ (call (Value.builtin "len") [Value.str _ _]) _ _ _); refine SBL.len (by omega) ?_)) | ((with_reducible show wpAny _ _ (getMethod (Value.ref _) _ _) _ _ _); ((k_here; k_dflt (refine' acc_method ?k1 ?k2 ?k3 ?k4 ?k5 ?k6 ?k7 ?k8 ?k9 ?_; (case k1 => k_asm); (case k2 => k_asm); (case k3 => k_asm); (case k4 => k_mem); (case k5 => k_mem); (case k6 => k_is); (case k7 => k_is); (case k8 => exact rfl); (case k9 => k_get); k_whole)))) | (((with_reducible show wpAny _ _ (call (Value.ref 111) _) _ _ _); refine halt ?_)) | (((with_reducible show wpAny _ _ (call (Value.ref 127) _) _ _ _); refine halt ?_)) | ((with_reducible show wpAny _ _ (pyIter (Value.ref _)) _ _ _); ((refine' iter_list ?k1 ?k2 ?k3 ?_; (case k1 => k_asm); (case k2 => k_asm); (case k3 => k_mem)))) | walk1)))))
                exact LCg.CompEnd.intro (by assumption) (by assumption) _ (fun p hp => hp) off10 (List.Mem.tail _ hpaR) ⟨rfl, _, congrArg (fun k : Nat => Value.int (k : Int) _) hspb⟩
              · intro ys hys D6 h6 tk6 F10 N10 off10
                have hoff := off1_mem off10.2
                have hrD : @Ne Nat rl D6 := off10.1
                simp only [LCg.Off1, and_true] at off10
                repeat' (((first | (k_unfold; (try dsimp only); (try clear qk); (try clear ek)) | ((with_reducible show wpAny _ _ (exec _ _) _ _ _); k_fold) | ((fail_if_success (with_reducible show wpAny _ _ (exec (Stmt.For _ _ _ _ _) _) _ _ _)); (fail_if_success (with_reducible show wpAny _ _ (exec (Stmt.While _ _ _ _) _) _ _ _)); (first | (((with_reducible show wpAny _ _ (subscriptTail _ (PySem.Expr.Slice (some _) none none _) _ _) _ _ _); (with_reducible rename Fr _ _ _ _ => F'); (with_reducible rename News _ _ _ _ => N'); (refine slice_strN_sn (hsz := ?hsz) (s := ⟨_, _, _, _, _⟩) F' N' ?_); (case hsz => (rw [sp_len, sizeLine_eq]; omega)); intro _ _ _ _ _)) | ((k_here; (with_reducible show wpAny _ _ (call (Value.builtin "len") [Value.str _ _]) _ _ _); refine SBL.len (by omega) ?_)) | ((with_reducible show wpAny _ _ (getMethod (Value.ref _) _ _) _ _ _); ((k_here; k_dflt (refine' acc_method ?k1 ?k2 ?k3 ?k4 ?k5 ?k6 ?k7 ?k8 ?k9 ?_; (case k1 => k_asm); (case k2 => k_asm); (case k3 => k_asm); (case k4 => k_mem); (case k5 => k_mem); (case k6 => k_is); (case k7 => k_is); (case k8 => exact rfl); (case k9 => k_get); k_whole)))) | (((with_reducible show wpAny _ _ (call (Value.ref 111) _) _ _ _); refine halt ?_)) | (((with_reducible show wpAny _ _ (call (Value.ref 127) _) _ _ _); refine halt ?_)) | ((with_reducible show wpAny _ _ (pyIter (Value.ref _)) _ _ _); ((refine' iter_list ?k1 ?k2 ?k3 ?_; (case k1 => k_asm); (case k2 => k_asm); (case k3 => k_mem)))) | walk1)) | (dsimp only; (first | (((with_reducible show wpAny _ _ (subscriptTail _ (PySem.Expr.Slice (some _) none none _) _ _) _ _ _); (with_reducible rename Fr _ _ _ _ => F'); (with_reducible rename News _ _ _ _ => N'); (refine slice_strN_sn (hsz := ?hsz) (s := ⟨_, _, _, _, _⟩) F' N' ?_); (case hsz => (rw [sp_len, sizeLine_eq]; omega)); intro _ _ _ _ _)) | ((k_here; (with_reducible show wpAny _ _ (call (Value.builtin "len") [Value.str _ _]) _ _ _); refine SBL.len (by omega) ?_)) | ((with_reducible show wpAny _ _ (getMethod (Value.ref _) _ _) _ _ _); ((k_here; k_dflt (refine' acc_method ?k1 ?k2 ?k3 ?k4 ?k5 ?k6 ?k7 ?k8 ?k9 ?_; (case k1 => k_asm); (case k2 => k_asm); (case k3 => k_asm); (case k4 => k_mem); (case k5 => k_mem); (case k6 => k_is); (case k7 => k_is); (case k8 => exact rfl); (case k9 => k_get); k_whole)))) | (((with_reducible show wpAny _ _ (call (Value.ref 111) _) _ _ _); refine halt ?_)) | (((with_reducible show wpAny _ _ (call (Value.ref 127) _) _ _ _); refine halt ?_)) | ((with_reducible show wpAny _ _ (pyIter (Value.ref _)) _ _ _); ((refine' iter_list ?k1 ?k2 ?k3 ?_; (case k1 => k_asm); (case k2 => k_asm); (case k3 => k_mem)))) | walk1)))))
                rename Fr g' L' _ _ => F11
                rename News g' L' _ _ => N11
                have hs' : ¬ stops st dd = true := by rw [hs]; exact Bool.false_ne_true
                have hmg' : mrg st dd x = (n, y) :: st' := hmg.symm.trans (mrg_diff hsm)
                rw [if_neg hs', hmg', hps] at hgo
                have e1 : rs.toArray.push (Value.ref D6) = (rs ++ [Value.ref D6]).toArray := by simp
                rw [e1] at N11
                have hIrest : (I, itObj ll (i + 1)) ∈ rest := by (try rw [← hrest]); exact List.Mem.head _
                have hnRR : ∀ q ∈ news, q ∈ RR := by (try rw [← hRR]); (intro p hp; simp only [List.mem_cons, List.mem_append, List.nil_append, List.cons_append, List.append_assoc] at hp ⊢; (repeat' (first | (simp only [hp, true_or, or_true, eq_self]; done) | (rcases hp with hp | hp))))
                have hexRR : ∀ q ∈ ex, q ∈ RR := by (try rw [← hRR]); (intro p hp; simp only [List.mem_cons, List.mem_append, List.nil_append, List.cons_append, List.append_assoc] at hp ⊢; (repeat' (first | (simp only [hp, true_or, or_true, eq_self]; done) | (rcases hp with hp | hp))))
                have hex1RR : ∀ q ∈ ex1, q ∈ RR := by (try rw [← hRR]); (intro p hp; simp only [List.mem_cons, List.mem_append, List.nil_append, List.cons_append, List.append_assoc] at hp ⊢; (repeat' (first | (simp only [hp, true_or, or_true, eq_self]; done) | (rcases hp with hp | hp))))
                have hex3RR : ∀ q ∈ ex3, q ∈ RR := by (try rw [← hRR]); (intro p hp; simp only [List.mem_cons, List.mem_append, List.nil_append, List.cons_append, List.append_assoc] at hp ⊢; (repeat' (first | (simp only [hp, true_or, or_true, eq_self]; done) | (rcases hp with hp | hp))))
                have ht5RR : (t5, tup2 (sp n) y tl ty) ∈ RR := by (try rw [← hRR]); exact List.Mem.tail _ (List.Mem.tail _ (List.Mem.head _))
                have hdRR : (pdx, accD w.params t0 t1) ∈ RR := by (try rw [← hRR]); exact List.Mem.tail _ (List.Mem.tail _ (List.Mem.tail _ (List.Mem.head _)))
                have hIRR : (I, itObj ll (i + 1)) ∈ RR := by (try rw [← hRR]); exact List.Mem.head _
                have all6 : ∀ (P : Addr × Obj → Prop), P (D6, LCg.lst ys) → P (t5, tup2 (sp n) y tl ty) → (∀ q ∈ ex3, P q) → (∀ q ∈ ex1, P q) → (∀ q ∈ ex, P q) → ∀ q ∈ ((D6, LCg.lst ys) :: (t5, tup2 (sp n) y tl ty) :: (ex3 ++ (ex1 ++ ex)) : List (Addr × Obj)), P q := by
                  intro P a b c d e q hq
                  rcases List.mem_cons.mp hq with rfl | hq
                  · exact a
                  rcases List.mem_cons.mp hq with rfl | hq
                  · exact b
                  rcases List.mem_append.mp hq with hq | hq
                  · exact c q hq
                  rcases List.mem_append.mp hq with hq | hq
                  · exact d q hq
                  · exact e q hq
                refine ⟨_, _, _, (pa, accObj (vs3 ++ [Value.ref t5]).toArray (pn3 + 1) pdx) :: (rl, W.listOf (rs ++ [Value.ref D6]).toArray (rn + 1)) :: (pdx, accD w.params t0 t1) :: (((D6, LCg.lst ys) :: (t5, tup2 (sp n) y tl ty) :: (ex3 ++ (ex1 ++ ex))) ++ news), rfl, F11, kst_newsOf N11 (by (try rw [← hRR]); (intro p hp; simp only [List.mem_cons, List.mem_append, List.nil_append, List.cons_append, List.append_assoc] at hp ⊢; (repeat' (first | (simp only [hp, true_or, or_true, eq_self]; done) | (rcases hp with hp | hp))))), ?_,
                  (n, y) :: st', _, vs3 ++ [Value.ref t5], rs ++ [Value.ref D6], pn3 + 1, rn + 1, (D6, LCg.lst ys) :: (t5, tup2 (sp n) y tl ty) :: (ex3 ++ (ex1 ++ ex)), rfl, PileIn.mono hst5 (by (intro p hp; simp only [List.mem_cons, List.mem_append, List.nil_append, List.cons_append, List.append_assoc] at hp ⊢; (repeat' (first | (simp only [hp, true_or, or_true, eq_self]; done) | (rcases hp with hp | hp))))), ?_, hgo, ?_, ?_, ?_, ?_, ?_, ?_, ?_, rfl, rfl, trivial⟩
                · refine List.forall_mem_cons.mpr ⟨Nat.ne_of_lt hIpa, List.forall_mem_cons.mpr ⟨Nat.ne_of_lt hIrl, List.forall_mem_cons.mpr ⟨Nat.ne_of_lt (Nat.lt_trans l1d hIpa), List.forall_mem_append.mpr ⟨all6 _ (Ne.symm (hoff _ hIRR)) (Nat.ne_of_gt (l5 _ (hIr _ hIrest))) (fun q hq => Nat.ne_of_gt ((hex3 q hq).2 _ (by (try rw [← hrest1]); exact List.mem_append_right _ hIrest))) (fun q hq => Nat.ne_of_gt ((hex1 q hq).2 _ hIrest)) (fun q hq => hI1 q ?_), fun q hq => hI1 q ?_⟩⟩⟩⟩
                  · exact List.Mem.tail _ (List.Mem.tail _ (List.Mem.tail _ (List.mem_append_left _ hq)))
                  · exact List.Mem.tail _ (List.Mem.tail _ (List.Mem.tail _ (List.mem_append_right _ hq)))
                · refine (hrows.mono ?_).snoc (List.Mem.head _) hys
                  (intro p hp; simp only [List.mem_cons, List.mem_append, List.nil_append, List.cons_append, List.append_assoc] at hp ⊢; (repeat' (first | (simp only [hp, true_or, or_true, eq_self]; done) | (rcases hp with hp | hp))))
                · exact all6 _ (fun q hq => hoff q (hnRR q hq)) (fun q hq => Nat.ne_of_lt (l5 q (hIr q (hnr0 q hq)))) (fun q hq q' hq' => Nat.ne_of_lt ((hex3 q hq).2 q' (hnr q' hq'))) (fun q hq q' hq' => Nat.ne_of_lt ((hex1 q hq).2 q' (hnr0 q' hq'))) hap
                · exact List.forall_mem_cons.mpr ⟨Nat.ne_of_gt l2.1, List.forall_mem_cons.mpr ⟨Nat.ne_of_lt l1d, List.forall_mem_append.mpr ⟨all6 _ (Ne.symm (hoff _ hpaR)) (Nat.ne_of_gt l4) (fun q hq => Nat.ne_of_gt (hex3 q hq).1) (fun q hq => Nat.ne_of_gt (hex1 q hq).1) (fun q hq => hpa q (List.Mem.tail _ (List.Mem.tail _ (List.mem_append_left _ hq)))), fun q hq => hpa q (List.Mem.tail _ (List.Mem.tail _ (List.mem_append_right _ hq)))⟩⟩⟩
                · exact List.forall_mem_cons.mpr ⟨hZ _ hdRR, List.forall_mem_append.mpr ⟨all6 _ (Ne.symm hrD) (hZ _ ht5RR) (fun q hq => hZ q (hex3RR q hq)) (fun q hq => hZ q (hex1RR q hq)) (fun q hq => hZ q (hexRR q hq)), fun q hq => hZ q (hnRR q hq)⟩⟩
                · simp only [wt, List.map_cons, List.sum_cons] at hwt2 ⊢; omega
                · simp only [List.length_cons]; omega
                · simp [hrsl]
                · exact List.forall_mem_cons.mpr ⟨⟨hn8, hy1⟩, hsb2⟩
  · rintro m₁ news₁ h₁ tk₁ ⟨st, rows, vs, rs, pn, rn, ex, rfl, hst, hrows, hgo, hap, hpa, hrl, hwt, hsl, hrsl, hsb, hmm⟩ F₁ N₁
    rw [List.drop_of_length_le (by rw [hi.length]; exact Nat.le_refl _), pileGo] at hgo
    replace F₁ := fr_ov F₁ hmm
    clear F1 N1 hmm
    dsimp only
    repeat' (((first | (k_unfold; (try dsimp only)) | ((fail_if_success (with_reducible show wpAny _ _ (exec (Stmt.For _ _ _ _ _) _) _ _ _)); (fail_if_success (with_reducible show wpAny _ _ (exec (Stmt.While _ _ _ _) _) _ _ _)); (first | (((with_reducible show wpAny _ _ (subscriptTail _ (PySem.Expr.Slice (some _) none none _) _ _) _ _ _); (with_reducible rename Fr _ _ _ _ => F'); (with_reducible rename News _ _ _ _ => N'); (refine slice_strN_sn (hsz := ?hsz) (s := ⟨_, _, _, _, _⟩) F' N' ?_); (case hsz => (rw [sp_len, sizeLine_eq]; omega)); intro _ _ _ _ _)) | ((k_here; (with_reducible show wpAny _ _ (call (Value.builtin "len") [Value.str _ _]) _ _ _); refine SBL.len (by omega) ?_)) | ((with_reducible show wpAny _ _ (getMethod (Value.ref _) _ _) _ _ _); ((k_here; k_dflt (refine' acc_method ?k1 ?k2 ?k3 ?k4 ?k5 ?k6 ?k7 ?k8 ?k9 ?_; (case k1 => k_asm); (case k2 => k_asm); (case k3 => k_asm); (case k4 => k_mem); (case k5 => k_mem); (case k6 => k_is); (case k7 => k_is); (case k8 => exact rfl); (case k9 => k_get); k_whole)))) | (((with_reducible show wpAny _ _ (call (Value.ref 111) _) _ _ _); refine halt ?_)) | (((with_reducible show wpAny _ _ (call (Value.ref 127) _) _ _ _); refine halt ?_)) | ((with_reducible show wpAny _ _ (pyIter (Value.ref _)) _ _ _); ((refine' iter_list ?k1 ?k2 ?k3 ?_; (case k1 => k_asm); (case k2 => k_asm); (case k3 => k_mem)))) | walk1)) | (dsimp only; (first | (((with_reducible show wpAny _ _ (subscriptTail _ (PySem.Expr.Slice (some _) none none _) _ _) _ _ _); (with_reducible rename Fr _ _ _ _ => F'); (with_reducible rename News _ _ _ _ => N'); (refine slice_strN_sn (hsz := ?hsz) (s := ⟨_, _, _, _, _⟩) F' N' ?_); (case hsz => (rw [sp_len, sizeLine_eq]; omega)); intro _ _ _ _ _)) | ((k_here; (with_reducible show wpAny _ _ (call (Value.builtin "len") [Value.str _ _]) _ _ _); refine SBL.len (by omega) ?_)) | ((with_reducible show wpAny _ _ (getMethod (Value.ref _) _ _) _ _ _); ((k_here; k_dflt (refine' acc_method ?k1 ?k2 ?k3 ?k4 ?k5 ?k6 ?k7 ?k8 ?k9 ?_; (case k1 => k_asm); (case k2 => k_asm); (case k3 => k_asm); (case k4 => k_mem); (case k5 => k_mem); (case k6 => k_is); (case k7 => k_is); (case k8 => exact rfl); (case k9 => k_get); k_whole)))) | (((with_reducible show wpAny _ _ (call (Value.ref 111) _) _ _ _); refine halt ?_)) | (((with_reducible show wpAny _ _ (call (Value.ref 127) _) _ _ _); refine halt ?_)) | ((with_reducible show wpAny _ _ (pyIter (Value.ref _)) _ _ _); ((refine' iter_list ?k1 ?k2 ?k3 ?_; (case k1 => k_asm); (case k2 => k_asm); (case k3 => k_mem)))) | walk1)))))
    rename Fr h₀ _ _ _ => F5
    rename News h₀ _ _ _ => N5
    rename_i tt _ _ _ l6 _ _
    have l7 := of_allLt l6.2.2.2
    have N6 := kst_newsOf (l' := ((tt, ({ cls := .type "tuple", data := .seq #[.ref pa, .ref rl] } : Obj)) :: (pa, accObj vs.toArray pn pdx) :: (rl, W.listOf rs.toArray rn) :: (pdx, accD w.params t0 t1) :: ex) ++ news) N5 (by (intro p hp; simp only [List.mem_cons, List.mem_append, List.nil_append, List.cons_append, List.append_assoc] at hp ⊢; (repeat' (first | (simp only [hp, true_or, or_true, eq_self]; done) | (rcases hp with hp | hp)))))
    refine hR tt pa rl _ _ pdx t0 t1 rs rn _ _ _ F5 N6 ?_ (List.Mem.head _) (List.Mem.tail _ (List.Mem.head _)) (List.Mem.tail _ (List.Mem.tail _ (List.Mem.tail _ (List.Mem.head _)))) (List.Mem.tail _ (List.Mem.tail _ (List.Mem.head _))) ?_ ?_
    · exact .cons (fun q hq => Nat.ne_of_lt (l7 q (List.mem_append_right _ hq))) (.cons (fun q hq => Nat.ne_of_lt (Nat.lt_trans (l1 q hq) l1d)) (.cons (fun q hq => Nat.ne_of_lt (of_allLt l2.2.2 q hq)) (.cons (fun q hq => Nat.ne_of_lt (l1 q hq)) hap)))
    · rw [← hgo]; exact hrows.mono (by (intro p hp; simp only [List.mem_cons, List.mem_append, List.nil_append, List.cons_append, List.append_assoc] at hp ⊢; (repeat' (first | (simp only [hp, true_or, or_true, eq_self]; done) | (rcases hp with hp | hp)))))
    · rw [← hgo]; exact PileIn.mono hst (by (intro p hp; simp only [List.mem_cons, List.mem_append, List.nil_append, List.cons_append, List.append_assoc] at hp ⊢; (repeat' (first | (simp only [hp, true_or, or_true, eq_self]; done) | (rcases hp with hp | hp)))))
  · passes_own
end Mine
end

example : 1 = 1 ∧ 2 = 2 := by
  w_top off
  walk1 <;> rfl
section
set_option maxRecDepth 100000
set_option Elab.async false
open PySem PySem.Sre
namespace Mine
noncomputable def RC : Array Nat := #[14, 8, 1, 2, 4294967295, 1, 1, 34, 0, 16, 34, 28, 22, 0, 4294967295, 7, 11, 13, 7, 21, 16, 34, 16, 92, 0, 15, 8, 6, 16, 92, 2, 15, 2, 0, 1, 16, 34, 1]
/-- the machine's state, over this pattern -/
noncomputable def mm (text : Array Nat) (start pc pos handed : Nat) (om : Bool) (loops : Array Loop) (inner : Option Nat) (frames : List Sre.Frame) (weight : Nat) (answer : Option Bool) (seen : Seen) : M :=
  { code := RC, text, lim := text.size, start, lastStart := text.size, pc, pos, handed, outermost := om, marks := #[], loops, inner, frames, weight, answer, seen }
theorem lt_of {text : Array Nat} {p c : Nat} (hc : text[p]? = some c) : p < text.size := by
  rcases Nat.lt_or_ge p text.size with h | h
  · exact h
  · rw [Array.getElem?_eq_none h] at hc; cases hc
noncomputable def fNext (p : Nat) (om : Bool) : Sre.Frame := { wait := .nextStart, pc := 9, pos := p, outermost := om }
noncomputable def fPoss (q : Nat) (cnt : Int) (om : Bool) : Sre.Frame := { wait := .possMore, pc := 11, pos := q, outermost := om, count := cnt, kept := { whole := true }, loop := 0 }
noncomputable def fBr (k q : Nat) : Sre.Frame := { wait := .nextBranch, pc := k, pos := q, outermost := false, kept := { whole := true } }
noncomputable def L0 : Array Loop := #[{ pc := 0, outer := none }]
variable {text : Array Nat} {st p q h c : Nat} {om : Bool} {lo : Array Loop} {inn : Option Nat} {fr : List Sre.Frame} {w : Nat} {se : Seen} {cnt : Int}
theorem s9_ok (hc : text[p]? = some 34) : ∃ se', M.step (mm text st 9 p h om lo inn fr w none se) = mm text st 11 (p + 1) h om lo inn fr w none se' := by
  have h0 : ¬ text.size ≤ p := by have := lt_of hc; omega
  exact ⟨(se.add 16), by first | with_unfolding_all rfl | simp [M.step, mm, M.exec, M.word, RC, ops, accepts, inSet, itemWidth, M.say, M.resume, fNext, fPoss, fBr, L0, M.attemptFrom, M.hasFirstSet, M.attemptAt, M.attempt, M.putBack, M.possessive, M.frame, M.keep, M.alternative, M.loopAt, maxRepeat, *]⟩
theorem s9_no (hc : text[p]? = some c) (hne : (c == 34) = false) : ∃ se', M.step (mm text st 9 p h om lo inn fr w none se) = mm text st 9 p h om lo inn fr w (some false) se' := by
  have h0 : ¬ text.size ≤ p := by have := lt_of hc; omega
  exact ⟨(se.add 16), by first | with_unfolding_all rfl | simp [M.step, mm, M.exec, M.word, RC, ops, accepts, inSet, itemWidth, M.say, M.resume, fNext, fPoss, fBr, L0, M.attemptFrom, M.hasFirstSet, M.attemptAt, M.attempt, M.putBack, M.possessive, M.frame, M.keep, M.alternative, M.loopAt, maxRepeat, *]⟩
theorem s28_ok (hc : text[p]? = some 92) : ∃ se', M.step (mm text st 28 p h om lo inn fr w none se) = mm text st 30 (p + 1) h om lo inn fr w none se' := by
  have h0 : ¬ text.size ≤ p := by have := lt_of hc; omega
  exact ⟨(se.add 16), by first | with_unfolding_all rfl | simp [M.step, mm, M.exec, M.word, RC, ops, accepts, inSet, itemWidth, M.say, M.resume, fNext, fPoss, fBr, L0, M.attemptFrom, M.hasFirstSet, M.attemptAt, M.attempt, M.putBack, M.possessive, M.frame, M.keep, M.alternative, M.loopAt, maxRepeat, *]⟩
theorem s28_no (hc : text[p]? = some c) (hne : (c == 92) = false) : ∃ se', M.step (mm text st 28 p h om lo inn fr w none se) = mm text st 28 p h om lo inn fr w (some false) se' := by
  have h0 : ¬ text.size ≤ p := by have := lt_of hc; omega
  exact ⟨(se.add 16), by first | with_unfolding_all rfl | simp [M.step, mm, M.exec, M.word, RC, ops, accepts, inSet, itemWidth, M.say, M.resume, fNext, fPoss, fBr, L0, M.attemptFrom, M.hasFirstSet, M.attemptAt, M.attempt, M.putBack, M.possessive, M.frame, M.keep, M.alternative, M.loopAt, maxRepeat, *]⟩
theorem s35_ok (hc : text[p]? = some 34) : ∃ se', M.step (mm text st 35 p h om lo inn fr w none se) = mm text st 37 (p + 1) h om lo inn fr w none se' := by
  have h0 : ¬ text.size ≤ p := by have := lt_of hc; omega
  exact ⟨(se.add 16), by first | with_unfolding_all rfl | simp [M.step, mm, M.exec, M.word, RC, ops, accepts, inSet, itemWidth, M.say, M.resume, fNext, fPoss, fBr, L0, M.attemptFrom, M.hasFirstSet, M.attemptAt, M.attempt, M.putBack, M.possessive, M.frame, M.keep, M.alternative, M.loopAt, maxRepeat, *]⟩
theorem s9_end (h0 : text.size ≤ p) : ∃ se', M.step (mm text st 9 p h om lo inn fr w none se) = mm text st 9 p h om lo inn fr w (some false) se' := by
  exact ⟨(se.add 16), by first | with_unfolding_all rfl | simp [M.step, mm, M.exec, M.word, RC, ops, accepts, inSet, itemWidth, M.say, M.resume, fNext, fPoss, fBr, L0, M.attemptFrom, M.hasFirstSet, M.attemptAt, M.attempt, M.putBack, M.possessive, M.frame, M.keep, M.alternative, M.loopAt, maxRepeat, *]⟩
theorem nx_no {om' : Bool} {pc' p' : Nat} (hp : p < text.size) : ∃ se', M.step (mm text st pc' p' h om' lo inn [fNext p om] 1 (some false) se) = mm text (p + 1) 9 (p + 1) (p + 1) false lo inn [fNext (p + 1) false] 1 none se' := by
  exact ⟨se, by first | with_unfolding_all rfl | simp [M.step, mm, M.exec, M.word, RC, ops, accepts, inSet, itemWidth, M.say, M.resume, fNext, fPoss, fBr, L0, M.attemptFrom, M.hasFirstSet, M.attemptAt, M.attempt, M.putBack, M.possessive, M.frame, M.keep, M.alternative, M.loopAt, maxRepeat, *]⟩
theorem nx_end {om' : Bool} {pc' p' : Nat} (hp : text.size ≤ p) : ∃ se', M.step (mm text st pc' p' h om' lo inn [fNext p om] 1 (some false) se) = mm text st 9 p h om lo inn [] 0 (some false) se' := by
  have h0 : ¬ p < text.size := by omega
  exact ⟨se, by first | with_unfolding_all rfl | simp [M.step, mm, M.exec, M.word, RC, ops, accepts, inSet, itemWidth, M.say, M.resume, fNext, fPoss, fBr, L0, M.attemptFrom, M.hasFirstSet, M.attemptAt, M.attempt, M.putBack, M.possessive, M.frame, M.keep, M.alternative, M.loopAt, maxRepeat, *]⟩
theorem nx_yes {om' : Bool} {pc' p' : Nat} : ∃ se', M.step (mm text st pc' p' h om' lo inn [fNext p om] 1 (some true) se) = mm text st 9 p h om lo inn [] 0 (some true) se' := by
  exact ⟨se, by first | with_unfolding_all rfl | simp [M.step, mm, M.exec, M.word, RC, ops, accepts, inSet, itemWidth, M.say, M.resume, fNext, fPoss, fBr, L0, M.attemptFrom, M.hasFirstSet, M.attemptAt, M.attempt, M.putBack, M.possessive, M.frame, M.keep, M.alternative, M.loopAt, maxRepeat, *]⟩
theorem s11 (hw : ¬ w + 1 > 16777216) : ∃ se', M.step (mm text st 11 p h om #[] none fr w none se) = mm text st 15 p p false L0 (some 0) (fPoss p 0 om :: fr) (w + 1) none se' := by
  exact ⟨(se.add 28), by first | with_unfolding_all rfl | simp [M.step, mm, M.exec, M.word, RC, ops, accepts, inSet, itemWidth, M.say, M.resume, fNext, fPoss, fBr, L0, M.attemptFrom, M.hasFirstSet, M.attemptAt, M.attempt, M.putBack, M.possessive, M.frame, M.keep, M.alternative, M.loopAt, maxRepeat, *]⟩
theorem s15 (hw : ¬ w + 1 > 16777216) : ∃ se', M.step (mm text st 15 p h false L0 (some 0) fr w none se) = mm text st 17 p p false L0 (some 0) (fBr 16 p :: fr) (w + 1) none se' := by
  exact ⟨(se.add 7), by first | with_unfolding_all rfl | simp [M.step, mm, M.exec, M.word, RC, ops, accepts, inSet, itemWidth, M.say, M.resume, fNext, fPoss, fBr, L0, M.attemptFrom, M.hasFirstSet, M.attemptAt, M.attempt, M.putBack, M.possessive, M.frame, M.keep, M.alternative, M.loopAt, maxRepeat, *]⟩
theorem s17_ok (hc : text[p]? = some c) (h1 : (c == 34) = false) (h2 : (c == 92) = false) : ∃ se', M.step (mm text st 17 p h om lo inn fr w none se) = mm text st 25 (p + 1) h om lo inn fr w none se' := by
  have h0 : ¬ text.size ≤ p := by have := lt_of hc; omega
  exact ⟨(((((se.add 13).add 21).add 16).add 16).add 0), by first | with_unfolding_all rfl | simp [M.step, mm, M.exec, M.word, RC, ops, accepts, inSet, itemWidth, M.say, M.resume, fNext, fPoss, fBr, L0, M.attemptFrom, M.hasFirstSet, M.attemptAt, M.attempt, M.putBack, M.possessive, M.frame, M.keep, M.alternative, M.loopAt, maxRepeat, *]⟩
theorem s17_34 (hc : text[p]? = some 34) : ∃ se', M.step (mm text st 17 p h om lo inn fr w none se) = mm text st 17 p h om lo inn fr w (some false) se' := by
  have h0 : ¬ text.size ≤ p := by have := lt_of hc; omega
  exact ⟨(((se.add 13).add 21).add 16), by first | with_unfolding_all rfl | simp [M.step, mm, M.exec, M.word, RC, ops, accepts, inSet, itemWidth, M.say, M.resume, fNext, fPoss, fBr, L0, M.attemptFrom, M.hasFirstSet, M.attemptAt, M.attempt, M.putBack, M.possessive, M.frame, M.keep, M.alternative, M.loopAt, maxRepeat, *]⟩
theorem s17_92 (hc : text[p]? = some 92) : ∃ se', M.step (mm text st 17 p h om lo inn fr w none se) = mm text st 17 p h om lo inn fr w (some false) se' := by
  have h0 : ¬ text.size ≤ p := by have := lt_of hc; omega
  exact ⟨((((se.add 13).add 21).add 16).add 16), by first | with_unfolding_all rfl | simp [M.step, mm, M.exec, M.word, RC, ops, accepts, inSet, itemWidth, M.say, M.resume, fNext, fPoss, fBr, L0, M.attemptFrom, M.hasFirstSet, M.attemptAt, M.attempt, M.putBack, M.possessive, M.frame, M.keep, M.alternative, M.loopAt, maxRepeat, *]⟩
theorem s25  : ∃ se', M.step (mm text st 25 p h om lo inn fr w none se) = mm text st 34 p h om lo inn fr w none se' := by
  exact ⟨(se.add 15), by first | with_unfolding_all rfl | simp [M.step, mm, M.exec, M.word, RC, ops, accepts, inSet, itemWidth, M.say, M.resume, fNext, fPoss, fBr, L0, M.attemptFrom, M.hasFirstSet, M.attemptAt, M.attempt, M.putBack, M.possessive, M.frame, M.keep, M.alternative, M.loopAt, maxRepeat, *]⟩
theorem s31  : ∃ se', M.step (mm text st 31 p h om lo inn fr w none se) = mm text st 34 p h om lo inn fr w none se' := by
  exact ⟨(se.add 15), by first | with_unfolding_all rfl | simp [M.step, mm, M.exec, M.word, RC, ops, accepts, inSet, itemWidth, M.say, M.resume, fNext, fPoss, fBr, L0, M.attemptFrom, M.hasFirstSet, M.attemptAt, M.attempt, M.putBack, M.possessive, M.frame, M.keep, M.alternative, M.loopAt, maxRepeat, *]⟩
theorem s30 (hc : text[p]? = some c) (h1 : (c != 10) = true) : ∃ se', M.step (mm text st 30 p h om lo inn fr w none se) = mm text st 31 (p + 1) h om lo inn fr w none se' := by
  have h0 : ¬ text.size ≤ p := by have := lt_of hc; omega
  exact ⟨(se.add 2), by first | with_unfolding_all rfl | simp [M.step, mm, M.exec, M.word, RC, ops, accepts, inSet, itemWidth, M.say, M.resume, fNext, fPoss, fBr, L0, M.attemptFrom, M.hasFirstSet, M.attemptAt, M.attempt, M.putBack, M.possessive, M.frame, M.keep, M.alternative, M.loopAt, maxRepeat, *]⟩
theorem s34  : ∃ se', M.step (mm text st 34 p h false lo inn fr w none se) = mm text st 34 p p false lo inn fr w (some true) se' := by
  exact ⟨(se.add 1), by first | with_unfolding_all rfl | simp [M.step, mm, M.exec, M.word, RC, ops, accepts, inSet, itemWidth, M.say, M.resume, fNext, fPoss, fBr, L0, M.attemptFrom, M.hasFirstSet, M.attemptAt, M.attempt, M.putBack, M.possessive, M.frame, M.keep, M.alternative, M.loopAt, maxRepeat, *]⟩
theorem s37  : ∃ se', M.step (mm text st 37 p h om lo inn fr w none se) = mm text st 37 p p om lo inn fr w (some true) se' := by
  exact ⟨(se.add 1), by first | with_unfolding_all rfl | simp [M.step, mm, M.exec, M.word, RC, ops, accepts, inSet, itemWidth, M.say, M.resume, fNext, fPoss, fBr, L0, M.attemptFrom, M.hasFirstSet, M.attemptAt, M.attempt, M.putBack, M.possessive, M.frame, M.keep, M.alternative, M.loopAt, maxRepeat, *]⟩
theorem br_yes {om' : Bool} {pc' p' k : Nat} : ∃ se', M.step (mm text st pc' p' h om' lo inn (fBr k q :: fr) (w + 1) (some true) se) = mm text st k q h false lo inn fr w (some true) se' := by
  exact ⟨se, by first | with_unfolding_all rfl | simp [M.step, mm, M.exec, M.word, RC, ops, accepts, inSet, itemWidth, M.say, M.resume, fNext, fPoss, fBr, L0, M.attemptFrom, M.hasFirstSet, M.attemptAt, M.attempt, M.putBack, M.possessive, M.frame, M.keep, M.alternative, M.loopAt, maxRepeat, *]⟩
theorem br_16 {om' : Bool} {pc' p' : Nat} (hw : ¬ w + 1 > 16777216) : ∃ se', M.step (mm text st pc' p' h om' lo inn (fBr 16 q :: fr) (w + 1) (some false) se) = mm text st 28 q q false lo inn (fBr 27 q :: fr) (w + 1) none se' := by
  exact ⟨se, by first | with_unfolding_all rfl | simp [M.step, mm, M.exec, M.word, RC, ops, accepts, inSet, itemWidth, M.say, M.resume, fNext, fPoss, fBr, L0, M.attemptFrom, M.hasFirstSet, M.attemptAt, M.attempt, M.putBack, M.possessive, M.frame, M.keep, M.alternative, M.loopAt, maxRepeat, *]⟩
theorem br_27 {om' : Bool} {pc' p' : Nat} : ∃ se', M.step (mm text st pc' p' h om' lo inn (fBr 27 q :: fr) (w + 1) (some false) se) = mm text st 27 q h false lo inn fr w (some false) se' := by
  exact ⟨se, by first | with_unfolding_all rfl | simp [M.step, mm, M.exec, M.word, RC, ops, accepts, inSet, itemWidth, M.say, M.resume, fNext, fPoss, fBr, L0, M.attemptFrom, M.hasFirstSet, M.attemptAt, M.attempt, M.putBack, M.possessive, M.frame, M.keep, M.alternative, M.loopAt, maxRepeat, *]⟩
theorem po_yes {om' : Bool} {pc' p' : Nat} (hw : ¬ w + 1 > 16777216) (hc1 : ¬ cnt + 1 < 0) (hq : ¬ q = h) : ∃ se', M.step (mm text st pc' p' h om' L0 (some 0) (fPoss q cnt om :: fr) (w + 1) (some true) se) = mm text st 15 h h false L0 (some 0) (fPoss h (cnt + 1) om :: fr) (w + 1) none se' := by
  exact ⟨se, by first | with_unfolding_all rfl | simp [M.step, mm, M.exec, M.word, RC, ops, accepts, inSet, itemWidth, M.say, M.resume, fNext, fPoss, fBr, L0, M.attemptFrom, M.hasFirstSet, M.attemptAt, M.attempt, M.putBack, M.possessive, M.frame, M.keep, M.alternative, M.loopAt, maxRepeat, *]⟩
theorem po_no {om' : Bool} {pc' p' : Nat} (hcnt : ¬ cnt < 0) : ∃ se', M.step (mm text st pc' p' h om' L0 (some 0) (fPoss q cnt om :: fr) (w + 1) (some false) se) = mm text st 35 q q om #[] none fr w none se' := by
  exact ⟨se, by first | with_unfolding_all rfl | simp [M.step, mm, M.exec, M.word, RC, ops, accepts, inSet, itemWidth, M.say, M.resume, fNext, fPoss, fBr, L0, M.attemptFrom, M.hasFirstSet, M.attemptAt, M.attempt, M.putBack, M.possessive, M.frame, M.keep, M.alternative, M.loopAt, maxRepeat, *]⟩
end Mine
end

example : 1 = 1 ∧ 2 = 2 := by
  w_top off
  walk1 <;> rfl
section
set_option maxRecDepth 100000
set_option Elab.async false
open PySem PySem.Sre
namespace Mine
inductive RR : Nat → M → M → Prop
  | refl (m) : RR 0 m m
  | step {n m m'} : m.outcome = none → RR n m.step m' → RR (n + 1) m m'
theorem RR.trans {a b : Nat} {m m' m'' : M} (h : RR a m m') (h' : RR b m' m'') : RR (a + b) m m'' := by
  induction h with
  | refl => rw [Nat.zero_add]; exact h'
  | step e _ ih => rw [Nat.succ_add]; exact .step e (ih h')
/-- from state to state, in few steps -/
noncomputable def Go (k : Nat) (m : M) (P : M → Prop) : Prop := ∃ n m', n ≤ k ∧ RR n m m' ∧ P m'
theorem Go.now {k : Nat} {m : M} {P : M → Prop} (h : P m) : Go k m P := ⟨0, m, Nat.zero_le _, .refl m, h⟩
theorem Go.then {a b : Nat} {m : M} {P Q : M → Prop} (h : Go a m P) (h' : ∀ m', P m' → Go b m' Q) : Go (a + b) m Q := by
  obtain ⟨n, m', hn, r, p⟩ := h
  obtain ⟨n', m'', hn', r', q⟩ := h' m' p
  exact ⟨n + n', m'', Nat.add_le_add hn hn', r.trans r', q⟩
theorem Go.mono {a b : Nat} {m : M} {P : M → Prop} (h : Go a m P) (l : a ≤ b) : Go b m P := by
  obtain ⟨n, m', hn, r, p⟩ := h
  exact ⟨n, m', Nat.le_trans hn l, r, p⟩
variable {text : Array Nat} {st p q h c : Nat} {om : Bool} {lo : Array Loop} {inn : Option Nat} {fr : List Sre.Frame} {w : Nat} {se : Seen} {cnt : Int} {k : Nat} {P : M → Prop}
theorem go1 {m : M} {f : Seen → M} (ho : m.outcome = none) (h : ∃ se', m.step = f se') (h' : ∀ se', Go k (f se') P) : Go (k + 1) m P := by
  obtain ⟨se', e⟩ := h
  obtain ⟨n, m', hn, r, p⟩ := h' se'
  exact ⟨n + 1, m', Nat.succ_le_succ hn, .step ho (e ▸ r), p⟩
noncomputable def AtL (text : Array Nat) : Nat → List Nat → Prop
  | _, [] => True
  | p, c :: r => text[p]? = some c ∧ AtL text (p + 1) r
theorem atL_of (a l b : List Nat) : AtL (a ++ l ++ b).toArray a.length l := by
  induction l generalizing a with
  | nil => trivial
  | cons c r ih =>
    refine ⟨by simp, ?_⟩
    have := ih (a ++ [c])
    simp only [List.length_append, List.length_singleton, List.append_assoc, List.singleton_append] at this ⊢
    exact this
inductive Uns : List Nat → Prop
  | nil : Uns []
  | ord {c r} : (c == 34) = false → (c == 92) = false → Uns r → Uns (c :: r)
  | esc {c r} : (c != 10) = true → Uns r → Uns (92 :: c :: r)
/-- inside a string -/
theorem scan {l : List Nat} (u : Uns l) : ∀ {p : Nat} {cnt : Int} {se : Seen}, AtL text p l → 0 ≤ cnt → w ≤ 1000 →
    Go (9 * l.length) (mm text st 15 p p false L0 (some 0) (fPoss p cnt om :: fr) (w + 1) none se) (fun m => ∃ cnt' se', 0 ≤ cnt' ∧ m = mm text st 15 (p + l.length) (p + l.length) false L0 (some 0) (fPoss (p + l.length) cnt' om :: fr) (w + 1) none se') := by
  induction u with
  | nil => intro p cnt se _ hc _; exact .now ⟨cnt, se, hc, rfl⟩
  | @ord c r h1 h2 _ ih =>
    intro p cnt se ha hc hw
    have e : 9 * (c :: r).length = (((((9 * r.length + 3) + 1) + 1) + 1) + 1) + 1 + 1 := by simp only [List.length_cons]; omega
    rw [e]
    refine go1 rfl (s15 (by omega)) fun se1 => go1 rfl (s17_ok ha.1 h1 h2) fun se2 => go1 rfl s25 fun se3 => go1 rfl s34 fun se4 => go1 rfl br_yes fun se5 => go1 rfl (po_yes (by omega) (by omega) (by omega)) fun se6 => ?_
    have := ih (p := p + 1) (cnt := cnt + 1) (se := se6) ha.2 (by omega) hw
    have e2 : p + (c :: r).length = p + 1 + r.length := by simp only [List.length_cons]; omega
    rw [e2]
    exact this.mono (by omega)
  | @esc c r h1 _ ih =>
    intro p cnt se ha hc hw
    have e : 9 * (92 :: c :: r).length = (((((((((9 * r.length + 9) + 1) + 1) + 1) + 1) + 1) + 1) + 1) + 1) + 1 := by simp only [List.length_cons]; omega
    rw [e]
    refine go1 rfl (s15 (by omega)) fun se1 => go1 rfl (s17_92 ha.1) fun se2 => go1 rfl (br_16 (by omega)) fun se3 => go1 rfl (s28_ok ha.1) fun se4 => go1 rfl (s30 ha.2.1 h1) fun se5 => go1 rfl s31 fun se6 => go1 rfl s34 fun se7 => go1 rfl br_yes fun se8 => go1 rfl (po_yes (by omega) (by omega) (by omega)) fun se9 => ?_
    have := ih (p := p + 1 + 1) (cnt := cnt + 1) (se := se9) ha.2.2 (by omega) hw
    have e2 : p + (92 :: c :: r).length = p + 1 + 1 + r.length := by simp only [List.length_cons]; omega
    rw [e2]
    exact this.mono (by omega)
/-- matched -/
noncomputable def Won (s e : Nat) (m : M) : Prop := m.outcome = some .matched ∧ m.start = s ∧ m.handed = e ∧ m.lastmark = -1
noncomputable def Lost (m : M) : Prop := m.outcome = some .failed
theorem stepL {m : M} (ho : m.outcome = none) (h : P m.step) : Go 1 m P := ⟨1, m.step, Nat.le_refl _, .step ho (.refl _), h⟩
theorem label {l : List Nat} (u : Uns l) (ha : AtL text p (34 :: l ++ [34])) : Go (9 * l.length + 12) (mm text p 9 p h om #[] none [fNext p om] 1 none se) (Won p (p + l.length + 2)) := by
  have hl : ∀ (l : List Nat) (p : Nat), AtL text p (l ++ [34]) → AtL text p l ∧ text[p + l.length]? = some 34 := by
    intro l
    induction l with
    | nil => intro p h; exact ⟨trivial, h.1⟩
    | cons c r ih =>
      intro p h
      obtain ⟨a, b⟩ := ih (p + 1) h.2
      refine ⟨⟨h.1, a⟩, ?_⟩
      rw [← b]; congr 1; simp only [List.length_cons]; omega
  obtain ⟨h1, h2⟩ := hl l (p + 1) ha.2
  refine go1 rfl (s9_ok ha.1) fun se1 => go1 rfl (s11 (by omega)) fun se2 => ?_
  refine Go.then (b := 10) (scan u h1 (Int.le_refl 0) (by omega)) ?_
  rintro m' ⟨cnt', se', hc, rfl⟩
  refine go1 rfl (s15 (by omega)) fun se3 => go1 rfl (s17_34 h2) fun se4 => go1 rfl (br_16 (by omega)) fun se5 => go1 rfl (s28_no h2 (by decide)) fun se6 => go1 rfl br_27 fun se7 => go1 rfl (po_no (by omega)) fun se8 => go1 rfl (s35_ok h2) fun se9 => go1 rfl s37 fun se10 => go1 rfl nx_yes fun se11 => stepL rfl ?_
  refine ⟨rfl, rfl, ?_, rfl⟩
  show p + 1 + l.length + 1 = _
  omega
theorem seek {l : List Nat} (u : Uns l) : ∀ (ps : List Nat) {p h : Nat} {om : Bool} {se : Seen}, (∀ c ∈ ps, (c == 34) = false) → AtL text p (ps ++ (34 :: l ++ [34])) →
    Go (2 * ps.length + (9 * l.length + 12)) (mm text p 9 p h om #[] none [fNext p om] 1 none se) (Won (p + ps.length) (p + ps.length + l.length + 2)) := by
  intro ps
  induction ps with
  | nil => intro p h om se _ ha; exact (label u ha).mono (by omega)
  | cons c r ih =>
    intro p h om se hp ha
    have e : 2 * (c :: r).length + (9 * l.length + 12) = (2 * r.length + (9 * l.length + 12) + 1) + 1 := by simp only [List.length_cons]; omega
    rw [e]
    refine go1 rfl (s9_no ha.1 (hp c (.head _))) fun se1 => go1 rfl (nx_no (lt_of ha.1)) fun se2 => ?_
    have e2 : p + (c :: r).length = p + 1 + r.length := by simp only [List.length_cons]; omega
    rw [e2]
    exact ih (fun x hx => hp x (.tail _ hx)) ha.2
theorem seek_no : ∀ (ps : List Nat) {p h : Nat} {om : Bool} {se : Seen}, (∀ c ∈ ps, (c == 34) = false) → AtL text p ps → p + ps.length = text.size →
    Go (2 * ps.length + 3) (mm text p 9 p h om #[] none [fNext p om] 1 none se) Lost := by
  intro ps
  induction ps with
  | nil =>
    intro p h om se _ _ hs
    have : text.size ≤ p := by simp at hs; omega
    exact go1 rfl (s9_end this) fun se1 => go1 rfl (nx_end this) fun se2 => stepL rfl rfl
  | cons c r ih =>
    intro p h om se hp ha hs
    have e : 2 * (c :: r).length + 3 = (2 * r.length + 3 + 1) + 1 := by simp only [List.length_cons]; omega
    rw [e]
    refine go1 rfl (s9_no ha.1 (hp c (.head _))) fun se1 => go1 rfl (nx_no (lt_of ha.1)) fun se2 => ?_
    exact ih (fun x hx => hp x (.tail _ hx)) ha.2 (by simp only [List.length_cons] at hs; omega)
noncomputable def fr0 (text : Array Nat) (p : Nat) : M := { code := RC, text, lim := text.size, start := p, pc := 9, pos := p, handed := p, marks := #[], seen := ({} : Seen).add 14 }
theorem search_open (p : Nat) : forSearch RC text 0 p text.size false = (if (decide (p > text.size) || decide (text.size - p < 2)) = true then (fr0 text p).say false else ({ fr0 text p with lastStart := text.size } : M).attemptFrom p true) := by rfl
theorem search_eq {p : Nat} (hp : p + 2 ≤ text.size) : forSearch RC text 0 p text.size false = mm text p 9 p p true #[] none [fNext p true] 1 none (({} : Seen).add 14) := by
  have h0 : ¬ p > text.size := by omega
  have h1 : ¬ text.size - p < 2 := by omega
  rw [search_open]
  simp only [h0, h1, decide_false, Bool.or_self, Bool.false_eq_true, if_false]
  rfl
theorem search_short {p : Nat} (h1 : text.size < p + 2) : Go 1 (forSearch RC text 0 p text.size false) Lost := by
  have h1 : text.size - p < 2 := by omega
  rw [search_open]
  simp only [h1, decide_true, Bool.or_true, if_true]
  exact stepL rfl rfl
theorem find_label {a ps l b : List Nat} (u : Uns l) (hp : ∀ c ∈ ps, (c == 34) = false) :
    Go (2 * ps.length + (9 * l.length + 12)) (forSearch RC (a ++ (ps ++ (34 :: l ++ [34])) ++ b).toArray 0 a.length (a ++ (ps ++ (34 :: l ++ [34])) ++ b).toArray.size false) (Won (a.length + ps.length) (a.length + ps.length + l.length + 2)) := by
  rw [search_eq (by simp; omega)]
  exact seek u ps hp (atL_of a _ b)
theorem find_none {a ps : List Nat} (hp : ∀ c ∈ ps, (c == 34) = false) : Go (2 * ps.length + 3) (forSearch RC (a ++ ps).toArray 0 a.length (a ++ ps).toArray.size false) Lost := by
  by_cases h : (a ++ ps).toArray.size < a.length + 2
  · exact (search_short h).mono (by omega)
  · rw [search_eq (by omega)]
    have := atL_of a ps []
    rw [List.append_nil] at this
    exact seek_no ps hp this (by simp)
end Mine
end

example : 1 = 1 ∧ 2 = 2 := by
  w_top off
  walk1 <;> rfl
section
set_option maxRecDepth 100000
set_option Elab.async false
open PySem PySem.W PyProof.Rows PySem.Calls Builtin.Bytes
namespace Mine
theorem buf_special (b : Array UInt8) (t : Tok) : specialOf (.bytes b t) "__buffer__" = pure (some (.builtin "bytes.__buffer__")) := by
  show typeLookup (.type "bytes") _ = _
  rw [typeLookup_type, builtinLookup_eq_fast]; kernel_rfl
theorem rel_special (b : Array UInt8) (t : Tok) : specialOf (.bytes b t) "__release_buffer__" = pure none := by
  show typeLookup (.type "bytes") _ = _
  rw [typeLookup_type, builtinLookup_eq_fast]; kernel_rfl
theorem call_special (b : Array UInt8) (t : Tok) : specialOf (.bytes b t) "__call__" = pure none := by
  show typeLookup (.type "bytes") _ = _
  rw [typeLookup_type, builtinLookup_eq_fast]; kernel_rfl
theorem bytes_inst (b : Array UInt8) (t : Tok) : isInstance (.bytes b t) (.type "bytes") = pure true := by
  show isSubtype (.type "bytes") (.type "bytes") = _
  rw [isSubtype_type]; kernel_rfl
theorem buf_own (b : Array UInt8) (t : Tok) : slotIsOwn (.bytes b t) "__buffer__" = pure true := by
  unfold slotIsOwn
  rw [buf_special]
  show (if (!("bytes.__buffer__" : String).endsWith ("." ++ "__buffer__")) = true then pure false else isInstance (.bytes b t) (.type (("bytes.__buffer__" : String).dropRight ("__buffer__".length + 1)))) = _
  rw [if_neg (by decide +kernel), show (("bytes.__buffer__" : String).dropRight ("__buffer__".length + 1)) = "bytes" by decide +kernel]
  exact bytes_inst b t
theorem buf_rel (b : Array UInt8) (t : Tok) : ownRelease (.bytes b t) = pure false := by
  unfold ownRelease slotIsOwn
  rw [rel_special]
  rfl
theorem pb {α β : Type} (a : α) (f : α → Sem β) : (pure a >>= f) = f a := rfl
theorem buf_of (id : String) (b : Array UInt8) (t : Tok) (full : Bool) : buffer? id (.bytes b t) full = pure (some b) := by
  unfold buffer?
  simp only [buf_special, buf_own, buf_rel, pb, Bool.not_true, Bool.false_eq_true, if_false]
  rfl
theorem bufq_of (id : String) (b : Array UInt8) (t : Tok) : bufferQuiet? id (.bytes b t) = pure (some b) := by
  unfold bufferQuiet?
  rw [buf_of]
  rfl
theorem take_of (id : String) (b : Array UInt8) (t : Tok) (f : Int) : takeBuffer? id (.bytes b t) f = pure (some (b, none)) := by
  unfold takeBuffer?
  simp only [buf_special, buf_own, buf_of, pb, Bool.not_true, Bool.false_eq_true, if_false]
  rfl
theorem takeq_of (id : String) (b : Array UInt8) (t : Tok) (f : Int) : takeBufferQuiet? id (.bytes b t) f = pure (some (b, none)) := by
  unfold takeBufferQuiet?
  rw [take_of]
  rfl
theorem win (n : Nat) : window n none none = (0, (n : Int)) := by
  have h : ¬ (n : Int) < 0 := by omega
  simp [window, h]
/-- how often a byte stands there -/
noncomputable def cntB (b : Array UInt8) (c : UInt8) : Nat := if b.size = 0 then 0 else (occurrences b #[c] 0 b.size).length
theorem count_run {M : Model} {A : Around} {E : Value → Shared → Prop} {s : Shared} {b : Array UInt8} {c : UInt8} {t t' : Tok} {Q : Value → Shared → Prop}
    (h : ∀ t' k, Q (.int (cntB b c : Nat) t') { s with toks := k }) : wpAny M A (Builtin.«bytes.count» ⟨[.bytes b t, .bytes #[c] t'], []⟩) (fun fin s' => ∃ v, fin = .done (.ret v) ∧ Q v s') E s := by
  have e : Builtin.«bytes.count» ⟨[.bytes b t, .bytes #[c] t'], []⟩ = retInt (cntB b c : Nat) := by
    show countM .bytes ⟨[.bytes b t, .bytes #[c] t'], []⟩ = _
    unfold countM searchArgs
    show (buffer? _ (.bytes #[c] t') >>= _) >>= _ = _
    rw [buf_of]
    have hp : payload (.bytes b t) = pure b := rfl
    simp only [pb, hp, win]
    unfold cntB
    by_cases hb : b.size = 0
    · rw [if_pos hb, if_pos (by simp [hb])]
      rfl
    · rw [if_neg hb, if_neg (by simp; omega)]
      rfl
  rw [e]
  unfold retInt
  refine wpAny_bind (wpAny_mkInt' (wpAny_pure ⟨_, rfl, h _ _⟩))
end Mine
end

example : 1 = 1 ∧ 2 = 2 := by
  w_top off
  walk1 <;> rfl
section
set_option maxRecDepth 100000
set_option Elab.async false
open PySem PySem.W PyProof.Rows PySem.Calls Builtin.Bytes
namespace Mine
theorem forIn_run {M : Model} {A : Around} {E : Value → Shared → Prop} {s : Shared} {β : Type} {n : Nat} {f : Nat → β → Sem (ForInStep β)} (g : Nat → β) {Q : β → Shared → Prop}
    (turn : ∀ i, i < n → wpAny M A (f i (g i)) (fun r s' => r = .yield (g (i + 1)) ∧ s' = s) E s) (fin : Q (g n) s) : wpAny M A (forIn [:n] (g 0) f) Q E s := by
  rw [Std.Legacy.Range.forIn_eq_forIn_range']
  have key : ∀ (k i : Nat), i + k = n → wpAny M A (forIn (List.range' i k 1) (g i) f) Q E s := by
    intro k
    induction k with
    | zero => intro i hi; have : i = n := by omega
              subst this; exact wpAny_pure fin
    | succ k ih =>
      intro i hi
      rw [List.range'_succ, List.forIn_cons]
      refine wpAny_bind (wpAny_mono (turn i (by omega)) (fun r s' hr => ?_) fun _ _ e => e)
      obtain ⟨rfl, rfl⟩ := hr
      exact ih (i + 1) (by omega)
  simpa [Std.Legacy.Range.size] using key n 0 (by omega)
theorem joined_nil : ∀ (l : List (List UInt8)), (joined #[] (l.map List.toArray)).toList = l.flatten := by
  intro l
  unfold joined
  have key : ∀ (l : List (List UInt8)) (k : Nat) (acc : Array UInt8), (((l.map List.toArray).zipIdx k).foldl (fun out (p : Array UInt8 × Nat) => (if p.2 > 0 then out ++ #[] else out) ++ p.1) acc).toList = acc.toList ++ l.flatten := by
    intro l
    induction l with
    | nil => intro k acc; simp
    | cons a r ih =>
      intro k acc
      rw [List.map_cons, List.zipIdx_cons, List.foldl_cons, ih]
      have : (if k > 0 then acc ++ #[] else acc) = acc := by split <;> simp
      simp [this]
  have := key l 0 #[]
  simpa using this
theorem foldl_sizes (l : List (List UInt8)) (k : Nat) : (l.map List.toArray).toArray.foldl (fun x1 x2 => x1 + x2.size) k = k + l.flatten.length := by
  have key : ∀ (l : List (List UInt8)) (k : Nat), (l.map List.toArray).foldl (fun x1 x2 => x1 + x2.size) k = k + l.flatten.length := by
    intro l
    induction l with
    | nil => intro k; rfl
    | cons a r ih =>
      intro k
      rw [List.map_cons, List.foldl_cons, ih, List.flatten_cons, List.length_append, List.size_toArray]
      omega
  simpa using key l k
theorem join_run {M : Model} {A : Around} {E : Value → Shared → Prop} {s : Shared} {a : Addr} {n : Nat} {t : Tok} {Q : Value → Shared → Prop} {ps : List (List UInt8 × Tok)}
    (ha : s.heap.get? a = some (W.listOf (ps.map fun p => Value.bytes p.1.toArray p.2).toArray n)) (hne : ps ≠ []) (hz : (ps.map (·.1)).flatten.length ≤ 1000) (h : ∀ t' k, Q (.bytes (ps.map (·.1)).flatten.toArray t') { s with toks := k }) :
    wpAny M A (Builtin.«bytes.join» ⟨[.bytes #[] t, .ref a], []⟩) (fun fin s' => ∃ v, fin = .done (.ret v) ∧ Q v s') E s := by
  show wpAny M A (joinM .bytes ⟨[.bytes #[] t, .ref a], []⟩) _ E s
  unfold joinM
  show wpAny M A (joinItems (.ref a) >>= _) _ E s
  have hj : Looks M s.heap (joinItems (.ref a)) (.ref a) := by
    unfold joinItems
    exact ((Looks.ld ha).andThen .now).andThen .now
  refine wpAny_bind (hj.here ?_)
  dsimp only
  have hs : Looks M s.heap (seqItems? (.ref a)) (some (ps.map fun p => Value.bytes p.1.toArray p.2).toArray) := (Looks.ld ha).andThen .now
  refine wpAny_bind (hs.here ?_)
  dsimp only
  rw [if_pos (by decide)]
  cases ps with
  | nil => exact absurd rfl hne
  | cons p r =>
    cases r with
    | nil =>
      refine wpAny_bind (wpAny_pure ?_)
      rw [if_pos (by decide)]
      refine wpAny_bind (wpAny_rule (wpAny_pure ⟨_, rfl, ?_⟩))
      have := h p.2 s.toks
      simp at this
      exact this
    | cons q r =>
      refine wpAny_bind ?_
      generalize hps : p :: q :: r = ps at *
      refine forIn_run (g := fun i => (((ps.take i).map fun p => p.1.toArray).toArray, (ps.take i).map fun p => (Value.bytes p.1.toArray p.2, (none : Option Value)))) (fun i hi => ?_) ?_
      · have hi' : i < ps.length := by simpa using hi
        have hget : (ps.map fun p => Value.bytes p.1.toArray p.2).toArray.getD i .none = .bytes ps[i].1.toArray ps[i].2 := by simp [hi']
        have hany : ((ps.take i).map fun p => (Value.bytes p.1.toArray p.2, (none : Option Value))).any (fun x => x.1.onHeap) = false := by
          rw [List.any_map, List.any_eq_false]
          intro x _
          exact Bool.false_ne_true
        refine wpAny_bind (hs.here ?_)
        dsimp only
        rw [hany, hget]
        rw [if_neg (by decide)]
        refine wpAny_bind (wpAny_holding ?_)
        rw [takeq_of]
        refine wpAny_pure ?_
        dsimp only
        refine wpAny_bind (hs.here ?_)
        dsimp only
        rw [if_neg (by simp)]
        refine wpAny_pure ⟨?_, rfl⟩
        rw [List.take_add_one, List.getElem?_eq_getElem hi']
        simp only [Option.toList_some, List.map_append, List.map_cons, List.map_nil, List.push_toArray]
      · have hsz : (ps.map fun p => Value.bytes p.1.toArray p.2).toArray.size = ps.length := by simp
        dsimp only
        rw [hsz, List.take_length]
        refine wpAny_bind (wpAny_pure (a := (#[] : Array UInt8)) ?_)
        have em : (ps.map fun p => p.1.toArray) = (ps.map (·.1)).map List.toArray := by rw [List.map_map]; rfl
        have ht : tooLong (Array.foldl (fun x1 x2 => x1 + x2.size) ((#[] : Array UInt8).size * ((List.map (fun p => p.1.toArray) ps).toArray.size - 1)) (List.map (fun p => p.1.toArray) ps).toArray) = false := by
          rw [em, foldl_sizes]
          unfold tooLong
          rw [sizeLine_eq]
          simp
          simp at hz
          omega
        have hb : joined #[] (ps.map fun p => p.1.toArray) = (ps.map (·.1)).flatten.toArray := by
          apply Array.toList_inj.mp
          rw [em, joined_nil]
        rw [ht, if_neg Bool.false_ne_true, hb]
        refine wpAny_bind (wpAny_mkBytes ?_ (by rw [sizeLine_eq, List.size_toArray]; omega))
        refine wpAny_bind (wpAny_holding (wpAny_point ?_))
        refine wpAny_bind ?_
        have letgo : ∀ (l : List (List UInt8 × Tok)) (k : List Value) {s : Shared} {Q : Unit → Shared → Prop}, Q () s → wpAny M A (joinLetGo (l.map fun p => (Value.bytes p.1.toArray p.2, (none : Option Value))) k) Q E s := by
          intro l
          induction l with
          | nil => intro k s Q q; exact wpAny_pure q
          | cons p r ih => intro k s Q q; exact wpAny_bind (wpAny_letGo (ih k q))
        exact letgo ps _ (wpAny_pure ⟨_, rfl, h _ _⟩)
end Mine
end

example : 1 = 1 ∧ 2 = 2 := by
  w_top off
  walk1 <;> rfl
section
set_option maxRecDepth 100000
set_option Elab.async false
open PySem PySem.W PyProof.Rows PySem.Calls Builtin.Bytes Builtin.Re
namespace Mine
/-- a machine driven to its end -/
theorem runFor_done (n : Nat) {m : Sre.M} (h : m.outcome.isSome = true) : m.runFor n = m := by
  cases n with
  | zero => rfl
  | succ n => simp [Sre.M.runFor, h]
theorem rr_run {n : Nat} {m m' : Sre.M} (r : RR n m m') (h : m'.outcome.isSome = true) : ∀ k, n ≤ k → m.runFor k = m' := by
  induction r with
  | refl m => intro k _; exact runFor_done k h
  | @step n m m' ho _ ih =>
    intro k hk
    obtain ⟨k, rfl⟩ : ∃ j, k = j + 1 := ⟨k - 1, by omega⟩
    simp only [Sre.M.runFor, ho, Option.isSome_none, Bool.false_eq_true, if_false]
    exact ih h k (by omega)
theorem rr_part {n : Nat} {m m' : Sre.M} (r : RR n m m') : ∀ k, k ≤ n → ∃ m1, m.runFor k = m1 ∧ RR (n - k) m1 m' ∧ (k < n → m1.outcome = none) := by
  induction r with
  | refl m => intro k hk; obtain rfl : k = 0 := by omega
              exact ⟨_, rfl, .refl _, fun h => absurd h (by omega)⟩
  | @step n m m' ho r ih =>
    intro k hk
    cases k with
    | zero => exact ⟨_, rfl, .step ho r, fun _ => ho⟩
    | succ k =>
      obtain ⟨m1, e1, e2, e3⟩ := ih k (by omega)
      refine ⟨m1, ?_, by rw [Nat.succ_sub_succ]; exact e2, fun h => e3 (by omega)⟩
      simp only [Sre.M.runFor, ho, Option.isSome_none, Bool.false_eq_true, if_false]
      exact e1
section
variable {M : Model} {A : Around} {E : Value → Shared → Prop} {s : Shared}
theorem drive_run {m' : Sre.M} (ho : m'.outcome.isSome = true) {Q : Sre.M → Shared → Prop} (h : Q m' s) : ∀ (turns n : Nat) (m : Sre.M), RR n m m' → n < 4 * turns → wpAny M A (reDrive turns m) Q E s := by
  intro turns
  induction turns with
  | zero => intro n m _ hn; omega
  | succ t ih =>
    intro n m r hn
    unfold reDrive
    by_cases h4 : n ≤ 4
    · have e : m.runFor reTurnSteps = m' := rr_run r ho 4 h4
      rw [e]
      simp only [ho, if_true]
      exact wpAny_pure h
    · obtain ⟨m1, e1, e2, e3⟩ := rr_part r 4 (by omega)
      have e : m.runFor reTurnSteps = m1 := e1
      rw [e]
      simp only [e3 (by omega), Option.isSome_none, Bool.false_eq_true, if_false]
      exact wpAny_bind (wpAny_rule (ih _ _ e2 (by omega)))
theorem rules_run (f : Nat → Bool) (g : Nat → String) {Q : PUnit → Shared → Prop} (h : Q ⟨⟩ s) : ∀ l : List Nat, wpAny M A (forIn l PUnit.unit fun i _ => if f i = true then do rule (g i); pure (ForInStep.yield PUnit.unit) else pure (ForInStep.yield PUnit.unit)) Q E s := by
  intro l
  induction l with
  | nil => exact wpAny_pure h
  | cons a r ih =>
    rw [List.forIn_cons]
    refine wpAny_bind ?_
    split
    · exact wpAny_bind (wpAny_rule (wpAny_pure ih))
    · exact wpAny_pure ih
theorem end_won {m : Sre.M} {k a b : Nat} (g : Go k m (Won a b)) (hk : k ≤ 1000000) {Q : Option Sre.M → Shared → Prop} (h : ∀ m', Won a b m' → Q (some m') s) : wpAny M A (reRunToEnd m) Q E s := by
  obtain ⟨n, m', hn, r, w⟩ := g
  unfold reRunToEnd
  refine wpAny_bind (drive_run (by rw [w.1]; rfl) ?_ (2 ^ 64) n m r (by omega))
  refine wpAny_bind (rules_run _ _ ?_ _)
  rw [w.1]
  exact wpAny_pure (h m' w)
theorem end_lost {m : Sre.M} {k : Nat} (g : Go k m Lost) (hk : k ≤ 1000000) {Q : Option Sre.M → Shared → Prop} (h : Q none s) : wpAny M A (reRunToEnd m) Q E s := by
  obtain ⟨n, m', hn, r, w⟩ := g
  unfold reRunToEnd
  refine wpAny_bind (drive_run (by rw [w]; rfl) ?_ (2 ^ 64) n m r (by omega))
  refine wpAny_bind (rules_run _ _ ?_ _)
  rw [w]
  exact wpAny_pure h
end
theorem asStr_bytes (b : Array UInt8) (t : Tok) : asStr? (.bytes b t) = pure none := by kernel_rfl
theorem text_of (b : Array UInt8) (t : Tok) : reTextOf (.bytes b t) = pure (b.map (·.toNat), 1) := by
  unfold reTextOf
  rw [asStr_bytes, bufq_of]
  rfl
noncomputable abbrev tgt (b : Array UInt8) (t : Tok) : ReTarget := ⟨.ref 43, .bytes b t, RC, b.map (·.toNat), 1, 0, 0, (b.map (·.toNat)).size⟩
theorem whole {w : World} {h : Heap} {b : Array UInt8} {t : Tok} (X : (hd.heap_39 w.params).In h) : Looks (mdl w) h (reWholeTarget (.ref 43) (.bytes b t)) (tgt b t) := by
  have h43 : ((hd.heap_39 w.params).lookup 43).map (fun o => match o.data with | .fields vs => vs.toList.drop 1 | _ => []) = some [.int 0 333, .int 0 0, .none, .none, .ref 42, .int 1 0] := by kernel_rfl
  have h42 : ((hd.heap_39 w.params).lookup 42).map (fun o => match o.data with | .seq vs _ => (vs.map reRawOf).map (·.toNat) | _ => #[]) = some RC := by kernel_rfl
  obtain ⟨⟨c1, d1, dt1, sl1⟩, e1, e2⟩ := Option.map_eq_some_iff.mp h43
  obtain ⟨⟨c2, d2, dt2, sl2⟩, f1, f2⟩ := Option.map_eq_some_iff.mp h42
  cases dt1 with
  | fields vs =>
    cases dt2 with
    | seq ws k =>
      have g1 := X _ _ e1
      have g2 := X _ _ f1
      dsimp only at e2 f2
      have hv : ∃ v0, vs.toList = [v0, .int 0 333, .int 0 0, .none, .none, .ref 42, .int 1 0] := by
        cases hvl : vs.toList with
        | nil => rw [hvl] at e2; simp at e2
        | cons v0 r => rw [hvl] at e2; simp at e2; exact ⟨v0, by rw [e2]⟩
      obtain ⟨v0, hv⟩ := hv
      have hvs : vs = #[v0, .int 0 333, .int 0 0, .none, .none, .ref 42, .int 1 0] := Array.toList_inj.mp hv
      subst hvs
      unfold reWholeTarget
      refine Looks.andThen (a := #[v0, .int 0 333, .int 0 0, .none, .none, .ref 42, .int 1 0]) ((Looks.ld g1).andThen .now) ?_
      rw [text_of]
      have hn : reNoCollectionInside (.bytes b t) 1 = pure () := by
        unfold reNoCollectionInside
        rw [if_pos (by decide), bytes_inst]
        rfl
      have hi : Looks (mdl w) h (reRawItems (.ref 42)) (ws.map reRawOf) := by
        unfold reRawItems
        exact ((Looks.ld g2).andThen .now).andThen .now
      show Looks (mdl w) h (reNoCollectionInside (.bytes b t) 1 >>= fun _ => reRawItems (.ref 42) >>= fun x => pure (⟨.ref 43, .bytes b t, x.map (·.toNat), b.map (·.toNat), 1, 0, 0, (b.map (·.toNat)).size⟩ : ReTarget)) _
      rw [hn]
      refine Looks.andThen (a := ()) .now (hi.andThen ?_)
      rw [f2]
      exact .now
    | _ => simp at f2; cases f2
  | _ => simp at e2
theorem named_run (a b : Value) : reNamed "re.Pattern.sub" "sub" ["repl", "string", "count"] 2 [a, b] [] = pure [some a, some b, none] := by kernel_rfl
theorem sub_open {w : World} {A : Around} {E : Value → Shared → Prop} {s : Shared} {b : Array UInt8} {t t1 : Tok} {Q : Fin → Shared → Prop} (X : (hd.heap_39 w.params).In s.heap)
    (h : Q (.again (.builtin "re.Pattern.sub.loop" ⟨[.ref 43, .bytes b t, .bytes #[] t1, rawInt 0, rawInt 0, rawInt 0, rawInt 0, rawInt 0, .bool false, .ref s.heap.objs.size, .bool false], []⟩)) { s with heap := s.heap.push (W.listOf #[] 0) }) :
    wpAny (mdl w) A (Builtin.«re.Pattern.sub» ⟨[.ref 43, .bytes #[] t1, .bytes b t], []⟩) Q E s := by
  show wpAny _ _ (reSubstitute "re.Pattern.sub" "sub" false ⟨[.ref 43, .bytes #[] t1, .bytes b t], []⟩) _ _ _
  unfold reSubstitute
  dsimp only
  rw [named_run]
  refine wpAny_bind (wpAny_pure ?_)
  dsimp only
  refine wpAny_bind (wpAny_pure ?_)
  rw [call_special]
  refine wpAny_bind (wpAny_pure ?_)
  dsimp only [Option.isSome_none]
  rw [if_neg Bool.false_ne_true, asStr_bytes]
  refine wpAny_bind (wpAny_pure ?_)
  dsimp only
  rw [bufq_of]
  refine wpAny_bind (wpAny_pure ?_)
  dsimp only
  refine wpAny_bind (wpAny_pure ?_)
  rw [if_neg Bool.false_ne_true, if_pos (by simp)]
  refine wpAny_bind (wpAny_pure ?_)
  dsimp only
  refine wpAny_bind (wpAny_holding ((whole X).here ?_))
  rw [if_neg (by decide)]
  refine wpAny_bind (wpAny_newObj_type ?_)
  exact wpAny_pure h
noncomputable def segText : List (List Nat × List Nat) → List Nat → List Nat
  | [], e => e
  | (ps, l) :: r, e => ps ++ (34 :: l ++ [34]) ++ segText r e
noncomputable def segPar : List (List Nat × List Nat) → List Nat → List Nat
  | [], e => e
  | (ps, l) :: r, e => ps ++ segPar r e
noncomputable def NoQ (l : List Nat) : Prop := ∀ c ∈ l, (c == 34) = false
noncomputable def SegOk (segs : List (List Nat × List Nat)) : Prop := ∀ p ∈ segs, NoQ p.1 ∧ Uns p.2
noncomputable abbrev vals (ps : List (List UInt8 × Tok)) : List Value := ps.map fun p => Value.bytes p.1.toArray p.2
theorem lit_quiet (b : Array UInt8) (t : Tok) : reLiteralCannotBeTurned (.bytes b t) = pure () := by
  unfold reLiteralCannotBeTurned
  rw [asStr_bytes, pb, if_pos (by rfl), bytes_inst]
  rfl
section
variable {w : World} {A : Around} {s : Shared} {h₀ : Heap} {L : Addr} {m : Str → Option Value} {news : List (Addr × Obj)} {R : Result → Shared → Prop} {E : Value → Shared → Prop}
theorem list_push {M : Model} {D : Addr} {vs : List Value} {n : Nat} {v : Value} {Q : Unit → Shared → Prop} (F : Fr h₀ L s.heap m) (N : News h₀ L s.heap ((D, W.listOf vs.toArray n) :: news)) (hD : ∀ p ∈ news, p.1 ≠ D) (hz : vs.length ≤ 1000)
    (hq : ∀ h', Fr h₀ L h' m → News h₀ L h' ((D, W.listOf (vs ++ [v]).toArray (n + 1)) :: news) → Q () { s with heap := h' }) : wpAny M A (updateSeq D (·.push v)) Q E s := by
  have e : Obj.mapSeq (·.push v) (W.listOf vs.toArray n) = W.listOf (vs ++ [v]).toArray (n + 1) := by simp [Obj.mapSeq, W.listOf]
  obtain ⟨F', N'⟩ := news_upd (f := Obj.mapSeq (·.push v)) (pre := []) F N (fun _ h => nomatch h) hD e rfl
  exact wpAny_updateSeq (N _ List.mem_cons_self).1 rfl (hq _ F' N') (by rw [sizeLine_eq]; simp; omega) (by rw [sizeLine_eq]; simp; omega)
theorem slice_run {M : Model} {text : Array Nat} {a b : Nat} {l : List Nat} {Q : Value → Shared → Prop} (e : (text.extract a b).toList = l) (hz : l.length ≤ 1000)
    (h : ∀ t, Q (.bytes (l.map Nat.toUInt8).toArray t) { s with toks := s.toks + 1 }) : wpAny M A (reSlice text 1 a b) Q E s := by
  have e' : (text.extract a b).map (·.toUInt8) = (l.map Nat.toUInt8).toArray := by
    apply Array.toList_inj.mp
    rw [Array.toList_map, e]
  show wpAny M A (mkBytes _) Q E s
  rw [e']
  exact wpAny_mkBytes (h _) (by rw [sizeLine_eq]; simp; omega)
theorem loop_run (X₀ : (hd.heap_39 w.params).In h₀) {b : Array UInt8} {t t1 : Tok} {e : List Nat} (he : NoQ e) : ∀ (segs : List (List Nat × List Nat)) {A : Around} {s : Shared} {pre : List Nat} {D : Addr} {n : Int} {k : Nat} {items : List (List UInt8 × Tok)} {news : List (Addr × Obj)}, SegOk segs →
    b.map (·.toNat) = (pre ++ segText segs e).toArray → (pre ++ segText segs e).length ≤ 900 → items.length + 2 * segs.length ≤ 900 → (items.map (·.1)).flatten.length + (segPar segs e).length ≤ 900 →
    Fr h₀ L s.heap m → News h₀ L s.heap ((D, W.listOf (vals items).toArray k) :: news) → (∀ p ∈ news, p.1 ≠ D) →
    (∀ h' tk t', Fr h₀ L h' m → News h₀ L h' news → R (.ok (.ret (.bytes ((items.map (·.1)).flatten ++ (segPar segs e).map Nat.toUInt8).toArray t'))) { s with heap := h', toks := tk }) →
    codeAny (mdl w) A (.builtin "re.Pattern.sub.loop" ⟨[.ref 43, .bytes b t, .bytes #[] t1, rawInt 0, rawInt 0, rawInt n, rawInt pre.length, rawInt pre.length, .bool false, .ref D, .bool false], []⟩) R s := by
  intro segs
  induction segs with
  | nil =>
    intro A s pre D n k items news hs hb h1 h2 h3 F N hD hR
    refine codeAny_builtin (b := Builtin.«re.Pattern.sub.loop») (entryFor_of_tree (by kernel_rfl)) ?_
    unfold Builtin.«re.Pattern.sub.loop»
    dsimp only [rawInt]
    refine wpAny_bind ((whole (X₀.keeps F.keep)).here ?_)
    rw [if_pos (by decide), lit_quiet]
    refine wpAny_bind (wpAny_pure ?_)
    rw [if_neg (by simp)]
    refine wpAny_bind ?_
    unfold reNextFound
    dsimp only [tgt]
    rw [segText] at hb h1
    rw [segPar] at h3 hR
    rw [Int.toNat_natCast]
    have hgo : Go (2 * e.length + 3) (Sre.forSearch RC (b.map (·.toNat)) 0 pre.length (b.map (·.toNat)).size false) Lost := by rw [hb]; exact find_none he
    have hsz : (b.map (·.toNat)).size = pre.length + e.length := by rw [hb]; simp
    refine end_lost hgo (by simp at h1; omega) ?_
    dsimp only
    have last : ∀ {s : Shared} {k : Nat} {its : List (List UInt8 × Tok)}, (its.map (·.1)).flatten = (items.map (·.1)).flatten ++ e.map Nat.toUInt8 → Fr h₀ L s.heap m → News h₀ L s.heap ((D, W.listOf (vals its).toArray k) :: news) →
      (∀ h' tk t', Fr h₀ L h' m → News h₀ L h' news → R (.ok (.ret (.bytes ((items.map (·.1)).flatten ++ e.map Nat.toUInt8).toArray t'))) { s with heap := h', toks := tk }) →
      wpAny (mdl w) (A.under (.builtin "re.Pattern.sub.loop" ⟨[.ref 43, .bytes b t, .bytes #[] t1, .int 0 0, .int 0 0, .int n 0, .int pre.length 0, .int pre.length 0, .bool false, .ref D, .bool false], []⟩)) (do
        let joiner ← reSlice (b.map (·.toNat)) 1 0 0
        let __do_lift ← seqItems? (.ref D)
        let text ← if (__do_lift.getD #[]).isEmpty = true then pure joiner else call (.builtin "bytes.join") [joiner, .ref D]
        ret text) (fun fin s' => match fin with | .done f => R (.ok f) s' | .again c' => c'.quiet = true ∧ codeAny (mdl w) A c' R s') (fun e s' => R (.error e) s') s := by
      intro s k its hfl F N hR
      refine wpAny_bind (slice_run (l := []) (by simp) (by simp) fun tj => ?_)
      have hD' := (N _ List.mem_cons_self).1
      have hsq : Looks (mdl w) s.heap (seqItems? (.ref D)) (some (vals its).toArray) := (Looks.ld hD').andThen .now
      refine wpAny_bind (Looks.here (s := { s with toks := s.toks + 1 }) hsq ?_)
      dsimp only [Option.getD_some]
      cases its with
      | nil =>
        refine wpAny_bind ?_
        refine wpAny_pure (wpAny_pure ?_)
        have := hR s.heap (s.toks + 1) tj F fun p hp => N p (List.mem_cons_of_mem _ hp)
        rw [← hfl] at this
        exact this
      | cons q r =>
        refine wpAny_bind ?_
        refine call_on (B := Builtin.«bytes.join») (by decide +kernel) (entryFor_of_tree (by kernel_rfl)) (fun q' => check_meth (owner := "bytes") (n := "join") (by decide +kernel) (by decide +kernel) (Looks.of_pure (bytes_inst _ _)) (by unfold argsOk; kernel_rfl) q') ?_
        refine join_run (s := { s with toks := s.toks + 1 }) hD' (List.cons_ne_nil _ _) ?_ fun t' k' => ?_
        · rw [hfl]; simp at h3 ⊢; omega
        · refine wpAny_pure ?_
          have := hR s.heap k' t' F fun p hp => N p (List.mem_cons_of_mem _ hp)
          rw [← hfl] at this
          exact this
    by_cases hee : e = []
    · subst hee
      rw [if_neg (by rw [hsz]; simp)]
      exact last (by simp) F N hR
    · have hep : 0 < e.length := List.length_pos_iff.mpr hee
      rw [if_pos (by rw [hsz]; omega)]
      refine wpAny_bind (slice_run (l := e) (by rw [hb]; simp) (by simp at h1; omega) fun te => ?_)
      refine wpAny_bind (list_push (s := { s with toks := s.toks + 1 }) F N hD (by simp; omega) fun h' F' N' => ?_)
      have ev : vals items ++ [Value.bytes (e.map Nat.toUInt8).toArray te] = vals (items ++ [(e.map Nat.toUInt8, te)]) := by simp
      rw [ev] at N'
      exact last (by simp) F' N' hR
  | cons p segs ih =>
    obtain ⟨ps, l⟩ := p
    intro A s pre D n k items news hs hb h1 h2 h3 F N hD hR
    have hps := (hs _ (List.Mem.head _)).1
    have hl := (hs _ (List.Mem.head _)).2
    refine codeAny_builtin (b := Builtin.«re.Pattern.sub.loop») (entryFor_of_tree (by kernel_rfl)) ?_
    unfold Builtin.«re.Pattern.sub.loop»
    dsimp only [rawInt]
    refine wpAny_bind ((whole (X₀.keeps F.keep)).here ?_)
    rw [if_pos (by decide), lit_quiet]
    refine wpAny_bind (wpAny_pure ?_)
    rw [if_neg (by simp)]
    refine wpAny_bind ?_
    unfold reNextFound
    dsimp only [tgt]
    rw [segText] at hb h1
    rw [segPar] at h3 hR
    rw [Int.toNat_natCast]
    have e1 : pre ++ (ps ++ (34 :: l ++ [34]) ++ segText segs e) = pre ++ (ps ++ (34 :: l ++ [34])) ++ segText segs e := by simp
    have hgo : Go (2 * ps.length + (9 * l.length + 12)) (Sre.forSearch RC (b.map (·.toNat)) 0 pre.length (b.map (·.toNat)).size false) (Won (pre.length + ps.length) (pre.length + ps.length + l.length + 2)) := by
      rw [hb, e1]; exact find_label hl hps
    refine end_won hgo (by simp at h1; omega) fun m' hm' => ?_
    obtain ⟨-, hst, hha, -⟩ := hm'
    dsimp only
    rw [hst, hha]
    have again1 : ∀ {s : Shared} {k : Nat} {its : List (List UInt8 × Tok)}, (its.map (·.1)).flatten = (items.map (·.1)).flatten ++ ps.map Nat.toUInt8 → its.length ≤ items.length + 1 → Fr h₀ L s.heap m → News h₀ L s.heap ((D, W.listOf (vals its).toArray k) :: news) →
      (∀ h' tk t', Fr h₀ L h' m → News h₀ L h' news → R (.ok (.ret (.bytes ((items.map (·.1)).flatten ++ (ps ++ segPar segs e).map Nat.toUInt8).toArray t'))) { s with heap := h', toks := tk }) →
      wpAny (mdl w) (A.under (.builtin "re.Pattern.sub.loop" ⟨[.ref 43, .bytes b t, .bytes #[] t1, .int 0 0, .int 0 0, .int n 0, .int pre.length 0, .int pre.length 0, .bool false, .ref D, .bool false], []⟩)) (do
        updateSeq D (·.push (.bytes #[] t1))
        again (.builtin "re.Pattern.sub.loop" ⟨[.ref 43, .bytes b t, .bytes #[] t1, .int 0 0, .int 0 0, .int (n + 1) 0, .int ((pre.length + ps.length + l.length + 2 : Nat) : Int) 0, .int ((pre.length + ps.length + l.length + 2 : Nat) : Int) 0, .bool (pre.length + ps.length + l.length + 2 == pre.length + ps.length), .ref D, .bool false], []⟩))
        (fun fin s' => match fin with | .done f => R (.ok f) s' | .again c' => c'.quiet = true ∧ codeAny (mdl w) A c' R s') (fun e s' => R (.error e) s') s := by
      intro s k its hfl hil F N hR
      simp only [List.length_cons] at h2
      refine wpAny_bind (list_push F N hD (by simp; omega) fun h' F' N' => ?_)
      have ev : vals its ++ [Value.bytes #[] t1] = vals (its ++ [([], t1)]) := by simp
      rw [ev] at N'
      refine wpAny_pure ⟨plainId_quiet (by decide +kernel) _, ?_⟩
      have em : (pre.length + ps.length + l.length + 2 == pre.length + ps.length) = false := by rw [beq_eq_false_iff_ne]; omega
      have el : ((pre.length + ps.length + l.length + 2 : Nat) : Int) = ((pre ++ (ps ++ (34 :: l ++ [34]))).length : Int) := by simp; omega
      rw [em, el]
      refine ih (pre := pre ++ (ps ++ (34 :: l ++ [34]))) (items := its ++ [([], t1)]) (fun q hq => hs q (List.Mem.tail _ hq)) (by rw [hb, e1]) (by rw [← e1]; exact h1) (by simp; omega) ?_ F' N' hD ?_
      · simp only [List.map_append, List.flatten_append, List.length_append, hfl, List.map_cons, List.map_nil, List.flatten_cons, List.flatten_nil, List.length_nil, List.length_map] at h3 ⊢
        omega
      · intro h2' tk' t' F2 N2
        have := hR h2' tk' t' F2 N2
        simp only [List.map_append, List.flatten_append, hfl, List.map_cons, List.map_nil, List.flatten_cons, List.flatten_nil, List.append_nil, List.append_assoc] at this ⊢
        exact this
    by_cases hee : ps = []
    · subst hee
      rw [if_neg (by simp)]
      exact again1 (its := items) (by simp) (by omega) F N hR
    · have hep : 0 < ps.length := List.length_pos_iff.mpr hee
      rw [if_pos (by omega)]
      refine wpAny_bind (slice_run (l := ps) (by rw [hb]; simp) (by simp at h1; omega) fun te => ?_)
      refine wpAny_bind (list_push (s := { s with toks := s.toks + 1 }) F N hD (by simp; omega) fun h' F' N' => ?_)
      have ev : vals items ++ [Value.bytes (ps.map Nat.toUInt8).toArray te] = vals (items ++ [(ps.map Nat.toUInt8, te)]) := by simp
      rw [ev] at N'
      exact again1 (its := items ++ [(ps.map Nat.toUInt8, te)]) (by simp) (by simp) F' N' hR
end
end Mine
end

example : 1 = 1 ∧ 2 = 2 := by
  w_top off
  walk1 <;> rfl
section
set_option maxRecDepth 100000
set_option Elab.async false
set_option maxHeartbeats 4000000
open PySem PySem.W PyProof.Rows PySem.Calls Builtin.Bytes Builtin.Re
namespace Mine
theorem slot_sub : Slot "re.Pattern" (Str.ofString "sub") "re.Pattern.sub" := .of (owner := "re.Pattern") (n := "sub") (by rw [typeLookup_type, builtinLookup_eq_fast]; kernel_rfl) (by decide +kernel) (by decide +kernel) (by decide +kernel)
  (by first | exact .inl (by decide +kernel) | exact .inr (by decide +kernel)) (by rw [isSubtype_type]; kernel_rfl)
theorem slot_count : Slot "bytes" (Str.ofString "count") "bytes.count" := .of (owner := "bytes") (n := "count") (by rw [typeLookup_type, builtinLookup_eq_fast]; kernel_rfl) (by decide +kernel) (by decide +kernel) (by decide +kernel)
  (by first | exact .inl (by decide +kernel) | exact .inr (by decide +kernel)) (by rw [isSubtype_type]; kernel_rfl)
theorem plain_pat : PlainAttrs "re.Pattern" :=
  ⟨⟨"object.__getattribute__", by rw [typeLookup_type, builtinLookup_eq_fast]; kernel_rfl, by decide +kernel⟩, by rw [typeLookup_type, builtinLookup_eq_fast]; kernel_rfl⟩
theorem plain_bytes : PlainAttrs "bytes" :=
  ⟨⟨"bytes.__getattribute__", by rw [typeLookup_type, builtinLookup_eq_fast]; kernel_rfl, by decide +kernel⟩, by rw [typeLookup_type, builtinLookup_eq_fast]; kernel_rfl⟩
section
variable {w : World} {A : Around} {s : Shared} {h₀ : Heap} {L : Addr} {m : Str → Option Value} {news : List (Addr × Obj)} {Q : Value → Shared → Prop} {E : Value → Shared → Prop}
theorem m_sub {pl : Sem Bool} {Q : Value × List Value → Shared → Prop} (F : Fr h₀ L s.heap m) (X₀ : (hd.heap_39 w.params).In h₀) (h : Q (.builtin "re.Pattern.sub", [.ref 43]) s) : wpAny (mdl w) A (getMethod (.ref 43) (Str.ofString "sub") pl) Q E s := by
  have h43 : ((hd.heap_39 w.params).lookup 43).map (fun o => (o.cls, o.dict)) = some (.type "re.Pattern", none) := by kernel_rfl
  obtain ⟨o, e1, e2⟩ := Option.map_eq_some_iff.mp h43
  obtain ⟨e3, e4⟩ := Prod.mk.inj e2
  have g := X₀.keeps F.keep _ _ e1
  exact getMethod_builtin ⟨o, g, e3⟩ plain_pat slot_sub (by kernel_rfl) (fun a e => by cases e; exact ⟨o, g, e4⟩) h
theorem m_count {b : Array UInt8} {t : Tok} {pl : Sem Bool} {Q : Value × List Value → Shared → Prop} (h : Q (.builtin "bytes.count", [.bytes b t]) s) : wpAny (mdl w) A (getMethod (.bytes b t) (Str.ofString "count") pl) Q E s :=
  getMethod_builtin (T := "bytes") rfl plain_bytes slot_count (by kernel_rfl) (fun a e => by cases e) h
theorem call_count {b : Array UInt8} {c : UInt8} {t t' : Tok} (h : ∀ t' k, Q (.int (cntB b c : Nat) t') { s with toks := k }) : wpAny (mdl w) A (call (.builtin "bytes.count") [.bytes b t, .bytes #[c] t']) Q E s :=
  call_on (B := Builtin.«bytes.count») (by decide +kernel) (entryFor_of_tree (by kernel_rfl)) (fun q' => check_meth (owner := "bytes") (n := "count") (by decide +kernel) (by decide +kernel) (Looks.of_pure (bytes_inst _ _)) (by unfold argsOk; kernel_rfl) q') (count_run h)
theorem call_sub (X₀ : (hd.heap_39 w.params).In h₀) {b : Array UInt8} {t t1 : Tok} {e : List Nat} {segs : List (List Nat × List Nat)} (he : NoQ e) (hs : SegOk segs) (hb : b.map (·.toNat) = (segText segs e).toArray) (h1 : (segText segs e).length ≤ 300) (h2 : segs.length ≤ 300) (h3 : (segPar segs e).length ≤ 300)
    (F : Fr h₀ L s.heap m) (N : News h₀ L s.heap news) (hR : ∀ h' tk t', Fr h₀ L h' m → News h₀ L h' news → Q (.bytes ((segPar segs e).map Nat.toUInt8).toArray t') { s with heap := h', toks := tk }) :
    wpAny (mdl w) A (call (.builtin "re.Pattern.sub") [.ref 43, .bytes #[] t1, .bytes b t]) Q E s := by
  have X := X₀.keeps F.keep
  refine wpAny_call (codeAny_call_builtin (by decide +kernel) (entryFor_of_tree (b := Builtin.«re.Pattern.sub») (by kernel_rfl)) (check_meth (owner := "re.Pattern") (n := "sub") (by decide +kernel) (by decide +kernel) (looks_instIn X (by kernel_rfl)) (by unfold argsOk; kernel_rfl) ?_) )
  refine sub_open X ⟨plainId_quiet (by decide +kernel) _, ?_⟩
  refine loop_run (pre := []) (items := []) X₀ he segs hs hb (by simpa using (by omega)) (by simp; omega) (by simp; omega) (F.push _) (N.push F _) (fun p hp => Nat.ne_of_lt (Heap.lt_size (N p hp).1)) fun h' tk t' F' N' => ?_
  exact hR h' tk t' F' N'
end
/-- counting -/
theorem occ_one (b : List UInt8) (c : UInt8) : cntB b.toArray c = b.count c := by
  have key : ∀ (n : Nat), n ≤ b.length → ∃ acc : List Nat × Nat, ((List.range n).map (· + 0)).foldl (fun (acc : List Nat × Nat) (i : Nat) => if (decide (i ≥ acc.2) && b.toArray.extract i (i + (#[c] : Array UInt8).size) == #[c]) = true then (i :: acc.1, i + (#[c] : Array UInt8).size) else acc) ([], 0) = acc ∧ acc.2 ≤ n ∧ acc.1.length = (b.take n).count c := by
    intro n
    induction n with
    | zero => intro _; exact ⟨_, rfl, Nat.le_refl _, rfl⟩
    | succ n ih =>
      intro hn
      obtain ⟨acc, e1, e2, e3⟩ := ih (by omega)
      rw [List.range_succ, List.map_append, List.foldl_append, e1]
      have hx : b.toArray.extract n (n + 1) = #[b[n]] := by
        apply Array.toList_inj.mp
        simp [List.take_one, List.head?_drop, List.getElem?_eq_getElem (show n < b.length by omega)]
      have ht : (b.take (n + 1)).count c = (b.take n).count c + if b[n] == c then 1 else 0 := by
        rw [List.take_add_one, List.getElem?_eq_getElem (show n < b.length by omega), Option.toList_some, List.count_append, List.count_singleton]
      simp only [List.map_cons, List.map_nil, List.foldl_cons, List.foldl_nil, Nat.add_zero, List.size_toArray, List.length_singleton]
      rw [ht]
      by_cases hc : b[n] = c
      · refine ⟨(n :: acc.1, n + 1), ?_, Nat.le_refl _, ?_⟩
        · rw [if_pos]
          rw [hx, hc]
          simp [e2]
        · simp [e3, hc]
      · refine ⟨acc, ?_, by omega, ?_⟩
        · rw [if_neg]
          rw [hx]
          simp [hc]
        · simp [e3, hc]
  unfold cntB
  split
  · rename_i h
    have : b = [] := by simpa using h
    subst this; rfl
  · rename_i h
    obtain ⟨acc, e1, -, e3⟩ := key b.length (Nat.le_refl _)
    unfold occurrences
    have hlen : b.toArray.size + 1 - (0 + (#[c] : Array UInt8).size) = b.length := by simp
    rw [hlen, List.take_length] at *
    dsimp only
    rw [e1, List.length_reverse, e3]
noncomputable def IsPar (l : List Nat) : Prop := ∀ c ∈ l, c = 40 ∨ c = 41
theorem cnt_par {l : List Nat} (h : IsPar l) (k : Nat) (hk : k = 40 ∨ k = 41) : cntB ((l.map Nat.toUInt8).toArray) k.toUInt8 = l.count k := by
  rw [occ_one]
  induction l with
  | nil => rfl
  | cons a r ih =>
    have ha := h a (.head _)
    have := ih fun c hc => h c (.tail _ hc)
    rw [List.map_cons, List.count_cons, List.count_cons, this]
    congr 1
    rcases ha with rfl | rfl <;> rcases hk with rfl | rfl <;> decide
end Mine
end

example : 1 = 1 ∧ 2 = 2 := by
  w_top off
  walk1 <;> rfl
section
set_option maxRecDepth 100000
open PySem PySem.W PyProof.Rows PySem.Calls
namespace Mine
set_option Elab.async false
variable {w : World} {A₀ A : Around} {s : Shared} {base h₀ : Heap} {outer : List Env} {L : Addr} {m mg mb : Str → Option Value} {env : Env} {news news' : List (Addr × Obj)} {mean : ExcName → Option Value} {Q : Value → Shared → Prop} {E : Value → Shared → Prop} {R : Result → Shared → Prop}
local macro_rules | `(tactic| k_room) => `(tactic| ((try simp only [depth_under_make, depth_under_kw, depth_in1, depth_deeper, depth_caller]); exact Nat.lt_of_le_of_lt (by assumption) (by decide)))
local macro_rules | `(tactic| walk_at "getMethod bytes") => `(tactic| (k_here; k_dflt (refine m_count ?_)))
local macro_rules | `(tactic| walk_at "call builtin:bytes.count") => `(tactic| (k_here; k_dflt (refine call_count ?_); intro t' k'))
local macro_rules | `(tactic| walk_at "call builtin:re.Pattern.sub") => `(tactic| (k_here; k_dflt (refine' call_sub ?k1 ?k2 ?k3 ?k4 ?k5 ?k6 ?k7 ?k8 ?k9 ?_; (case k1 => k_asm); (case k2 => assumption); (case k3 => assumption); (case k4 => assumption); (case k5 => assumption); (case k6 => assumption); (case k7 => assumption); (case k8 => k_asm); (case k9 => k_asm)); intro h' tk' t' F' N'))
set_option maxHeartbeats 8000000 in
theorem c_paren {bs : Array UInt8} {d : Int} {t1 t2 : Tok} {e : List Nat} {segs : List (List Nat × List Nat)} (B : Below A₀ base outer h₀) (F : Fr h₀ L s.heap m) (X₀ : (hd.heap_39 w.params).In h₀) (N : News h₀ L s.heap news)
    (T : Top hd.view_39 lo mean mg mb h₀) (hh : A.handled = none) (hA : A.frames = some (env :: outer)) (hf : env.frame = some L) (hke : env.scope.kind = .function) (hdp : A.depth ≤ 890)
    (he : NoQ e) (hs : SegOk segs) (hb : bs.map (·.toNat) = (segText segs e).toArray) (h1 : (segText segs e).length ≤ 300) (h2 : segs.length ≤ 300) (h3 : (segPar segs e).length ≤ 300) (hp : IsPar (segPar segs e))
    (hR : ∀ t h' tk, Fr h₀ L h' m → News h₀ L h' news → R (.ok (.ret (.int (d + ((segPar segs e).count 40 : Nat) - ((segPar segs e).count 41 : Nat)) t))) { s with heap := h', toks := tk }) :
    codeAny (model PySem.Challenge.rw_wr0016_01.row.prog w) A (.call (.ref 51) ⟨[.bytes bs t1, .int d t2], []⟩) R s := by
  revert X₀; k_fill; intro X₀
  obtain ⟨_, dp, _, gd, u⟩ := A
  dsimp only at hh hA hdp
  subst hh hA
  ((k_dflt (refine' code_def ?k1 ?k2 ?k3 ?k4 ?k5 ?kA ?kF ?kK ?k6 ?k7 ?k8 ?k9 ?kB ?_ ?c2 ?c3 ?c4 ?c5; (case kA => exact rfl); (case kF => first | exact rfl | assumption); (case kK => first | exact rfl | assumption); (case k1 => k_asm); (case k2 => k_asm); (case k3 => k_asm); (case k4 => k_asm); (case k5 => k_asm); (case k6 => k_is); (case k7 => k_is); (case k8 => k_room); (case k9 => first | exact BindsTo.of_eq rfl | exact binds_K (by k_in) rfl (by k_is) rfl rfl rfl); (case c5 => decide); (case kB => exact locs rfl); (case c2 => exact rfl); (case c3 => exact rfl); (case c4 => exact rfl)); intro g' L' h' FG' F' N' B' X' T'; (try dsimp only); (try k_lift B'); (try k_fold)))
  repeat' (((first | (k_unfold; (try dsimp only); (try clear qk); (try clear ek)) | ((with_reducible show wpAny _ _ (exec _ _) _ _ _); k_fold) | (first | (with_reducible ((with_reducible show wpAny _ _ (getMethod (Value.ref _) _ _) _ _ _); ((k_here; k_dflt (refine' m_sub ?k1 ?k2 ?_; (case k1 => k_asm); (case k2 => k_asm)))))) | walk1) | (dsimp only; (first | (with_reducible ((with_reducible show wpAny _ _ (getMethod (Value.ref _) _ _) _ _ _); ((k_here; k_dflt (refine' m_sub ?k1 ?k2 ?_; (case k1 => k_asm); (case k2 => k_asm)))))) | walk1)))))
  have e40 : cntB ((segPar segs e).map Nat.toUInt8).toArray 40 = (segPar segs e).count 40 := cnt_par hp 40 (.inl rfl)
  have e41 : cntB ((segPar segs e).map Nat.toUInt8).toArray 41 = (segPar segs e).count 41 := cnt_par hp 41 (.inr rfl)
  rw [e40, e41]
  exact hR _ _ _ (by assumption) (by assumption)
end Mine
end

example : 1 = 1 ∧ 2 = 2 := by
  w_top off
  walk1 <;> rfl
section
set_option maxRecDepth 100000
open PySem PySem.W PyProof.Rows PySem.Calls
namespace Mine
set_option Elab.async false
/-- what stands between a label's letter and its last mark -/
noncomputable def tailL : Nat → List Nat
  | 0 => []
  | 1 => [40]
  | 2 => [41]
  | 3 => [92, 34, 40]
  | _ => [92, 92]
/-- the label of line k -/
noncomputable def labL (k t : Nat) : List Nat := 34 :: (97 + k) :: (tailL t ++ [34])
noncomputable def splitK (ds : List Int) (k : Nat) : List Int := ds.take k ++ [ds.getD k 0 + 1, ds.getD k 0 + 1] ++ ds.drop (k + 1)
noncomputable def TT : Nat → List (List Int)
  | 0 => [[0]]
  | n + 1 => ((TT n).flatMap fun ds => (List.range (n + 1)).map (splitK ds)).eraseDups
theorem tt_split {n k : Nat} {ds : List Int} (h : ds ∈ TT n) (hk : k < n + 1) : splitK ds k ∈ TT (n + 1) := by
  rw [TT, List.mem_eraseDups, List.mem_flatMap]
  exact ⟨ds, h, List.mem_map_of_mem (List.mem_range.mpr hk)⟩
/-- the depths, turned by the script's sum -/
noncomputable def pertZ (ds : List Int) (r : Int) (p q : Nat) : List Int :=
  if r = 1 then (ds.set p (ds.getD q 0)).set q (ds.getD p 0) else if r = 2 then ds.set p (ds.getD p 0 + 1) else if r = 3 then ds.set p (ds.getD p 0 - 1) else ds
/-- the depths of an outline -/
noncomputable def IsTree (ds : List Int) : Prop := ∃ ds0 r p q, ds0 ∈ TT 6 ∧ p < 7 ∧ q = (p + 1) % 7 ∧ (r = 0 ∨ r = 1 ∨ r = 2 ∨ r = 3) ∧ ds = pertZ ds0 r p q
/-- the labels, told by the number of each -/
noncomputable def LabsAre (vs : List Value) (Ts : List Nat) : Prop := Ts.length = vs.length ∧ (∀ t ∈ Ts, t < 5) ∧ ∀ k, k < vs.length → ∃ t, vs[k]? = some (.str (tx (labL k (Ts.getD k 0))) t)
/-- an Example told by its parts -/
noncomputable def ExAt (w : World) (nw : List (Addr × Obj)) (v : Value) (src : Str) (k d : Int) : Prop :=
  ∃ x dx od o tk, v = .ref x ∧ (x, instObj 83 dx) ∈ nw ∧ (dx, exD w.params tk src k d od) ∈ nw ∧ (od, o) ∈ nw ∧ IsEmptyDict w o ∧ (od == sysModules) = false
theorem ExAt.mono {w : World} {nw nw' : List (Addr × Obj)} {v : Value} {src : Str} {k d : Int} (h : ExAt w nw v src k d) (f : ∀ p ∈ nw, p ∈ nw') : ExAt w nw' v src k d := by
  obtain ⟨x, dx, od, o, tk, e, h1, h2, h3, h4, h5⟩ := h
  exact ⟨x, dx, od, o, tk, e, f _ h1, f _ h2, f _ h3, h4, h5⟩
/-- the lines -/
noncomputable def LinesAre (w : World) (nw : List (Addr × Obj)) (vs : List Value) (Ts : List Nat) (ds : List Int) : Prop :=
  ∀ k, k < vs.length → ∃ v, vs[k]? = some v ∧ ExAt w nw v (tx (labL k (Ts.getD k 0)) ++ Str.ofString "\n") (k : Int) (ds.getD k 0)
theorem LabsAre.nil : LabsAre [] [] := ⟨rfl, fun _ h => (by cases h), fun _ h => (by cases h)⟩
theorem LabsAre.snoc {vs : List Value} {Ts : List Nat} {t : Nat} {tk : Tok} {x : Str} (h : LabsAre vs Ts) (ht : t < 5) (hx : x = tx (labL vs.length t)) : LabsAre (vs ++ [.str x tk]) (Ts ++ [t]) := by
  obtain ⟨h1, h2, h3⟩ := h
  refine ⟨by simp [h1], fun a ha => ?_, fun k hk => ?_⟩
  · rcases List.mem_append.mp ha with ha | ha
    · exact h2 a ha
    · rw [List.mem_singleton.mp ha]; exact ht
  · by_cases hlt : k < vs.length
    · obtain ⟨t', e⟩ := h3 k hlt
      refine ⟨t', ?_⟩
      rw [List.getElem?_append_left hlt, e, List.getD_eq_getElem?_getD, List.getD_eq_getElem?_getD, List.getElem?_append_left (by omega)]
    · have hk' : k = vs.length := by simp at hk; omega
      subst hk'
      refine ⟨tk, ?_⟩
      rw [List.getElem?_append_right (Nat.le_refl _), Nat.sub_self, List.getD_eq_getElem?_getD, List.getElem?_append_right (by omega), h1, Nat.sub_self, hx]
      rfl
theorem LinesAre.nil {w : World} {nw : List (Addr × Obj)} {Ts : List Nat} {ds : List Int} : LinesAre w nw [] Ts ds := fun _ h => (by cases h)
theorem LinesAre.mono {w : World} {nw nw' : List (Addr × Obj)} {vs : List Value} {Ts : List Nat} {ds : List Int} (h : LinesAre w nw vs Ts ds) (f : ∀ p ∈ nw, p ∈ nw') : LinesAre w nw' vs Ts ds := fun k hk => by
  obtain ⟨v, e, x⟩ := h k hk
  exact ⟨v, e, x.mono f⟩
theorem LinesAre.snoc {w : World} {nw : List (Addr × Obj)} {vs : List Value} {Ts : List Nat} {ds : List Int} {v : Value} (h : LinesAre w nw vs Ts ds) (hx : ExAt w nw v (tx (labL vs.length (Ts.getD vs.length 0)) ++ Str.ofString "\n") (vs.length : Int) (ds.getD vs.length 0)) :
    LinesAre w nw (vs ++ [v]) Ts ds := fun k hk => by
  by_cases hlt : k < vs.length
  · obtain ⟨v', e, x⟩ := h k hlt
    exact ⟨v', by rw [List.getElem?_append_left hlt, e], x⟩
  · have hk' : k = vs.length := by simp at hk; omega
    subst hk'
    exact ⟨v, by rw [List.getElem?_append_right (Nat.le_refl _), Nat.sub_self]; rfl, hx⟩
theorem lt7 {i : Nat} (h : i < 7) : i = 0 ∨ i = 1 ∨ i = 2 ∨ i = 3 ∨ i = 4 ∨ i = 5 ∨ i = 6 := by
  revert i
  decide
theorem item_abc {i : Nat} (h : i < 7) : Txt.item (Str.ofString "abcdefg") (0 + (i : Int)) = tx [97 + i] := by
  rcases lt7 h with rfl | rfl | rfl | rfl | rfl | rfl | rfl <;> decide +kernel
theorem dq_tx : Str.ofString "\"" = tx [34] := by decide +kernel
theorem lab_eq {i t : Nat} (h : i < 7) : Str.ofString "\"" ++ Txt.item (Str.ofString "abcdefg") (0 + (i : Int)) ++ tx (tailL t) ++ Str.ofString "\"" = tx (labL i t) := by
  rw [item_abc h, dq_tx, tx_app, tx_app, tx_app]
  rfl
theorem lab_len (k t : Nat) : 3 ≤ (tx (labL k t)).length ∧ (tx (labL k t)).length ≤ 6 := by
  rw [tx_len, labL]
  have : (tailL t).length ≤ 3 := by unfold tailL; split <;> simp
  simp only [List.length_cons, List.length_append, List.length_nil]
  omega
theorem src_all : ∀ k, k < 7 → ∀ t, t < 5 → srcEnd (tx (labL k t) ++ Txt.mul (Str.ofString "\n") 0) = tx (labL k t) ++ Str.ofString "\n" ∧ srcEnd (tx (labL k t) ++ Txt.mul (Str.ofString "\n") 1) = tx (labL k t) ++ Str.ofString "\n" ∧ srcEnd (tx (labL k t)) = tx (labL k t) ++ Str.ofString "\n" := by decide +kernel
theorem src_lab {k t : Nat} {z : Int} (hk : k < 7) (ht : t < 5) (h0 : 0 ≤ z) (h1 : z < 2) : srcEnd (tx (labL k t) ++ Txt.mul (Str.ofString "\n") z) = tx (labL k t) ++ Str.ofString "\n" := by
  have : z = 0 ∨ z = 1 := by omega
  rcases this with rfl | rfl
  · exact (src_all k hk t ht).1
  · exact (src_all k hk t ht).2.1
theorem mul_nl_len {z : Int} (h0 : 0 ≤ z) (h1 : z < 2) : (Txt.mul (Str.ofString "\n") z).length ≤ 1 := by
  have : z = 0 ∨ z = 1 := by omega
  rcases this with rfl | rfl <;> decide +kernel
/-- how _law_outline hands out -/
inductive OutRes (w : World) (nw : List (Addr × Obj)) (t : Addr) : Prop
  | mk (la da li : Addr) (lvs dvs vvs : List Value) (ln dn vn : Nat) (Ts : List Nat) (ds : List Int)
      (h1 : (t, ({ cls := .type "tuple", data := .seq #[.ref la, .ref da, .ref li] } : Obj)) ∈ nw) (h2 : (la, W.listOf lvs.toArray ln) ∈ nw) (h3 : lvs.length = 7) (h4 : LabsAre lvs Ts)
      (h5 : (da, W.listOf dvs.toArray dn) ∈ nw) (h6 : IntsAre dvs ds) (h7 : ds.length = 7) (h8 : IsTree ds) (h9 : (li, W.listOf vvs.toArray vn) ∈ nw) (h10 : vvs.length = 7) (h11 : LinesAre w nw vvs Ts ds) : OutRes w nw t
end Mine
end

namespace Mine
/-- a goal put away: no tactic takes it for a fact -/
structure Wr (P : Prop) : Prop where
  get : P
/-- G reduced to one goal -/
structure S1 (G : Prop) where
  P : Prop
  f : Wr P → G
/-- G reduced to two goals -/
structure S2 (G : Prop) where
  P : Prop
  Q : Prop
  f : Wr P → Wr Q → G
theorem S1.go {G : Prop} (s : S1 G) (h : Wr s.P) : Wr G := ⟨s.f h⟩
theorem S2.go {G : Prop} (s : S2 G) (h : Wr s.P) (k : Wr s.Q) : Wr G := ⟨s.f h k⟩
end Mine

example : 1 = 1 ∧ 2 = 2 := by
  w_top off
  walk1 <;> rfl
section
set_option maxRecDepth 100000
open PySem PySem.W PyProof.Rows PySem.Calls
namespace Mine
set_option Elab.async false
local macro_rules | `(tactic| k_mem) => `(tactic| assumption)
local macro_rules | `(tactic| k_mem) => `(tactic| (refine List.Mem.tail _ ?_; assumption))
local macro_rules | `(tactic| k_room) => `(tactic| ((try simp only [depth_under_make, depth_under_kw, depth_in1, depth_deeper, depth_caller]); exact Nat.lt_of_le_of_lt (by assumption) (by decide)))
local macro_rules | `(tactic| k_all) => `(tactic| (refine' List.forall_mem_cons.mpr (And.intro ?a ?b); (case a => k_ne); (case b => k_all)))
local macro_rules | `(tactic| k_all) => `(tactic| first | assumption | exact offN (by assumption) (by omega))
/-- what stands ahead of the second loop -/
inductive OutMid (g' : Heap) (L' : Addr) (hp : Heap) (o1 o2 : Obj) (a1 a2 a3 : Addr) (b1 b2 b3 : Obj) (I : Addr) (x0 x1 x2 x3 x4 x5 x6 : Int) (t0 t1 t2 t3 t4 t5 t6 : Tok) : Prop
  | mk (D dl nl en c4 c3 c2 c1 : Addr) (oD oN : Obj) (td : Tok) (kn : Nat) (r8 : Obj)
      (h1 : News g' L' hp ((I, itObj D 0) :: [(D, W.listOf #[.int x0 t0, .int x1 t1, .int x2 t2, .int x3 t3, .int x4 t4, .int x5 t5] 0), (dl, W.listOf #[.int 0 td] 0), (en, r8), (nl, W.listOf #[.int x0 t0, .int x1 t1, .int x2 t2, .int x3 t3, .int x4 t4, .int x5 t5, .int x6 t6] kn),
        (c4, o1), (c3, o2), (c2, oD), (c1, oN), (a1, b1), (a2, b2), (a3, b3)]))
      (h2 : ∀ p ∈ [(D, W.listOf #[.int x0 t0, .int x1 t1, .int x2 t2, .int x3 t3, .int x4 t4, .int x5 t5] 0), (dl, W.listOf #[.int 0 td] 0), (en, r8), (nl, W.listOf #[.int x0 t0, .int x1 t1, .int x2 t2, .int x3 t3, .int x4 t4, .int x5 t5, .int x6 t6] kn),
        (c4, o1), (c3, o2), (c2, oD), (c1, oN), (a1, b1), (a2, b2), (a3, b3)], @LT.lt Nat _ p.1 I)
      (h3 : @LT.lt Nat _ (L' + 4) nl) (h4 : @LT.lt Nat _ nl dl) (h5 : @LT.lt Nat _ dl D) (h6 : @LT.lt Nat _ D I) (h7 : c4 = L' + 1 + 1 + 1 + 1) (h8 : c3 = L' + 1 + 1 + 1) (h9 : c2 = L' + 1 + 1) (h10 : c1 = L' + 1) (h11 : oN.data = .cell (some (.ref nl))) (h12 : oD.data = .cell (some (.ref dl))) : OutMid g' L' hp o1 o2 a1 a2 a3 b1 b2 b3 I x0 x1 x2 x3 x4 x5 x6 t0 t1 t2 t3 t4 t5 t6
theorem mod_gen {prog : Program} {w : World} {A : Around} {E : Value → Shared → Prop} {s : Shared} {Q : Value → Shared → Prop} {a b : Int} {t u : Tok} (hb : 0 < b) (h : ∀ x t', 0 ≤ x → x < b → Q (.int x t') { s with toks := s.toks + 1 }) : wpAny (model prog w) A (binaryOp .Mod (.int a t) (.int b u)) Q E s :=
  mod_int' (by omega) (h _ _ (Int.fmod_nonneg_of_pos _ hb) (Int.fmod_lt_of_pos _ hb))
theorem news_tail {h₀ h : Heap} {L : Addr} {p : Addr × Obj} {l : List (Addr × Obj)} (N : News h₀ L h (p :: l)) : News h₀ L h l := kst_newsOf N fun _ hq => List.Mem.tail _ hq
section
variable {prog : Program} {w : World} {A : Around} {E : Value → Shared → Prop} {h₀ : Heap} {env : Env} {target : PySem.Expr} {body : List Stmt} {Q : Flow → Shared → Prop} {s : Shared} {ws : List (Addr × String)} {keep : List (Addr × Obj)}
theorem allObj_to : ∀ {ws : List (Addr × String)} {k k' : List (Addr × Obj) → Prop}, AllObj ws k → (∀ its, k its → k' its) → AllObj ws k'
  | [], _, _, h, f => f _ h
  | _ :: _, _, _, h, f => fun o ho => allObj_to (h o ho) fun _ q => f _ q
theorem items_inv (J : Nat → (Str → Option Value) → List (Addr × Obj) → Prop) {xs : List Itm} {m : Str → Option Value} {news : List (Addr × Obj)}
    (turn : ∀ i a, xs[i]? = some a → ∀ m₁ news₁, J i m₁ news₁ → ∀ v h tk, a.Is v h → Fr h₀ env.locals h m₁ → AllObj ws (fun its => News h₀ env.locals h (its ++ news₁) →
      wpAny (model prog w) A (assign target env v) (fun _ s₂ => wpAny (model prog w) A (execs body env) (UnrPostW h₀ env.locals { s with heap := h, toks := tk } its (fun m' n' => SubL keep n' ∧ J (i + 1) m' n') Q) E s₂) E { s with heap := h, toks := tk }))
    (fin : ∀ m₁ news₁ h tk, J xs.length m₁ news₁ → Fr h₀ env.locals h m₁ → News h₀ env.locals h news₁ → Q .next { s with heap := h, toks := tk }) (h0 : J 0 m news) : ItemsRest prog w A E h₀ env target body Q s ws keep xs m news := by
  have key : ∀ (r : List Itm) (i : Nat) m₁ news₁, xs.drop i = r → i ≤ xs.length → J i m₁ news₁ → ItemsRest prog w A E h₀ env target body Q s ws keep r m₁ news₁ := by
    intro r
    induction r with
    | nil =>
      intro i m₁ news₁ e hi hJ h tk F N
      have h1 := congrArg List.length e
      rw [List.length_drop] at h1
      have : i = xs.length := by simp at h1; omega
      subst this
      exact fin _ _ _ _ hJ F N
    | cons a r ih =>
      intro i m₁ news₁ e hi hJ v h tk hv F
      have h1 := congrArg List.length e
      rw [List.length_drop, List.length_cons] at h1
      have hlt : i < xs.length := by omega
      rw [List.drop_eq_getElem_cons hlt] at e
      have ha : xs[i]? = some a := by rw [List.getElem?_eq_getElem hlt, (List.cons.inj e).1]
      have hr := (List.cons.inj e).2
      refine allObj_to (turn i a ha m₁ news₁ hJ v h tk hv F) fun its q N => wpAny_mono (q N) (fun _ s₂ h₂ => wpAny_mono h₂ (fun f s₃ p => ?_) fun _ _ e => e) fun _ _ e => e
      cases f with
      | ret v => exact p
      | brk => exact p
      | next => obtain ⟨h', tk', m', n', e1, F', N', ho, hk, hJ'⟩ := p; exact ⟨h', tk', m', n', e1, F', N', ho, hk, ih (i + 1) m' n' hr hlt hJ'⟩
      | cont => obtain ⟨h', tk', m', n', e1, F', N', ho, hk, hJ'⟩ := p; exact ⟨h', tk', m', n', e1, F', N', ho, hk, ih (i + 1) m' n' hr hlt hJ'⟩
  exact key xs 0 m news rfl (Nat.zero_le _) h0
end
/-- seven numbers -/
inductive Nums7 (vs : List Value) : Prop
  | mk (x0 x1 x2 x3 x4 x5 x6 : Int) (t0 t1 t2 t3 t4 t5 t6 : Tok) (h : vs = [.int x0 t0, .int x1 t1, .int x2 t2, .int x3 t3, .int x4 t4, .int x5 t5, .int x6 t6])
      (h13 : 0 ≤ x0 ∧ x0 < 1000000) (h14 : 0 ≤ x1 ∧ x1 < 1000000) (h15 : 0 ≤ x2 ∧ x2 < 1000000) (h16 : 0 ≤ x3 ∧ x3 < 1000000) (h17 : 0 ≤ x4 ∧ x4 < 1000000) (h18 : 0 ≤ x5 ∧ x5 < 1000000) (h19 : 0 ≤ x6 ∧ x6 < 1000000) : Nums7 vs
theorem one_off {vs : List Value} {n : Nat} (hl : vs.length = n + 1) (hb : ∀ v ∈ vs, ∃ x t, v = .int x t ∧ 0 ≤ x ∧ x < 1000000) : ∃ x t r, vs = .int x t :: r ∧ (0 ≤ x ∧ x < 1000000) ∧ r.length = n ∧ ∀ v ∈ r, ∃ x t, v = .int x t ∧ 0 ≤ x ∧ x < 1000000 := by
  cases vs with
  | nil => cases hl
  | cons v r =>
    obtain ⟨x, t, rfl, h⟩ := hb v (.head _)
    exact ⟨x, t, r, rfl, h, Nat.succ.inj hl, fun u hu => hb u (.tail _ hu)⟩
theorem nums7 {vs : List Value} (hl : vs.length = 7) (hb : ∀ v ∈ vs, ∃ x t, v = .int x t ∧ 0 ≤ x ∧ x < 1000000) : Nums7 vs := by
  obtain ⟨x0, t0, r, rfl, b0, hl, hb⟩ := one_off hl hb
  obtain ⟨x1, t1, r, rfl, b1, hl, hb⟩ := one_off hl hb
  obtain ⟨x2, t2, r, rfl, b2, hl, hb⟩ := one_off hl hb
  obtain ⟨x3, t3, r, rfl, b3, hl, hb⟩ := one_off hl hb
  obtain ⟨x4, t4, r, rfl, b4, hl, hb⟩ := one_off hl hb
  obtain ⟨x5, t5, r, rfl, b5, hl, hb⟩ := one_off hl hb
  obtain ⟨x6, t6, r, rfl, b6, hl, hb⟩ := one_off hl hb
  obtain rfl := List.eq_nil_of_length_eq_zero hl
  exact ⟨_, _, _, _, _, _, _, _, _, _, _, _, _, _, rfl, b0, b1, b2, b3, b4, b5, b6⟩
/-- the numbers so far -/
inductive NumInv (sa en : Addr) (lo : Obj) (nl : Addr) (tl : List (Addr × Obj)) (j : Nat) (m' : Str → Option Value) (n' : List (Addr × Obj)) : Prop
  | mk (vs : List Value) (kn : Nat) (h1 : n' = (en, lo) :: (nl, W.listOf vs.toArray kn) :: tl) (h2 : vs.length = j) (h3 : ∀ v ∈ vs, ∃ x t, v = .int x t ∧ 0 ≤ x ∧ x < 1000000) (h4 : Has m' [(Str.ofString "script", .ref sa)]) : NumInv sa en lo nl tl j m' n'
local macro_rules | `(tactic| walk_at "ItemsRest") => `(tactic| refine halt ?_)
theorem ord_rest {L nl dl D a1 a2 a3 : Addr} {u0 u1 u2 u3 u4 u5 u6 u7 u8 : Obj} (la1 : @LT.lt Nat _ a1 L) (la2 : @LT.lt Nat _ a2 L) (la3 : @LT.lt Nat _ a3 L) (h1 : @LT.lt Nat _ (L + 4) nl) (h2 : @LT.lt Nat _ nl dl) (h3 : @LT.lt Nat _ dl D) :
    (∀ p ∈ [(dl, u0), (D, u1), (nl, u2), (L + 1 + 1 + 1 + 1, u3), (L + 1 + 1 + 1, u4), (L + 1, u5), (a1, u6), (a2, u7), (a3, u8)], @Ne Nat p.1 (L + 1 + 1)) ∧ ∀ p ∈ [(D, u1), (nl, u2), (L + 1 + 1 + 1 + 1, u3), (L + 1 + 1 + 1, u4), (L + 1, u5), (a1, u6), (a2, u7), (a3, u8)], @Ne Nat p.1 dl := by
  constructor
  · repeat' (refine List.forall_mem_cons.mpr ⟨?_, ?_⟩)
    all_goals first | exact List.forall_mem_nil _ | (dsimp only; omega)
  · repeat' (refine List.forall_mem_cons.mpr ⟨?_, ?_⟩)
    all_goals first | exact List.forall_mem_nil _ | (dsimp only; omega)
set_option maxHeartbeats 8000000 in
noncomputable def OutA_s : S1 (∀ {w : World} {A₀ A : Around} {s : Shared} {base h₀ : Heap} {outer : List Env} {L : Addr} {m mg mb : Str → Option Value} {env : Env} {mean : ExcName → Option Value} {R : Result → Shared → Prop} {a1 a2 a3 : Addr} {b1 b2 b3 : Obj} {sa : Addr} {svs : List Value} {xs : List Int} (B : Below A₀ base outer h₀) (F : Fr h₀ L s.heap m) (X₀ : (hd.heap_39 w.params).In h₀) (N : News h₀ L s.heap [(a1, b1), (a2, b2), (a3, b3)])
    (T : Top hd.view_39 lo mean mg mb h₀) (hh : A.handled = none) (hA : A.frames = some (env :: outer)) (hf : env.frame = some L) (hke : env.scope.kind = .function) (hdp : A.depth ≤ 880) (hu : A.units ≤ 4800)
    (hS : h₀.IsList sa svs.toArray) (hI : IntsAre svs xs) (hlen : xs.length ≤ 63)
    (hR : ∀ t ex h' tk, Fr h₀ L h' m → News h₀ L h' (ex ++ [(a1, b1), (a2, b2), (a3, b3)]) → Apart ex [(a1, b1), (a2, b2), (a3, b3)] → OutRes w ex t → R (.ok (.ret (.ref t))) { s with heap := h', toks := tk }),
    codeAny (model PySem.Challenge.rw_wr0016_01.row.prog w) A (.call (.ref 176) ⟨[.ref sa], []⟩) R s) := ⟨_, by
  intro stk1
  intro w A₀ A s base h₀ outer L m mg mb env mean R
  intro a1 a2 a3 b1 b2 b3 sa svs xs B F X₀ N T hh hA hf hke hdp hu hS hI hlen hR
  revert X₀; k_fill; intro X₀
  obtain ⟨_, d, _, gd, u⟩ := A
  dsimp only at hh hA hdp hu
  subst hh hA
  ((k_dflt (refine' code_defC ?k1 ?k2 ?k3 ?k4 ?k5 ?kA ?kF ?kK ?k6 ?k7 ?k8 ?k9 ?kB ?kD ?_ ?c2 ?c3 ?c4; (case kA => exact rfl); (case kF => first | exact rfl | assumption); (case kK => first | exact rfl | assumption); (case k1 => k_asm); (case k2 => k_asm); (case k3 => k_asm); (case k4 => k_asm); (case k5 => k_asm); (case k6 => k_is); (case k7 => k_is); (case k8 => k_room); (case k9 => first | exact BindsTo.of_eq rfl | exact binds_K (by k_in) rfl (by k_is) rfl rfl rfl | fail "k_enter: no rule for these arguments"); (case kB => exact rfl); (case kD => decide +kernel); (case c2 => exact rfl); (case c3 => exact rfl); (case c4 => exact rfl))))
  intro g' L' h' tk' cells' FG' F' N' Y' B' X' T' l1
  have l1s := l1
  k_lt l1
  obtain ⟨o1, o2, o3, o4, hE', d1', d2', d3', d4'⟩ := CellsAre.four Y'
  subst hE'
  ((try clear Y'))
  simp only [List.cons_append, List.nil_append] at N'
  have hS' : g'.IsList sa svs.toArray := by obtain ⟨o, e, r⟩ := hS; exact ⟨o, FG'.keep _ _ e, r⟩
  (try dsimp only); (try k_lift B'); (try k_fold)
  repeat' (((first | (k_unfold; (try dsimp only); (try clear qk); (try clear ek)) | ((with_reducible show wpAny _ _ (exec (PySem.Stmt.Expr _ _) _) _ _ _); k_fold) | ((fail_if_success (with_reducible show wpAny _ _ (exec (Stmt.For (PySem.Expr.Name (PySem.Str.ofString "x") _) _ _ _ _) _) _ _ _)); (first | ((with_reducible show wpAny _ _ (binaryOp Operator.Mod (Value.int _ _) (Value.int _ _)) _ _ _); ((refine mod_gen (by decide) ?_; intro _ _ _ _; (with_reducible rename News _ _ _ _ => nN); replace nN := news_tail nN))) | ((k_here; (with_reducible show wpAny _ _ (call (Value.builtin "len") [Value.ref _]) _ _ _); refine' KM.len_K ?k1 ?k2 ?k3 ?k4 ?_; (case k1 => k_asm); (case k2 => k_mem); (case k3 => assumption); (case k4 => omega))) | (((with_reducible show wpAny _ _ (pyIter (Value.ref _)) (fun it s₂ => codeAny _ _ _ _ _) _ _); refine' iter_list ?k1 ?k2 ?k3 ?_; (case k1 => k_asm); (case k2 => k_asm); (case k3 => k_mem))) | walk1)) | (dsimp only; (first | ((with_reducible show wpAny _ _ (binaryOp Operator.Mod (Value.int _ _) (Value.int _ _)) _ _ _); ((refine mod_gen (by decide) ?_; intro _ _ _ _; (with_reducible rename News _ _ _ _ => nN); replace nN := news_tail nN))) | ((k_here; (with_reducible show wpAny _ _ (call (Value.builtin "len") [Value.ref _]) _ _ _); refine' KM.len_K ?k1 ?k2 ?k3 ?k4 ?_; (case k1 => k_asm); (case k2 => k_mem); (case k3 => assumption); (case k4 => omega))) | (((with_reducible show wpAny _ _ (pyIter (Value.ref _)) (fun it s₂ => codeAny _ _ _ _ _) _ _); refine' iter_list ?k1 ?k2 ?k3 ?_; (case k1 => k_asm); (case k2 => k_asm); (case k3 => k_mem))) | walk1)))))
  refine unhalt ?_
  refine items_inv (NumInv sa _ _ _ _) ?_ ?_ ⟨[], 0, rfl, rfl, (fun _ h => nomatch h), rfl, trivial⟩
  · intro i a ha m₁ news₁ hJ v h₁ tk₁ hv F₁
    obtain ⟨vs, kn, rfl, hvl, hvb, hmm⟩ := hJ
    obtain ⟨b, tb, rfl⟩ : ∃ b tb, a = .pair (fun t => .int (i : Int) t) (.int b tb) := by
      rcases i with _ | _ | _ | _ | _ | _ | _ | i <;> simp at ha <;> subst ha <;> exact ⟨_, _, rfl⟩
    obtain ⟨T1, t1, rfl, hT⟩ := hv
    refine AllObj.cons fun o8 hc8 => AllObj.cons fun o9 hc9 => AllObj.nil fun N₁ => ?_
    simp only [List.cons_append, List.nil_append] at N₁
    dsimp only at hT hc8 hc9
    replace F₁ := fr_ov F₁ hmm
    have hi7 : i < 7 := (List.getElem?_eq_some_iff.mp ha).1
    have hsz : vs.toArray.size = i := by rw [List.size_toArray, hvl]
    ((try clear ha); (try clear hmm))
    have hi0 : (0 : Int) ≤ (i : Int) := Int.natCast_nonneg i
    have hi1 : (0 : Int) ≤ (i : Int) + 1 := by omega
    repeat' (((first | (k_unfold; (try dsimp only); (try clear qk); (try clear ek)) | ((with_reducible show wpAny _ _ (exec (PySem.Stmt.Expr _ _) _) _ _ _); k_fold) | ((fail_if_success (with_reducible show wpAny _ _ (exec (Stmt.For (PySem.Expr.Name (PySem.Str.ofString "x") _) _ _ _ _) _) _ _ _)); (first | ((with_reducible show wpAny _ _ (binaryOp Operator.Mod (Value.int _ _) (Value.int _ _)) _ _ _); ((refine mod_gen (by decide) ?_; intro _ _ _ _; (with_reducible rename News _ _ _ _ => nN); replace nN := news_tail nN))) | ((k_here; (with_reducible show wpAny _ _ (call (Value.builtin "len") [Value.ref _]) _ _ _); refine' KM.len_K ?k1 ?k2 ?k3 ?k4 ?_; (case k1 => k_asm); (case k2 => k_mem); (case k3 => assumption); (case k4 => omega))) | (((with_reducible show wpAny _ _ (pyIter (Value.ref _)) (fun it s₂ => codeAny _ _ _ _ _) _ _); refine' iter_list ?k1 ?k2 ?k3 ?_; (case k1 => k_asm); (case k2 => k_asm); (case k3 => k_mem))) | walk1)) | (dsimp only; (first | ((with_reducible show wpAny _ _ (binaryOp Operator.Mod (Value.int _ _) (Value.int _ _)) _ _ _); ((refine mod_gen (by decide) ?_; intro _ _ _ _; (with_reducible rename News _ _ _ _ => nN); replace nN := news_tail nN))) | ((k_here; (with_reducible show wpAny _ _ (call (Value.builtin "len") [Value.ref _]) _ _ _); refine' KM.len_K ?k1 ?k2 ?k3 ?k4 ?_; (case k1 => k_asm); (case k2 => k_mem); (case k3 => assumption); (case k4 => omega))) | (((with_reducible show wpAny _ _ (pyIter (Value.ref _)) (fun it s₂ => codeAny _ _ _ _ _) _ _); refine' iter_list ?k1 ?k2 ?k3 ?_; (case k1 => k_asm); (case k2 => k_asm); (case k3 => k_mem))) | walk1)))))
    refine ⟨vs ++ [_], _, by rw [← List.push_toArray], by simp [hvl], ?_, rfl, trivial⟩
    intro v hv
    rcases List.mem_append.mp hv with hv | hv
    · exact hvb v hv
    · rw [List.mem_singleton.mp hv]
      exact ⟨_, _, rfl, by assumption, by assumption⟩
  · intro m₁ news₁ h₁ tk₁ hJ F₁ N₁
    obtain ⟨vs, kn, rfl, hvl, hvb, hmm⟩ := hJ
    replace F₁ := fr_ov F₁ hmm
    obtain ⟨x0, x1, x2, x3, x4, x5, x6, t0, t1, t2, t3, t4, t5, t6, rfl, hb0, hb1, hb2, hb3, hb4, hb5, hb6⟩ := nums7 hvl hvb
    ((try clear hvb); (try clear hvl); (try clear hmm))
    repeat' (((first | (k_unfold; (try dsimp only); (try clear qk); (try clear ek)) | ((with_reducible show wpAny _ _ (exec (PySem.Stmt.Expr _ _) _) _ _ _); k_fold) | ((fail_if_success (with_reducible show wpAny _ _ (exec (Stmt.For (PySem.Expr.Name (PySem.Str.ofString "x") _) _ _ _ _) _) _ _ _)); (first | ((with_reducible show wpAny _ _ (binaryOp Operator.Mod (Value.int _ _) (Value.int _ _)) _ _ _); ((refine mod_gen (by decide) ?_; intro _ _ _ _; (with_reducible rename News _ _ _ _ => nN); replace nN := news_tail nN))) | ((k_here; (with_reducible show wpAny _ _ (call (Value.builtin "len") [Value.ref _]) _ _ _); refine' KM.len_K ?k1 ?k2 ?k3 ?k4 ?_; (case k1 => k_asm); (case k2 => k_mem); (case k3 => assumption); (case k4 => omega))) | (((with_reducible show wpAny _ _ (pyIter (Value.ref _)) (fun it s₂ => codeAny _ _ _ _ _) _ _); refine' iter_list ?k1 ?k2 ?k3 ?_; (case k1 => k_asm); (case k2 => k_asm); (case k3 => k_mem))) | walk1)) | (dsimp only; (first | ((with_reducible show wpAny _ _ (binaryOp Operator.Mod (Value.int _ _) (Value.int _ _)) _ _ _); ((refine mod_gen (by decide) ?_; intro _ _ _ _; (with_reducible rename News _ _ _ _ => nN); replace nN := news_tail nN))) | ((k_here; (with_reducible show wpAny _ _ (call (Value.builtin "len") [Value.ref _]) _ _ _); refine' KM.len_K ?k1 ?k2 ?k3 ?k4 ?_; (case k1 => k_asm); (case k2 => k_mem); (case k3 => assumption); (case k4 => omega))) | (((with_reducible show wpAny _ _ (pyIter (Value.ref _)) (fun it s₂ => codeAny _ _ _ _ _) _ _); refine' iter_list ?k1 ?k2 ?k3 ?_; (case k1 => k_asm); (case k2 => k_asm); (case k3 => k_mem))) | walk1)))))
    (refine wpAny_For ?_ (by intro _; rfl))
    repeat' (((first | (k_unfold; (try dsimp only); (try clear qk); (try clear ek)) | ((with_reducible show wpAny _ _ (exec (PySem.Stmt.Expr _ _) _) _ _ _); k_fold) | ((fail_if_success (with_reducible show wpAny _ _ (exec (Stmt.For (PySem.Expr.Name (PySem.Str.ofString "x") _) _ _ _ _) _) _ _ _)); (first | ((with_reducible show wpAny _ _ (binaryOp Operator.Mod (Value.int _ _) (Value.int _ _)) _ _ _); ((refine mod_gen (by decide) ?_; intro _ _ _ _; (with_reducible rename News _ _ _ _ => nN); replace nN := news_tail nN))) | ((k_here; (with_reducible show wpAny _ _ (call (Value.builtin "len") [Value.ref _]) _ _ _); refine' KM.len_K ?k1 ?k2 ?k3 ?k4 ?_; (case k1 => k_asm); (case k2 => k_mem); (case k3 => assumption); (case k4 => omega))) | (((with_reducible show wpAny _ _ (pyIter (Value.ref _)) (fun it s₂ => codeAny _ _ _ _ _) _ _); refine' iter_list ?k1 ?k2 ?k3 ?_; (case k1 => k_asm); (case k2 => k_asm); (case k3 => k_mem))) | walk1)) | (dsimp only; (first | ((with_reducible show wpAny _ _ (binaryOp Operator.Mod (Value.int _ _) (Value.int _ _)) _ _ _); ((refine mod_gen (by decide) ?_; intro _ _ _ _; (with_reducible rename News _ _ _ _ => nN); replace nN := news_tail nN))) | ((k_here; (with_reducible show wpAny _ _ (call (Value.builtin "len") [Value.ref _]) _ _ _); refine' KM.len_K ?k1 ?k2 ?k3 ?k4 ?_; (case k1 => k_asm); (case k2 => k_mem); (case k3 => assumption); (case k4 => omega))) | (((with_reducible show wpAny _ _ (pyIter (Value.ref _)) (fun it s₂ => codeAny _ _ _ _ _) _ _); refine' iter_list ?k1 ?k2 ?k3 ?_; (case k1 => k_asm); (case k2 => k_asm); (case k3 => k_mem))) | walk1)))))
    rename Fr _ _ _ _ => F1
    rename News _ _ _ _ => N1
    rename_i I _ hI0
    obtain ⟨D, dl, nl, en, c4, c3, c2, c1, oD, oN, td, kn, r8, N2, hI2, hch1, hch2, hch3, hch4, hc4, hc3, hc2, hc1, hoN, hoD⟩ : OutMid g' L' _ o1 o2 a1 a2 a3 b1 b2 b3 I x0 x1 x2 x3 x4 x5 x6 t0 t1 t2 t3 t4 t5 t6 :=
      ⟨_, _, _, _, _, _, _, _, _, _, _, _, _, N1, hI0, by omega, by omega, by omega, hI0 _ (List.Mem.head _), rfl, rfl, rfl, rfl, by assumption, by assumption⟩
    have hnews : ∃ REST : List (Addr × Obj), REST = [(D, W.listOf #[.int x0 t0, .int x1 t1, .int x2 t2, .int x3 t3, .int x4 t4, .int x5 t5] 0), (nl, W.listOf #[.int x0 t0, .int x1 t1, .int x2 t2, .int x3 t3, .int x4 t4, .int x5 t5, .int x6 t6] kn),
          (c4, o1), (c3, o2), (c1, oN), (a1, b1), (a2, b2), (a3, b3)] := ⟨_, rfl⟩
    obtain ⟨REST, hREST⟩ := hnews
    have hDR : (D, W.listOf #[.int x0 t0, .int x1 t1, .int x2 t2, .int x3 t3, .int x4 t4, .int x5 t5] 0) ∈ REST := by rw [hREST]; exact List.Mem.head _
    have N3 := kst_newsOf (l' := (I, itObj D 0) :: (c2, oD) :: (dl, W.listOf [Value.int 0 td].toArray 0) :: REST) N2 (by
      rw [hREST]
      intro p hp
      simp only [List.mem_cons, List.not_mem_nil, or_false] at hp ⊢
      rcases hp with h | h | h | h | h | h | h | h | h | h | h <;> simp only [h, true_or, or_true])
    have hIlt : ∀ p ∈ (c2, oD) :: (dl, W.listOf [Value.int 0 td].toArray 0) :: REST, @Ne Nat p.1 I := by
      intro p hp
      refine Nat.ne_of_lt (hI2 p ?_)
      rw [hREST] at hp
      simp only [List.mem_cons, List.not_mem_nil, or_false] at hp ⊢
      rcases hp with h | h | h | h | h | h | h | h | h | h <;> simp only [h, true_or, or_true]
    ((try clear hI0))
    have hZ : (∀ p ∈ (dl, W.listOf [Value.int 0 td].toArray 0) :: REST, @Ne Nat p.1 c2) ∧ ∀ p ∈ REST, @Ne Nat p.1 dl := by
      rw [hREST]
      subst hc4 hc3 hc2 hc1
      obtain ⟨la1, la2, la3⟩ : @LT.lt Nat _ a1 L' ∧ @LT.lt Nat _ a2 L' ∧ @LT.lt Nat _ a3 L' := ⟨l1s _ (.head _), l1s _ (.tail _ (.head _)), l1s _ (.tail _ (.tail _ (.head _)))⟩
      exact ord_rest la1 la2 la3 hch1 hch2 hch3
    have hZ1 := hZ.1
    have hZ2 := hZ.2
    ((try clear hZ))
    have pk := And.intro F1 (And.intro N3 (And.intro FG' hI))
    repeat (with_reducible rename News _ _ _ _ => hN; clear hN)
    repeat (with_reducible rename Fr _ _ _ _ => hF; clear hF)
    repeat (with_reducible rename (@LT.lt Nat _ _ _ ∧ _) => hA; clear hA)
    repeat (with_reducible rename IsTup _ _ _ => hT; clear hT)
    repeat (with_reducible rename IntsAre _ _ => hT; clear hT)
    repeat (with_reducible rename (Obj.cls _ = _) => hT; clear hT)
    obtain ⟨F1, N3, FG', hI⟩ := pk
    try clear N2
    ((try clear hI2))
    subst hc4 hc3 hc2 hc1
    repeat (first | (with_reducible rename (Flow → Shared → Prop) => zq; clear zq) | (with_reducible rename (Value → Shared → Prop) => zq; clear zq))
    (rename_i zr52 zr53 zr54 zr55 zr56 zr57 zr58 zr59 zr60 zr64 zr86 zr87 zr88 zr89 zr90 zr92 zr93 zr95; clear r8 en zr92 zr90 zr89 zr87 zr86 zr64 tk₁ h₁ zr60 zr59 zr58 zr57 zr56 zr55 zr54 zr53 zr52 d4' d3' o4 o3 tk' h' hlen hS hke hf B A₀; (repeat (rename _ => zz; revert zz)); intro stk1; exact @Wr.get _ stk1)⟩
end Mine
end

example : 1 = 1 ∧ 2 = 2 := by
  w_top off
  walk1 <;> rfl
section
set_option maxRecDepth 100000
open PySem PySem.W PyProof.Rows PySem.Calls
namespace Mine
local macro_rules | `(tactic| k_ne) => `(tactic| (refine neN ?_; (try dsimp only); first | with_reducible assumption | (refine Ne.symm ?_; with_reducible assumption) | omega))
set_option Elab.async false
local macro_rules | `(tactic| k_mem) => `(tactic| assumption)
local macro_rules | `(tactic| k_mem) => `(tactic| (refine List.Mem.tail _ ?_; assumption))
local macro_rules | `(tactic| k_room) => `(tactic| ((try simp only [depth_under_make, depth_under_kw, depth_in1, depth_deeper, depth_caller]); exact Nat.lt_of_le_of_lt (by assumption) (by decide)))
local macro_rules | `(tactic| k_all) => `(tactic| (refine' List.forall_mem_cons.mpr (And.intro ?a ?b); (case a => k_ne); (case b => k_all)))
local macro_rules | `(tactic| k_all) => `(tactic| first | assumption | exact offN (by assumption) (by omega))
/-- what holds ahead of each split -/
inductive InvS (Z sa : Addr) (REST : List (Addr × Obj)) (i : Nat) (m' : Str → Option Value) (n' : List (Addr × Obj)) : Prop
  | mk (ct : Obj) (dl' : Addr) (dvs : List Value) (dn : Nat) (ds : List Int) (h1 : n' = (Z + 1 + 1, ct) :: (dl', W.listOf dvs.toArray dn) :: REST) (h2 : ct.data = .cell (some (.ref dl')))
      (h3 : IntsAre dvs ds) (h4 : ds ∈ TT i) (h5 : ds.length = i + 1) (h6 : ∀ p ∈ (dl', W.listOf dvs.toArray dn) :: REST, @Ne Nat p.1 (Z + 1 + 1)) (h7 : ∀ p ∈ REST, @Ne Nat p.1 dl') (h8 : ∀ d ∈ ds, 0 ≤ d ∧ d ≤ (i : Int)) (h9 : Has m' [(Str.ofString "script", .ref sa)]) :
      InvS Z sa REST i m' n'
theorem split_len {ds : List Int} {k : Nat} (h : k < ds.length) : (splitK ds k).length = ds.length + 1 := by
  simp only [splitK, List.length_append, List.length_take, List.length_cons, List.length_nil, List.length_drop]
  omega
theorem split_bd {ds : List Int} {k i : Nat} (h : k < ds.length) (hb : ∀ d ∈ ds, 0 ≤ d ∧ d ≤ (i : Int)) : ∀ d ∈ splitK ds k, 0 ≤ d ∧ d ≤ ((i + 1 : Nat) : Int) := by
  intro d hd
  have key : ∀ d ∈ ds, 0 ≤ d ∧ d ≤ ((i + 1 : Nat) : Int) := fun d h => by have := hb d h; omega
  have hk := hb (ds.getD k 0) (by rw [List.getD_eq_getElem?_getD, List.getElem?_eq_getElem h]; exact List.getElem_mem h)
  simp only [splitK, List.mem_append, List.mem_cons, List.not_mem_nil, or_false] at hd
  rcases hd with (h | h | h) | h
  · exact key d (List.mem_of_mem_take h)
  · omega
  · omega
  · exact key d (List.mem_of_mem_drop h)
set_option maxHeartbeats 8000000 in
noncomputable def OutB_s : S1 (OutA_s.P) := ⟨_, by
  intro stk1
  intro w s base h₀ outer L m mg mb env mean R a1 a2 a3 b1 b2 b3 sa svs xs T hR X₀ d gd u hdp hu g' L' B' X' T' l1s o1 o2 d1' d2' hS' m₁ x0 x1 x2 x3 x4 x5 x6 t0 t1 t2 t3 t4 t5 t6 hb0 hb1 hb2 hb3 hb4 hb5 hb6 _ tk _ I _ D dl nl oD oN td kn hch1 hch2 hch3 hch4 hoN hoD REST hDR hZ2 F1 FG' hI hIlt hZ1 N3 hREST
  revert X'
  k_fill
  intro X'
  refine loop_seq (vs := [.int x0 t0, .int x1 t1, .int x2 t2, .int x3 t3, .int x4 t4, .int x5 t5]) (InvS L' sa REST) ?_ rfl F1 N3 ?_ ?_ ?_ ?_ ?_
  · rintro i m' n' ⟨ct, dl', dvs, dn, ds, rfl, _⟩
    exact ⟨_, List.Mem.tail _ (List.Mem.tail _ hDR), 0, rfl⟩
  · exact hIlt
  · refine ⟨oD, dl, [.int 0 td], 0, [0], rfl, hoD, .cons 0 td .nil, List.Mem.head _, rfl, hZ1, hZ2, ?_, rfl, trivial⟩
    intro d hd
    rw [List.mem_singleton.mp hd]
    exact ⟨Int.le_refl _, Int.le_refl _⟩
  · rintro i v m₁ news₁ h₁ tk₁ hv ⟨ct, dl', dvs, dn, ds, rfl, hct, hid, htt, hdl, hc2', hdl', hdb, hmm⟩ F₁ N₁ hI1
    obtain ⟨x, tx, rfl, hx0, hx1⟩ : ∃ x tx, v = .int x tx ∧ 0 ≤ x ∧ x < 1000000 := by
      rcases i with _ | _ | _ | _ | _ | _ | i <;> simp at hv <;> subst hv <;> exact ⟨_, _, rfl, by omega, by omega⟩
    have hi6 : i < 6 := (List.getElem?_eq_some_iff.mp hv).1
    replace F₁ := fr_ov F₁ hmm
    have hsz : dvs.toArray.size = i + 1 := by rw [List.size_toArray, hid.length]; exact hdl
    ((try clear hmm); (try clear N3); (try clear F1))
    have hIc : @Ne Nat (L' + 1 + 1) I := hI1 _ (List.Mem.head _)
    have hdc : @Ne Nat dl' (L' + 1 + 1) := hc2' _ (List.Mem.head _)
    have hRc : ∀ p ∈ REST, @Ne Nat p.1 (L' + 1 + 1) := fun p hp => hc2' p (List.Mem.tail _ hp)
    iterate 17 (((first | (k_unfold; (try dsimp only); (try clear qk); (try clear ek)) | ((with_reducible show wpAny _ _ (exec _ _) _ _ _); k_fold) | ((fail_if_success (with_reducible show wpAny _ _ (exec (Stmt.For (PySem.Expr.Name (PySem.Str.ofString "x") _) _ _ _ _) _) _ _ _)); (first | ((k_here; (with_reducible show wpAny _ _ (call (Value.builtin "len") [Value.ref _]) _ _ _); refine' KM.len_K ?k1 ?k2 ?k3 ?k4 ?_; (case k1 => k_asm); (case k2 => k_mem); (case k3 => assumption); (case k4 => omega))) | (((with_reducible show wpAny _ _ (pyIter (Value.ref _)) (fun it s₂ => codeAny _ _ _ _ _) _ _); refine' iter_list ?k1 ?k2 ?k3 ?_; (case k1 => k_asm); (case k2 => k_asm); (case k3 => k_mem))) | walk1)) | (dsimp only; (first | ((k_here; (with_reducible show wpAny _ _ (call (Value.builtin "len") [Value.ref _]) _ _ _); refine' KM.len_K ?k1 ?k2 ?k3 ?k4 ?_; (case k1 => k_asm); (case k2 => k_mem); (case k3 => assumption); (case k4 => omega))) | (((with_reducible show wpAny _ _ (pyIter (Value.ref _)) (fun it s₂ => codeAny _ _ _ _ _) _ _); refine' iter_list ?k1 ?k2 ?k3 ?_; (case k1 => k_asm); (case k2 => k_asm); (case k3 => k_mem))) | walk1)))))
    have hk0 : 0 ≤ x.fmod ((i + 1 : Nat) : Int) := Int.fmod_nonneg_of_pos _ (by omega)
    have hk1 : x.fmod ((i + 1 : Nat) : Int) < ((i + 1 : Nat) : Int) := Int.fmod_lt_of_pos _ (by omega)
    generalize x.fmod ((i + 1 : Nat) : Int) = kk at *
    obtain ⟨kn', rfl⟩ := Int.eq_ofNat_of_zero_le hk0
    have hk2 : (0 : Int) ≤ (kn' : Int) + 1 := by omega
    repeat' (((first | (k_unfold; (try dsimp only); (try clear qk); (try clear ek)) | ((with_reducible show wpAny _ _ (exec _ _) _ _ _); k_fold) | ((fail_if_success (with_reducible show wpAny _ _ (exec (Stmt.For (PySem.Expr.Name (PySem.Str.ofString "x") _) _ _ _ _) _) _ _ _)); (first | ((k_here; (with_reducible show wpAny _ _ (call (Value.builtin "len") [Value.ref _]) _ _ _); refine' KM.len_K ?k1 ?k2 ?k3 ?k4 ?_; (case k1 => k_asm); (case k2 => k_mem); (case k3 => assumption); (case k4 => omega))) | (((with_reducible show wpAny _ _ (pyIter (Value.ref _)) (fun it s₂ => codeAny _ _ _ _ _) _ _); refine' iter_list ?k1 ?k2 ?k3 ?_; (case k1 => k_asm); (case k2 => k_asm); (case k3 => k_mem))) | walk1)) | (dsimp only; (first | ((k_here; (with_reducible show wpAny _ _ (call (Value.builtin "len") [Value.ref _]) _ _ _); refine' KM.len_K ?k1 ?k2 ?k3 ?k4 ?_; (case k1 => k_asm); (case k2 => k_mem); (case k3 => assumption); (case k4 => omega))) | (((with_reducible show wpAny _ _ (pyIter (Value.ref _)) (fun it s₂ => codeAny _ _ _ _ _) _ _); refine' iter_list ?k1 ?k2 ?k3 ?_; (case k1 => k_asm); (case k2 => k_asm); (case k3 => k_mem))) | walk1)))))
    dsimp only [ForStep]
    rename Fr g' L' _ _ => F5
    rename News g' L' _ _ => N5
    rename_i d1 ws1 _ hws l1 _ oc hoc
    have hkl : kn' < ds.length := by omega
    have l2 := of_allLt l1.2.2.2.2.2.2.2
    refine ⟨_, _, _, (L' + 1 + 1, oc) :: (d1, W.listOf ws1.toArray 0) :: REST, rfl, F5, kst_newsOf N5 ?_, ?_, oc, d1, ws1, 0, splitK ds kn', rfl, hoc, ?_, tt_split htt (by omega), by rw [split_len hkl, hdl], ?_, ?_, split_bd hkl hdb, rfl, trivial⟩
    · intro p hp
      simp only [List.mem_cons] at hp ⊢
      rcases hp with h | h | h | h <;> simp only [h, true_or, or_true]
    · refine List.forall_mem_cons.mpr ⟨hIc, List.forall_mem_cons.mpr ⟨Nat.ne_of_gt l1.2.2.2.2.1, fun p hp => hI1 p (List.Mem.tail _ (List.Mem.tail _ hp))⟩⟩
    · rw [splitK]
      have e1 : ((kn' : Int)).toNat = kn' := Int.toNat_natCast _
      have e2 : ((kn' : Int) + 1).toNat = kn' + 1 := by omega
      rw [e1, e2] at hws
      exact hws
    · exact List.forall_mem_cons.mpr ⟨Nat.ne_of_gt l1.2.2.2.2.2.1, hRc⟩
    · exact fun p hp => Nat.ne_of_lt (l2 p hp)
  · rintro m₁ news₁ h₁ tk₁ ⟨ct, dl', dvs, dn, ds, rfl, hct, hid, htt, hdl, hc2', hdl', hdb, hmm⟩ F₁ N₁
    replace F₁ := fr_ov F₁ hmm
    ((try clear hZ2); (try clear hZ1); (try clear hIlt); (try clear hmm); (try clear N3); (try clear F1))
    (rename_i zr60 zr87 zr92 zr94; clear hoD hch4 td oD zr60; (repeat (rename _ => zz; revert zz)); intro stk1; exact @Wr.get _ stk1)
  · passes_own⟩
end Mine
end

example : 1 = 1 ∧ 2 = 2 := by
  w_top off
  walk1 <;> rfl
section
set_option maxRecDepth 100000
open PySem PySem.W PyProof.Rows PySem.Calls
namespace Mine
local macro_rules | `(tactic| k_ne) => `(tactic| (refine neN ?_; (try dsimp only); first | with_reducible assumption | (refine Ne.symm ?_; with_reducible assumption) | omega))
set_option Elab.async false
local macro_rules | `(tactic| k_room) => `(tactic| ((try simp only [depth_under_make, depth_under_kw, depth_in1, depth_deeper, depth_caller]); exact Nat.lt_of_le_of_lt (by assumption) (by decide)))
local macro_rules | `(tactic| k_all) => `(tactic| (refine' List.forall_mem_cons.mpr (And.intro ?a ?b); (case a => k_ne); (case b => k_all)))
local macro_rules | `(tactic| k_all) => `(tactic| first | assumption | exact offN (by assumption) (by omega))
/-- what the conditions leave -/
inductive IfP (s : Shared) (g' : Heap) (L' c2 : Addr) (ct : Obj) (dl' : Addr) (rest : List (Addr × Obj)) (ds : List Int) (f : Flow) (s₂ : Shared) : Prop
  | mk (h0 : f = .next) (h' : Heap) (tk : Nat) (m' : Str → Option Value) (dvs' : List Value) (dn' : Nat) (h1 : s₂ = { s with heap := h', toks := tk }) (h2 : Fr g' L' h' m') (h3 : News g' L' h' ((c2, ct) :: (dl', W.listOf (List.toArray dvs') dn') :: rest)) (h4 : IntsAre dvs' ds) : IfP s g' L' c2 ct dl' rest ds f s₂
theorem ints_eq {vs : List Value} {ns ns' : List Int} (h : IntsAre vs ns) (e : ns = ns') : IntsAre vs ns' := e ▸ h
set_option maxHeartbeats 8000000 in
noncomputable def OutE_s : S1 (OutB_s.P) := ⟨_, by
  intro stk1
  intro w s base h₀ outer L m mg mb env mean R a1 a2 a3 b1 b2 b3 sa svs xs T hR X₀ d gd u hdp hu g' L' B' T' l1s o1 o2 d1' d2' hS' x0 x1 x2 x3 x4 x5 x6 t0 t1 t2 t3 t4 t5 t6 hb0 hb1 hb2 hb3 hb4 hb5 hb6 _ tk _ I _ D dl nl oN kn hch1 hch2 hch3 hoN REST hDR FG' hI hREST X' m₁ h₁ tk₁ ct dl' dvs dn ds hct hid htt hdl hc2' hdl' hdb N₁ F₁
  revert X'
  k_fill
  intro X'
  subst hREST
  dsimp only
  iterate 8 (((first | (k_unfold; (try dsimp only)) | ((fail_if_success (with_reducible show wpAny _ _ (exec (Stmt.If _ _ _ _) _) _ _ _)); (first | ((k_here; (with_reducible show wpAny _ _ (subscriptTail _ _ (Value.ref _) (Value.int _ _)) _ _ _); k_dflt (refine' ksa_sub ?k1 ?k2 ?k3 ?k4 ?k5 ?k6 ?_ ?k7; (case k1 => k_asm); (case k2 => k_mem); (case k3 => with_reducible assumption); (case k4 => omega); (case k5 => omega); (case k6 => omega); (case k7 => with_unfolding_all rfl); k_whole); intro _)) | ((k_here; (with_reducible show wpAny _ _ (setItem (Value.ref _) (Value.int _ _) (Value.int _ _)) _ _ _); k_dflt (refine' ksa_set ?k1 ?k2 ?k3 ?k4 ?k5 ?k6 ?k7 ?_; (case k1 => k_asm); (case k2 => k_asm); (case k3 => k_upd); (case k4 => with_reducible assumption); (case k5 => omega); (case k6 => (simp only [List.length_set]; omega)); (case k7 => omega); k_whole); intro h' F' N' hi' hl' hs'; (try k_sweep))) | ((k_here; (with_reducible show wpAny _ _ (call (Value.builtin "len") [Value.ref _]) _ _ _); refine' KM.len_K ?k1 ?k2 ?k3 ?k4 ?_; (case k1 => k_asm); (case k2 => k_mem); (case k3 => assumption); (case k4 => omega))) | (((with_reducible show wpAny _ _ (pyIter (Value.ref _)) (fun it s₂ => codeAny _ _ _ _ _) _ _); refine' iter_list ?k1 ?k2 ?k3 ?_; (case k1 => k_asm); (case k2 => k_asm); (case k3 => k_mem))) | walk1)) | (dsimp only; (fail_if_success (with_reducible show wpAny _ _ (exec (Stmt.If _ _ _ _) _) _ _ _)); (first | ((k_here; (with_reducible show wpAny _ _ (subscriptTail _ _ (Value.ref _) (Value.int _ _)) _ _ _); k_dflt (refine' ksa_sub ?k1 ?k2 ?k3 ?k4 ?k5 ?k6 ?_ ?k7; (case k1 => k_asm); (case k2 => k_mem); (case k3 => with_reducible assumption); (case k4 => omega); (case k5 => omega); (case k6 => omega); (case k7 => with_unfolding_all rfl); k_whole); intro _)) | ((k_here; (with_reducible show wpAny _ _ (setItem (Value.ref _) (Value.int _ _) (Value.int _ _)) _ _ _); k_dflt (refine' ksa_set ?k1 ?k2 ?k3 ?k4 ?k5 ?k6 ?k7 ?_; (case k1 => k_asm); (case k2 => k_asm); (case k3 => k_upd); (case k4 => with_reducible assumption); (case k5 => omega); (case k6 => (simp only [List.length_set]; omega)); (case k7 => omega); k_whole); intro h' F' N' hi' hl' hs'; (try k_sweep))) | ((k_here; (with_reducible show wpAny _ _ (call (Value.builtin "len") [Value.ref _]) _ _ _); refine' KM.len_K ?k1 ?k2 ?k3 ?k4 ?_; (case k1 => k_asm); (case k2 => k_mem); (case k3 => assumption); (case k4 => omega))) | (((with_reducible show wpAny _ _ (pyIter (Value.ref _)) (fun it s₂ => codeAny _ _ _ _ _) _ _); refine' iter_list ?k1 ?k2 ?k3 ?_; (case k1 => k_asm); (case k2 => k_asm); (case k3 => k_mem))) | walk1)))))
  (refine sumK rfl (by k_asm) (by k_asm) (Fr.lst (by k_asm) hS') hI ?_)
  intro h2 tk2 tS F2 N2
  repeat' (((first | (k_unfold; (try dsimp only)) | ((fail_if_success (with_reducible show wpAny _ _ (exec (Stmt.If _ _ _ _) _) _ _ _)); (first | ((k_here; (with_reducible show wpAny _ _ (subscriptTail _ _ (Value.ref _) (Value.int _ _)) _ _ _); k_dflt (refine' ksa_sub ?k1 ?k2 ?k3 ?k4 ?k5 ?k6 ?_ ?k7; (case k1 => k_asm); (case k2 => k_mem); (case k3 => with_reducible assumption); (case k4 => omega); (case k5 => omega); (case k6 => omega); (case k7 => with_unfolding_all rfl); k_whole); intro _)) | ((k_here; (with_reducible show wpAny _ _ (setItem (Value.ref _) (Value.int _ _) (Value.int _ _)) _ _ _); k_dflt (refine' ksa_set ?k1 ?k2 ?k3 ?k4 ?k5 ?k6 ?k7 ?_; (case k1 => k_asm); (case k2 => k_asm); (case k3 => k_upd); (case k4 => with_reducible assumption); (case k5 => omega); (case k6 => (simp only [List.length_set]; omega)); (case k7 => omega); k_whole); intro h' F' N' hi' hl' hs'; (try k_sweep))) | ((k_here; (with_reducible show wpAny _ _ (call (Value.builtin "len") [Value.ref _]) _ _ _); refine' KM.len_K ?k1 ?k2 ?k3 ?k4 ?_; (case k1 => k_asm); (case k2 => k_mem); (case k3 => assumption); (case k4 => omega))) | (((with_reducible show wpAny _ _ (pyIter (Value.ref _)) (fun it s₂ => codeAny _ _ _ _ _) _ _); refine' iter_list ?k1 ?k2 ?k3 ?_; (case k1 => k_asm); (case k2 => k_asm); (case k3 => k_mem))) | walk1)) | (dsimp only; (fail_if_success (with_reducible show wpAny _ _ (exec (Stmt.If _ _ _ _) _) _ _ _)); (first | ((k_here; (with_reducible show wpAny _ _ (subscriptTail _ _ (Value.ref _) (Value.int _ _)) _ _ _); k_dflt (refine' ksa_sub ?k1 ?k2 ?k3 ?k4 ?k5 ?k6 ?_ ?k7; (case k1 => k_asm); (case k2 => k_mem); (case k3 => with_reducible assumption); (case k4 => omega); (case k5 => omega); (case k6 => omega); (case k7 => with_unfolding_all rfl); k_whole); intro _)) | ((k_here; (with_reducible show wpAny _ _ (setItem (Value.ref _) (Value.int _ _) (Value.int _ _)) _ _ _); k_dflt (refine' ksa_set ?k1 ?k2 ?k3 ?k4 ?k5 ?k6 ?k7 ?_; (case k1 => k_asm); (case k2 => k_asm); (case k3 => k_upd); (case k4 => with_reducible assumption); (case k5 => omega); (case k6 => (simp only [List.length_set]; omega)); (case k7 => omega); k_whole); intro h' F' N' hi' hl' hs'; (try k_sweep))) | ((k_here; (with_reducible show wpAny _ _ (call (Value.builtin "len") [Value.ref _]) _ _ _); refine' KM.len_K ?k1 ?k2 ?k3 ?k4 ?_; (case k1 => k_asm); (case k2 => k_mem); (case k3 => assumption); (case k4 => omega))) | (((with_reducible show wpAny _ _ (pyIter (Value.ref _)) (fun it s₂ => codeAny _ _ _ _ _) _ _); refine' iter_list ?k1 ?k2 ?k3 ?_; (case k1 => k_asm); (case k2 => k_asm); (case k3 => k_mem))) | walk1)))))
  have hpp0 : 0 ≤ (xs.sum.fdiv 4 + 3).fmod 7 := Int.fmod_nonneg_of_pos _ (by decide)
  have hpp1 : (xs.sum.fdiv 4 + 3).fmod 7 < 7 := Int.fmod_lt_of_pos _ (by decide)
  generalize (xs.sum.fdiv 4 + 3).fmod 7 = pp at *
  obtain ⟨pn, rfl⟩ := Int.eq_ofNat_of_zero_le hpp0
  generalize hqe : ((pn : Int) + 1).fmod 7 = qq at *
  obtain ⟨qn, rfl⟩ : ∃ n : Nat, qq = (n : Int) := ⟨(pn + 1) % 7, by rw [← hqe, Int.fmod_eq_emod_of_nonneg _ (by decide)]; omega⟩
  have hqn : qn = (pn + 1) % 7 := by rw [Int.fmod_eq_emod_of_nonneg _ (by decide)] at hqe; omega
  have hqb : qn < 7 := by omega
  have hqp : qn ≠ pn := by omega
  change ds ∈ TT 6 at htt
  change ds.length = 7 at hdl
  have hdc : @Ne Nat (L' + 1 + 1) dl' := Ne.symm (hc2' _ (List.Mem.head _))
  have hdvl : dvs.length = 7 := by rw [hid.length]; exact hdl
  refine wpAny_mono (Q := fun f s₂ => Halt (IfP s g' L' (L' + 1 + 1) ct dl' [(D, W.listOf #[.int x0 t0, .int x1 t1, .int x2 t2, .int x3 t3, .int x4 t4, .int x5 t5] 0), (nl, W.listOf #[.int x0 t0, .int x1 t1, .int x2 t2, .int x3 t3, .int x4 t4, .int x5 t5, .int x6 t6] kn), (L' + 1 + 1 + 1 + 1, o1), (L' + 1 + 1 + 1, o2), (L' + 1, oN), (a1, b1), (a2, b2), (a3, b3)] (pertZ ds (xs.sum.fmod 4) pn qn) f s₂)) ?_ ?_ (fun _ _ e => e)
  · (try k_fold)
    (repeat' (((first | (k_unfold; (try dsimp only)) | ((fail_if_success (with_reducible show wpAny _ _ (exec (Stmt.For (PySem.Expr.Name (PySem.Str.ofString "x") _) _ _ _ _) _) _ _ _)); (first | ((k_here; (with_reducible show wpAny _ _ (subscriptTail _ _ (Value.ref _) (Value.int _ _)) _ _ _); k_dflt (refine' ksa_sub ?k1 ?k2 ?k3 ?k4 ?k5 ?k6 ?_ ?k7; (case k1 => k_asm); (case k2 => k_mem); (case k3 => with_reducible assumption); (case k4 => omega); (case k5 => omega); (case k6 => omega); (case k7 => with_unfolding_all rfl); k_whole); intro _)) | ((k_here; (with_reducible show wpAny _ _ (setItem (Value.ref _) (Value.int _ _) (Value.int _ _)) _ _ _); k_dflt (refine' ksa_set ?k1 ?k2 ?k3 ?k4 ?k5 ?k6 ?k7 ?_; (case k1 => k_asm); (case k2 => k_asm); (case k3 => k_upd); (case k4 => with_reducible assumption); (case k5 => omega); (case k6 => (simp only [List.length_set]; omega)); (case k7 => omega); k_whole); intro h' F' N' hi' hl' hs'; (try k_sweep))) | ((k_here; (with_reducible show wpAny _ _ (call (Value.builtin "len") [Value.ref _]) _ _ _); refine' KM.len_K ?k1 ?k2 ?k3 ?k4 ?_; (case k1 => k_asm); (case k2 => k_mem); (case k3 => assumption); (case k4 => omega))) | (((with_reducible show wpAny _ _ (pyIter (Value.ref _)) (fun it s₂ => codeAny _ _ _ _ _) _ _); refine' iter_list ?k1 ?k2 ?k3 ?_; (case k1 => k_asm); (case k2 => k_asm); (case k3 => k_mem))) | walk1)) | (dsimp only; (first | ((k_here; (with_reducible show wpAny _ _ (subscriptTail _ _ (Value.ref _) (Value.int _ _)) _ _ _); k_dflt (refine' ksa_sub ?k1 ?k2 ?k3 ?k4 ?k5 ?k6 ?_ ?k7; (case k1 => k_asm); (case k2 => k_mem); (case k3 => with_reducible assumption); (case k4 => omega); (case k5 => omega); (case k6 => omega); (case k7 => with_unfolding_all rfl); k_whole); intro _)) | ((k_here; (with_reducible show wpAny _ _ (setItem (Value.ref _) (Value.int _ _) (Value.int _ _)) _ _ _); k_dflt (refine' ksa_set ?k1 ?k2 ?k3 ?k4 ?k5 ?k6 ?k7 ?_; (case k1 => k_asm); (case k2 => k_asm); (case k3 => k_upd); (case k4 => with_reducible assumption); (case k5 => omega); (case k6 => (simp only [List.length_set]; omega)); (case k7 => omega); k_whole); intro h' F' N' hi' hl' hs'; (try k_sweep))) | ((k_here; (with_reducible show wpAny _ _ (call (Value.builtin "len") [Value.ref _]) _ _ _); refine' KM.len_K ?k1 ?k2 ?k3 ?k4 ?_; (case k1 => k_asm); (case k2 => k_mem); (case k3 => assumption); (case k4 => omega))) | (((with_reducible show wpAny _ _ (pyIter (Value.ref _)) (fun it s₂ => codeAny _ _ _ _ _) _ _); refine' iter_list ?k1 ?k2 ?k3 ?_; (case k1 => k_asm); (case k2 => k_asm); (case k3 => k_mem))) | walk1))))))
    all_goals (
      rename Fr g' L' _ _ => F5
      rename News g' L' _ _ => N5
      rename IntsAre _ _ => hi5
      refine unhalt ⟨rfl, _, _, _, _, _, rfl, F5, kst_newsOf N5 (by first | exact fun p hp => hp | exact fun p hp => List.Mem.tail _ hp), ints_eq hi5 (by simp only [Int.toNat_natCast, pertZ]; simp [*])⟩)
  · rintro f s₂ ⟨rfl, h3, tk3, m3, dvs3, dn3, rfl, F3, N3, hi3⟩
    generalize hds : pertZ ds (xs.sum.fmod 4) pn qn = ds3 at hi3
    have hd3l : ds3.length = 7 := by rw [← hds, ← hdl]; unfold pertZ; split <;> (try split) <;> (try split) <;> simp
    have hr4 : xs.sum.fmod 4 = 0 ∨ xs.sum.fmod 4 = 1 ∨ xs.sum.fmod 4 = 2 ∨ xs.sum.fmod 4 = 3 := by
      have := Int.fmod_nonneg_of_pos xs.sum (show (0 : Int) < 4 by decide); have := Int.fmod_lt_of_pos xs.sum (show (0 : Int) < 4 by decide); omega
    have hpn7 : pn < 7 := by omega
    generalize xs.sum.fmod 4 = r4 at *
    ((try clear F₁); (try clear N₁); (try clear F2); (try clear N2))
    repeat (with_reducible rename News _ _ h2 _ => hN; clear hN)
    dsimp only
    (rename_i zr87 zr90 zr92 zr94 zr130 zr132 zr133 zr134 zr140; clear hdvl hdc hdl hqp hqb zr140 hqe hpp1 hpp0 zr132 tk zr130 tS tk2 h2 hc2' hDR hid tk₁ h₁ m₁ hI zr94 zr92 zr90 zr87 hS' svs; (repeat (rename _ => zz; revert zz)); intro stk1; exact @Wr.get _ stk1)⟩
end Mine
end

example : 1 = 1 ∧ 2 = 2 := by
  w_top off
  walk1 <;> rfl
section
set_option maxRecDepth 100000
open PySem PySem.W PyProof.Rows PySem.Calls
namespace Mine
local macro_rules | `(tactic| k_ne) => `(tactic| (refine neN ?_; (try dsimp only); first | with_reducible assumption | (refine Ne.symm ?_; with_reducible assumption) | omega))
set_option Elab.async false
local macro_rules | `(tactic| k_room) => `(tactic| ((try simp only [depth_under_make, depth_under_kw, depth_in1, depth_deeper, depth_caller]); exact Nat.lt_of_le_of_lt (by assumption) (by decide)))
local macro_rules | `(tactic| k_all) => `(tactic| (refine' List.forall_mem_cons.mpr (And.intro ?a ?b); (case a => k_ne); (case b => k_all)))
local macro_rules | `(tactic| k_all) => `(tactic| first | assumption | exact offN (by assumption) (by omega))
local macro_rules | `(tactic| walk_at "CompSrc") => `(tactic| refine halt ?_)
section
variable {prog : Program} {w : World} {A : Around} {s : Shared} {h₀ : Heap} {L : Addr} {m : Str → Option Value} {env : Env} {news : List (Addr × Obj)}
theorem rng_rest {elt : PySem.Expr} {x : Str} {scope : Scope} {cl : List (Str × Addr)} {S : List (Addr × Obj) → Prop} {Fin : List Value → List (Addr × Obj) → Prop} {n : Nat} {a : Int} (P : Nat → List Value → List (Addr × Obj) → Prop)
    (h0 : P 0 [] news)
    (turn : ∀ (i : Nat) t ys nw I oI C oC D m₂ h tk (E' : Value → Shared → Prop), i < n → P i ys nw → LCg.NsObj oC m₂ → m₂ x = some (.int (a + (i : Int)) t) → Fr h₀ L h m → News h₀ L h ((I, oI) :: (C, oC) :: (D, LCg.lst ys) :: nw) → LCg.Off3 I C D nw → ((@Ne Nat I C) ∧ (@Ne Nat I D) ∧ (@Ne Nat C D)) →
      wpAny (model prog w) A (eval elt (compEnvC scope cl C env)) (LCg.CompEnd h₀ L m { s with heap := h, toks := tk } I oI C oC D (LCg.lst ys) S (fun y nw' => P (i + 1) (ys ++ [y]) nw')) E' { s with heap := h, toks := tk })
    (fin : ∀ ys nw, P n ys nw → Fin ys nw) : LCg.CompRest prog w A h₀ L m env elt x scope cl s S (fun i v => ∃ t, v = .int (a + (i : Int)) t) Fin n 0 [] news := by
  have key : ∀ (j i : Nat) (ys : List Value) (nw : List (Addr × Obj)), i + j = n → P i ys nw → LCg.CompRest prog w A h₀ L m env elt x scope cl s S (fun i v => ∃ t, v = .int (a + (i : Int)) t) Fin j i ys nw := by
    intro j
    induction j with
    | zero =>
      intro i ys nw hi hp
      have : i = n := by omega
      subst this
      exact LCg.CompRest.zero (fin ys nw hp)
    | succ j ih =>
      intro i ys nw hi hp
      refine LCg.CompRest.succ ?_
      intro v I oI C oC D m₂ h tk E' hv hC hx F N off ne
      obtain ⟨t, rfl⟩ := hv
      refine wpAny_mono (turn i t ys nw I oI C oC D m₂ h tk E' (by omega) hp hC hx F N off ne) (fun y s₂ hq => ?_) fun _ _ e => e
      obtain ⟨h', tk', nw', e, F', N', off', hS, hp'⟩ := hq
      exact ⟨h', tk', nw', e, F', N', off', hS, ih (i + 1) _ _ (by omega) hp'⟩
  exact key n 0 [] news (by omega) h0
end
section
variable {prog : Program} {w : World} {A : Around} {E : Value → Shared → Prop} {s : Shared} {h₀ : Heap} {L D : Addr} {m : Str → Option Value} {news : List (Addr × Obj)}
theorem tails_sub {value slice : PySem.Expr} {Q : Value → Shared → Prop} {k : Int} {u b0 b1 b2 b3 b4 : Tok} {n : Nat} (N : News h₀ L s.heap news)
    (hm : (D, W.listOf #[.str (Str.ofString "") b0, .str (Str.ofString "(") b1, .str (Str.ofString ")") b2, .str (Str.ofString "\\\"(") b3, .str (Str.ofString "\\\\") b4] n) ∈ news) (h0 : 0 ≤ k) (h1 : k < 5)
    (h : ∀ t x, x = tx (tailL k.toNat) → x.length ≤ 3 → Q (.str x t) s)
    (hs : subscripted slice false (.ref D) (.int k u) = operate [.ref D, .int k u] (getItem (.ref D) (.int k u)) := by with_unfolding_all rfl) :
    wpAny (model prog w) A (subscriptTail value slice (.ref D) (.int k u)) Q E s := by
  have hl := PySem.IsL.isList (n := n) (N _ hm).1
  have go : ∀ {v : Value}, (#[Value.str (Str.ofString "") b0, .str (Str.ofString "(") b1, .str (Str.ofString ")") b2, .str (Str.ofString "\\\"(") b3, .str (Str.ofString "\\\\") b4] : Array Value)[k.toNat]? = some v → Q v s → wpAny (model prog w) A (subscriptTail value slice (.ref D) (.int k u)) Q E s := fun hx q =>
    tail_any hl.typeIs slot_list_getitem.lookup (wpAny_getItem_list hl h0 (by omega) hx q) hs
  have h5 : k = 0 ∨ k = 1 ∨ k = 2 ∨ k = 3 ∨ k = 4 := by omega
  rcases h5 with rfl | rfl | rfl | rfl | rfl
  · exact go rfl (h b0 _ (by decide +kernel) (by decide +kernel))
  · exact go rfl (h b1 _ (by decide +kernel) (by decide +kernel))
  · exact go rfl (h b2 _ (by decide +kernel) (by decide +kernel))
  · exact go rfl (h b3 _ (by decide +kernel) (by decide +kernel))
  · exact go rfl (h b4 _ (by decide +kernel) (by decide +kernel))
end
set_option maxHeartbeats 8000000 in
noncomputable def OutF_s : S1 (OutE_s.P) := ⟨_, by
  intro stk1
  intro w s base h₀ outer L m mg mb env mean R a1 a2 a3 b1 b2 b3 sa xs T hR X₀ d gd u hdp hu g' L' B' T' l1s o1 o2 d1' d2' x0 x1 x2 x3 x4 x5 x6 t0 t1 t2 t3 t4 t5 t6 hb0 hb1 hb2 hb3 hb4 hb5 hb6 I D dl nl oN kn hch1 hch2 hch3 hoN FG' ct dl' dvs dn ds hct hdb X' hdl' _ _ pn qn hqn htt h3 tk3 m3 dvs3 dn3 F3 N3 ds3 hi3 hd3l hpn7 r4 hds hr4
  revert X'
  k_fill
  intro X'
  have la1 : @LT.lt Nat _ a1 L' := l1s _ (.head _)
  have la2 : @LT.lt Nat _ a2 L' := l1s _ (.tail _ (.head _))
  have la3 : @LT.lt Nat _ a3 L' := l1s _ (.tail _ (.tail _ (.head _)))
  have hdD : @Ne Nat D dl' := hdl' _ (.head _)
  have hdN : @Ne Nat nl dl' := hdl' _ (.tail _ (.head _))
  have hd4 : @Ne Nat (L' + 1 + 1 + 1 + 1) dl' := hdl' _ (.tail _ (.tail _ (.head _)))
  have hd3 : @Ne Nat (L' + 1 + 1 + 1) dl' := hdl' _ (.tail _ (.tail _ (.tail _ (.head _))))
  have hd1 : @Ne Nat (L' + 1) dl' := hdl' _ (.tail _ (.tail _ (.tail _ (.tail _ (.head _)))))
  have hda1 : @Ne Nat a1 dl' := hdl' _ (.tail _ (.tail _ (.tail _ (.tail _ (.tail _ (.head _))))))
  have hda2 : @Ne Nat a2 dl' := hdl' _ (.tail _ (.tail _ (.tail _ (.tail _ (.tail _ (.tail _ (.head _)))))))
  have hda3 : @Ne Nat a3 dl' := hdl' _ (.tail _ (.tail _ (.tail _ (.tail _ (.tail _ (.tail _ (.tail _ (.head _))))))))
  ((try clear l1s); (try clear hDR); (try clear hc2'); (try clear hdl'))
  obtain ⟨nv, xn, hnv, hxn, hxl, hxb⟩ : ∃ (nv : List Value) (xn : List Int), nv = [.int x0 t0, .int x1 t1, .int x2 t2, .int x3 t3, .int x4 t4, .int x5 t5, .int x6 t6] ∧ IntsAre nv xn ∧ xn.length = 7 ∧ ∀ x ∈ xn, 0 ≤ x ∧ x < 1000000 := by
    refine ⟨_, [x0, x1, x2, x3, x4, x5, x6], rfl, .cons _ _ (.cons _ _ (.cons _ _ (.cons _ _ (.cons _ _ (.cons _ _ (.cons _ _ .nil)))))), rfl, ?_⟩
    intro x hx
    simp only [List.mem_cons, List.not_mem_nil, or_false] at hx
    rcases hx with rfl | rfl | rfl | rfl | rfl | rfl | rfl <;> assumption
  have hnv7 : nv.length = 7 := by rw [hxn.length, hxl]
  replace N3 : News g' L' h3 [(L' + 1 + 1, ct), (dl', W.listOf dvs3.toArray dn3), (D, W.listOf #[.int x0 t0, .int x1 t1, .int x2 t2, .int x3 t3, .int x4 t4, .int x5 t5] 0), (nl, W.listOf nv.toArray kn), (L' + 1 + 1 + 1 + 1, o1), (L' + 1 + 1 + 1, o2), (L' + 1, oN), (a1, b1), (a2, b2), (a3, b3)] := by
    rw [hnv]; exact N3
  ((try clear hnv))
  repeat' (((first | (k_unfold; (try dsimp only)) | ((fail_if_success (with_reducible show wpAny _ _ (exec (Stmt.For (PySem.Expr.Name (PySem.Str.ofString "x") _) _ _ _ _) _) _ _ _)); (first | ((k_here; (with_reducible show wpAny _ _ (subscriptTail _ _ (Value.ref _) (Value.int (Int.fmod _ 5) _)) _ _ _); k_dflt (refine' tails_sub ?k1 ?k2 ?k4 ?k5 ?_ ?k7; (case k1 => k_asm); (case k2 => k_mem); (case k4 => exact Int.fmod_nonneg_of_pos _ (by decide)); (case k5 => exact Int.fmod_lt_of_pos _ (by decide)); (case k7 => with_unfolding_all rfl); k_whole); intro tl' xl' exl' hxl')) | ((k_here; (with_reducible show wpAny _ _ (subscriptTail _ _ (Value.ref _) (Value.int _ _)) _ _ _); k_dflt (refine' ksa_sub ?k1 ?k2 ?k3 ?k4 ?k5 ?k6 ?_ ?k7; (case k1 => k_asm); (case k2 => k_mem); (case k3 => with_reducible assumption); (case k4 => omega); (case k5 => omega); (case k6 => omega); (case k7 => with_unfolding_all rfl); k_whole); intro _)) | ((k_here; (with_reducible show wpAny _ _ (call (Value.builtin "len") [Value.ref _]) _ _ _); refine' KM.len_K ?k1 ?k2 ?k3 ?k4 ?_; (case k1 => k_asm); (case k2 => k_mem); (case k3 => assumption); (case k4 => omega))) | (((with_reducible show wpAny _ _ (pyIter (Value.ref _)) (fun it s₂ => codeAny _ _ _ _ _) _ _); refine' iter_list ?k1 ?k2 ?k3 ?_; (case k1 => k_asm); (case k2 => k_asm); (case k3 => k_mem))) | walk1)) | (dsimp only; (first | ((k_here; (with_reducible show wpAny _ _ (subscriptTail _ _ (Value.ref _) (Value.int (Int.fmod _ 5) _)) _ _ _); k_dflt (refine' tails_sub ?k1 ?k2 ?k4 ?k5 ?_ ?k7; (case k1 => k_asm); (case k2 => k_mem); (case k4 => exact Int.fmod_nonneg_of_pos _ (by decide)); (case k5 => exact Int.fmod_lt_of_pos _ (by decide)); (case k7 => with_unfolding_all rfl); k_whole); intro tl' xl' exl' hxl')) | ((k_here; (with_reducible show wpAny _ _ (subscriptTail _ _ (Value.ref _) (Value.int _ _)) _ _ _); k_dflt (refine' ksa_sub ?k1 ?k2 ?k3 ?k4 ?k5 ?k6 ?_ ?k7; (case k1 => k_asm); (case k2 => k_mem); (case k3 => with_reducible assumption); (case k4 => omega); (case k5 => omega); (case k6 => omega); (case k7 => with_unfolding_all rfl); k_whole); intro _)) | ((k_here; (with_reducible show wpAny _ _ (call (Value.builtin "len") [Value.ref _]) _ _ _); refine' KM.len_K ?k1 ?k2 ?k3 ?k4 ?_; (case k1 => k_asm); (case k2 => k_mem); (case k3 => assumption); (case k4 => omega))) | (((with_reducible show wpAny _ _ (pyIter (Value.ref _)) (fun it s₂ => codeAny _ _ _ _ _) _ _); refine' iter_list ?k1 ?k2 ?k3 ?_; (case k1 => k_asm); (case k2 => k_asm); (case k3 => k_mem))) | walk1)))))
  refine unhalt ?_
  refine LCg.CompSrc.range (n := 7) (by rfl) (by k_asm) (by k_asm) (by assumption) (by decide) (by rfl) (by exact Nat.le_of_ble_eq_true rfl) ?_
  intro gg
  refine rng_rest (fun i ys nw => nw = _ ∧ ys.length = i ∧ ∃ Ts, LabsAre ys Ts) ⟨rfl, rfl, [], LabsAre.nil⟩ ?_ ?_
  · intro i t ys nw I1 oI1 C1 oC1 D1 m4 h4 tk4 E4 hi7 hP hC hx F4 N4 off4 ne4
    obtain ⟨rfl, hyl, Ts, hLab⟩ := hP
    try dsimp only
    repeat' (((first | (k_unfold; (try dsimp only)) | ((fail_if_success (with_reducible show wpAny _ _ (exec (Stmt.For (PySem.Expr.Name (PySem.Str.ofString "x") _) _ _ _ _) _) _ _ _)); (first | ((k_here; (with_reducible show wpAny _ _ (subscriptTail _ _ (Value.ref _) (Value.int (Int.fmod _ 5) _)) _ _ _); k_dflt (refine' tails_sub ?k1 ?k2 ?k4 ?k5 ?_ ?k7; (case k1 => k_asm); (case k2 => k_mem); (case k4 => exact Int.fmod_nonneg_of_pos _ (by decide)); (case k5 => exact Int.fmod_lt_of_pos _ (by decide)); (case k7 => with_unfolding_all rfl); k_whole); intro tl' xl' exl' hxl')) | ((k_here; (with_reducible show wpAny _ _ (subscriptTail _ _ (Value.ref _) (Value.int _ _)) _ _ _); k_dflt (refine' ksa_sub ?k1 ?k2 ?k3 ?k4 ?k5 ?k6 ?_ ?k7; (case k1 => k_asm); (case k2 => k_mem); (case k3 => with_reducible assumption); (case k4 => omega); (case k5 => omega); (case k6 => omega); (case k7 => with_unfolding_all rfl); k_whole); intro _)) | ((k_here; (with_reducible show wpAny _ _ (call (Value.builtin "len") [Value.ref _]) _ _ _); refine' KM.len_K ?k1 ?k2 ?k3 ?k4 ?_; (case k1 => k_asm); (case k2 => k_mem); (case k3 => assumption); (case k4 => omega))) | (((with_reducible show wpAny _ _ (pyIter (Value.ref _)) (fun it s₂ => codeAny _ _ _ _ _) _ _); refine' iter_list ?k1 ?k2 ?k3 ?_; (case k1 => k_asm); (case k2 => k_asm); (case k3 => k_mem))) | walk1)) | (dsimp only; (first | ((k_here; (with_reducible show wpAny _ _ (subscriptTail _ _ (Value.ref _) (Value.int (Int.fmod _ 5) _)) _ _ _); k_dflt (refine' tails_sub ?k1 ?k2 ?k4 ?k5 ?_ ?k7; (case k1 => k_asm); (case k2 => k_mem); (case k4 => exact Int.fmod_nonneg_of_pos _ (by decide)); (case k5 => exact Int.fmod_lt_of_pos _ (by decide)); (case k7 => with_unfolding_all rfl); k_whole); intro tl' xl' exl' hxl')) | ((k_here; (with_reducible show wpAny _ _ (subscriptTail _ _ (Value.ref _) (Value.int _ _)) _ _ _); k_dflt (refine' ksa_sub ?k1 ?k2 ?k3 ?k4 ?k5 ?k6 ?_ ?k7; (case k1 => k_asm); (case k2 => k_mem); (case k3 => with_reducible assumption); (case k4 => omega); (case k5 => omega); (case k6 => omega); (case k7 => with_unfolding_all rfl); k_whole); intro _)) | ((k_here; (with_reducible show wpAny _ _ (call (Value.builtin "len") [Value.ref _]) _ _ _); refine' KM.len_K ?k1 ?k2 ?k3 ?k4 ?_; (case k1 => k_asm); (case k2 => k_mem); (case k3 => assumption); (case k4 => omega))) | (((with_reducible show wpAny _ _ (pyIter (Value.ref _)) (fun it s₂ => codeAny _ _ _ _ _) _ _); refine' iter_list ?k1 ?k2 ?k3 ?_; (case k1 => k_asm); (case k2 => k_asm); (case k3 => k_mem))) | walk1)))))
    rename Fr g' L' _ _ => F5
    rename News g' L' _ _ => N5
    rename (_ = tx (tailL _)) => exl
    subst exl
    refine LCg.CompEnd.intro F5 N5 _ (fun p hp => hp) off4 trivial ⟨rfl, by simp [hyl], Ts ++ [_], LabsAre.snoc hLab ?_ ((lab_eq hi7).trans (by rw [hyl]))⟩
    have := Int.fmod_nonneg_of_pos ((xn.getD (0 + (i : Int)).toNat 0).fdiv 7) (show (0 : Int) < 5 by decide)
    have := Int.fmod_lt_of_pos ((xn.getD (0 + (i : Int)).toNat 0).fdiv 7) (show (0 : Int) < 5 by decide)
    omega
  · rintro ys nw ⟨rfl, hyl, Ts, hLab⟩
    intro D1 h5 tk5 F5 N5 off5
    simp only [LCg.Off1, and_true] at off5
    have pk := And.intro F5 (And.intro N5 FG')
    try clear F3
    repeat (with_reducible rename News _ _ _ _ => hN; clear hN)
    repeat (with_reducible rename Fr _ _ _ _ => hN; clear hN)
    obtain ⟨F5, N5, FG'⟩ := pk
    dsimp only
    (rename_i zr127 zr170 zr171 zr172 zr173 zr174 zr175 zr177 zr178 zr179 zr180 zr181 zr182 zr183; clear gg zr183 zr182 zr181 zr180 zr179 zr178 zr177 tk zr175 zr173 zr171 hnv7 hxb hdN hdD h3 zr127 hdb dn hb6 hb5 hb4 hb3 hb2 hb1 hb0 t6 d2' o2; (repeat (rename _ => zz; revert zz)); intro stk1; exact @Wr.get _ stk1)⟩
end Mine
end

example : 1 = 1 ∧ 2 = 2 := by
  w_top off
  walk1 <;> rfl
section
set_option maxRecDepth 100000
open PySem PySem.W PyProof.Rows PySem.Calls
namespace Mine
local macro_rules | `(tactic| k_ne) => `(tactic| (refine neN ?_; (try dsimp only); first | with_reducible assumption | (refine Ne.symm ?_; with_reducible assumption) | omega))
set_option Elab.async false
local macro_rules | `(tactic| k_room) => `(tactic| ((try simp only [depth_under_make, depth_under_kw, depth_in1, depth_deeper, depth_caller]); exact Nat.lt_of_le_of_lt (by assumption) (by decide)))
local macro_rules | `(tactic| k_all) => `(tactic| (refine' List.forall_mem_cons.mpr (And.intro ?a ?b); (case a => k_ne); (case b => k_all)))
local macro_rules | `(tactic| k_all) => `(tactic| first | assumption | exact offN (by assumption) (by omega))
local macro_rules | `(tactic| walk_at "CompSrc") => `(tactic| refine halt ?_)
local macro_rules | `(tactic| k_mem) => `(tactic| (refine List.Mem.tail _ ?_; assumption))
local macro_rules | `(tactic| k_mem) => `(tactic| (refine mt3 ?_; assumption))
theorem nw_ex {h₀ h : Heap} {L : Addr} {l : List (Addr × Obj)} {P : List (Addr × Obj) → Prop} (N : News h₀ L h l) (hp : P l) : ∃ LL, P LL ∧ News h₀ L h LL := ⟨l, hp, N⟩
theorem nw_cut {h₀ h : Heap} {L : Addr} {p q : Addr × Obj} {ex LB as RR : List (Addr × Obj)} (N : News h₀ L h (p :: q :: RR)) (e : ex ++ (LB ++ as) = RR) : News h₀ L h ((p :: q :: (ex ++ LB)) ++ as) := by
  subst e
  simpa only [List.cons_append, List.append_assoc] using N
theorem labs_at {vs : List Value} {Ts : List Nat} {k : Nat} (h : LabsAre vs Ts) (hk : k < vs.length) : Ts.getD k 0 < 5 := by
  rw [List.getD_eq_getElem?_getD, List.getElem?_eq_getElem (by rw [h.1]; exact hk)]
  exact h.2.1 _ (List.getElem_mem _)
section
variable {prog : Program} {w : World} {A : Around} {E : Value → Shared → Prop} {s : Shared} {h₀ : Heap} {L D : Addr} {m : Str → Option Value} {news : List (Addr × Obj)}
theorem labs_sub {value slice : PySem.Expr} {Q : Value → Shared → Prop} {k : Int} {u : Tok} {n : Nat} {vs : List Value} {Ts : List Nat} (N : News h₀ L s.heap news)
    (hm : (D, W.listOf vs.toArray n) ∈ news) (hl : LabsAre vs Ts) (h0 : 0 ≤ k) (h1 : k < vs.length) (hz : vs.length ≤ 100)
    (h : ∀ t x, x = tx (labL k.toNat (Ts.getD k.toNat 0)) → x.length ≤ 6 → Q (.str x t) s)
    (hs : subscripted slice false (.ref D) (.int k u) = operate [.ref D, .int k u] (getItem (.ref D) (.int k u)) := by with_unfolding_all rfl) :
    wpAny (model prog w) A (subscriptTail value slice (.ref D) (.int k u)) Q E s := by
  have hl' := PySem.IsL.isList (n := n) (N _ hm).1
  obtain ⟨t, e⟩ := hl.2.2 k.toNat (by omega)
  exact tail_any hl'.typeIs slot_list_getitem.lookup (wpAny_getItem_list hl' h0 (by omega) (by simpa using e) (h t _ rfl (lab_len _ _).2)) hs
end
set_option maxHeartbeats 8000000 in
theorem OutG_pf : Wr OutF_s.P := ⟨by
  intro w s base h₀ outer L m mg mb env mean R a1 a2 a3 b1 b2 b3 sa xs T hR X₀ d gd u hdp hu g' L' B' T' o1 d1' x0 x1 x2 x3 x4 x5 x6 t0 t1 t2 t3 t4 t5 I D dl nl oN kn hch1 hch2 hch3 hoN ct dl' dvs ds hct pn qn hqn htt tk3 m3 dvs3 dn3 ds3 hi3 hd3l hpn7 r4 hds hr4 X' la1 la2 la3 hd4 hd3 hd1 hda1 hda2 hda3 nv xn hxn hxl _ _ _ ys hyl Ts hLab D1 h5 tk5 off5 F5 N5 FG'
  revert X'
  k_fill
  intro X'
  obtain ⟨ze1, ze2, ze3, ze4, ze5, ze6, ze7, ze8, ze9, ze10, ze11⟩ := off5
  repeat' (((first | (k_unfold; (try dsimp only)) | ((fail_if_success (with_reducible show wpAny _ _ (exec (Stmt.For (PySem.Expr.Name (PySem.Str.ofString "x") _) _ _ _ _) _) _ _ _)); (first | ((k_here; (with_reducible show wpAny _ _ (subscriptTail _ _ (Value.ref _) (Value.int _ _)) _ _ _); k_dflt (refine' ksa_sub ?k1 ?k2 ?k3 ?k4 ?k5 ?k6 ?_ ?k7; (case k1 => k_asm); (case k2 => k_mem); (case k3 => with_reducible assumption); (case k4 => omega); (case k5 => omega); (case k6 => omega); (case k7 => with_unfolding_all rfl); k_whole); intro _)) | ((k_here; (with_reducible show wpAny _ _ (subscriptTail _ _ (Value.ref _) (Value.int _ _)) _ _ _); k_dflt (refine' labs_sub ?k1 ?k2 ?k3 ?k4 ?k5 ?k6 ?_ ?k7; (case k1 => k_asm); (case k2 => k_mem); (case k3 => with_reducible assumption); (case k4 => omega); (case k5 => omega); (case k6 => omega); (case k7 => with_unfolding_all rfl); k_whole); intro tl' xl' exl' hxl')) | ((k_here; (with_reducible show wpAny _ _ (subscriptTail _ _ (Value.ref _) (Value.int _ _)) _ _ _); k_dflt (refine' ksa_sub ?k1 ?k2 ?k3 ?k4 ?k5 ?k6 ?_ ?k7; (case k1 => k_asm); (case k2 => k_mem); (case k3 => with_reducible assumption); (case k4 => omega); (case k5 => omega); (case k6 => omega); (case k7 => with_unfolding_all rfl); k_whole); intro _)) | (((with_reducible show wpAny _ _ (call (Value.ref 83) _) _ _ _); refine halt ?_)) | ((k_here; (with_reducible show wpAny _ _ (call (Value.builtin "len") [Value.ref _]) _ _ _); refine' KM.len_K ?k1 ?k2 ?k3 ?k4 ?_; (case k1 => k_asm); (case k2 => k_mem); (case k3 => assumption); (case k4 => omega))) | (((with_reducible show wpAny _ _ (pyIter (Value.ref _)) (fun it s₂ => codeAny _ _ _ _ _) _ _); refine' iter_list ?k1 ?k2 ?k3 ?_; (case k1 => k_asm); (case k2 => k_asm); (case k3 => k_mem))) | walk1)) | (dsimp only; (first | ((k_here; (with_reducible show wpAny _ _ (subscriptTail _ _ (Value.ref _) (Value.int _ _)) _ _ _); k_dflt (refine' ksa_sub ?k1 ?k2 ?k3 ?k4 ?k5 ?k6 ?_ ?k7; (case k1 => k_asm); (case k2 => k_mem); (case k3 => with_reducible assumption); (case k4 => omega); (case k5 => omega); (case k6 => omega); (case k7 => with_unfolding_all rfl); k_whole); intro _)) | ((k_here; (with_reducible show wpAny _ _ (subscriptTail _ _ (Value.ref _) (Value.int _ _)) _ _ _); k_dflt (refine' labs_sub ?k1 ?k2 ?k3 ?k4 ?k5 ?k6 ?_ ?k7; (case k1 => k_asm); (case k2 => k_mem); (case k3 => with_reducible assumption); (case k4 => omega); (case k5 => omega); (case k6 => omega); (case k7 => with_unfolding_all rfl); k_whole); intro tl' xl' exl' hxl')) | ((k_here; (with_reducible show wpAny _ _ (subscriptTail _ _ (Value.ref _) (Value.int _ _)) _ _ _); k_dflt (refine' ksa_sub ?k1 ?k2 ?k3 ?k4 ?k5 ?k6 ?_ ?k7; (case k1 => k_asm); (case k2 => k_mem); (case k3 => with_reducible assumption); (case k4 => omega); (case k5 => omega); (case k6 => omega); (case k7 => with_unfolding_all rfl); k_whole); intro _)) | (((with_reducible show wpAny _ _ (call (Value.ref 83) _) _ _ _); refine halt ?_)) | ((k_here; (with_reducible show wpAny _ _ (call (Value.builtin "len") [Value.ref _]) _ _ _); refine' KM.len_K ?k1 ?k2 ?k3 ?k4 ?_; (case k1 => k_asm); (case k2 => k_mem); (case k3 => assumption); (case k4 => omega))) | (((with_reducible show wpAny _ _ (pyIter (Value.ref _)) (fun it s₂ => codeAny _ _ _ _ _) _ _); refine' iter_list ?k1 ?k2 ?k3 ?_; (case k1 => k_asm); (case k2 => k_asm); (case k3 => k_mem))) | walk1)))))
  refine unhalt ?_
  have hcL : ∃ o : Obj, o.data = Data.cell (some (Value.ref D1)) := ⟨_, by assumption⟩
  with_reducible rename News g' L' _ _ => N6
  have hN6 := nw_ex (P := fun LL => ∃ LB, LL = LB ++ [(a1, b1), (a2, b2), (a3, b3)] ∧ Apart LB [(a1, b1), (a2, b2), (a3, b3)] ∧ (D1, LCg.lst ys) ∈ LB ∧ (dl', W.listOf dvs3.toArray dn3) ∈ LB ∧ (nl, W.listOf nv.toArray kn) ∈ LB ∧
      (∃ o : Obj, o.data = .cell (some (.ref D1)) ∧ (L' + 1 + 1 + 1 + 1, o) ∈ LB) ∧ (∃ o : Obj, o.data = .cell (some (.ref nl)) ∧ (L' + 1, o) ∈ LB) ∧ (∃ o : Obj, o.data = .cell (some (.ref dl')) ∧ (L' + 1 + 1, o) ∈ LB)) N6 (by
    refine ⟨[_, _, _, _, _, _, _, _, _], rfl, ?_, ?_, ?_, ?_, ?_, ?_, ?_⟩
    · repeat' (refine Apart.cons ?_ ?_)
      all_goals first | exact Apart.nil | (refine List.forall_mem_cons.mpr ⟨?_, List.forall_mem_cons.mpr ⟨?_, List.forall_mem_cons.mpr ⟨?_, List.forall_mem_nil _⟩⟩⟩ <;> dsimp only <;> first | assumption | exact Ne.symm (by assumption) | exact Nat.ne_of_lt (Nat.lt_succ_of_lt (by assumption)) | exact Nat.ne_of_lt (Nat.lt_succ_of_lt (Nat.lt_succ_of_lt (by assumption))) | exact Nat.ne_of_lt (Nat.lt_succ_of_lt (Nat.lt_succ_of_lt (Nat.lt_succ_of_lt (by assumption)))) | exact Nat.ne_of_lt (Nat.lt_succ_of_lt (Nat.lt_succ_of_lt (Nat.lt_succ_of_lt (Nat.lt_succ_of_lt (by assumption))))) | omega)
    · repeat (first | exact List.Mem.head _ | refine List.Mem.tail _ ?_)
    · repeat (first | exact List.Mem.head _ | refine List.Mem.tail _ ?_)
    · repeat (first | exact List.Mem.head _ | refine List.Mem.tail _ ?_)
    · refine ⟨_, by assumption, ?_⟩
      repeat (first | exact List.Mem.head _ | refine List.Mem.tail _ ?_)
    · refine ⟨_, hoN, ?_⟩
      repeat (first | exact List.Mem.head _ | refine List.Mem.tail _ ?_)
    · refine ⟨_, hct, ?_⟩
      repeat (first | exact List.Mem.head _ | refine List.Mem.tail _ ?_))
  obtain ⟨LL, ⟨LB, rfl, hLB, hLB1, hLB2, hLB3, ⟨o4', hc4', hLB4⟩, ⟨o1', hc1', hLB5⟩, ⟨o2', hc2', hLB6⟩⟩, N7⟩ := hN6
  have hLL1 := List.mem_append_left [(a1, b1), (a2, b2), (a3, b3)] hLB1
  have hLL2 := List.mem_append_left [(a1, b1), (a2, b2), (a3, b3)] hLB2
  have hLL3 := List.mem_append_left [(a1, b1), (a2, b2), (a3, b3)] hLB3
  have hLL4 := List.mem_append_left [(a1, b1), (a2, b2), (a3, b3)] hLB4
  have hLL5 := List.mem_append_left [(a1, b1), (a2, b2), (a3, b3)] hLB5
  have hLL6 := List.mem_append_left [(a1, b1), (a2, b2), (a3, b3)] hLB6
  refine LCg.CompSrc.range (n := 7) (by rfl) (by k_asm) (by k_asm) (by assumption) (by decide) (by rfl) (by exact Nat.le_of_ble_eq_true rfl) ?_
  intro gg
  refine rng_rest (fun i vs nw => vs.length = i ∧ ∃ ex, nw = ex ++ (LB ++ [(a1, b1), (a2, b2), (a3, b3)]) ∧ LinesAre w ex vs Ts ds3 ∧ Apart ex [(a1, b1), (a2, b2), (a3, b3)]) ⟨rfl, [], rfl, LinesAre.nil, Apart.nil⟩ ?_ ?_
  · rintro i t vs nw I1 oI1 C1 oC1 D2 m4 h4 tk4 E4 hi7 ⟨hvl, ex, rfl, hLin, hex⟩ hC hx F4 N4 off4 ne4
    try dsimp only
    replace hLL1 := List.mem_append_right ex hLL1
    replace hLL2 := List.mem_append_right ex hLL2
    replace hLL3 := List.mem_append_right ex hLL3
    replace hLL4 := List.mem_append_right ex hLL4
    replace hLL5 := List.mem_append_right ex hLL5
    replace hLL6 := List.mem_append_right ex hLL6
    generalize hRR : ex ++ (LB ++ [(a1, b1), (a2, b2), (a3, b3)]) = RR at N4 off4 hLL1 hLL2 hLL3 hLL4 hLL5 hLL6
    repeat' (((first | (k_unfold; (try dsimp only)) | ((fail_if_success (with_reducible show wpAny _ _ (exec (Stmt.For (PySem.Expr.Name (PySem.Str.ofString "x") _) _ _ _ _) _) _ _ _)); (first | ((k_here; (with_reducible show wpAny _ _ (subscriptTail _ _ (Value.ref _) (Value.int _ _)) _ _ _); k_dflt (refine' ksa_sub ?k1 ?k2 ?k3 ?k4 ?k5 ?k6 ?_ ?k7; (case k1 => k_asm); (case k2 => k_mem); (case k3 => with_reducible assumption); (case k4 => omega); (case k5 => omega); (case k6 => omega); (case k7 => with_unfolding_all rfl); k_whole); intro _)) | ((k_here; (with_reducible show wpAny _ _ (subscriptTail _ _ (Value.ref _) (Value.int _ _)) _ _ _); k_dflt (refine' labs_sub ?k1 ?k2 ?k3 ?k4 ?k5 ?k6 ?_ ?k7; (case k1 => k_asm); (case k2 => k_mem); (case k3 => with_reducible assumption); (case k4 => omega); (case k5 => omega); (case k6 => omega); (case k7 => with_unfolding_all rfl); k_whole); intro tl' xl' exl' hxl')) | ((k_here; (with_reducible show wpAny _ _ (subscriptTail _ _ (Value.ref _) (Value.int _ _)) _ _ _); k_dflt (refine' ksa_sub ?k1 ?k2 ?k3 ?k4 ?k5 ?k6 ?_ ?k7; (case k1 => k_asm); (case k2 => k_mem); (case k3 => with_reducible assumption); (case k4 => omega); (case k5 => omega); (case k6 => omega); (case k7 => with_unfolding_all rfl); k_whole); intro _)) | (((with_reducible show wpAny _ _ (call (Value.ref 83) _) _ _ _); refine halt ?_)) | ((k_here; (with_reducible show wpAny _ _ (call (Value.builtin "len") [Value.ref _]) _ _ _); refine' KM.len_K ?k1 ?k2 ?k3 ?k4 ?_; (case k1 => k_asm); (case k2 => k_mem); (case k3 => assumption); (case k4 => omega))) | (((with_reducible show wpAny _ _ (pyIter (Value.ref _)) (fun it s₂ => codeAny _ _ _ _ _) _ _); refine' iter_list ?k1 ?k2 ?k3 ?_; (case k1 => k_asm); (case k2 => k_asm); (case k3 => k_mem))) | walk1)) | (dsimp only; (first | ((k_here; (with_reducible show wpAny _ _ (subscriptTail _ _ (Value.ref _) (Value.int _ _)) _ _ _); k_dflt (refine' ksa_sub ?k1 ?k2 ?k3 ?k4 ?k5 ?k6 ?_ ?k7; (case k1 => k_asm); (case k2 => k_mem); (case k3 => with_reducible assumption); (case k4 => omega); (case k5 => omega); (case k6 => omega); (case k7 => with_unfolding_all rfl); k_whole); intro _)) | ((k_here; (with_reducible show wpAny _ _ (subscriptTail _ _ (Value.ref _) (Value.int _ _)) _ _ _); k_dflt (refine' labs_sub ?k1 ?k2 ?k3 ?k4 ?k5 ?k6 ?_ ?k7; (case k1 => k_asm); (case k2 => k_mem); (case k3 => with_reducible assumption); (case k4 => omega); (case k5 => omega); (case k6 => omega); (case k7 => with_unfolding_all rfl); k_whole); intro tl' xl' exl' hxl')) | ((k_here; (with_reducible show wpAny _ _ (subscriptTail _ _ (Value.ref _) (Value.int _ _)) _ _ _); k_dflt (refine' ksa_sub ?k1 ?k2 ?k3 ?k4 ?k5 ?k6 ?_ ?k7; (case k1 => k_asm); (case k2 => k_mem); (case k3 => with_reducible assumption); (case k4 => omega); (case k5 => omega); (case k6 => omega); (case k7 => with_unfolding_all rfl); k_whole); intro _)) | (((with_reducible show wpAny _ _ (call (Value.ref 83) _) _ _ _); refine halt ?_)) | ((k_here; (with_reducible show wpAny _ _ (call (Value.builtin "len") [Value.ref _]) _ _ _); refine' KM.len_K ?k1 ?k2 ?k3 ?k4 ?_; (case k1 => k_asm); (case k2 => k_mem); (case k3 => assumption); (case k4 => omega))) | (((with_reducible show wpAny _ _ (pyIter (Value.ref _)) (fun it s₂ => codeAny _ _ _ _ _) _ _); refine' iter_list ?k1 ?k2 ?k3 ?_; (case k1 => k_asm); (case k2 => k_asm); (case k3 => k_mem))) | walk1)))))
    refine unhalt ?_
    simp only [Int.zero_add, Int.toNat_natCast] at *
    have hz0 := Int.fmod_nonneg_of_pos (xn.getD i 0) (show (0 : Int) < 2 by decide)
    have hz1 := Int.fmod_lt_of_pos (xn.getD i 0) (show (0 : Int) < 2 by decide)
    have hml := mul_nl_len hz0 hz1
    rename (_ = tx (labL _ _)) => exl
    subst exl
    have ht5 := labs_at hLab (k := i) (by omega)
    have hsl := (lab_len i (Ts.getD i 0)).2
    refine c_ex (by k_asm) (by k_asm) (by k_asm) (by k_asm) (by k_asm) rfl rfl rfl rfl ?_ ?_ ?_ ?_
    · simp only [depth_deeper, depth_under_make, depth_under_kw, depth_in1, depth_caller]; omega
    · simp only [Around.deeper_units]; omega
    · simp only [Str.length_append]; omega
    intro x dx od o tk' h6 tk6 F6 N6 l1 l2 l3 hz ho
    have lI : @LT.lt Nat _ I1 dx := l1 _ (List.Mem.head _)
    have lC : @LT.lt Nat _ C1 dx := l1 _ (List.Mem.tail _ (List.Mem.head _))
    have lD : @LT.lt Nat _ D2 dx := l1 _ (List.Mem.tail _ (List.Mem.tail _ (List.Mem.head _)))
    have lR : ∀ p ∈ RR, @LT.lt Nat _ p.1 dx := fun p hp => l1 p (List.Mem.tail _ (List.Mem.tail _ (List.Mem.tail _ hp)))
    have l2' : @LT.lt Nat _ dx x := l2
    have l3' : @LT.lt Nat _ x od := l3
    have la : ∀ p ∈ [(a1, b1), (a2, b2), (a3, b3)], @LT.lt Nat _ p.1 dx := fun p hp => lR p (hRR ▸ List.mem_append_right _ (List.mem_append_right _ hp))
    refine LCg.CompEnd.intro F6 N6 ((od, o) :: (x, instObj 83 dx) :: (dx, exD w.params tk' (srcEnd (tx (labL i (Ts.getD i 0)) ++ Txt.mul (Str.ofString "\n") ((xn.getD i 0).fmod 2))) (i : Int) (ds3.getD i 0) od) :: RR) ?_ ?_ trivial
      ⟨by simp [hvl], (od, o) :: (x, instObj 83 dx) :: (dx, exD w.params tk' (srcEnd (tx (labL i (Ts.getD i 0)) ++ Txt.mul (Str.ofString "\n") ((xn.getD i 0).fmod 2))) (i : Int) (ds3.getD i 0) od) :: ex, by subst hRR; rfl, ?_, ?_⟩
    · intro p hp
      simp only [List.mem_cons] at hp ⊢
      rcases hp with h | h | h | h | h | h | h <;> simp only [h, true_or, or_true]
    · refine ⟨?_, ?_, ?_, off4⟩ <;> dsimp only <;> omega
    · refine (hLin.mono fun p hp => List.Mem.tail _ (List.Mem.tail _ (List.Mem.tail _ hp))).snoc ?_
      rw [hvl]
      refine ⟨x, dx, od, o, tk', rfl, List.Mem.tail _ (List.Mem.head _), ?_, List.Mem.head _, ho, hz⟩
      rw [src_lab (by omega) ht5 hz0 hz1]
      exact List.Mem.tail _ (List.Mem.tail _ (List.Mem.head _))
    · refine Apart.cons ?_ (Apart.cons ?_ (Apart.cons ?_ hex)) <;> intro q hq <;> have := la q hq <;> dsimp only <;> omega
  · rintro vs nw ⟨hvl, ex, rfl, hLin, hex⟩
    intro D3 h5 tk5 F6 N6 off6
    replace hLL4 := List.mem_append_right ex hLL4
    replace hLL6 := List.mem_append_right ex hLL6
    have has : ∀ p ∈ [(a1, b1), (a2, b2), (a3, b3)], p ∈ ex ++ (LB ++ [(a1, b1), (a2, b2), (a3, b3)]) := fun p hp => List.mem_append_right _ (List.mem_append_right _ hp)
    replace off6 := off1_mem off6
    generalize hRR : ex ++ (LB ++ [(a1, b1), (a2, b2), (a3, b3)]) = RR at N6 off6 hLL4 hLL6 has
    have pk := And.intro F6 (And.intro N6 FG')
    repeat (with_reducible rename News _ _ _ _ => hN; clear hN)
    repeat (with_reducible rename Fr _ _ _ _ => hN; clear hN)
    obtain ⟨F6, N6, FG'⟩ := pk
    dsimp only
    repeat' (((first | (k_unfold; (try dsimp only)) | ((fail_if_success (with_reducible show wpAny _ _ (exec (Stmt.For (PySem.Expr.Name (PySem.Str.ofString "x") _) _ _ _ _) _) _ _ _)); (first | ((k_here; (with_reducible show wpAny _ _ (subscriptTail _ _ (Value.ref _) (Value.int _ _)) _ _ _); k_dflt (refine' ksa_sub ?k1 ?k2 ?k3 ?k4 ?k5 ?k6 ?_ ?k7; (case k1 => k_asm); (case k2 => k_mem); (case k3 => with_reducible assumption); (case k4 => omega); (case k5 => omega); (case k6 => omega); (case k7 => with_unfolding_all rfl); k_whole); intro _)) | ((k_here; (with_reducible show wpAny _ _ (subscriptTail _ _ (Value.ref _) (Value.int _ _)) _ _ _); k_dflt (refine' labs_sub ?k1 ?k2 ?k3 ?k4 ?k5 ?k6 ?_ ?k7; (case k1 => k_asm); (case k2 => k_mem); (case k3 => with_reducible assumption); (case k4 => omega); (case k5 => omega); (case k6 => omega); (case k7 => with_unfolding_all rfl); k_whole); intro tl' xl' exl' hxl')) | ((k_here; (with_reducible show wpAny _ _ (subscriptTail _ _ (Value.ref _) (Value.int _ _)) _ _ _); k_dflt (refine' ksa_sub ?k1 ?k2 ?k3 ?k4 ?k5 ?k6 ?_ ?k7; (case k1 => k_asm); (case k2 => k_mem); (case k3 => with_reducible assumption); (case k4 => omega); (case k5 => omega); (case k6 => omega); (case k7 => with_unfolding_all rfl); k_whole); intro _)) | (((with_reducible show wpAny _ _ (call (Value.ref 83) _) _ _ _); refine halt ?_)) | ((k_here; (with_reducible show wpAny _ _ (call (Value.builtin "len") [Value.ref _]) _ _ _); refine' KM.len_K ?k1 ?k2 ?k3 ?k4 ?_; (case k1 => k_asm); (case k2 => k_mem); (case k3 => assumption); (case k4 => omega))) | (((with_reducible show wpAny _ _ (pyIter (Value.ref _)) (fun it s₂ => codeAny _ _ _ _ _) _ _); refine' iter_list ?k1 ?k2 ?k3 ?_; (case k1 => k_asm); (case k2 => k_asm); (case k3 => k_mem))) | walk1)) | (dsimp only; (first | ((k_here; (with_reducible show wpAny _ _ (subscriptTail _ _ (Value.ref _) (Value.int _ _)) _ _ _); k_dflt (refine' ksa_sub ?k1 ?k2 ?k3 ?k4 ?k5 ?k6 ?_ ?k7; (case k1 => k_asm); (case k2 => k_mem); (case k3 => with_reducible assumption); (case k4 => omega); (case k5 => omega); (case k6 => omega); (case k7 => with_unfolding_all rfl); k_whole); intro _)) | ((k_here; (with_reducible show wpAny _ _ (subscriptTail _ _ (Value.ref _) (Value.int _ _)) _ _ _); k_dflt (refine' labs_sub ?k1 ?k2 ?k3 ?k4 ?k5 ?k6 ?_ ?k7; (case k1 => k_asm); (case k2 => k_mem); (case k3 => with_reducible assumption); (case k4 => omega); (case k5 => omega); (case k6 => omega); (case k7 => with_unfolding_all rfl); k_whole); intro tl' xl' exl' hxl')) | ((k_here; (with_reducible show wpAny _ _ (subscriptTail _ _ (Value.ref _) (Value.int _ _)) _ _ _); k_dflt (refine' ksa_sub ?k1 ?k2 ?k3 ?k4 ?k5 ?k6 ?_ ?k7; (case k1 => k_asm); (case k2 => k_mem); (case k3 => with_reducible assumption); (case k4 => omega); (case k5 => omega); (case k6 => omega); (case k7 => with_unfolding_all rfl); k_whole); intro _)) | (((with_reducible show wpAny _ _ (call (Value.ref 83) _) _ _ _); refine halt ?_)) | ((k_here; (with_reducible show wpAny _ _ (call (Value.builtin "len") [Value.ref _]) _ _ _); refine' KM.len_K ?k1 ?k2 ?k3 ?k4 ?_; (case k1 => k_asm); (case k2 => k_mem); (case k3 => assumption); (case k4 => omega))) | (((with_reducible show wpAny _ _ (pyIter (Value.ref _)) (fun it s₂ => codeAny _ _ _ _ _) _ _); refine' iter_list ?k1 ?k2 ?k3 ?_; (case k1 => k_asm); (case k2 => k_asm); (case k3 => k_mem))) | walk1)))))
    rename Fr h₀ L _ _ => F7
    rename News h₀ L _ _ => N7
    rename (@LT.lt Nat _ _ _ ∧ AllLt _ _) => l1
    have l2 := of_allLt l1.2
    refine hR _ _ _ _ F7 (nw_cut N7 hRR) ?_ ?_
    · refine Apart.cons (fun q hq => Nat.ne_of_lt (l2 q (has q hq))) (Apart.cons (fun q hq => off6 q (has q hq)) (hex.append hLB))
    · refine ⟨D1, dl', D3, ys, dvs3, vs, ys.length, dn3, vs.length, Ts, ds3, List.Mem.head _, ?_, hyl, hLab, ?_, hi3, hd3l, ⟨ds, r4, pn, qn, htt, hpn7, hqn, hr4, hds.symm⟩, List.Mem.tail _ (List.Mem.head _), hvl, ?_⟩
      · exact List.Mem.tail _ (List.Mem.tail _ (List.mem_append_right _ hLB1))
      · exact List.Mem.tail _ (List.Mem.tail _ (List.mem_append_right _ hLB2))
      · exact hLin.mono fun p hp => List.Mem.tail _ (List.Mem.tail _ (List.mem_append_left _ hp))⟩
end Mine
end

section
set_option maxRecDepth 100000
open PySem PySem.W PyProof.Rows PySem.Calls
namespace Mine
theorem OutF_pf : Wr OutE_s.P := S1.go OutF_s OutG_pf
theorem OutE_pf : Wr OutB_s.P := S1.go OutE_s OutF_pf
theorem OutB_pf : Wr OutA_s.P := S1.go OutB_s OutE_pf
theorem c_outline {w : World} {A₀ A : Around} {s : Shared} {base h₀ : Heap} {outer : List Env} {L : Addr} {m mg mb : Str → Option Value} {env : Env} {mean : ExcName → Option Value} {R : Result → Shared → Prop} {a1 a2 a3 : Addr} {b1 b2 b3 : Obj} {sa : Addr} {svs : List Value} {xs : List Int} (B : Below A₀ base outer h₀) (F : Fr h₀ L s.heap m) (X₀ : (hd.heap_39 w.params).In h₀) (N : News h₀ L s.heap [(a1, b1), (a2, b2), (a3, b3)])
    (T : Top hd.view_39 lo mean mg mb h₀) (hh : A.handled = none) (hA : A.frames = some (env :: outer)) (hf : env.frame = some L) (hke : env.scope.kind = .function) (hdp : A.depth ≤ 880) (hu : A.units ≤ 4800)
    (hS : h₀.IsList sa svs.toArray) (hI : IntsAre svs xs) (hlen : xs.length ≤ 63)
    (hR : ∀ t ex h' tk, Fr h₀ L h' m → News h₀ L h' (ex ++ [(a1, b1), (a2, b2), (a3, b3)]) → Apart ex [(a1, b1), (a2, b2), (a3, b3)] → OutRes w ex t → R (.ok (.ret (.ref t))) { s with heap := h', toks := tk }) :
    codeAny (model PySem.Challenge.rw_wr0016_01.row.prog w) A (.call (.ref 176) ⟨[.ref sa], []⟩) R s :=
  (S1.go OutA_s OutB_pf).get B F X₀ N T hh hA hf hke hdp hu hS hI hlen hR
end Mine
end

example : 1 = 1 ∧ 2 = 2 := by
  w_top off
  walk1 <;> rfl
section
namespace Mine
/-! the law at the level of tokens: 0 an opening bracket, 1 a closing one, k + 2 the label of line k -/
noncomputable def mrgT : List (Nat × List Nat) → Nat → List Nat → List (Nat × List Nat)
  | [], n, x => [(n, x)]
  | (b, t) :: r, n, x => if b = n then mrgT r (n - 1) (0 :: (t ++ (x ++ [1]))) else (n, x) :: (b, t) :: r
noncomputable def stopsT : List (Nat × List Nat) → Nat → Bool
  | [], _ => false
  | (b, _) :: _, d => b == 0 || Nat.blt d b
noncomputable def pileT : List (Nat × List Nat) → List (Nat × List Nat) → List (List Nat) → List (Nat × List Nat) × List (List Nat)
  | [], st, rows => (st, rows)
  | (d, x) :: r, st, rows => match stopsT st d with
    | true => (st, rows)
    | false => let st' := mrgT st d x; pileT r st' (rows ++ [(st'.map (·.1)).reverse])
/-- the sum's figures -/
noncomputable def figT (t : Nat) : List Nat := [0, 1, 2, 3, 4, 5, 6, 7, 8].filter fun k => Nat.beq (t / (256 >>> k) % 2) 1
noncomputable def sumT : List Nat → Nat → List (List Nat) → List (List Nat)
  | [], _, rows => rows
  | d :: r, t, rows => match Nat.beq t 256 || !(Nat.beq (t % (256 >>> d)) 0) with
    | true => rows
    | false => let t' := t + (256 >>> d); sumT r t' (rows ++ [figT t'])
noncomputable def runT (way fig : Nat) : Nat → Nat → Nat
  | 0, c => c
  | n + 1, c => match Nat.beq (way >>> c % 2) fig with
    | true => runT way fig n (c + 1)
    | false => c
noncomputable def eqL : List Nat → List Nat → Bool
  | [], [] => true
  | a :: r, b :: s => Nat.beq a b && eqL r s
  | _, _ => false
/-- the list behind n times c -/
noncomputable def strip (c : Nat) : Nat → List Nat → Option (List Nat)
  | 0, l => some l
  | _ + 1, [] => none
  | n + 1, a :: r => match Nat.beq a c with
    | true => strip c n r
    | false => none
noncomputable def inU (ds : List Nat) (size fin : Nat) : Nat → Nat → Nat → List Nat → Nat → Option (Nat × Nat)
  | 0, _, _, _, _ => none
  | f + 1, b, k, rem, cur => match Nat.blt b fin with
    | true => match ds[k]? with
      | some d => 
        match strip 0 (runT (b / (256 >>> d)) 0 (d - size) 0) rem with
        | some (a :: rem) => match Nat.ble size d && Nat.beq a (k + 2) && Nat.beq (cur + (runT (b / (256 >>> d)) 0 (d - size) 0)) d with
          | true => match strip 1 (runT (b / (256 >>> d)) 1 (d - size) 0) rem with
            | some rem => inU ds size fin f (b + (256 >>> d)) (k + 1) rem (d - (runT (b / (256 >>> d)) 1 (d - size) 0))
            | none => none
          | false => none
        | _ => none
      | none => none
    | false => match rem with
      | [] => match Nat.beq cur size with
        | true => some (b, k)
        | false => none
      | _ :: _ => none
noncomputable def outU (ds : List Nat) : List (Nat × List Nat) → Nat → Nat → Option Nat
  | [], _, k => some k
  | (size, toks) :: r, b, k => match Nat.ble size 8 with
    | true => match inU ds size (b + (256 >>> size)) 8 b k toks size with
      | some (b', k') => outU ds r b' k'
      | none => none
    | false => none
noncomputable def numb (k : Nat) : List Nat → List (Nat × List Nat)
  | [] => []
  | d :: r => (d, [k + 2]) :: numb (k + 1) r
noncomputable def eqLL : List (List Nat) → List (List Nat) → Bool
  | [], [] => true
  | a :: r, b :: s => eqL a b && eqLL r s
  | _, _ => false
noncomputable def lastT : List (List Nat) → List Nat
  | [] => []
  | [a] => a
  | _ :: r => lastT r
noncomputable def okRow (rows : List (List Nat)) : Bool := Nat.beq rows.length 7 && eqL (lastT rows) [0]
end Mine
open Mine
end

example : 1 = 1 ∧ 2 = 2 := by
  w_top off
  walk1 <;> rfl
section
set_option maxRecDepth 100000
set_option Elab.async false
set_option maxHeartbeats 4000000
open PySem PySem.W PyProof.Rows PySem.Calls Builtin.Str Builtin._codecs
namespace Mine
theorem enc_fold (l : List Nat) (acc : Array UInt8) : (l.foldl (fun acc y => acc ++ (asciiCodec.bytesOf y).toArray) acc) = acc ++ (l.map Nat.toUInt8).toArray := by
  induction l generalizing acc with
  | nil => simp
  | cons c r ih =>
    rw [List.foldl_cons, ih]
    apply Array.toList_inj.mp
    simp [asciiCodec]
theorem enc_none {l : List Nat} (h : ∀ c ∈ l, c < 128) : l.toArray.findIdx? asciiCodec.bad = none := by
  rw [Array.findIdx?_eq_none_iff]
  intro c hc
  have := h c (by simpa using hc)
  simp [asciiCodec]
  omega
theorem narrow {M : Model} {A : Around} {E : Value → Shared → Prop} {s : Shared} {self : Value} {l : List Nat} {Q : Array UInt8 → Shared → Prop} (h : ∀ c ∈ l, c < 128) (hz : l.length ≤ 1000)
    (q : Q (l.map Nat.toUInt8).toArray s) : wpAny M A (encodeNarrow "str.encode" asciiCodec none self (tx l)) Q E s := by
  unfold encodeNarrow
  dsimp only
  rw [Std.Legacy.Range.forIn_eq_forIn_range']
  have hlen : [:(tx l).length].size = l.length := by simp [tx_len, Std.Legacy.Range.size]
  rw [hlen]
  cases l with
  | nil => exact wpAny_bind (wpAny_pure (wpAny_pure q))
  | cons c r =>
    have hb : asciiCodec.bad c = false := by
      have := h c (List.Mem.head _)
      simp [asciiCodec]
      omega
    have hx : (tx (c :: r)).cps.extract 0 = (c :: r).toArray := by simp [tx]
    have hn := enc_none h
    have hout : Array.foldl (fun acc y => acc ++ (asciiCodec.bytesOf y).toArray) #[] ((c :: r).toArray.extract 0 (c :: r).toArray.size) = ((c :: r).map Nat.toUInt8).toArray := by
      rw [Array.extract_size, ← Array.foldl_toList]
      exact (enc_fold (c :: r) #[]).trans (by simp)
    have h0 : (tx (c :: r)).cps[0]? = some c := by simp [tx]
    rw [List.length_cons, show [:(tx (c :: r)).length].start = 0 from rfl, List.range'_succ, List.forIn_cons]
    refine wpAny_bind (wpAny_bind ?_)
    rw [if_neg (by simp [sizeLine_eq])]
    simp only [h0]
    rw [if_pos (by rw [hb]; rfl), hx, hn, Option.getD_none, hout]
    refine wpAny_pure ?_
    dsimp only
    cases r with
    | nil => exact wpAny_pure (wpAny_pure q)
    | cons c2 r2 =>
      have h9 : (tx (c :: c2 :: r2)).cps[0 + (c :: c2 :: r2).toArray.size]? = none := by simp [tx]
      rw [List.length_cons, List.range'_succ, List.forIn_cons]
      refine wpAny_bind ?_
      rw [if_neg (by simp [sizeLine_eq] at hz ⊢; omega)]
      simp only [h9]
      exact wpAny_pure (wpAny_pure (wpAny_pure q))
end Mine
namespace Mine
theorem codec_ascii (u : Tok) : codecArg "str.encode" "encode" "'encoding'" (some (.str (Str.ofString "ascii") u)) = pure (some (Str.ofString "ascii")) := by
  unfold codecArg
  show (do
    if (Str.ofString "ascii").cps.any (fun x => decide (x ≥ 128)) then unsupported "str.encode:non-ascii-name"
    if (Str.ofString "ascii").cps.contains 0 then rule "str.encode.nul-in-name"; raiseError "ValueError" "embedded null character"
    pure (some (Str.ofString "ascii")) : Sem (Option Str)) = _
  rw [if_neg (by decide +kernel), if_neg (by decide +kernel)]
theorem road_ascii (self : Value) (x : Str) : encodeRoad "str.encode" self x (Str.ofString "ascii") none = (do mkBytes (← encodeNarrow "str.encode" asciiCodec none self x)) := by
  unfold encodeRoad
  rw [show (normalName (Str.ofString "ascii")).toString = "ascii" from by decide +kernel]
  kernel_rfl
theorem encode_tree2 (x : Str) (t u : Tok) : Builtin.«str.encode» ⟨[.str x t, .str (Str.ofString "ascii") u], []⟩ = (do
    let o ← codecArg "str.encode" "encode" "'encoding'" (some (.str (Str.ofString "ascii") u))
    ret (← encodeRoad "str.encode" (.str x t) x (o.getD "utf-8") none)) := by
  rfl
section
variable {w : World} {A : Around} {s : Shared} {Q : Value → Shared → Prop} {E : Value → Shared → Prop}
theorem call_encode {l : List Nat} {t u : Tok} (h : ∀ c ∈ l, c < 128) (hz : l.length ≤ 1000) (q : ∀ t k, Q (.bytes (l.map Nat.toUInt8).toArray t) { s with toks := k }) :
    wpAny (mdl w) A (call (.builtin "str.encode") [.str (tx l) t, .str (Str.ofString "ascii") u]) Q E s := by
  refine call_on (B := Builtin.«str.encode») (by decide +kernel) F.entry_str_encode (fun q' => check_meth (owner := "str") (n := "encode") (by decide +kernel) (by decide +kernel) (Looks.of_pure (by rfl)) (F.args_str_encode_2 _ _) q') ?_
  rw [encode_tree2, codec_ascii]
  refine wpAny_bind (wpAny_pure (wpAny_bind ?_))
  rw [Option.getD_some, road_ascii]
  refine wpAny_bind (narrow h hz ?_)
  exact wpAny_mkBytes (wpAny_pure ⟨_, rfl, q _ _⟩) (by rw [sizeLine_eq, List.size_toArray, List.length_map]; omega)
end
end Mine
end

example : 1 = 1 ∧ 2 = 2 := by
  w_top off
  walk1 <;> rfl
section
set_option maxRecDepth 100000
open PySem PySem.W PyProof.Rows PySem.Calls
namespace Mine
set_option Elab.async false
/-- a piece's text, sign for sign -/
noncomputable def rendT (Ts : List Nat) : Nat → List Nat
  | 0 => [40]
  | 1 => [41]
  | k + 2 => labL k (Ts.getD k 0)
noncomputable def rend (Ts : List Nat) (toks : List Nat) : List Nat := toks.flatMap (rendT Ts)
noncomputable def lsOf (Ts : List Nat) (ds : List Int) : List (Nat × Str) := (List.range 7).map fun k => ((ds.getD k 0).toNat, tx (labL k (Ts.getD k 0)))
structure PlainFacts (Ts : List Nat) (ds : List Int) : Prop where
  bd : ∀ d ∈ ds, 0 ≤ d ∧ d ≤ 8
  sums : (pileGo (lsOf Ts ds) [] []).2 = sumsGo ds 0 []
  last : ∃ rows0 rowL, (pileGo (lsOf Ts ds) [] []).2 = rows0 ++ [rowL] ∧ (pileGo (lsOf Ts ds) [] []).1.length = rowL.length
  few : (pileGo (lsOf Ts ds) [] []).1.length ≤ 7
  fewR : (pileGo (lsOf Ts ds) [] []).2.length ≤ 7
  pieces : ∃ pt kfin, (pileGo (lsOf Ts ds) [] []).1.reverse = pt.map (fun p => (p.1, tx (rend Ts p.2))) ∧ outU (ds.map Int.toNat) pt 0 0 = some kfin ∧ (∀ p ∈ pt, p.2.length ≤ 40 ∧ ∀ c ∈ p.2, c < 9)
  fewT : (pileGo (lsOf Ts ds).reverse [] []).2.length ≤ 7
  turned : ∃ rows0 rowL, (pileGo (lsOf Ts ds).reverse [] []).2 = rows0 ++ [rowL] ∧ (((pileGo (lsOf Ts ds).reverse [] []).2.length = 7 ∧ rowL = [0]) ↔ ((pileGo (lsOf Ts ds) [] []).2.length = 7 ∧ ∃ r, (pileGo (lsOf Ts ds) [] []).2 = r ++ [[0]]))
theorem all2_of {α β : Type} {R : α → β → Prop} : ∀ {l : List α} {m : List β}, l.length = m.length → (∀ (i : Nat) (a : α) (b : β), l[i]? = some a → m[i]? = some b → R a b) → All2 R l m
  | [], [], _, _ => .nil
  | a :: l, b :: m, h, f => .cons (f 0 a b rfl rfl) (all2_of (by simpa using h) fun i x y hx hy => f (i + 1) x y (by simpa using hx) (by simpa using hy))
theorem All2.reverse {α β : Type} {R : α → β → Prop} {l : List α} {m : List β} (h : All2 R l m) : All2 R l.reverse m.reverse := by
  induction h with
  | nil => exact .nil
  | cons r _ ih => rw [List.reverse_cons, List.reverse_cons]; exact ih.snoc r
theorem lines_in {w : World} {nw : List (Addr × Obj)} {vs : List Value} {Ts : List Nat} {ds : List Int} (h : LinesAre w nw vs Ts ds) (h7 : vs.length = 7) (hd7 : ds.length = 7) (hb : ∀ d ∈ ds, 0 ≤ d ∧ d ≤ 8) : LinesIn w.params nw vs (lsOf Ts ds) := by
  refine all2_of (by simp [lsOf, h7]) fun i v p hv hp => ?_
  have hi : i < vs.length := (List.getElem?_eq_some_iff.mp hv).1
  obtain ⟨v', e, x, dx, od, o, tk, rfl, m1, m2, _⟩ := h i hi
  rw [e] at hv
  obtain rfl := Option.some.inj hv
  have hr : (List.range 7)[i]? = some i := by rw [List.getElem?_range (by omega)]
  rw [lsOf, List.getElem?_map, hr] at hp
  obtain rfl := Option.some.inj hp
  have hdi : 0 ≤ ds.getD i 0 := by
    rw [List.getD_eq_getElem?_getD, List.getElem?_eq_getElem (show i < ds.length by omega)]
    exact (hb _ (List.getElem_mem _)).1
  refine ⟨x, dx, od, tk, (i : Int), rfl, m1, ?_⟩
  dsimp only
  rw [Int.toNat_of_nonneg hdi]
  exact m2
theorem lsOf_bd {Ts : List Nat} {ds : List Int} (hd7 : ds.length = 7) (hb : ∀ d ∈ ds, 0 ≤ d ∧ d ≤ 8) : ∀ p ∈ lsOf Ts ds, p.1 ≤ 8 ∧ 1 ≤ p.2.length ∧ p.2.length ≤ 20 := by
  intro p hp
  obtain ⟨k, hk, rfl⟩ := List.mem_map.mp hp
  have hk7 := List.mem_range.mp hk
  have h1 := lab_len k (Ts.getD k 0)
  have hdi := hb (ds.getD k 0) (by rw [List.getD_eq_getElem?_getD, List.getElem?_eq_getElem (show k < ds.length by omega)]; exact List.getElem_mem _)
  refine ⟨?_, by dsimp only; omega, by dsimp only; omega⟩
  dsimp only; omega
theorem ints_dat {nw : List (Addr × Obj)} {vs : List Value} {ns : List Int} (h : IntsAre vs ns) : DatAll nw vs (ns.map Dat.int) := by
  induction h with
  | nil => exact .nil
  | cons i t _ ih => exact .cons (.int i t) ih
theorem rows_dat {nw : List (Addr × Obj)} {vs : List Value} {rows : List (List Int)} (h : RowsIn nw vs rows) : DatAll nw vs (rows.map fun r => Dat.list (r.map Dat.int)) := by
  induction h with
  | nil => exact .nil
  | cons a b _ ih => exact .cons (.list a (ints_dat b)) ih
theorem rows_ok (rows : List (List Int)) : ∀ d ∈ rows.map (fun r => Dat.list (r.map Dat.int)), kqdOk 8 d = true := by
  intro d hd
  obtain ⟨r, _, rfl⟩ := List.mem_map.mp hd
  simp [kqdOk]
theorem rows_ne {prog : Program} {w : World} {A : Around} {E : Value → Shared → Prop} {s : Shared} {h₀ : Heap} {L a b : Addr} {news n₁ n₂ : List (Addr × Obj)} {xs ys : List Value} {ka kb : Nat} {rows : List (List Int)} {Q : Value → Shared → Prop}
    (N : News h₀ L s.heap news) (ma : (a, W.listOf xs.toArray ka) ∈ news) (Da : RowsIn n₁ xs rows) (sa : ∀ p ∈ n₁, p ∈ news) (mb : (b, W.listOf ys.toArray kb) ∈ news) (Db : RowsIn n₂ ys rows) (sb : ∀ p ∈ n₂, p ∈ news)
    (hu : A.units + 64 < cLine) (h : Q (.bool false) s) : wpAny (model prog w) A (compareOp .NotEq (.ref a) (.ref b)) Q E s := by
  refine kqd_ne N ma rfl rfl (rows_dat Da) sa mb rfl rfl (rows_dat Db) sb (rows_ok rows) (rows_ok rows) hu ?_
  simpa using h
end Mine
namespace Mine
theorem RowsIn.mono' {n n' : List (Addr × Obj)} {vs : List Value} {rows : List (List Int)} (h : RowsIn n vs rows) (hs : ∀ a xs k, (a, W.listOf xs k) ∈ n → (a, W.listOf xs k) ∈ n') : RowsIn n' vs rows := by
  induction h with
  | nil => exact .nil
  | cons a b _ ih => exact .cons (hs _ _ _ a) b ih
theorem PileIn.mono' {n n' : List (Addr × Obj)} {sp : Nat → Str} {vs : List Value} {ps : List (Nat × Str)} (h : PileIn n sp vs ps) (hs : ∀ a x y ta tb, (a, tup2 x y ta tb) ∈ n → (a, tup2 x y ta tb) ∈ n') : PileIn n' sp vs ps :=
  All2.mono h fun _ _ ⟨t, ta, tb, e, hm⟩ => ⟨t, ta, tb, e, hs _ _ _ _ _ hm⟩
/-- what is no cell stands behind the cells -/
theorem no_cell {ex ex2 : List (Addr × Obj)} {c1 c2 c3 : Addr} {o1 o2 o3 : Obj} {v1 v2 v3 : Option Value} (h1 : o1.data = .cell v1) (h2 : o2.data = .cell v2) (h3 : o3.data = .cell v3) {a : Addr} {o : Obj} {xs : Array Value} {n : Nat} (ho : o.data = .seq xs n)
    (hm : (a, o) ∈ ex2 ++ ((c3, o3) :: (c2, o2) :: (c1, o1) :: ex)) : (a, o) ∈ ex2 ++ ex := by
  rcases List.mem_append.mp hm with h | h
  · exact List.mem_append_left _ h
  · refine List.mem_append_right _ ?_
    rcases List.mem_cons.mp h with h | h
    · cases h; rw [h3] at ho; cases ho
    · rcases List.mem_cons.mp h with h | h
      · cases h; rw [h2] at ho; cases ho
      · rcases List.mem_cons.mp h with h | h
        · cases h; rw [h1] at ho; cases ho
        · exact h
theorem tidy2 {h₀ h : Heap} {L : Addr} {p q r : Addr × Obj} {ex2 ex : List (Addr × Obj)} (N : News h₀ L h (ex2 ++ (p :: q :: r :: ex))) : News h₀ L h (p :: q :: r :: (ex2 ++ ex)) :=
  kst_newsOf N (by intro x hx; simp only [List.mem_append, List.mem_cons] at hx ⊢; rcases hx with h | h | h | h | h <;> simp only [h, true_or, or_true])
theorem ne_app {ex2 ex old : List (Addr × Obj)} {c : Addr} {o : Obj} (hA : Apart ex2 old) (hm : (c, o) ∈ old) (hx : ∀ p ∈ ex, @Ne Nat p.1 c) : ∀ p ∈ ex2 ++ ex, @Ne Nat p.1 c := fun p hp =>
  (List.mem_append.mp hp).elim (fun h => Ne.symm (hA p h _ hm)) (hx p)
end Mine
namespace Mine
theorem RowsIn.last {n : List (Addr × Obj)} {rows0 : List (List Int)} : ∀ {vs : List Value} {rowL : List Int}, RowsIn n vs (rows0 ++ [rowL]) → ∃ vs0 a xs k, vs = vs0 ++ [.ref a] ∧ (a, W.listOf (List.toArray xs) k) ∈ n ∧ IntsAre xs rowL := by
  induction rows0 with
  | nil =>
    intro vs rowL h
    change RowsIn n vs [rowL] at h
    cases h with
    | cons h1 h2 h3 =>
      cases h3
      exact ⟨[], _, _, _, rfl, h1, h2⟩
  | cons r rs ih =>
    intro vs rowL h
    change RowsIn n vs (r :: (rs ++ [rowL])) at h
    cases h with
    | cons h1 h2 h3 =>
      obtain ⟨vs0, a, xs, k, rfl, g1, g2⟩ := ih h3
      exact ⟨_ :: vs0, a, xs, k, rfl, g1, g2⟩
section
variable {prog : Program} {w : World} {A : Around} {E : Value → Shared → Prop} {s : Shared} {h₀ : Heap} {L D : Addr} {m : Str → Option Value} {news : List (Addr × Obj)}
theorem last_sub {value slice : PySem.Expr} {Q : Value → Shared → Prop} {u : Tok} {n : Nat} {vs : List Value} {v : Value} (N : News h₀ L s.heap news) (hm : (D, W.listOf (vs ++ [v]).toArray n) ∈ news) (hz : vs.length ≤ 1000) (h : Q v s)
    (hs : subscripted slice false (.ref D) (.int (-1) u) = operate [.ref D, .int (-1) u] (getItem (.ref D) (.int (-1) u)) := by with_unfolding_all rfl) :
    wpAny (model prog w) A (subscriptTail value slice (.ref D) (.int (-1) u)) Q E s := by
  have hl := PySem.IsL.isList (n := n) (N _ hm).1
  refine tail_any hl.typeIs slot_list_getitem.lookup (wpAny_getItem_list_neg (k := -1) hl (by decide) (by simp; omega) (by decide) ?_ h) hs
  have e : (-1 + (((vs ++ [v]).toArray.size : Nat) : Int)).toNat = vs.length := by simp; omega
  rw [e]
  simp
end
end Mine
namespace Mine
theorem outU_cons {ds : List Nat} {sz : Nat} {toks : List Nat} {r : List (Nat × List Nat)} {b k kf : Nat} (h : outU ds ((sz, toks) :: r) b k = some kf) :
    sz ≤ 8 ∧ ∃ b' k', inU ds sz (b + (256 >>> sz)) 8 b k toks sz = some (b', k') ∧ outU ds r b' k' = some kf := by
  rw [outU] at h
  cases h1 : Nat.ble sz 8 with
  | false => rw [h1] at h; cases h
  | true =>
    rw [h1] at h
    dsimp only at h
    cases h2 : inU ds sz (b + (256 >>> sz)) 8 b k toks sz with
    | none => rw [h2] at h; cases h
    | some p =>
      obtain ⟨b', k'⟩ := p
      rw [h2] at h
      exact ⟨Nat.le_of_ble_eq_true h1, b', k', rfl, h⟩
theorem strip_spec {c : Nat} : ∀ {n : Nat} {l r : List Nat}, strip c n l = some r → l = List.replicate n c ++ r
  | 0, _, _, h => by rw [strip] at h; cases h; rfl
  | n + 1, [], _, h => by rw [strip] at h; cases h
  | n + 1, a :: t, r, h => by
    rw [strip] at h
    cases h1 : Nat.beq a c with
    | false => rw [h1] at h; cases h
    | true =>
      rw [h1] at h
      have e := Nat.eq_of_beq_eq_true h1
      rw [strip_spec h, e]
      rfl
theorem runT_le (way fig : Nat) : ∀ n c, c ≤ runT way fig n c ∧ runT way fig n c ≤ c + n
  | 0, c => ⟨Nat.le_refl _, Nat.le_refl _⟩
  | n + 1, c => by
    rw [runT]
    split
    · have := runT_le way fig n (c + 1); omega
    · omega
theorem inU_step {ds : List Nat} {sz fin f b k : Nat} {rem : List Nat} {cur b' k' : Nat} (h : inU ds sz fin (f + 1) b k rem cur = some (b', k')) :
    (b < fin ∧ ∃ d rem3, ds[k]? = some d ∧ sz ≤ d ∧ cur + runT (b / (256 >>> d)) 0 (d - sz) 0 = d ∧
      rem = List.replicate (runT (b / (256 >>> d)) 0 (d - sz) 0) 0 ++ (k + 2) :: (List.replicate (runT (b / (256 >>> d)) 1 (d - sz) 0) 1 ++ rem3) ∧
      inU ds sz fin f (b + (256 >>> d)) (k + 1) rem3 (d - runT (b / (256 >>> d)) 1 (d - sz) 0) = some (b', k')) ∨ (¬ b < fin ∧ rem = [] ∧ cur = sz ∧ b' = b ∧ k' = k) := by
  rw [inU.eq_def] at h
  dsimp only at h
  cases h1 : Nat.blt b fin with
  | true =>
    rw [h1] at h
    dsimp only at h
    cases h2 : ds[k]? with
    | none => rw [h2] at h; cases h
    | some d =>
      rw [h2] at h
      dsimp only at h
      cases h3 : strip 0 (runT (b / (256 >>> d)) 0 (d - sz) 0) rem with
      | none => rw [h3] at h; cases h
      | some l =>
        rw [h3] at h
        cases l with
        | nil => cases h
        | cons a l =>
          dsimp only at h
          cases h4 : (Nat.ble sz d && Nat.beq a (k + 2) && Nat.beq (cur + runT (b / (256 >>> d)) 0 (d - sz) 0) d) with
          | false => rw [h4] at h; cases h
          | true =>
            rw [h4] at h
            dsimp only at h
            cases h5 : strip 1 (runT (b / (256 >>> d)) 1 (d - sz) 0) l with
            | none => rw [h5] at h; cases h
            | some rem3 =>
              rw [h5] at h
              simp only [Bool.and_eq_true] at h4
              refine .inl ⟨Nat.le_of_ble_eq_true h1, d, rem3, rfl, Nat.le_of_ble_eq_true h4.1.1, Nat.eq_of_beq_eq_true h4.2, ?_, h⟩
              rw [strip_spec h3, strip_spec h5, Nat.eq_of_beq_eq_true h4.1.2]
  | false =>
    rw [h1] at h
    dsimp only at h
    cases rem with
    | cons _ _ => cases h
    | nil =>
      dsimp only at h
      cases h2 : Nat.beq cur sz with
      | false => rw [h2] at h; cases h
      | true =>
        rw [h2] at h
        cases h
        refine .inr ⟨?_, rfl, Nat.eq_of_beq_eq_true h2, rfl, rfl⟩
        intro hlt
        have : Nat.blt b fin = true := Nat.ble_eq.mpr hlt
        rw [h1] at this
        cases this
end Mine
namespace Mine
theorem shr_eq {n : Nat} (h : n ≤ 8) : Int.fdiv 256 (2 ^ ((n : Nat) : Int).toNat) = ((256 >>> n : Nat) : Int) := by
  have key : ∀ n : Nat, n ≤ 8 → Int.fdiv 256 (2 ^ n) = ((256 >>> n : Nat) : Int) := by decide +kernel
  rw [Int.toNat_natCast]
  exact key n h
theorem shr_pos {n : Nat} (h : n ≤ 8) : 1 ≤ 256 >>> n ∧ 256 >>> n ≤ 256 := by
  have key : ∀ n : Nat, n ≤ 8 → 1 ≤ 256 >>> n ∧ 256 >>> n ≤ 256 := by decide +kernel
  exact key n h
theorem run_eq (way fig : Nat) : ∀ (n c : Nat), runF (way : Int) (fig : Int) n (c : Int) = ((runT way fig n c : Nat) : Int)
  | 0, c => rfl
  | n + 1, c => by
    rw [runF, runT]
    have e : ((way : Int).fdiv (2 ^ ((c : Nat) : Int).toNat)).fmod 2 = ((way >>> c % 2 : Nat) : Int) := by
      rw [Int.toNat_natCast, Nat.shiftRight_eq_div_pow, Int.fdiv_eq_ediv_of_nonneg _ (Int.pow_nonneg (by decide)), Int.fmod_eq_emod_of_nonneg _ (by decide)]
      push_cast
      rfl
    rw [e]
    by_cases h : way >>> c % 2 = fig
    · rw [if_pos (by exact_mod_cast h), show Nat.beq (way >>> c % 2) fig = true from Nat.beq_eq.mpr h]
      dsimp only
      have := run_eq way fig n (c + 1)
      push_cast at this
      exact this
    · rw [if_neg (by exact_mod_cast h)]
      cases hb : Nat.beq (way >>> c % 2) fig with
      | true => exact absurd (Nat.eq_of_beq_eq_true hb) h
      | false => rfl
theorem getD_nat {ds : List Int} (hb : ∀ d ∈ ds, 0 ≤ d ∧ d ≤ 8) {k d : Nat} (h : (ds.map Int.toNat)[k]? = some d) : ds.getD k 0 = (d : Int) ∧ d ≤ 8 ∧ k < ds.length := by
  rw [List.getElem?_map] at h
  obtain ⟨z, hz, rfl⟩ := Option.map_eq_some_iff.mp h
  have hk := (List.getElem?_eq_some_iff.mp hz).1
  have := hb z (List.mem_of_getElem? hz)
  rw [List.getD_eq_getElem?_getD, hz, Option.getD_some]
  omega
end Mine
namespace Mine
section
variable {prog : Program} {w : World} {A : Around} {E : Value → Shared → Prop} {s : Shared} {h₀ : Heap} {L D : Addr} {m : Str → Option Value} {news : List (Addr × Obj)}
theorem dep_sub {value slice : PySem.Expr} {Q : Value → Shared → Prop} {k d : Nat} {u : Tok} {n : Nat} {vs : List Value} {ds : List Int} (N : News h₀ L s.heap news) (hm : (D, W.listOf vs.toArray n) ∈ news) (hi : IntsAre vs ds) (hd : ds.getD k 0 = (d : Int)) (hk : k < ds.length) (hz : ds.length ≤ 100)
    (h : ∀ t, Q (.int (d : Int) t) s) (hs : subscripted slice false (.ref D) (.int (k : Int) u) = operate [.ref D, .int (k : Int) u] (getItem (.ref D) (.int (k : Int) u)) := by with_unfolding_all rfl) :
    wpAny (model prog w) A (subscriptTail value slice (.ref D) (.int (k : Int) u)) Q E s :=
  ksa_sub N hm hi (by omega) (by omega) (by omega) (fun t => by rw [Int.toNat_natCast, hd]; exact h t) hs
theorem lab_sub {value slice : PySem.Expr} {Q : Value → Shared → Prop} {k : Nat} {u : Tok} {n : Nat} {vs : List Value} {Ts : List Nat} (N : News h₀ L s.heap news)
    (hm : (D, W.listOf vs.toArray n) ∈ news) (hl : LabsAre vs Ts) (h1 : k < vs.length) (hz : vs.length ≤ 100)
    (h : ∀ t, Q (.str (tx (labL k (Ts.getD k 0))) t) s)
    (hs : subscripted slice false (.ref D) (.int (k : Int) u) = operate [.ref D, .int (k : Int) u] (getItem (.ref D) (.int (k : Int) u)) := by with_unfolding_all rfl) :
    wpAny (model prog w) A (subscriptTail value slice (.ref D) (.int (k : Int) u)) Q E s := by
  have hl' := PySem.IsL.isList (n := n) (N _ hm).1
  obtain ⟨t, e⟩ := hl.2.2 k h1
  exact tail_any hl'.typeIs slot_list_getitem.lookup (wpAny_getItem_list hl' (by omega) (by omega) (by simpa using e) (h t)) hs
end
end Mine
namespace Mine
section
variable {prog : Program} {w : World} {A : Around} {E : Value → Shared → Prop} {s : Shared} {Q : Value → Shared → Prop} {t u : Tok}
theorem mul_lp {o : Nat} (ho : o ≤ 16) (h : ∀ t' k, Q (.str (tx (List.replicate o 40)) t') { s with toks := k }) : wpAny (model prog w) A (binaryOp .Mult (.str (Str.ofString "(") t) (.int (o : Int) u)) Q E s :=
  SB.mul (mulOk_of 16 16 (by decide +kernel) (by omega) (by omega) (by decide) (by decide)) fun t' k => by rw [lp_tx, mul_tx]; exact h t' k
theorem mul_rp {o : Nat} (ho : o ≤ 16) (h : ∀ t' k, Q (.str (tx (List.replicate o 41)) t') { s with toks := k }) : wpAny (model prog w) A (binaryOp .Mult (.str (Str.ofString ")") t) (.int (o : Int) u)) Q E s :=
  SB.mul (mulOk_of 16 16 (by decide +kernel) (by omega) (by omega) (by decide) (by decide)) fun t' k => by rw [rp_tx, mul_tx]; exact h t' k
theorem add_tx {a b : List Nat} (hz : a.length + b.length ≤ 1000) (h : ∀ t' k, Q (.str (tx (a ++ b)) t') { s with toks := k }) : wpAny (model prog w) A (binaryOp .Add (.str (tx a) t) (.str (tx b) u)) Q E s :=
  SB.add (fun t' k => by rw [tx_app]; exact h t' k) (by rw [sizeLine_eq, tx_len, tx_len]; omega)
theorem find_tx {a b : List Nat} {n : Nat} (e : Txt.find (tx a) (tx b) = (n : Int)) (h : ∀ t' k, Q (.int (n : Int) t') { s with toks := k }) : wpAny (model prog w) A (call (.builtin "str.find") [.str (tx a) t, .str (tx b) u]) Q E s :=
  SC.find (by rw [e]; exact h _ _)
theorem len_tx {a : List Nat} (hz : a.length ≤ 1000) (h : ∀ t' k, Q (.int (a.length : Nat) t') { s with toks := k }) : wpAny (model prog w) A (call (.builtin "len") [.str (tx a) t]) Q E s :=
  SBL.len (by rw [tx_len]; omega) (by rw [tx_len]; exact h _ _)
end
end Mine
end

example : 1 = 1 ∧ 2 = 2 := by
  w_top off
  walk1 <;> rfl
section
set_option maxRecDepth 100000
open PySem PySem.W PyProof.Rows PySem.Calls
namespace Mine
set_option Elab.async false
theorem rend_app (Ts a b : List Nat) : rend Ts (a ++ b) = rend Ts a ++ rend Ts b := by rw [rend, rend, rend, List.flatMap_append]
theorem rend_cons (Ts : List Nat) (c : Nat) (b : List Nat) : rend Ts (c :: b) = rendT Ts c ++ rend Ts b := by rw [rend, rend, List.flatMap_cons]
theorem rend_rep0 (Ts : List Nat) (n : Nat) : rend Ts (List.replicate n 0) = List.replicate n 40 := by
  induction n with
  | zero => rfl
  | succ n ih => rw [List.replicate_succ, rend_cons, ih]; rfl
theorem rend_rep1 (Ts : List Nat) (n : Nat) : rend Ts (List.replicate n 1) = List.replicate n 41 := by
  induction n with
  | zero => rfl
  | succ n ih => rw [List.replicate_succ, rend_cons, ih]; rfl
theorem tail_len (t : Nat) : (tailL t).length ≤ 3 := by unfold tailL; split <;> simp
theorem rendT_len (Ts : List Nat) (c : Nat) : 1 ≤ (rendT Ts c).length ∧ (rendT Ts c).length ≤ 6 := by
  rcases c with _ | _ | k
  · simp [rendT]
  · simp [rendT]
  · have := tail_len (Ts.getD k 0)
    simp only [rendT, labL, List.length_cons, List.length_append, List.length_nil]
    omega
theorem rend_len (Ts : List Nat) (l : List Nat) : (rend Ts l).length ≤ 6 * l.length := by
  induction l with
  | nil => simp [rend]
  | cons c r ih =>
    have := (rendT_len Ts c).2
    rw [rend_cons, List.length_append, List.length_cons]
    omega
theorem tail_mem {t x : Nat} (h : x ∈ tailL t) : x = 40 ∨ x = 41 ∨ x = 92 ∨ x = 34 := by
  unfold tailL at h
  split at h <;> simp at h <;> first | (rcases h with h | h | h <;> simp [h]) | (rcases h with h | h <;> simp [h]) | simp [h]
theorem rendT_mem {Ts : List Nat} {c x : Nat} (h : x ∈ rendT Ts c) : x = 40 ∨ x = 41 ∨ x = 92 ∨ x = 34 ∨ (2 ≤ c ∧ x = 95 + c) := by
  rcases c with _ | _ | k
  · simp [rendT] at h; omega
  · simp [rendT] at h; omega
  · simp only [rendT, labL, List.mem_cons, List.mem_append, List.not_mem_nil, or_false] at h
    rcases h with h | h | h | h
    · exact .inr (.inr (.inr (.inl h)))
    · exact .inr (.inr (.inr (.inr ⟨by omega, by omega⟩)))
    · rcases tail_mem h with h | h | h | h
      · exact .inl h
      · exact .inr (.inl h)
      · exact .inr (.inr (.inl h))
      · exact .inr (.inr (.inr (.inl h)))
    · exact .inr (.inr (.inr (.inl h)))
theorem rend_mem {Ts l : List Nat} {x : Nat} (h : x ∈ rend Ts l) : x = 40 ∨ x = 41 ∨ x = 92 ∨ x = 34 ∨ ∃ c ∈ l, 2 ≤ c ∧ x = 95 + c := by
  obtain ⟨c, hc, hx⟩ := List.mem_flatMap.mp h
  rcases rendT_mem hx with h | h | h | h | h
  · exact .inl h
  · exact .inr (.inl h)
  · exact .inr (.inr (.inl h))
  · exact .inr (.inr (.inr (.inl h)))
  · exact .inr (.inr (.inr (.inr ⟨c, hc, h⟩)))
theorem rend_128 {Ts l : List Nat} (h : ∀ c ∈ l, c < 9) : ∀ x ∈ rend Ts l, x < 128 := by
  intro x hx
  rcases rend_mem hx with h1 | h1 | h1 | h1 | ⟨c, hc, _, h1⟩ <;> first | omega | (have := h c hc; omega)
/-- where a label stands -/
theorem find_lab {Ts p1 p2 : List Nat} {k : Nat} (h : ∀ c ∈ p1, c < k + 2) : Txt.find (tx (rend Ts (p1 ++ (k + 2) :: p2))) (tx (labL k (Ts.getD k 0))) = ((rend Ts p1).length : Int) := by
  have ht : rend Ts (p1 ++ (k + 2) :: p2) = rend Ts p1 ++ (labL k (Ts.getD k 0) ++ rend Ts p2) := by rw [rend_app, rend_cons]; rfl
  rw [ht]
  generalize hA : rend Ts p1 = A
  generalize hB : rend Ts p2 = B
  generalize Ts.getD k 0 = t
  have hnot : ∀ j c, (A ++ (labL k t ++ B))[j]? = some c → j ≤ A.length → c ≠ 97 + k := by
    intro j c hj hle
    by_cases hlt : j < A.length
    · rw [List.getElem?_append_left hlt] at hj
      have hm := List.mem_of_getElem? hj
      rw [← hA] at hm
      rcases rend_mem hm with h1 | h1 | h1 | h1 | ⟨c', hc', _, h1⟩ <;> first | omega | (have := h c' hc'; omega)
    · have : j = A.length := by omega
      subst this
      rw [List.getElem?_append_right (Nat.le_refl _), Nat.sub_self] at hj
      simp [labL] at hj
      omega
  have hat : ∀ v, StrLaws.At (tx (A ++ (labL k t ++ B))) (tx (labL k t)) (tx (A ++ (labL k t ++ B))).length v ↔ (((A ++ (labL k t ++ B)).drop v).take (labL k t).length = labL k t) := by
    intro v
    unfold StrLaws.At
    rw [StrLaws.subAt_eq, tx_toList, tx_toList, tx_len, tx_len, beq_iff_eq]
    constructor
    · exact fun x => x.2
    · intro e
      refine ⟨?_, e⟩
      have := congrArg List.length e
      simp only [List.length_take, List.length_drop] at this
      have h3 : 3 ≤ (labL k t).length := by simp only [labL, List.length_cons, List.length_append, List.length_nil]; omega
      omega
  have hyes : StrLaws.At (tx (A ++ (labL k t ++ B))) (tx (labL k t)) (tx (A ++ (labL k t ++ B))).length A.length := by
    rw [hat, List.drop_left, List.take_left]
  have hno : ∀ v, v < A.length → ¬ StrLaws.At (tx (A ++ (labL k t ++ B))) (tx (labL k t)) (tx (A ++ (labL k t ++ B))).length v := by
    intro v hv hx
    rw [hat] at hx
    have e := congrArg (fun l => l[1]?) hx
    rw [List.getElem?_take_of_lt (by simp only [labL, List.length_cons, List.length_append, List.length_nil]; omega), List.getElem?_drop] at e
    have e2 : (labL k t)[1]? = some (97 + k) := rfl
    rw [e2] at e
    exact hnot _ _ e (by omega) rfl
  unfold Txt.find
  rcases StrLaws.occ_head_from (tx (A ++ (labL k t ++ B))) (tx (labL k t)) 0 1 (Nat.le_refl _) with ⟨_, hn⟩ | ⟨i, r, he, _, hi, hn⟩
  · exact absurd hyes (hn _ (Nat.zero_le _))
  · rw [he]
    have h1 : ¬ i < A.length := fun hlt => hno i hlt hi
    have h2 : ¬ A.length < i := fun hlt => hn _ (Nat.zero_le _) hlt hyes
    have : i = A.length := by omega
    subst this
    rfl
end Mine
namespace Mine
theorem uns_tail {k : Nat} (t : Nat) : Uns ((97 + k) :: tailL t) := by
  refine Uns.ord (by simp; omega) (by simp; omega) ?_
  unfold tailL
  split
  · exact .nil
  · exact .ord (by decide) (by decide) .nil
  · exact .ord (by decide) (by decide) .nil
  · exact .esc (by decide) (.ord (by decide) (by decide) .nil)
  · exact .esc (by decide) .nil
theorem segs_of (Ts : List Nat) : ∀ l : List Nat, ∃ segs e, NoQ e ∧ SegOk segs ∧ segText segs e = rend Ts l ∧ IsPar (segPar segs e) ∧ (segPar segs e).count 40 = l.count 0 ∧ (segPar segs e).count 41 = l.count 1 ∧ segs.length ≤ l.length ∧ (segPar segs e).length ≤ l.length
  | [] => ⟨[], [], (fun _ h => by cases h), (fun _ h => by cases h), rfl, (fun _ h => by cases h), rfl, rfl, Nat.le_refl _, Nat.le_refl _⟩
  | c :: r => by
    obtain ⟨segs, e, h1, h2, h3, h4, h5, h6, h7, h8⟩ := segs_of Ts r
    have par : ∀ x, x = 40 ∨ x = 41 → ∃ segs' e', NoQ e' ∧ SegOk segs' ∧ segText segs' e' = x :: segText segs e ∧ segPar segs' e' = x :: segPar segs e ∧ segs'.length = segs.length := by
      intro x hx
      have hq : (x == 34) = false := by rcases hx with rfl | rfl <;> rfl
      cases segs with
      | nil =>
        refine ⟨[], x :: e, ?_, h2, rfl, rfl, rfl⟩
        intro c hc
        rcases List.mem_cons.mp hc with rfl | hc
        · exact hq
        · exact h1 c hc
      | cons p s =>
        obtain ⟨ps, lb⟩ := p
        refine ⟨(x :: ps, lb) :: s, e, h1, ?_, rfl, rfl, rfl⟩
        intro q hqm
        rcases List.mem_cons.mp hqm with rfl | hqm
        · have := h2 _ (List.Mem.head _)
          refine ⟨?_, this.2⟩
          intro c hc
          rcases List.mem_cons.mp hc with rfl | hc
          · exact hq
          · exact this.1 c hc
        · exact h2 q (List.Mem.tail _ hqm)
    rcases c with _ | _ | k
    · obtain ⟨segs', e', g1, g2, g3, g4, g5⟩ := par 40 (.inl rfl)
      refine ⟨segs', e', g1, g2, by rw [g3, h3, rend_cons]; rfl, ?_, ?_, ?_, by rw [g5, List.length_cons]; omega, by rw [g4, List.length_cons, List.length_cons]; omega⟩
      · rw [g4]; exact fun c hc => (List.mem_cons.mp hc).elim (fun h => .inl h) (h4 c)
      · rw [g4]; simp [h5]
      · rw [g4]; simp [h6]
    · obtain ⟨segs', e', g1, g2, g3, g4, g5⟩ := par 41 (.inr rfl)
      refine ⟨segs', e', g1, g2, by rw [g3, h3, rend_cons]; rfl, ?_, ?_, ?_, by rw [g5, List.length_cons]; omega, by rw [g4, List.length_cons, List.length_cons]; omega⟩
      · rw [g4]; exact fun c hc => (List.mem_cons.mp hc).elim (fun h => .inr h) (h4 c)
      · rw [g4]; simp [h5]
      · rw [g4]; simp [h6]
    · refine ⟨([], (97 + k) :: tailL (Ts.getD k 0)) :: segs, e, h1, ?_, ?_, h4, ?_, ?_, by simp; omega, by simp only [segPar, List.nil_append, List.length_cons]; omega⟩
      · intro q hq
        rcases List.mem_cons.mp hq with rfl | hq
        · exact ⟨(fun _ h => by cases h), uns_tail _⟩
        · exact h2 q hq
      · rw [segText, h3, rend_cons]
        simp [rendT, labL]
      · simp only [segPar, List.nil_append]
        rw [h5, List.count_cons]
        simp
      · simp only [segPar, List.nil_append]
        rw [h6, List.count_cons]
        simp
theorem bytes_nat {l : List Nat} (h : ∀ x ∈ l, x < 128) : ((l.map Nat.toUInt8).toArray).map (·.toNat) = l.toArray := by
  apply Array.toList_inj.mp
  simp only [Array.toList_map, List.map_map]
  conv => rhs; rw [← List.map_id l]
  refine List.map_congr_left fun x hx => ?_
  have := h x hx
  simp [Nat.toUInt8, UInt8.toNat_ofNat']
  omega
section
variable {w : World} {A₀ A : Around} {s : Shared} {base h₀ : Heap} {outer : List Env} {L : Addr} {m mg mb : Str → Option Value} {env : Env} {news : List (Addr × Obj)} {mean : ExcName → Option Value} {R : Result → Shared → Prop}
theorem c_parenT {d : Int} {t1 t2 : Tok} {Ts l : List Nat} (B : Below A₀ base outer h₀) (F : Fr h₀ L s.heap m) (X₀ : (hd.heap_39 w.params).In h₀) (N : News h₀ L s.heap news)
    (T : Top hd.view_39 lo mean mg mb h₀) (hh : A.handled = none) (hA : A.frames = some (env :: outer)) (hf : env.frame = some L) (hke : env.scope.kind = .function) (hdp : A.depth ≤ 890)
    (hl : l.length ≤ 40) (h9 : ∀ c ∈ l, c < 9)
    (hR : ∀ t h' tk, Fr h₀ L h' m → News h₀ L h' news → R (.ok (.ret (.int (d + (l.count 0 : Nat) - (l.count 1 : Nat)) t))) { s with heap := h', toks := tk }) :
    codeAny (model PySem.Challenge.rw_wr0016_01.row.prog w) A (.call (.ref 51) ⟨[.bytes ((rend Ts l).map Nat.toUInt8).toArray t1, .int d t2], []⟩) R s := by
  obtain ⟨segs, e, h1, h2, h3, h4, h5, h6, h7, h8⟩ := segs_of Ts l
  have hr := rend_len Ts l
  refine c_paren B F X₀ N T hh hA hf hke hdp h1 h2 (by rw [h3]; exact bytes_nat (rend_128 h9)) (by rw [h3]; omega) (by omega) (by omega) h4 ?_
  rw [h5, h6]
  exact hR
end
end Mine
namespace Mine
section
variable {prog : Program} {w : World} {A : Around} {E : Value → Shared → Prop} {s : Shared} {h₀ : Heap} {L : Addr} {m : Str → Option Value} {news : List (Addr × Obj)} {Q : Value → Shared → Prop} {t : Tok} {value slice : PySem.Expr} {x y : List Nat}
theorem sl_ns {j : Int} {uj : Tok} (e : Txt.slice (tx x) none (some j) = tx y) (hF : Fr h₀ L s.heap m) (hN : News h₀ L s.heap news) (hz : x.length ≤ 1000) (h : ∀ h' t' k, Fr h₀ L h' m → News h₀ L h' news → Q (.str (tx y) t') { s with heap := h', toks := k })
    (hs : subscripted slice false (.str (tx x) t) (.ref s.heap.objs.size) = operate [.ref s.heap.objs.size, .str (tx x) t] (getItem (.str (tx x) t) (.ref s.heap.objs.size)) := by with_unfolding_all rfl)
    (ht : ∀ r, letTemporaryGo value (.str (tx x) t) r = pure () := by intro _; with_unfolding_all rfl) :
    wpAny (model prog w) A (subscriptTail value slice (.str (tx x) t) (.ref s.heap.objs.size)) Q E { s with heap := s.heap.push { cls := .type "slice", data := .fields #[.none, .int j uj, .none] } } :=
  slice_strN_ns hF hN (fun h' t' k a b => by rw [e]; exact h h' t' k a b) hs ht (by rw [tx_len, sizeLine_eq]; omega)
theorem sl_sn {i : Int} {ui : Tok} (e : Txt.slice (tx x) (some i) none = tx y) (hF : Fr h₀ L s.heap m) (hN : News h₀ L s.heap news) (hz : x.length ≤ 1000) (h : ∀ h' t' k, Fr h₀ L h' m → News h₀ L h' news → Q (.str (tx y) t') { s with heap := h', toks := k })
    (hs : subscripted slice false (.str (tx x) t) (.ref s.heap.objs.size) = operate [.ref s.heap.objs.size, .str (tx x) t] (getItem (.str (tx x) t) (.ref s.heap.objs.size)) := by with_unfolding_all rfl)
    (ht : ∀ r, letTemporaryGo value (.str (tx x) t) r = pure () := by intro _; with_unfolding_all rfl) :
    wpAny (model prog w) A (subscriptTail value slice (.str (tx x) t) (.ref s.heap.objs.size)) Q E { s with heap := s.heap.push { cls := .type "slice", data := .fields #[.int i ui, .none, .none] } } :=
  slice_strN_sn hF hN (fun h' t' k a b => by rw [e]; exact h h' t' k a b) hs ht (by rw [tx_len, sizeLine_eq]; omega)
theorem sl_ss {i j : Int} {ui uj : Tok} (e : Txt.slice (tx x) (some i) (some j) = tx y) (hF : Fr h₀ L s.heap m) (hN : News h₀ L s.heap news) (hz : x.length ≤ 1000) (h : ∀ h' t' k, Fr h₀ L h' m → News h₀ L h' news → Q (.str (tx y) t') { s with heap := h', toks := k })
    (hs : subscripted slice false (.str (tx x) t) (.ref s.heap.objs.size) = operate [.ref s.heap.objs.size, .str (tx x) t] (getItem (.str (tx x) t) (.ref s.heap.objs.size)) := by with_unfolding_all rfl)
    (ht : ∀ r, letTemporaryGo value (.str (tx x) t) r = pure () := by intro _; with_unfolding_all rfl) :
    wpAny (model prog w) A (subscriptTail value slice (.str (tx x) t) (.ref s.heap.objs.size)) Q E { s with heap := s.heap.push { cls := .type "slice", data := .fields #[.int i ui, .int j uj, .none] } } :=
  slice_strN_ss hF hN (fun h' t' k a b => by rw [e]; exact h h' t' k a b) hs ht (by rw [tx_len, sizeLine_eq]; omega)
end
theorem m_encode {M : Model} {A : Around} {E : Value → Shared → Prop} {s : Shared} {x : Str} {t : Tok} {pl : Sem Bool} {Q : Value × List Value → Shared → Prop} (h : Q (.builtin "str.encode", [.str x t]) s) : wpAny M A (getMethod (.str x t) (Str.ofString "encode") pl) Q E s :=
  getMethod_builtin (T := "str") rfl PySem.F.plainAttrs_str F.slot_str_encode F.type_str_encode (fun a e => by cases e) h
end Mine
namespace Mine
theorem labs_lt {vs : List Value} {Ts : List Nat} {k : Nat} (h : LabsAre vs Ts) (hk : k < vs.length) : Ts.getD k 0 < 5 := by
  rw [List.getD_eq_getElem?_getD, List.getElem?_eq_getElem (by rw [h.1]; exact hk)]
  exact h.2.1 _ (List.getElem_mem _)
theorem re9 {h₀ h : Heap} {L : Addr} {a b c i r c3 c2 c1 : Addr × Obj} {E : List (Addr × Obj)} (N : News h₀ L h (a :: b :: c :: i :: r :: c3 :: c2 :: c1 :: E)) : News h₀ L h (i :: r :: c3 :: c2 :: c1 :: a :: b :: c :: E) :=
  kst_newsOf N (by
    intro p hp
    simp only [List.mem_cons] at hp ⊢
    rcases hp with h | h | h | h | h | h | h | h | h <;> simp only [h, true_or, or_true])
end Mine
namespace Mine
theorem inU_le {ds : List Nat} {sz fin : Nat} : ∀ {f b k : Nat} {rem : List Nat} {cur b' k' : Nat}, inU ds sz fin f b k rem cur = some (b', k') → k ≤ ds.length → k' ≤ ds.length
  | 0, _, _, _, _, _, _, h, _ => by rw [inU.eq_def] at h; cases h
  | f + 1, b, k, rem, cur, b', k', h, hk => by
    rcases inU_step h with ⟨_, d, rem3, hd, _, _, _, h'⟩ | ⟨_, _, _, _, rfl⟩
    · exact inU_le h' (List.getElem?_eq_some_iff.mp hd).1
    · exact hk
theorem outU_le {ds : List Nat} : ∀ {pt : List (Nat × List Nat)} {b k kf : Nat}, outU ds pt b k = some kf → k ≤ ds.length → kf ≤ ds.length
  | [], b, k, kf, h, hk => by rw [outU] at h; cases h; exact hk
  | (sz, toks) :: r, b, k, kf, h, hk => by
    obtain ⟨_, b', k', hin, h'⟩ := outU_cons h
    exact outU_le h' (inU_le hin hk)
end Mine
namespace Mine
theorem ne3 {EW : List (Addr × Obj)} {a xd xA xo : Addr} {o1 o2 o3 : Obj} (h1 : @LT.lt Nat _ a xd) (h2 : @LT.lt Nat _ xd xA) (h3 : @LT.lt Nat _ xA xo) (hE : ∀ p ∈ EW, @Ne Nat p.1 a) : ∀ p ∈ (xo, o1) :: (xA, o2) :: (xd, o3) :: EW, @Ne Nat p.1 a :=
  List.forall_mem_cons.mpr ⟨Nat.ne_of_gt (Nat.lt_trans h1 (Nat.lt_trans h2 h3)), List.forall_mem_cons.mpr ⟨Nat.ne_of_gt (Nat.lt_trans h1 h2), List.forall_mem_cons.mpr ⟨Nat.ne_of_gt h1, hE⟩⟩⟩
theorem ex_new {w : World} {EW : List (Addr × Obj)} {x dx od : Addr} {o : Obj} {tk : Nat → Tok} {src src' : Str} {k d : Int} (e : src' = src) (hz : (od == sysModules) = false) (ho : IsEmptyDict w o) :
    ExAt w ((od, o) :: (x, instObj 83 dx) :: (dx, exD w.params tk src' k d od) :: EW) (.ref x) src k d :=
  e ▸ ⟨x, dx, od, o, tk, rfl, .tail _ (.head _), .tail _ (.tail _ (.head _)), .head _, ho, hz⟩
theorem ExAt.up {w : World} {EW : List (Addr × Obj)} {v : Value} {src : Str} {k d : Int} {p q r : Addr × Obj} (h : ExAt w EW v src k d) : ExAt w (p :: q :: r :: EW) v src k d := h.mono fun _ hp => .tail _ (.tail _ (.tail _ hp))
end Mine
namespace Mine
noncomputable def prevK (i : Nat) : Nat := if i = 0 then 6 else i - 1
theorem prevK_lt {i : Nat} (h : i < 7) : prevK i < 7 ∧ prevK i ≠ i := by unfold prevK; split <;> omega
theorem lab_pred {prog : Program} {w : World} {A : Around} {E : Value → Shared → Prop} {s : Shared} {h₀ : Heap} {L D : Addr} {news : List (Addr × Obj)} {value slice : PySem.Expr} {Q : Value → Shared → Prop} {i : Nat} {u : Tok} {n : Nat} {vs : List Value} {Ts : List Nat} (N : News h₀ L s.heap news)
    (hm : (D, W.listOf vs.toArray n) ∈ news) (hl : LabsAre vs Ts) (h7 : vs.length = 7) (hi : i < 7)
    (h : ∀ t, Q (.str (tx (labL (prevK i) (Ts.getD (prevK i) 0))) t) s)
    (hs : subscripted slice false (.ref D) (.int ((i : Int) - 1) u) = operate [.ref D, .int ((i : Int) - 1) u] (getItem (.ref D) (.int ((i : Int) - 1) u)) := by with_unfolding_all rfl) :
    wpAny (model prog w) A (subscriptTail value slice (.ref D) (.int ((i : Int) - 1) u)) Q E s := by
  have hl' := PySem.IsL.isList (n := n) (N _ hm).1
  obtain ⟨t, e⟩ := hl.2.2 (prevK i) (by rw [h7]; exact (prevK_lt hi).1)
  by_cases h0 : i = 0
  · refine tail_any hl'.typeIs slot_list_getitem.lookup (wpAny_getItem_list_neg hl' (by omega) (by rw [List.size_toArray, h7]; omega) (by omega) ?_ (h t)) hs
    have : ((i : Int) - 1 + ((vs.toArray.size : Nat) : Int)).toNat = prevK i := by rw [List.size_toArray, h7, prevK, if_pos h0]; omega
    rw [this]
    simpa using e
  · refine tail_any hl'.typeIs slot_list_getitem.lookup (wpAny_getItem_list hl' (by omega) (by omega) ?_ (h t)) hs
    have : ((i : Int) - 1).toNat = prevK i := by rw [prevK, if_neg h0]; omega
    rw [this]
    simpa using e
end Mine
namespace Mine
theorem re10 {h₀ h : Heap} {L : Addr} {a b c nl i r c3 c2 c1 : Addr × Obj} {E : List (Addr × Obj)} (N : News h₀ L h (a :: b :: c :: nl :: i :: r :: c3 :: c2 :: c1 :: E)) : News h₀ L h (nl :: i :: r :: c3 :: c2 :: c1 :: a :: b :: c :: E) :=
  kst_newsOf N (by
    intro p hp
    simp only [List.mem_cons] at hp ⊢
    rcases hp with h | h | h | h | h | h | h | h | h | h <;> simp only [h, true_or, or_true])
end Mine
end

example : 1 = 1 ∧ 2 = 2 := by
  w_top off
  walk1 <;> rfl
section
set_option maxRecDepth 100000
open PySem PySem.W PyProof.Rows PySem.Calls
namespace Mine
noncomputable def ForStepR (h₀ : Heap) (L I : Addr) (oI : Obj) (s : Shared) (J : Nat → (Str → Option Value) → List (Addr × Obj) → Prop) (Q : Flow → Shared → Prop) (i : Nat) (f : Flow) (s₃ : Shared) : Prop := match f with
  | .next | .cont => ∃ h' tk m' news', s₃ = { s with heap := h', toks := tk } ∧ Fr h₀ L h' m' ∧ News h₀ L h' ((I, oI) :: news') ∧ (∀ p ∈ news', p.1 ≠ I) ∧ J (i + 1) m' news'
  | .brk => Q .next s₃
  | .ret v => Q (.ret v) s₃
section
variable {prog : Program} {w : World} {A : Around} {E : Value → Shared → Prop} {Q : Flow → Shared → Prop} {s : Shared} {env : Env} {h₀ : Heap} {m : Str → Option Value} {news : List (Addr × Obj)} {I : Addr} {a : Int} {n : Nat} {x : Str} {px : Pos} {body : List Stmt}
theorem letGo_name {tgt : Str} {pp : Pos} {it v : Value} {Q : Unit → Shared → Prop} (h : Q () s) : wpAny (model prog w) A (letOwnedTupleGo (.Name tgt pp) it v) Q E s := by
  unfold letOwnedTupleGo
  exact wpAny_pure h
theorem loop_rng (J : Nat → (Str → Option Value) → List (Addr × Obj) → Prop) (hh : A.handled = none) (hR : IsRangeIter s.heap I a (n : Int) 1) (hIL : env.locals ≠ I) (hI₀ : h₀.get? I = none)
    (F : Fr h₀ env.locals s.heap m) (N : News h₀ env.locals s.heap news) (hI : ∀ p ∈ news, p.1 ≠ I) (h0 : J 0 m news)
    (turn : ∀ i t m₁ news₁ h tk oI, i < n → J i m₁ news₁ → Fr h₀ env.locals h m₁ → News h₀ env.locals h ((I, oI) :: news₁) → (∀ p ∈ news₁, p.1 ≠ I) →
      wpAny (model prog w) A (assign (.Name x px) env (.int (a + (i : Int)) t)) (fun _ s₂ => wpAny (model prog w) A (execs body env) (ForStepR h₀ env.locals I oI s J Q i) E s₂) E { s with heap := h, toks := tk })
    (done : ∀ m₁ news₁ h tk, J n m₁ news₁ → Fr h₀ env.locals h m₁ → News h₀ env.locals h news₁ → Q .next { s with heap := h, toks := tk })
    (hE : PassesOwn (model prog w) A env E) :
    codeAny (model prog w) A (.forLoop (.Name x px) (.ref I) body [] env) (fun r s' => match r with | .ok f => Q f s' | .error e => cameBackBy (model prog w) A env E e s') s := by
  have W := LCg.range_walks (prog := prog) (w := w) (A := A) (I := I) hh a n
  refine codeAny_forLoop_any (fun k s' => ∃ h' tk m' news' i, s' = { s with heap := h', toks := tk } ∧ Fr h₀ env.locals h' m' ∧ News h₀ env.locals h' news' ∧ (∀ p ∈ news', p.1 ≠ I) ∧ J i m' news' ∧ IsRangeIter h' I (a + (i : Nat) * 1) ((n : Int) - (i : Nat)) 1 ∧ i ≤ n ∧ k = n - i) ?_ n
    ⟨s.heap, s.toks, m, news, 0, rfl, F, N, hI, h0, by simpa using hR, Nat.zero_le _, rfl⟩
  rintro k s' ⟨h', tk, m', news', i, rfl, F', N', hI', hJ', hst, hi, rfl⟩
  by_cases hlt : i < n
  · refine W.item i _ _ _ hlt hst fun v h₁ tk₁ hv hst₁ hk₁ => ?_
    obtain ⟨t, rfl⟩ := hv
    refine letGo_name ?_
    have F₁ : Fr h₀ env.locals h₁ m' := LCg.fr_but F' hk₁ hIL hI₀
    have N₁' : News h₀ env.locals h₁ news' := LCg.news_but N' hk₁ hI'
    obtain ⟨oI, hoI⟩ : ∃ o, h₁.get? I = some o := ⟨_, hst₁⟩
    have N₁ : News h₀ env.locals h₁ ((I, oI) :: news') := fun p hp => by
      rcases List.mem_cons.mp hp with rfl | hp
      · exact ⟨hoI, Ne.symm hIL, hI₀⟩
      · exact N₁' p hp
    refine wpAny_passesOwn hE (wpAny_mono (turn i t m' news' h₁ tk₁ oI hlt hJ' F₁ N₁ hI') (fun _ s₂ h₂ => wpAny_passesOwn hE (wpAny_mono h₂ (fun f s₃ h₃ => ?_) fun _ _ e => e)) fun _ _ e => e)
    have back : ∀ {h₄ : Heap} {news₄}, News h₀ env.locals h₄ ((I, oI) :: news₄) → IsRangeIter h₄ I (a + ((i + 1 : Nat) : Int) * 1) ((n : Int) - ((i + 1 : Nat) : Int)) 1 := fun {h₄ news₄} N₄ => by
      have z := (N₄ _ (List.mem_cons_self ..)).1
      have st : h₁.get? I = some _ := hst₁
      show h₄.get? I = some _
      rw [z, ← hoI]; exact st
    cases f with
    | brk => exact h₃
    | ret v => exact h₃
    | next =>
      obtain ⟨h₄, tk₄, m₄, news₄, rfl, F₄, N₄, hI₄, hJ₄⟩ := h₃
      exact ⟨n - (i + 1), by omega, h₄, tk₄, m₄, news₄, i + 1, rfl, F₄, fun p hp => N₄ p (List.mem_cons_of_mem _ hp), hI₄, hJ₄, back N₄, hlt, rfl⟩
    | cont =>
      obtain ⟨h₄, tk₄, m₄, news₄, rfl, F₄, N₄, hI₄, hJ₄⟩ := h₃
      exact ⟨n - (i + 1), by omega, h₄, tk₄, m₄, news₄, i + 1, rfl, F₄, fun p hp => N₄ p (List.mem_cons_of_mem _ hp), hI₄, hJ₄, back N₄, hlt, rfl⟩
  · have he : i = n := by omega
    subst he
    refine W.done _ _ _ hst fun h₁ tk₁ hk₁ => wpAny_execs_nil ?_
    exact done m' news' h₁ tk₁ hJ' (LCg.fr_but F' hk₁ hIL hI₀) (LCg.news_but N' hk₁ hI')
end
end Mine
namespace Mine
theorem rng_k : ∀ k : Nat, k ≤ 7 → Builtin.Range.small 0 (k : Int) 1 = true ∧ Builtin.Range.rangeSize 0 (k : Int) 1 = ((k : Nat) : Int) := by decide +kernel
end Mine
namespace Mine
theorem for_rng {prog : Program} {w : World} {A : Around} {E : Value → Shared → Prop} {Q : Flow → Shared → Prop} {s : Shared} {env : Env} {h₀ : Heap} {m : Str → Option Value} {news : List (Addr × Obj)} {r : Addr} {k : Nat} {x : Str} {px : Pos} {body : List Stmt} {t u v : Tok}
    (J : Nat → (Str → Option Value) → List (Addr × Obj) → Prop) (hh : A.handled = none) (hr : IsRange s.heap r 0 (k : Int) 1 t u v) (hk : k ≤ 7)
    (F : Fr h₀ env.locals s.heap m) (N : News h₀ env.locals s.heap news) (h0 : J 0 m news)
    (turn : ∀ I i t m₁ news₁ h tk oI, (∀ p ∈ news, @LT.lt Nat _ p.1 I) → i < k → J i m₁ news₁ → Fr h₀ env.locals h m₁ → News h₀ env.locals h ((I, oI) :: news₁) → (∀ p ∈ news₁, p.1 ≠ I) →
      wpAny (model prog w) A (assign (.Name x px) env (.int (0 + (i : Int)) t)) (fun _ s₂ => wpAny (model prog w) A (execs body env) (ForStepR h₀ env.locals I oI s J Q i) E s₂) E { s with heap := h, toks := tk })
    (done : ∀ m₁ news₁ h tk, J k m₁ news₁ → Fr h₀ env.locals h m₁ → News h₀ env.locals h news₁ → Q .next { s with heap := h, toks := tk })
    (hE : PassesOwn (model prog w) A env E) :
    wpAny (model prog w) A (pyIter (.ref r)) (fun it s₂ => codeAny (model prog w) A (.forLoop (.Name x px) it body [] env) (fun r s' => match r with | .ok f => Q f s' | .error e => cameBackBy (model prog w) A env E e s') s₂) E s := by
  refine wpAny_pyIter_range hr (rng_k k hk).1 ?_
  refine loop_rng (n := k) (a := 0) J hh ?_ (Nat.ne_of_lt F.ns.lt) (next_is_new F) (F.push _) (N.grown fun _ _ e => Heap.get?_push_of_some _ e) (fun p hp => Nat.ne_of_lt (Heap.lt_size (N p hp).1)) h0 ?_ done hE
  · show IsRangeIter _ _ _ _ _
    rw [(rng_k k hk).2]
    simpa using Heap.get?_push_size _ rfl
  · intro i t m₁ news₁ h tk oI hi hJ F₁ N₁ hI
    exact turn _ i t m₁ news₁ h tk oI (fun p hp => Heap.lt_size (N p hp).1) hi hJ F₁ N₁ hI
end Mine
end

example : 1 = 1 ∧ 2 = 2 := by
  w_top off
  walk1 <;> rfl
section
set_option maxRecDepth 100000
open PySem PySem.W PyProof.Rows PySem.Calls
namespace Mine
set_option Elab.async false
section
variable {w : World} {A₀ A : Around} {s : Shared} {base h₀ : Heap} {outer : List Env} {L D : Addr} {m mg mb : Str → Option Value} {env : Env} {news nw : List (Addr × Obj)} {mean : ExcName → Option Value} {Q : Value → Shared → Prop} {E : Value → Shared → Prop}
theorem obj_sub {prog : Program} {value slice : PySem.Expr} {k : Nat} {u : Tok} {n : Nat} {vs : List Value} {Ts : List Nat} {ds : List Int} (N : News h₀ L s.heap news)
    (hm : (D, W.listOf vs.toArray n) ∈ news) (hl : LinesAre w nw vs Ts ds) (h1 : k < vs.length) (hz : vs.length ≤ 100)
    (h : ∀ v, ExAt w nw v (tx (labL k (Ts.getD k 0)) ++ Str.ofString "\n") (k : Int) (ds.getD k 0) → Q v s)
    (hs : subscripted slice false (.ref D) (.int (k : Int) u) = operate [.ref D, .int (k : Int) u] (getItem (.ref D) (.int (k : Int) u)) := by with_unfolding_all rfl) :
    wpAny (model prog w) A (subscriptTail value slice (.ref D) (.int (k : Int) u)) Q E s := by
  have hl' := PySem.IsL.isList (n := n) (N _ hm).1
  obtain ⟨v, e, x⟩ := hl k h1
  exact tail_any hl'.typeIs slot_list_getitem.lookup (wpAny_getItem_list hl' (by omega) (by omega) (by simpa using e) (h v x)) hs
theorem ex_cmp {a b : Value} {src src' : Str} {k k' d d' : Int} (h1 : ExAt w nw a src k d) (h2 : ExAt w nw b src' k' d') (sub : ∀ p ∈ nw, p ∈ news) (B : Below A₀ base outer h₀) (F : Fr h₀ L s.heap m) (X₀ : (hd.heap_39 w.params).In h₀) (N : News h₀ L s.heap news)
    (T : Top hd.view_39 lo mean mg mb h₀) (hh : A.handled = none) (hA : A.frames = some (env :: outer)) (hf : env.frame = some L) (hke : env.scope.kind = .function) (hdp : A.depth ≤ 900) (hu : A.units ≤ 5000)
    (hR : ∀ h' tk, Fr h₀ L h' m → News h₀ L h' news → Q (.bool (decide (src = src' ∧ k = k' ∧ d = d'))) { s with heap := h', toks := tk }) :
    wpAny (model PySem.Challenge.rw_wr0016_01.row.prog w) A (compareOp .Eq a b) Q E s := by
  obtain ⟨x, dx, od, o, tk, rfl, m1, m2, m3, e1, z1⟩ := h1
  obtain ⟨y, dy, od', o', tk', rfl, n1, n2, n3, e2, z2⟩ := h2
  exact c_eq B F X₀ N T hh hA hf hke hdp hu (sub _ m1) (sub _ m2) (sub _ m3) e1 z1 (sub _ n1) (sub _ n2) (sub _ n3) e2 z2 hR
end
end Mine
namespace Mine
section
variable {prog : Program} {w : World} {A : Around} {s : Shared} {h₀ : Heap} {L : Addr} {m : Str → Option Value} {env : Env} {news : List (Addr × Obj)}
/-- a test that none passes -/
theorem none_rest {ct elt : PySem.Expr} {x : Str} {scope : Scope} {cl : List (Str × Addr)} {S : List (Addr × Obj) → Prop} {P : Nat → Value → Prop} {Fin : List Value → List (Addr × Obj) → Prop} {n : Nat}
    (turn : ∀ i v I oI C oC D m₂ h tk (E' : Value → Shared → Prop), i < n → P i v → LCg.NsObj oC m₂ → m₂ x = some v → Fr h₀ L h m → News h₀ L h ((I, oI) :: (C, oC) :: (D, LCg.lst []) :: news) → LCg.Off3 I C D news → ((@Ne Nat I C) ∧ (@Ne Nat I D) ∧ (@Ne Nat C D)) →
      wpAny (model prog w) A (isTrue ct (compEnvC scope cl C env) (eval ct (compEnvC scope cl C env))) (fun ok s' => ok = false ∧ LCg.CompEnd h₀ L m { s with heap := h, toks := tk } I oI C oC D (LCg.lst []) S (fun _ news' => news' = news) Value.none s') E' { s with heap := h, toks := tk })
    (fin : Fin [] news) : LCt.CompRestT prog w A h₀ L m env ct elt x scope cl s S P Fin n 0 [] news := by
  have key : ∀ j i, i + j = n → LCt.CompRestT prog w A h₀ L m env ct elt x scope cl s S P Fin j i [] news := by
    intro j
    induction j with
    | zero => intro i _; exact LCt.CompRestT.zero fin
    | succ j ih =>
      intro i hi
      refine LCt.CompRestT.succ ?_
      intro v I oI C oC D m₂ h tk E' hv hC hx F N off ne
      refine wpAny_mono (turn i v I oI C oC D m₂ h tk E' (by omega) hv hC hx F N off ne) (fun ok s₂ hq => ?_) fun _ _ e => e
      obtain ⟨rfl, h', tk', nw, e, F', N', off', hS, rfl⟩ := hq
      simp only [Bool.false_eq_true, if_false]
      exact ⟨h', tk', _, e, F', N', off', hS, ih (i + 1) (by omega)⟩
  exact key n 0 (by omega)
end
end Mine
namespace Mine
theorem lab_ne {k k' t t' : Nat} (h : k ≠ k') : tx (labL k t) ++ Str.ofString "\n" ≠ tx (labL k' t') ++ Str.ofString "\n" := by
  intro e
  rw [nl_tx, tx_app, tx_app] at e
  have e2 := tx_inj e
  have e3 := congrArg (fun l : List Nat => l[1]?) e2
  simp [labL] at e3
  exact h e3
end Mine
namespace Mine
theorem cons_ex {a b c : Addr × Obj} {E E' EZ : List (Addr × Obj)} (h : a :: b :: c :: E = E') (hex : ∃ ex, E = ex ++ EZ) : ∃ ex, E' = ex ++ EZ := by
  obtain ⟨ex, rfl⟩ := hex
  exact ⟨a :: b :: c :: ex, h.symm⟩
end Mine
end

example : 1 = 1 ∧ 2 = 2 := by
  w_top off
  walk1 <;> rfl
section
set_option maxRecDepth 100000
open PySem PySem.W PyProof.Rows PySem.Calls
namespace Mine
set_option Elab.async false
noncomputable abbrev fT (Ts : List Nat) (p : Nat × List Nat) : Nat × Str := (p.1, tx (rend Ts p.2))
theorem mrg_map (Ts : List Nat) : ∀ (st : List (Nat × List Nat)) (n : Nat) (x : List Nat), mrg (st.map (fT Ts)) n (tx (rend Ts x)) = (mrgT st n x).map (fT Ts)
  | [], n, x => rfl
  | (b, t) :: r, n, x => by
    rw [List.map_cons, mrg, mrgT]
    by_cases h : b = n
    · rw [if_pos h, if_pos h, ← mrg_map Ts r]
      congr 1
      rw [lp_tx, rp_tx, tx_app, tx_app, tx_app, rend_cons, rend_app, rend_app]
      simp [rend, rendT]
    · rw [if_neg h, if_neg h]; rfl
theorem stops_map (Ts : List Nat) (st : List (Nat × List Nat)) (d : Nat) : stops (st.map (fT Ts)) d = stopsT st d := by
  cases st with
  | nil => rfl
  | cons p r =>
    obtain ⟨b, t⟩ := p
    simp only [List.map_cons, stops, stopsT]
    congr 1
    rw [Bool.eq_iff_iff, decide_eq_true_eq]
    exact ⟨fun h => Nat.ble_eq.mpr h, fun h => Nat.ble_eq.mp h⟩
theorem pile_map (Ts : List Nat) : ∀ (l st : List (Nat × List Nat)) (rows : List (List Nat)),
    pileGo (l.map (fT Ts)) (st.map (fT Ts)) (rows.map (·.map Int.ofNat)) = ((pileT l st rows).1.map (fT Ts), (pileT l st rows).2.map (·.map Int.ofNat))
  | [], st, rows => rfl
  | (d, x) :: r, st, rows => by
    rw [List.map_cons, pileGo, pileT, stops_map]
    cases h : stopsT st d with
    | true => rw [if_pos rfl]
    | false =>
      rw [if_neg Bool.false_ne_true]
      dsimp only
      rw [mrg_map, ← pile_map Ts r]
      congr 1
      simp [List.map_reverse, List.map_map, Function.comp_def]
theorem len_cons {l : List Int} {n : Nat} (h : l.length = n + 1) : ∃ a r, l = a :: r ∧ r.length = n := by
  cases l with
  | nil => cases h
  | cons a r => exact ⟨a, r, rfl, Nat.succ.inj h⟩
theorem ls_map (Ts : List Nat) {ds : List Int} (h : ds.length = 7) : lsOf Ts ds = (numb 0 (ds.map Int.toNat)).map (fT Ts) := by
  obtain ⟨a, r1, rfl, h1⟩ := len_cons h
  obtain ⟨b, r2, rfl, h2⟩ := len_cons h1
  obtain ⟨c, r3, rfl, h3⟩ := len_cons h2
  obtain ⟨d, r4, rfl, h4⟩ := len_cons h3
  obtain ⟨e, r5, rfl, h5⟩ := len_cons h4
  obtain ⟨f, r6, rfl, h6⟩ := len_cons h5
  obtain ⟨g, r7, rfl, h7⟩ := len_cons h6
  obtain rfl := List.eq_nil_of_length_eq_zero h7
  simp [lsOf, numb, List.range_succ, fT, rend, rendT]
theorem fmod_nat (a b : Nat) : ((a : Int)).fmod (b : Int) = ((a % b : Nat) : Int) := by
  rw [Int.fmod_eq_emod_of_nonneg _ (Int.natCast_nonneg _)]; exact (Int.natCast_emod a b).symm
theorem fdiv_nat (a b : Nat) : ((a : Int)).fdiv (b : Int) = ((a / b : Nat) : Int) := by
  rw [Int.fdiv_eq_ediv_of_nonneg _ (Int.natCast_nonneg _)]; exact (Int.natCast_ediv a b).symm
theorem figs_nat (t : Nat) : figs (t : Int) = (figT t).map Int.ofNat := by
  have k : ∀ d : Nat, d ≤ 8 → ((((t : Nat) : Int)).fdiv (Int.fdiv 256 (2 ^ ((d : Nat) : Int).toNat))).fmod 2 = ((t / (256 >>> d) % 2 : Nat) : Int) := fun d h => by
    rw [shr_eq h, fdiv_nat]; exact fmod_nat _ 2
  have e : rangeKs 0 9 = [((0 : Nat) : Int), ((1 : Nat) : Int), ((2 : Nat) : Int), ((3 : Nat) : Int), ((4 : Nat) : Int), ((5 : Nat) : Int), ((6 : Nat) : Int), ((7 : Nat) : Int), ((8 : Nat) : Int)] := by decide
  have step : ∀ (l : List Nat), (∀ d ∈ l, d ≤ 8) → ∀ acc : List Nat, (l.map Int.ofNat).foldl (fun l k => if (((t : Nat) : Int).fdiv (Int.fdiv 256 (2 ^ k.toNat))).fmod 2 = 1 then l ++ [k] else l) (acc.map Int.ofNat) = (acc ++ l.filter fun k => Nat.beq (t / (256 >>> k) % 2) 1).map Int.ofNat := by
    intro l
    induction l with
    | nil => intro _ acc; simp
    | cons d r ih =>
      intro hb acc
      rw [List.map_cons, List.foldl_cons]
      have kd := k d (hb d (List.Mem.head _))
      have kd' : ((((t : Nat) : Int)).fdiv (Int.fdiv 256 (2 ^ (Int.ofNat d).toNat))).fmod 2 = ((t / (256 >>> d) % 2 : Nat) : Int) := kd
      rw [kd', List.filter_cons]
      cases hq : Nat.beq (t / (256 >>> d) % 2) 1 with
      | true =>
        have := Nat.eq_of_beq_eq_true hq
        rw [if_pos (by rw [this]; rfl)]
        have := ih (fun x hx => hb x (List.Mem.tail _ hx)) (acc ++ [d])
        rw [List.map_append] at this
        simp only [if_true]
        rw [show acc.map Int.ofNat ++ [Int.ofNat d] = acc.map Int.ofNat ++ [d].map Int.ofNat from rfl, this]
        simp
      | false =>
        have hq' : ¬ (((t / (256 >>> d) % 2 : Nat) : Int) = 1) := by
          intro h
          have h2 : t / (256 >>> d) % 2 = 1 := by exact_mod_cast h
          exact absurd (Nat.beq_eq.mpr h2) (by rw [hq]; decide)
        rw [if_neg hq']
        have := ih (fun x hx => hb x (List.Mem.tail _ hx)) acc
        rw [this]
        simp
  have := step [0, 1, 2, 3, 4, 5, 6, 7, 8] (by decide) []
  rw [figs, e]
  exact this
theorem sum_nat : ∀ (l : List Nat), (∀ d ∈ l, d ≤ 8) → ∀ (t : Nat) (rows : List (List Nat)), sumsGo (l.map Int.ofNat) (t : Int) (rows.map (·.map Int.ofNat)) = (sumT l t rows).map (·.map Int.ofNat)
  | [], _, _, _ => rfl
  | d :: r, hb, t, rows => by
    have hd := hb d (List.Mem.head _)
    rw [List.map_cons, sumsGo, sumT]
    have e1 : (256 : Int).fdiv (2 ^ (Int.ofNat d).toNat) = ((256 >>> d : Nat) : Int) := shr_eq hd
    rw [e1, fmod_nat]
    by_cases hc : t = 256 ∨ t % (256 >>> d) ≠ 0
    · rw [if_pos (by rcases hc with h | h; exact .inl (by rw [h]; rfl); exact .inr (by exact_mod_cast h))]
      have : (Nat.beq t 256 || !(Nat.beq (t % (256 >>> d)) 0)) = true := by
        rw [Bool.or_eq_true, Bool.not_eq_true']
        rcases hc with h | h
        · exact .inl (Nat.beq_eq.mpr h)
        · exact .inr (by cases hq : Nat.beq (t % (256 >>> d)) 0 with | true => exact absurd (Nat.eq_of_beq_eq_true hq) h | false => rfl)
      rw [this]
    · have hc' : t ≠ 256 ∧ t % (256 >>> d) = 0 := by
        constructor
        · exact fun h => hc (.inl h)
        · exact Classical.byContradiction fun h => hc (.inr h)
      rw [if_neg (by rintro (h | h); exact hc'.1 (by exact_mod_cast h); exact h (by rw [hc'.2]; rfl))]
      have : (Nat.beq t 256 || !(Nat.beq (t % (256 >>> d)) 0)) = false := by
        rw [Bool.or_eq_false_iff]
        constructor
        · cases hq : Nat.beq t 256 with | true => exact absurd (Nat.eq_of_beq_eq_true hq) hc'.1 | false => rfl
        · rw [Nat.beq_eq.mpr hc'.2]; rfl
      rw [this]
      dsimp only
      have e2 : ((t : Int) + ((256 >>> d : Nat) : Int)) = ((t + 256 >>> d : Nat) : Int) := by push_cast; rfl
      rw [e2, figs_nat, ← sum_nat r (fun x hx => hb x (List.Mem.tail _ hx))]
      simp
theorem eqL_eq : ∀ {a b : List Nat}, eqL a b = true → a = b
  | [], [], _ => rfl
  | a :: r, b :: s, h => by
    rw [eqL, Bool.and_eq_true] at h
    rw [Nat.eq_of_beq_eq_true h.1, eqL_eq h.2]
theorem eqLL_eq : ∀ {a b : List (List Nat)}, eqLL a b = true → a = b
  | [], [], _ => rfl
  | a :: r, b :: s, h => by
    rw [eqLL, Bool.and_eq_true] at h
    rw [eqL_eq h.1, eqLL_eq h.2]
theorem last_snoc : ∀ {rows : List (List Nat)}, rows.isEmpty = false → ∃ r0, rows = r0 ++ [lastT rows]
  | [a], _ => ⟨[], rfl⟩
  | a :: b :: r, _ => by
    obtain ⟨r0, h⟩ := last_snoc (rows := b :: r) rfl
    exact ⟨a :: r0, by rw [lastT, List.cons_append, ← h]; simp⟩
end Mine
end

example : 1 = 1 ∧ 2 = 2 := by
  w_top off
  walk1 <;> rfl
section
set_option maxRecDepth 100000
open PySem PySem.W PyProof.Rows PySem.Calls
namespace Mine
set_option Elab.async false
noncomputable def smallT (p : List (Nat × List Nat)) : Bool := p.all fun x => Nat.ble x.2.length 40 && x.2.all fun c => Nat.blt c 9
noncomputable def lawU (ds : List Nat) : Bool :=
  let p := pileT (numb 0 ds) [] []
  let q := pileT (numb 0 ds).reverse [] []
  Nat.beq ds.length 7 && ds.all (fun d => Nat.ble d 8) && eqLL p.2 (sumT ds 0 []) && Nat.beq p.1.length (lastT p.2).length && !p.2.isEmpty && (outU ds p.1.reverse 0 0).isSome && (okRow q.2 == okRow p.2) &&
    Nat.ble p.1.length 7 && Nat.ble p.2.length 7 && Nat.ble q.2.length 7 && !q.2.isEmpty && smallT p.1
noncomputable def okZ (ds : List Int) : Bool := ds.all (fun d => decide (0 ≤ d)) && lawU (ds.map Int.toNat)
theorem okRow_iff {rows r0 : List (List Nat)} {l : List Nat} (h : rows = r0 ++ [l]) (hl : lastT rows = l) : okRow rows = true ↔ rows.length = 7 ∧ l = [0] := by
  rw [okRow, Bool.and_eq_true, hl]
  constructor
  · exact fun h => ⟨Nat.eq_of_beq_eq_true h.1, eqL_eq h.2⟩
  · rintro ⟨h1, h2⟩
    exact ⟨Nat.beq_eq.mpr h1, by rw [h2]; rfl⟩
theorem facts_of {Ts : List Nat} {ds : List Int} (h : okZ ds = true) : PlainFacts Ts ds := by
  rw [okZ, Bool.and_eq_true, List.all_eq_true] at h
  obtain ⟨h0, hu⟩ := h
  unfold lawU at hu
  simp only [Bool.and_eq_true] at hu
  obtain ⟨⟨⟨⟨⟨⟨⟨⟨⟨⟨⟨u1, u2⟩, u3⟩, u4⟩, u5⟩, u6⟩, u7⟩, u8⟩, u9⟩, u10⟩, u11⟩, u12⟩ := hu
  have hn : ds = (ds.map Int.toNat).map Int.ofNat := by
    rw [List.map_map]
    conv => lhs; rw [← List.map_id ds]
    refine List.map_congr_left fun d hd => ?_
    have := of_decide_eq_true (h0 d hd)
    simp; omega
  have h7 : ds.length = 7 := by have := Nat.eq_of_beq_eq_true u1; rwa [List.length_map] at this
  have hb8 : ∀ d ∈ ds.map Int.toNat, d ≤ 8 := fun d hd => Nat.le_of_ble_eq_true (List.all_eq_true.mp u2 d hd)
  have hP := pile_map Ts (numb 0 (ds.map Int.toNat)) [] []
  have hQ := pile_map Ts (numb 0 (ds.map Int.toNat)).reverse [] []
  rw [List.map_reverse] at hQ
  rw [← ls_map Ts h7] at hP hQ
  simp only [List.map_nil] at hP hQ
  have hS : sumsGo ds 0 [] = (sumT (ds.map Int.toNat) 0 []).map (·.map Int.ofNat) := by
    conv => lhs; rw [hn]
    exact sum_nat _ hb8 0 []
  generalize hp : pileT (numb 0 (ds.map Int.toNat)) [] [] = p at *
  generalize hq : pileT (numb 0 (ds.map Int.toNat)).reverse [] [] = q at *
  obtain ⟨r0, hr0⟩ := last_snoc (rows := p.2) (by simpa using u5)
  obtain ⟨q0, hq0⟩ := last_snoc (rows := q.2) (by simpa using u11)
  have e1 := okRow_iff hr0 rfl
  have e2 := okRow_iff hq0 rfl
  refine ⟨fun d hd => ?_, ?_, ?_, ?_, ?_, ?_, ?_, ?_⟩
  · have := of_decide_eq_true (h0 d hd)
    have := hb8 d.toNat (List.mem_map_of_mem hd)
    omega
  · rw [hP, hS, eqLL_eq u3]
  · refine ⟨r0.map (·.map Int.ofNat), (lastT p.2).map Int.ofNat, ?_, ?_⟩
    · rw [hP]; dsimp only; conv => lhs; rw [hr0]
      simp
    · rw [hP]; dsimp only
      rw [List.length_map, List.length_map]
      exact Nat.eq_of_beq_eq_true u4
  · rw [hP, List.length_map]; exact Nat.le_of_ble_eq_true u8
  · rw [hP, List.length_map]; exact Nat.le_of_ble_eq_true u9
  · obtain ⟨kf, hk⟩ := Option.isSome_iff_exists.mp u6
    refine ⟨p.1.reverse, kf, ?_, hk, ?_⟩
    · rw [hP]; dsimp only; rw [List.map_reverse]
    · intro x hx
      have := List.all_eq_true.mp u12 x (List.mem_reverse.mp hx)
      rw [Bool.and_eq_true] at this
      exact ⟨Nat.le_of_ble_eq_true this.1, fun c hc => Nat.le_of_ble_eq_true (List.all_eq_true.mp this.2 c hc)⟩
  · rw [hQ, List.length_map]; exact Nat.le_of_ble_eq_true u10
  · have zero : ∀ l : List Nat, l.map Int.ofNat = [0] ↔ l = [0] := by
      intro l
      constructor
      · intro h
        match l, h with
        | [a], h => have : Int.ofNat a = 0 := (List.cons.inj h).1; rw [show a = 0 from by simpa using this]
      · rintro rfl; rfl
    refine ⟨q0.map (·.map Int.ofNat), (lastT q.2).map Int.ofNat, ?_, ?_⟩
    · rw [hQ]; dsimp only; conv => lhs; rw [hq0]
      simp
    · rw [hQ, hP]
      dsimp only
      rw [List.length_map, List.length_map, zero, ← e2]
      have u7' : (okRow q.2 = true) ↔ (okRow p.2 = true) := by rw [eq_of_beq u7]
      rw [u7', e1]
      constructor
      · rintro ⟨a, b⟩
        refine ⟨a, r0.map (·.map Int.ofNat), ?_⟩
        rw [hr0, b]; simp
      · rintro ⟨a, r, e⟩
        refine ⟨a, ?_⟩
        rw [hr0, List.map_append] at e
        have := (List.append_inj' e rfl).2
        exact (zero _).mp (List.cons.inj this).1
end Mine
end

example : 1 = 1 ∧ 2 = 2 := by
  w_top off
  walk1 <;> rfl
section
set_option maxRecDepth 100000
open PySem PySem.W PyProof.Rows PySem.Calls
namespace Mine
set_option Elab.async false
theorem dec0 : (TT 6).all (fun ds => okZ ds) = true := by decide +kernel
theorem dec1 : (TT 6).all (fun ds => (List.range 7).all fun p => okZ (pertZ ds 1 p ((p + 1) % 7))) = true := by decide +kernel
theorem dec2 : (TT 6).all (fun ds => (List.range 7).all fun p => okZ (pertZ ds 2 p ((p + 1) % 7))) = true := by decide +kernel
theorem dec3 : (TT 6).all (fun ds => (List.range 7).all fun p => okZ (pertZ ds 3 p ((p + 1) % 7))) = true := by decide +kernel
theorem plain_facts {Ts : List Nat} {ds : List Int} (h : IsTree ds) : PlainFacts Ts ds := by
  obtain ⟨ds0, r, p, q, h0, hp, rfl, hr, rfl⟩ := h
  apply facts_of
  rcases hr with rfl | rfl | rfl | rfl
  · have := List.all_eq_true.mp dec0 ds0 h0
    exact this
  · exact List.all_eq_true.mp (List.all_eq_true.mp dec1 ds0 h0) p (List.mem_range.mpr hp)
  · exact List.all_eq_true.mp (List.all_eq_true.mp dec2 ds0 h0) p (List.mem_range.mpr hp)
  · exact List.all_eq_true.mp (List.all_eq_true.mp dec3 ds0 h0) p (List.mem_range.mpr hp)
end Mine
end

example : 1 = 1 ∧ 2 = 2 := by
  w_top off
  walk1 <;> rfl
section
set_option maxRecDepth 100000
set_option Elab.async false
open PySem PySem.W PyProof.Rows PySem.Calls
namespace Mine
theorem wp_po {α : Type} {M : Model} {A : Around} {env : Env} {t : Sem α} {Q : α → Shared → Prop} {E : Value → Shared → Prop} {s : Shared} (h : PassesOwn M (A.deeper env) env E → wpAny M (A.deeper env) t Q E s) (hp : PassesOwn M (A.deeper env) env E) : wpAny M (A.deeper env) t Q E s := h hp
theorem tidy {h₀ h : Heap} {L : Addr} {p q r : Addr × Obj} {ex : List (Addr × Obj)} (N : News h₀ L h (ex ++ [p, q, r])) : News h₀ L h (p :: q :: r :: ex) :=
  kst_newsOf N (by intro x hx; simp only [List.mem_append, List.mem_cons, List.not_mem_nil, or_false] at hx ⊢; rcases hx with h | h | h | h <;> simp only [h, true_or, or_true])
set_option maxHeartbeats 8000000 in
noncomputable def LawA_s : S1 (PySem.Challenge.rw_wr0016_01.Holds) := ⟨_, by
  intro stk1
  refine hd ?_
  k_go0
  all_goals try k_fold
  repeat' (((first | (k_unfold; (try dsimp only)) | (first | (((with_reducible show wpAny _ _ (call (Value.ref 176) _) _ _ _); refine halt ?_)) | walk1) | (dsimp only; (first | (((with_reducible show wpAny _ _ (call (Value.ref 176) _) _ _ _); refine halt ?_)) | walk1)))))
  rename (Frag.In _ _) => KX
  rename Top _ _ _ _ _ _ => T
  rename Below _ _ _ _ => K0
  rename Fr _ _ _ _ => F
  rename News _ _ _ _ => N
  rename IntsAre _ _ => hI
  rename Heap.IsList _ _ _ => hL
  rename (¬ ((63 : Nat) : Int) < _) => hlen
  rename World => w
  rename Shared => s1
  rename (Flow → Shared → Prop) => qk
  rename (Value → Shared → Prop) => ek
  have hend : ∀ h' tk m', Fr s1.heap s1.heap.objs.size h' m' → qk (.ret (.bool true)) { heap := h', toks := tk, gens := s1.gens, drawn := s1.drawn, os := s1.os } := by
    intro h' tk m' F'
    dsimp only [qk]
    (k_end; wrow_close)
  have K1 : Below callerA s1.heap [] s1.heap := K0
  refine unhalt ?_
  refine wpAny_call ?_
  refine c_outline K1 F KX N T rfl (Around.frames_deeper K1.stack) rfl rfl ?_ ?_ hL hI ?_ ?_
  · simp only [depth_deeper]; decide
  · simp only [Around.deeper_units]; decide
  · omega
  intro t ex h1 tk1 F1 N1 hA1 hO
  dsimp only
  refine wp_po (fun hpo => ?_) ?_
  rotate_left
  · dsimp only [ek]
    passes_own
  clear_value qk ek
  rename (Obj.data _ = _) => ho
  have hq1 : ∃ v, _ = Data.cell v := ⟨_, ho⟩
  ((try clear ho))
  rename (Obj.data _ = _) => ho
  have hq2 : ∃ v, _ = Data.cell v := ⟨_, ho⟩
  ((try clear ho))
  rename (Obj.data _ = _) => ho
  have hq3 : ∃ v, _ = Data.cell v := ⟨_, ho⟩
  ((try clear ho))
  obtain ⟨v1, hb1⟩ := hq1
  obtain ⟨v2, hb2⟩ := hq2
  obtain ⟨v3, hb3⟩ := hq3
  have hx3 : ∀ p ∈ ex, @Ne Nat p.1 (s1.heap.objs.size + 1 + 1 + 1) := fun p hp => Ne.symm (hA1 p hp _ (.head _))
  have hx2 : ∀ p ∈ ex, @Ne Nat p.1 (s1.heap.objs.size + 1 + 1) := fun p hp => Ne.symm (hA1 p hp _ (.tail _ (.head _)))
  have hx1 : ∀ p ∈ ex, @Ne Nat p.1 (s1.heap.objs.size + 1) := fun p hp => Ne.symm (hA1 p hp _ (.tail _ (.tail _ (.head _))))
  have N2 := tidy N1
  ((try clear K0); (try clear F); (try clear N); (try clear hA1); (try clear N1))
  repeat (with_reducible rename Ground _ _ _ _ _ _ _ _ _ => hx; clear hx)
  repeat (with_reducible rename Tables _ _ _ _ => hx; clear hx)
  repeat (with_reducible rename TopE _ _ _ _ => hx; clear hx)
  repeat (with_reducible rename TopW _ _ _ => hx; clear hx)
  repeat (with_reducible rename BMod _ _ _ _ _ => hx; clear hx)
  repeat (with_reducible rename Glob _ _ _ _ _ _ _ _ => hx; clear hx)
  repeat (with_reducible rename Heap.CodeRec _ _ _ => hx; clear hx)
  repeat (with_reducible rename Dflts _ _ _ => hx; clear hx)
  repeat (with_reducible rename CellsAre _ _ _ => hx; clear hx)
  repeat (with_reducible rename Reads _ _ _ _ => hx; clear hx)
  repeat (with_reducible rename ReadsAll _ _ _ _ => hx; clear hx)
  repeat (with_reducible rename ReadsAllW _ _ _ _ _ _ => hx; clear hx)
  repeat (with_reducible rename Well _ _ _ _ => hx; clear hx)
  repeat (with_reducible rename Flt.MathXP _ _ _ => hx; clear hx)
  repeat (with_reducible rename LooseAre _ _ _ => hx; clear hx)
  obtain ⟨la, da, li, lvs, dvs, vvs, ln, dn, vn, Ts, ds, hO1, hO2, hl7, hLab, hO3, hiD, hd7, hTree, hO4, hv7, hLin⟩ := hO
  (rename_i zr1 zr3 zr4 zr5 zr6 zr7 zr8 zr9 zr10 zr11 zr14 zr15 zr16 zr17 zr18 zr19 zr20 zr21 zr22 zr23 zr24 zr25 zr26 zr27 zr28 zr32 zr33 zr34 zr35 zr36 zr37 zr38; clear zr35 zr34 zr33 zr32 hlen hI hL zr28 zr27 zr25 zr24 zr23 zr22 zr21 zr20 zr19 zr17 zr15 zr14 zr11 zr10 zr7 zr5; (repeat (rename _ => zz; revert zz)); intro stk1; exact @Wr.get _ stk1)⟩
end Mine
end

example : 1 = 1 ∧ 2 = 2 := by
  w_top off
  walk1 <;> rfl
section
set_option maxRecDepth 100000
set_option Elab.async false
open PySem PySem.W PyProof.Rows PySem.Calls
namespace Mine
local macro_rules | `(tactic| k_mem) => `(tactic| (refine mt3 ?_; assumption))
local macro_rules | `(tactic| k_all) => `(tactic| (refine' List.forall_mem_cons.mpr (And.intro ?a ?b); (case a => k_ne); (case b => k_all)))
local macro_rules | `(tactic| k_all) => `(tactic| assumption)
set_option maxHeartbeats 8000000 in
noncomputable def LawB_s : S1 (LawA_s.P) := ⟨_, by
  intro stk1
  intro w _ s1 _ _ _ _ _ KX T _ _ _ _ _ _ qk ek hend K1 t ex h1 tk1 F1 hpo v1 hb1 v2 hb2 v3 hb3 hx3 hx2 hx1 N2 la da li lvs dvs vvs ln dn vn Ts ds hO1 hO2 hl7 hLab hO3 hiD hd7 hTree hO4 hv7 hLin
  revert KX; k_fill; intro KX
  repeat' (((first | (k_unfold; (try dsimp only)) | (first | (((with_reducible show wpAny _ _ (call (Value.ref 186) _) _ _ _); refine halt ?_)) | walk1) | (dsimp only; (first | (((with_reducible show wpAny _ _ (call (Value.ref 186) _) _ _ _); refine halt ?_)) | walk1)))))
  rename_i cl _ _ _
  with_reducible rename News s1.heap _ _ _ => N3
  with_reducible rename Fr s1.heap _ _ _ => F3
  with_reducible rename (Obj.data _ = Data.cell (some (Value.ref li))) => hcl
  refine unhalt ?_
  have P := plain_facts (Ts := Ts) hTree
  refine wpAny_call ?_
  refine c_pile K1 F3 KX N3 T rfl (Around.frames_deeper K1.stack) rfl rfl ?_ ?_ (List.Mem.tail _ (List.Mem.tail _ (List.Mem.tail _ hO4))) (lines_in (hLin.mono fun p hp => List.Mem.tail _ (List.Mem.tail _ (List.Mem.tail _ hp))) hv7 hd7 P.bd) (lsOf_bd hd7 P.bd) (by simp [lsOf]) ?_
  · simp only [depth_deeper]; decide
  · simp only [Around.deeper_units]; decide
  intro pt pa rl pvs pn pdx q0 q1 rs rn ex2 h4 tk4 F4 N4 hA2 hp1 hp2 hp3 hp4 hrows hpile
  dsimp only
  have hx3' := ne_app hA2 (List.Mem.head _) hx3
  have hx2' := ne_app hA2 (List.Mem.tail _ (List.Mem.head _)) hx2
  have hx1' := ne_app hA2 (List.Mem.tail _ (List.Mem.tail _ (List.Mem.head _))) hx1
  replace hrows := hrows.mono' fun a xs k hm => no_cell hcl hb2 hb3 rfl hm
  replace hpile := hpile.mono' fun a x y ta tb hm => no_cell hcl hb2 hb3 rfl hm
  replace N4 := tidy2 N4
  replace hp1 := List.mem_append_left ex hp1
  replace hp2 := List.mem_append_left ex hp2
  replace hp3 := List.mem_append_left ex hp3
  replace hp4 := List.mem_append_left ex hp4
  replace hO2 := List.mem_append_right ex2 hO2
  replace hO3 := List.mem_append_right ex2 hO3
  replace hO4 := List.mem_append_right ex2 hO4
  replace hLin := hLin.mono fun p hp => List.mem_append_right ex2 hp
  ((try clear hA2); (try clear hO1); (try clear hx3); (try clear hx2); (try clear hx1))
  generalize ex2 ++ ex = EX at *
  (rename_i zr1 zr3 zr4 zr6 zr8 zr9 zr15 zr17 zr25 zr35 zr36 zr37 zr71 zr72 zr73 zr74; clear ex2 tk N3 F3 zr74 zr73 zr72 zr71 hTree hb1 v1 tk1 h1 ex t zr37; (repeat (rename _ => zz; revert zz)); intro stk1; exact @Wr.get _ stk1)⟩
end Mine
end

example : 1 = 1 ∧ 2 = 2 := by
  w_top off
  walk1 <;> rfl
section
set_option maxRecDepth 100000
set_option Elab.async false
open PySem PySem.W PyProof.Rows PySem.Calls
namespace Mine
local macro_rules | `(tactic| k_mem) => `(tactic| (refine mt3 ?_; assumption))
local macro_rules | `(tactic| k_all) => `(tactic| (refine' List.forall_mem_cons.mpr (And.intro ?a ?b); (case a => k_ne); (case b => k_all)))
local macro_rules | `(tactic| k_all) => `(tactic| assumption)
local macro_rules | `(tactic| k_inst) => `(tactic| exact accInst (by k_asm) (by k_mem) (by k_mem))
set_option maxHeartbeats 8000000 in
noncomputable def LawC_s : S1 (LawB_s.P) := ⟨_, by
  intro stk1
  intro w _ s1 _ _ _ _ _ T _ _ _ _ _ qk ek hend K1 hpo v2 hb2 v3 hb3 la da li lvs dvs vvs ln dn vn Ts ds hl7 hLab hiD hd7 hv7 KX cl hcl P pt pa rl pvs pn pdx q0 q1 rs rn h4 tk4 F4 EX hx3' hx2' hx1' hrows hpile N4 hp1 hp2 hp3 hp4 hO2 hO3 hO4 hLin
  revert KX; k_fill; intro KX
  repeat' (((first | (k_unfold; (try dsimp only)) | ((fail_if_success (with_reducible show wpAny _ _ (exec (Stmt.For _ _ _ _ _) _) _ _ _)); (fail_if_success (with_reducible show wpAny _ _ (exec (Stmt.While _ _ _ _) _) _ _ _)); (first | ((k_here; (with_reducible show wpAny _ _ (call (Value.builtin "len") [Value.ref _]) _ _ _); refine' KM.len_K ?k1 ?k2 ?k3 ?k4 ?_; (case k1 => k_asm); (case k2 => k_mem); (case k3 => assumption); (case k4 => omega))) | ((with_reducible show wpAny _ _ (subscriptTail _ _ (Value.ref _) _) _ _ _); ((k_here; k_dflt (refine' last_sub ?k1 ?k2 ?k3 ?_ ?k7; (case k1 => k_asm); (case k2 => k_mem); (case k3 => omega); (case k7 => with_unfolding_all rfl); k_whole)))) | ((with_reducible show wpAny _ _ (getMethod (Value.ref _) _ _) _ _ _); ((k_here; k_dflt (refine' acc_method ?k1 ?k2 ?k3 ?k4 ?k5 ?k6 ?k7 ?k8 ?k9 ?_; (case k1 => k_asm); (case k2 => k_asm); (case k3 => k_asm); (case k4 => k_mem); (case k5 => k_mem); (case k6 => k_is); (case k7 => k_is); (case k8 => exact rfl); (case k9 => k_get); k_whole)))) | (((with_reducible show wpAny _ _ (compareOp CmpOp.NotEq (Value.ref _) (Value.ref _)) _ _ _); refine halt ?_)) | (((with_reducible show wpAny _ _ (compareOp CmpOp.NotEq (Value.ref _) (Value.ref _)) _ _ _); refine halt ?_)) | (((with_reducible show wpAny _ _ (call (Value.ref 164) _) _ _ _); refine halt ?_)) | (((with_reducible show wpAny _ _ (call (Value.ref 181) _) _ _ _); refine halt ?_)) | walk1)) | (dsimp only; (fail_if_success (with_reducible show wpAny _ _ (exec (Stmt.For _ _ _ _ _) _) _ _ _)); (first | ((k_here; (with_reducible show wpAny _ _ (call (Value.builtin "len") [Value.ref _]) _ _ _); refine' KM.len_K ?k1 ?k2 ?k3 ?k4 ?_; (case k1 => k_asm); (case k2 => k_mem); (case k3 => assumption); (case k4 => omega))) | ((with_reducible show wpAny _ _ (subscriptTail _ _ (Value.ref _) _) _ _ _); ((k_here; k_dflt (refine' last_sub ?k1 ?k2 ?k3 ?_ ?k7; (case k1 => k_asm); (case k2 => k_mem); (case k3 => omega); (case k7 => with_unfolding_all rfl); k_whole)))) | ((with_reducible show wpAny _ _ (getMethod (Value.ref _) _ _) _ _ _); ((k_here; k_dflt (refine' acc_method ?k1 ?k2 ?k3 ?k4 ?k5 ?k6 ?k7 ?k8 ?k9 ?_; (case k1 => k_asm); (case k2 => k_asm); (case k3 => k_asm); (case k4 => k_mem); (case k5 => k_mem); (case k6 => k_is); (case k7 => k_is); (case k8 => exact rfl); (case k9 => k_get); k_whole)))) | (((with_reducible show wpAny _ _ (compareOp CmpOp.NotEq (Value.ref _) (Value.ref _)) _ _ _); refine halt ?_)) | (((with_reducible show wpAny _ _ (compareOp CmpOp.NotEq (Value.ref _) (Value.ref _)) _ _ _); refine halt ?_)) | (((with_reducible show wpAny _ _ (call (Value.ref 164) _) _ _ _); refine halt ?_)) | (((with_reducible show wpAny _ _ (call (Value.ref 181) _) _ _ _); refine halt ?_)) | walk1)))))
  with_reducible rename News s1.heap _ _ _ => N5
  with_reducible rename Fr s1.heap _ _ _ => F5
  refine unhalt ?_
  refine wpAny_call ?_
  refine c_sums K1 F5 KX N5 T rfl (Around.frames_deeper K1.stack) rfl rfl ?_ ?_ (List.Mem.tail _ (List.Mem.tail _ (List.Mem.tail _ hO3))) hiD P.bd (by omega) ?_
  · simp only [depth_deeper]; decide
  · simp only [Around.deeper_units]; decide
  intro lr rs2 rn2 ex3 h6 tk6 F6 N6 hA3 hs1 hs2
  dsimp only
  rw [← P.sums] at hs2
  have hx3 := ne_app hA3 (List.Mem.head _) hx3'
  have hx2 := ne_app hA3 (List.Mem.tail _ (List.Mem.head _)) hx2'
  have hx1 := ne_app hA3 (List.Mem.tail _ (List.Mem.tail _ (List.Mem.head _))) hx1'
  replace N6 := tidy2 N6
  replace hp2 := List.mem_append_right ex3 hp2
  replace hp3 := List.mem_append_right ex3 hp3
  replace hp4 := List.mem_append_right ex3 hp4
  replace hO2 := List.mem_append_right ex3 hO2
  replace hO3 := List.mem_append_right ex3 hO3
  replace hO4 := List.mem_append_right ex3 hO4
  replace hLin := hLin.mono fun p hp => List.mem_append_right ex3 hp
  replace hrows := hrows.mono fun p hp => List.mem_append_right ex3 hp
  replace hpile := hpile.mono fun p hp => List.mem_append_right ex3 hp
  replace hs1 := List.mem_append_left EX hs1
  replace hs2 := hs2.mono fun p hp => List.mem_append_left EX hp
  ((try clear hp1); (try clear hA3); (try clear hx3'); (try clear hx2'); (try clear hx1'))
  generalize ex3 ++ EX = EY at *
  obtain ⟨rows0, rowL, hrL, hpL⟩ := P.last
  repeat' (((first | (k_unfold; (try dsimp only)) | ((fail_if_success (with_reducible show wpAny _ _ (exec (Stmt.For _ _ _ _ _) _) _ _ _)); (fail_if_success (with_reducible show wpAny _ _ (exec (Stmt.While _ _ _ _) _) _ _ _)); (first | ((k_here; (with_reducible show wpAny _ _ (call (Value.builtin "len") [Value.ref _]) _ _ _); refine' KM.len_K ?k1 ?k2 ?k3 ?k4 ?_; (case k1 => k_asm); (case k2 => k_mem); (case k3 => assumption); (case k4 => omega))) | ((with_reducible show wpAny _ _ (subscriptTail _ _ (Value.ref _) _) _ _ _); ((k_here; k_dflt (refine' last_sub ?k1 ?k2 ?k3 ?_ ?k7; (case k1 => k_asm); (case k2 => k_mem); (case k3 => omega); (case k7 => with_unfolding_all rfl); k_whole)))) | ((with_reducible show wpAny _ _ (getMethod (Value.ref _) _ _) _ _ _); ((k_here; k_dflt (refine' acc_method ?k1 ?k2 ?k3 ?k4 ?k5 ?k6 ?k7 ?k8 ?k9 ?_; (case k1 => k_asm); (case k2 => k_asm); (case k3 => k_asm); (case k4 => k_mem); (case k5 => k_mem); (case k6 => k_is); (case k7 => k_is); (case k8 => exact rfl); (case k9 => k_get); k_whole)))) | (((with_reducible show wpAny _ _ (compareOp CmpOp.NotEq (Value.ref _) (Value.ref _)) _ _ _); refine halt ?_)) | (((with_reducible show wpAny _ _ (compareOp CmpOp.NotEq (Value.ref _) (Value.ref _)) _ _ _); refine halt ?_)) | (((with_reducible show wpAny _ _ (call (Value.ref 164) _) _ _ _); refine halt ?_)) | (((with_reducible show wpAny _ _ (call (Value.ref 181) _) _ _ _); refine halt ?_)) | walk1)) | (dsimp only; (fail_if_success (with_reducible show wpAny _ _ (exec (Stmt.For _ _ _ _ _) _) _ _ _)); (first | ((k_here; (with_reducible show wpAny _ _ (call (Value.builtin "len") [Value.ref _]) _ _ _); refine' KM.len_K ?k1 ?k2 ?k3 ?k4 ?_; (case k1 => k_asm); (case k2 => k_mem); (case k3 => assumption); (case k4 => omega))) | ((with_reducible show wpAny _ _ (subscriptTail _ _ (Value.ref _) _) _ _ _); ((k_here; k_dflt (refine' last_sub ?k1 ?k2 ?k3 ?_ ?k7; (case k1 => k_asm); (case k2 => k_mem); (case k3 => omega); (case k7 => with_unfolding_all rfl); k_whole)))) | ((with_reducible show wpAny _ _ (getMethod (Value.ref _) _ _) _ _ _); ((k_here; k_dflt (refine' acc_method ?k1 ?k2 ?k3 ?k4 ?k5 ?k6 ?k7 ?k8 ?k9 ?_; (case k1 => k_asm); (case k2 => k_asm); (case k3 => k_asm); (case k4 => k_mem); (case k5 => k_mem); (case k6 => k_is); (case k7 => k_is); (case k8 => exact rfl); (case k9 => k_get); k_whole)))) | (((with_reducible show wpAny _ _ (compareOp CmpOp.NotEq (Value.ref _) (Value.ref _)) _ _ _); refine halt ?_)) | (((with_reducible show wpAny _ _ (compareOp CmpOp.NotEq (Value.ref _) (Value.ref _)) _ _ _); refine halt ?_)) | (((with_reducible show wpAny _ _ (call (Value.ref 164) _) _ _ _); refine halt ?_)) | (((with_reducible show wpAny _ _ (call (Value.ref 181) _) _ _ _); refine halt ?_)) | walk1)))))
  with_reducible rename News s1.heap _ _ _ => N7
  with_reducible rename Fr s1.heap _ _ _ => F7
  refine unhalt ?_
  refine rows_ne N7 (List.Mem.tail _ (List.Mem.tail _ (List.Mem.tail _ hp4))) hrows (fun p hp => List.Mem.tail _ (List.Mem.tail _ (List.Mem.tail _ hp))) (List.Mem.tail _ (List.Mem.tail _ (List.Mem.tail _ hs1))) hs2 (fun p hp => List.Mem.tail _ (List.Mem.tail _ (List.Mem.tail _ hp))) ?_ ?_
  · simp only [Around.deeper_units]; decide
  repeat' (((first | (k_unfold; (try dsimp only)) | ((fail_if_success (with_reducible show wpAny _ _ (exec (Stmt.For _ _ _ _ _) _) _ _ _)); (fail_if_success (with_reducible show wpAny _ _ (exec (Stmt.While _ _ _ _) _) _ _ _)); (first | ((k_here; (with_reducible show wpAny _ _ (call (Value.builtin "len") [Value.ref _]) _ _ _); refine' KM.len_K ?k1 ?k2 ?k3 ?k4 ?_; (case k1 => k_asm); (case k2 => k_mem); (case k3 => assumption); (case k4 => omega))) | ((with_reducible show wpAny _ _ (subscriptTail _ _ (Value.ref _) _) _ _ _); ((k_here; k_dflt (refine' last_sub ?k1 ?k2 ?k3 ?_ ?k7; (case k1 => k_asm); (case k2 => k_mem); (case k3 => omega); (case k7 => with_unfolding_all rfl); k_whole)))) | ((with_reducible show wpAny _ _ (getMethod (Value.ref _) _ _) _ _ _); ((k_here; k_dflt (refine' acc_method ?k1 ?k2 ?k3 ?k4 ?k5 ?k6 ?k7 ?k8 ?k9 ?_; (case k1 => k_asm); (case k2 => k_asm); (case k3 => k_asm); (case k4 => k_mem); (case k5 => k_mem); (case k6 => k_is); (case k7 => k_is); (case k8 => exact rfl); (case k9 => k_get); k_whole)))) | (((with_reducible show wpAny _ _ (compareOp CmpOp.NotEq (Value.ref _) (Value.ref _)) _ _ _); refine halt ?_)) | (((with_reducible show wpAny _ _ (compareOp CmpOp.NotEq (Value.ref _) (Value.ref _)) _ _ _); refine halt ?_)) | (((with_reducible show wpAny _ _ (call (Value.ref 164) _) _ _ _); refine halt ?_)) | (((with_reducible show wpAny _ _ (call (Value.ref 181) _) _ _ _); refine halt ?_)) | walk1)) | (dsimp only; (fail_if_success (with_reducible show wpAny _ _ (exec (Stmt.For _ _ _ _ _) _) _ _ _)); (first | ((k_here; (with_reducible show wpAny _ _ (call (Value.builtin "len") [Value.ref _]) _ _ _); refine' KM.len_K ?k1 ?k2 ?k3 ?k4 ?_; (case k1 => k_asm); (case k2 => k_mem); (case k3 => assumption); (case k4 => omega))) | ((with_reducible show wpAny _ _ (subscriptTail _ _ (Value.ref _) _) _ _ _); ((k_here; k_dflt (refine' last_sub ?k1 ?k2 ?k3 ?_ ?k7; (case k1 => k_asm); (case k2 => k_mem); (case k3 => omega); (case k7 => with_unfolding_all rfl); k_whole)))) | ((with_reducible show wpAny _ _ (getMethod (Value.ref _) _ _) _ _ _); ((k_here; k_dflt (refine' acc_method ?k1 ?k2 ?k3 ?k4 ?k5 ?k6 ?k7 ?k8 ?k9 ?_; (case k1 => k_asm); (case k2 => k_asm); (case k3 => k_asm); (case k4 => k_mem); (case k5 => k_mem); (case k6 => k_is); (case k7 => k_is); (case k8 => exact rfl); (case k9 => k_get); k_whole)))) | (((with_reducible show wpAny _ _ (compareOp CmpOp.NotEq (Value.ref _) (Value.ref _)) _ _ _); refine halt ?_)) | (((with_reducible show wpAny _ _ (compareOp CmpOp.NotEq (Value.ref _) (Value.ref _)) _ _ _); refine halt ?_)) | (((with_reducible show wpAny _ _ (call (Value.ref 164) _) _ _ _); refine halt ?_)) | (((with_reducible show wpAny _ _ (call (Value.ref 181) _) _ _ _); refine halt ?_)) | walk1)))))
  with_reducible rename News s1.heap _ _ _ => N8
  with_reducible rename Fr s1.heap _ _ _ => F8
  refine unhalt ?_
  have hpl : pvs.length = rowL.length := by rw [hpile.length, List.length_reverse, hpL]
  have hpl7 : pvs.length ≤ 7 := by rw [hpl, ← hpL]; exact P.few
  refine c_count K1 F8 KX N8 T rfl (Around.frames_deeper K1.stack) rfl rfl ?_ (List.Mem.tail _ (List.Mem.tail _ (List.Mem.tail _ hp2))) (List.Mem.tail _ (List.Mem.tail _ (List.Mem.tail _ hp3))) (by omega) ?_
  · simp only [depth_deeper]; decide
  intro h9 tn9 tk9 F9 N9
  dsimp only
  have hrl7 : rs.length ≤ 7 := by rw [hrows.length]; exact P.fewR
  have hrows' := hrows
  rw [hrL] at hrows
  obtain ⟨vs0, ra, rxs, rk, rfl, hra, hri⟩ := hrows.last
  have hrsz : rxs.toArray.size = rowL.length := by rw [List.size_toArray, hri.length]
  have hv0 : vs0.length ≤ 1000 := by simp at hrl7; omega
  ((try clear N8); (try clear F8))
  repeat' (((first | (k_unfold; (try dsimp only)) | ((fail_if_success (with_reducible show wpAny _ _ (exec (Stmt.For _ _ _ _ _) _) _ _ _)); (fail_if_success (with_reducible show wpAny _ _ (exec (Stmt.While _ _ _ _) _) _ _ _)); (first | ((k_here; (with_reducible show wpAny _ _ (call (Value.builtin "len") [Value.ref _]) _ _ _); refine' KM.len_K ?k1 ?k2 ?k3 ?k4 ?_; (case k1 => k_asm); (case k2 => k_mem); (case k3 => assumption); (case k4 => omega))) | ((with_reducible show wpAny _ _ (subscriptTail _ _ (Value.ref _) _) _ _ _); ((k_here; k_dflt (refine' last_sub ?k1 ?k2 ?k3 ?_ ?k7; (case k1 => k_asm); (case k2 => k_mem); (case k3 => omega); (case k7 => with_unfolding_all rfl); k_whole)))) | ((with_reducible show wpAny _ _ (getMethod (Value.ref _) _ _) _ _ _); ((k_here; k_dflt (refine' acc_method ?k1 ?k2 ?k3 ?k4 ?k5 ?k6 ?k7 ?k8 ?k9 ?_; (case k1 => k_asm); (case k2 => k_asm); (case k3 => k_asm); (case k4 => k_mem); (case k5 => k_mem); (case k6 => k_is); (case k7 => k_is); (case k8 => exact rfl); (case k9 => k_get); k_whole)))) | (((with_reducible show wpAny _ _ (compareOp CmpOp.NotEq (Value.ref _) (Value.ref _)) _ _ _); refine halt ?_)) | (((with_reducible show wpAny _ _ (compareOp CmpOp.NotEq (Value.ref _) (Value.ref _)) _ _ _); refine halt ?_)) | (((with_reducible show wpAny _ _ (call (Value.ref 164) _) _ _ _); refine halt ?_)) | (((with_reducible show wpAny _ _ (call (Value.ref 181) _) _ _ _); refine halt ?_)) | walk1)) | (dsimp only; (fail_if_success (with_reducible show wpAny _ _ (exec (Stmt.For _ _ _ _ _) _) _ _ _)); (first | ((k_here; (with_reducible show wpAny _ _ (call (Value.builtin "len") [Value.ref _]) _ _ _); refine' KM.len_K ?k1 ?k2 ?k3 ?k4 ?_; (case k1 => k_asm); (case k2 => k_mem); (case k3 => assumption); (case k4 => omega))) | ((with_reducible show wpAny _ _ (subscriptTail _ _ (Value.ref _) _) _ _ _); ((k_here; k_dflt (refine' last_sub ?k1 ?k2 ?k3 ?_ ?k7; (case k1 => k_asm); (case k2 => k_mem); (case k3 => omega); (case k7 => with_unfolding_all rfl); k_whole)))) | ((with_reducible show wpAny _ _ (getMethod (Value.ref _) _ _) _ _ _); ((k_here; k_dflt (refine' acc_method ?k1 ?k2 ?k3 ?k4 ?k5 ?k6 ?k7 ?k8 ?k9 ?_; (case k1 => k_asm); (case k2 => k_asm); (case k3 => k_asm); (case k4 => k_mem); (case k5 => k_mem); (case k6 => k_is); (case k7 => k_is); (case k8 => exact rfl); (case k9 => k_get); k_whole)))) | (((with_reducible show wpAny _ _ (compareOp CmpOp.NotEq (Value.ref _) (Value.ref _)) _ _ _); refine halt ?_)) | (((with_reducible show wpAny _ _ (compareOp CmpOp.NotEq (Value.ref _) (Value.ref _)) _ _ _); refine halt ?_)) | (((with_reducible show wpAny _ _ (call (Value.ref 164) _) _ _ _); refine halt ?_)) | (((with_reducible show wpAny _ _ (call (Value.ref 181) _) _ _ _); refine halt ?_)) | walk1)))))
  · exfalso
    omega
  ((try clear hs2); (try clear hs1))
  ((repeat (rename _ => zz; revert zz)); intro stk1; exact @Wr.get _ stk1)⟩
end Mine
end

example : 1 = 1 ∧ 2 = 2 := by
  w_top off
  walk1 <;> rfl
section
set_option maxRecDepth 100000
set_option Elab.async false
open PySem PySem.W PyProof.Rows PySem.Calls
namespace Mine
/-- what holds ahead of each piece of the pile -/
inductive InvD (w : World) (Z : Nat) (RL : Addr) (cr cl : Obj) (EY : List (Addr × Obj)) (Ts : List Nat) (ds : List Int) (pt : List (Nat × List Nat)) (kfin : Nat) (la da pa rl : Addr) (i : Nat) (m' : Str → Option Value) (n' : List (Addr × Obj)) : Prop
  | mk (ck : Obj) (vk : Option Value) (rvs : List Value) (rn : Nat) (ex : List (Addr × Obj)) (bg k : Nat) (tb : Tok)
      (h1 : n' = (RL, W.listOf rvs.toArray rn) :: (Z + 1 + 1 + 1, ck) :: (Z + 1 + 1, cr) :: (Z + 1, cl) :: (ex ++ EY)) (h2 : ck.data = .cell vk) (h3 : rvs.length = k) (h4 : LinesAre w ex rvs Ts ds) (h5 : outU (ds.map Int.toNat) (pt.drop i) bg k = some kfin)
      (h6 : ∀ p ∈ ex ++ EY, @Ne Nat p.1 RL) (h7 : ∀ p ∈ ex ++ EY, @Ne Nat p.1 (Z + 1 + 1 + 1)) (h8 : ∀ p ∈ ex ++ EY, @Ne Nat p.1 (Z + 1 + 1)) (h9 : ∀ p ∈ ex ++ EY, @Ne Nat p.1 (Z + 1))
      (h0 : Has m' [(Str.ofString "begin", .int bg tb), (Str.ofString "labels", .ref la), (Str.ofString "depths", .ref da), (Str.ofString "pile", .ref pa), (Str.ofString "rows", .ref rl)]) :
      InvD w Z RL cr cl EY Ts ds pt kfin la da pa rl i m' n'
/-- what holds ahead of each line that is read from a piece -/
inductive InvW (w : World) (Z : Nat) (RL I : Addr) (cr cl : Obj) (EY : List (Addr × Obj)) (Ts : List Nat) (ds : List Int) (sz fin b' k' : Nat) (toks : List Nat) (i : Nat) (la da pa rl : Addr) (n : Nat) (m' : Str → Option Value) (news' : List (Addr × Obj)) : Prop
  | mk (ck : Obj) (vk : Option Value) (rvs : List Value) (rn : Nat) (ex : List (Addr × Obj)) (b k : Nat) (rem pre : List Nat) (cur : Nat) (tb1 td tf tsz tt : Tok)
      (h1 : news' = (I, itObj pa (i + 1)) :: (RL, W.listOf rvs.toArray rn) :: (Z + 1 + 1 + 1, ck) :: (Z + 1 + 1, cr) :: (Z + 1, cl) :: (ex ++ EY)) (h2 : ck.data = .cell vk) (h3 : rvs.length = k) (h4 : LinesAre w ex rvs Ts ds)
      (h5 : inU (ds.map Int.toNat) sz fin n b k rem cur = some (b', k')) (h6 : toks = pre ++ rem) (h7 : sz + pre.count 0 = cur + pre.count 1) (h8 : ∀ c ∈ pre, c < k + 2)
      (h9 : ∀ p ∈ ex ++ EY, @Ne Nat p.1 I) (h10 : ∀ p ∈ ex ++ EY, @Ne Nat p.1 RL) (h11 : ∀ p ∈ ex ++ EY, @Ne Nat p.1 (Z + 1 + 1 + 1)) (h12 : ∀ p ∈ ex ++ EY, @Ne Nat p.1 (Z + 1 + 1)) (h13 : ∀ p ∈ ex ++ EY, @Ne Nat p.1 (Z + 1))
      (h14 : Has m' [(Str.ofString "begin", .int b tb1), (Str.ofString "due", .str (tx (rend Ts pre)) td), (Str.ofString "end", .int fin tf), (Str.ofString "size", .int sz tsz), (Str.ofString "text", .str (tx (rend Ts toks)) tt), (Str.ofString "labels", .ref la), (Str.ofString "depths", .ref da), (Str.ofString "pile", .ref pa), (Str.ofString "rows", .ref rl)])
      (h15 : b < fin ∨ ∃ (kl : Nat) (p1 p2 : List Nat) (tat tk : Tok) (dl : Nat), k = kl + 1 ∧ vk = some (.int kl tk) ∧ toks = p1 ++ (kl + 2) :: p2 ∧ m' (Str.ofString "at") = some (.int (rend Ts p1).length tat) ∧ ds.getD kl 0 = (dl : Int) ∧ kl < ds.length ∧ sz + p1.count 0 = dl + p1.count 1) :
      InvW w Z RL I cr cl EY Ts ds sz fin b' k' toks i la da pa rl n m' news'
local macro_rules | `(tactic| k_mem) => `(tactic| (refine mt3 ?_; assumption))
local macro_rules | `(tactic| k_mem) => `(tactic| (refine mt4 ?_; assumption))
local macro_rules | `(tactic| k_all) => `(tactic| (refine' List.forall_mem_cons.mpr (And.intro ?a ?b); (case a => k_ne); (case b => k_all)))
local macro_rules | `(tactic| k_all) => `(tactic| assumption)
set_option maxHeartbeats 8000000 in
noncomputable def LawD_s : S2 (LawC_s.P) := ⟨_, _, by
  intro stk1 stk2
  intro w _ s1 _ _ _ _ _ T _ _ _ _ _ qk ek hend K1 hpo v2 hb2 v3 hb3 la da li lvs dvs vvs ln dn vn Ts ds hl7 hLab hiD hd7 hv7 cl hcl P pt pa rl pvs pn pdx q0 q1 rn h4 tk4 EX KX _ _ _ tk lr rs2 rn2 ex3 h6 tk6 EY hx3 hx2 hx1 hp2 hp3 hO2 hO3 hO4 hLin hpile rows0 rowL hrL hpL hpl hpl7 h9 tn9 tk9 vs0 ra rxs rk hp4 hrows hrl7 hrows' hra hri hrsz hv0 _ tk _ _ _ _ _ _ _ _ _ tk
  revert KX; k_fill; intro KX
  refine wpAny_For ?_ (by intro _; rfl)
  repeat' (((first | (k_unfold; (try dsimp only)) | ((fail_if_success (with_reducible show wpAny _ _ (exec (Stmt.For _ _ _ _ _) _) _ _ _)); (fail_if_success (with_reducible show wpAny _ _ (exec (Stmt.While _ _ _ _) _) _ _ _)); (first | ((k_here; (with_reducible show wpAny _ _ (call (Value.builtin "len") [Value.str (sp _) _]) _ _ _); refine SBL.len (by omega) ?_; rw [sp_len])) | (((with_reducible show wpAny _ _ (pyIter (Value.ref _)) (fun it s₂ => codeAny _ _ _ _ _) _ _); refine' acc_iter ?k1 ?k2 ?k3 ?k4 ?_; (case k1 => k_asm); (case k2 => k_asm); (case k3 => k_asm); (case k4 => k_mem))) | walk1)) | (dsimp only; (fail_if_success (with_reducible show wpAny _ _ (exec (Stmt.For _ _ _ _ _) _) _ _ _)); (first | ((k_here; (with_reducible show wpAny _ _ (call (Value.builtin "len") [Value.str (sp _) _]) _ _ _); refine SBL.len (by omega) ?_; rw [sp_len])) | (((with_reducible show wpAny _ _ (pyIter (Value.ref _)) (fun it s₂ => codeAny _ _ _ _ _) _ _); refine' acc_iter ?k1 ?k2 ?k3 ?k4 ?_; (case k1 => k_asm); (case k2 => k_asm); (case k3 => k_asm); (case k4 => k_mem))) | walk1)))))
  with_reducible rename News s1.heap _ _ _ => N5
  with_reducible rename Fr s1.heap _ _ _ => F5
  with_reducible rename (Obj.data _ = Data.cell (some (Value.ref _))) => hcr
  rename_i RL _ lRL _ cr _ _ I _ hI0
  obtain ⟨pt, kfin, hpt, hout, hsm⟩ := P.pieces
  rw [hpt] at hpile
  have lRL2 := of_allLt lRL.2.2.2
  refine loop_seq (vs := pvs) (InvD w s1.heap.objs.size RL cr cl EY Ts ds pt kfin la da pa rl) ?_ rfl F5 N5 ?_ ?_ ?_ ?_ ?_
  · rintro i m' n' ⟨ck, vk, rvs, rn, ex, bg, k, tb, rfl, _⟩
    exact ⟨_, List.Mem.tail _ (List.Mem.tail _ (List.Mem.tail _ (List.Mem.tail _ (List.mem_append_right _ hp2)))), pn, rfl⟩
  · exact fun p hp => Nat.ne_of_lt (hI0 p hp)
  · refine ⟨_, v3, [], 0, [], 0, 0, _, rfl, hb3, rfl, LinesAre.nil, hout, fun p hp => Nat.ne_of_lt (lRL2 p hp), hx3, hx2, hx1, rfl, rfl, rfl, rfl, rfl, trivial⟩
  · rintro i v m₁ news₁ h₁ tk₁ hv ⟨ck, vk, rvs, rn, ex, bg, k, tb, rfl, hck, hrk, hLr, hou, hn0, hn3, hn2, hn1, hmm⟩ F₁ N₁ hI1
    replace F₁ := fr_ov F₁ hmm
    ((try clear hmm); (try clear N5); (try clear F5))
    obtain ⟨pq, hpv, tA, ta, tb', rfl, htm⟩ := hpile.get hv
    rw [List.getElem?_map] at hpv
    obtain ⟨⟨sz, toks⟩, hpi, rfl⟩ := Option.map_eq_some_iff.mp hpv
    dsimp only at htm
    have hilt := (List.getElem?_eq_some_iff.mp hpi).1
    have hdrop : pt.drop i = (sz, toks) :: pt.drop (i + 1) := by rw [List.drop_eq_getElem_cons hilt]; congr 1; exact (List.getElem?_eq_some_iff.mp hpi).2
    rw [hdrop] at hou
    obtain ⟨hsz8, b', k', hin, hou⟩ := outU_cons hou
    have hsm1 := (hsm _ (List.mem_of_getElem? hpi)).1
    have hsm2 := (hsm _ (List.mem_of_getElem? hpi)).2
    dsimp only at hsm1 hsm2
    replace htm := List.mem_append_right ex htm
    have gO2 := List.mem_append_right ex hO2
    have gO3 := List.mem_append_right ex hO3
    have gO4 := List.mem_append_right ex hO4
    have gp2 := List.mem_append_right ex hp2
    have gI : ∀ p ∈ ex ++ EY, @Ne Nat p.1 I := fun p hp => hI1 p (List.Mem.tail _ (List.Mem.tail _ (List.Mem.tail _ (List.Mem.tail _ hp))))
    have gI2 : @Ne Nat RL I := hI1 _ (List.Mem.head _)
    have hspl := sp_len sz
    have hlR1 : @LT.lt Nat _ (s1.heap.objs.size + 1 + 1 + 1) RL := lRL.1
    generalize hEZ : ex ++ EY = EZ at *
    repeat' (((first | (k_unfold; (try dsimp only)) | ((fail_if_success (with_reducible show wpAny _ _ (exec (Stmt.For _ _ _ _ _) _) _ _ _)); (fail_if_success (with_reducible show wpAny _ _ (exec (Stmt.While _ _ _ _) _) _ _ _)); (first | ((k_here; (with_reducible show wpAny _ _ (call (Value.builtin "len") [Value.str (sp _) _]) _ _ _); refine SBL.len (by omega) ?_; rw [sp_len])) | (((with_reducible show wpAny _ _ (pyIter (Value.ref _)) (fun it s₂ => codeAny _ _ _ _ _) _ _); refine' acc_iter ?k1 ?k2 ?k3 ?k4 ?_; (case k1 => k_asm); (case k2 => k_asm); (case k3 => k_asm); (case k4 => k_mem))) | walk1)) | (dsimp only; (fail_if_success (with_reducible show wpAny _ _ (exec (Stmt.For _ _ _ _ _) _) _ _ _)); (first | ((k_here; (with_reducible show wpAny _ _ (call (Value.builtin "len") [Value.str (sp _) _]) _ _ _); refine SBL.len (by omega) ?_; rw [sp_len])) | (((with_reducible show wpAny _ _ (pyIter (Value.ref _)) (fun it s₂ => codeAny _ _ _ _ _) _ _); refine' acc_iter ?k1 ?k2 ?k3 ?k4 ?_; (case k1 => k_asm); (case k2 => k_asm); (case k3 => k_asm); (case k4 => k_mem))) | walk1)))))
    with_reducible rename News s1.heap _ _ _ => N6
    with_reducible rename Fr s1.heap _ _ _ => F6
    generalize hfz : (bg : Int) + Int.fdiv 256 (2 ^ ((sz : Nat) : Int).toNat) = finZ at F6
    have hfin : finZ = ((bg + 256 >>> sz : Nat) : Int) := by rw [← hfz, shr_eq hsz8]; push_cast; rfl
    have hbf : bg < bg + 256 >>> sz := by have := (shr_pos hsz8).1; omega
    generalize hfn : bg + 256 >>> sz = fin at hin hfin hbf
    subst hfin
    subst hEZ
    refine While_inv2 (h₀ := s1.heap) (n₀ := 8) (InvW w s1.heap.objs.size RL I cr cl EY Ts ds sz fin b' k' toks i la da pa rl) F6 N6
      ⟨ck, vk, rvs, rn, ex, bg, k, toks, [], sz, _, _, _, _, _, rfl, hck, hrk, hLr, hin, rfl, rfl, (fun _ h => by cases h), gI, hn0, hn3, hn2, hn1, ⟨rfl, rfl, rfl, rfl, rfl, rfl, rfl, rfl, rfl, trivial⟩, .inl hbf⟩ ?_ hpo
    ((try clear F6); (try clear N6); (try clear hI1); (try clear gI); (try clear gp2); (try clear gO4); (try clear gO3); (try clear gO2); (try clear htm); (try clear hin); (try clear hn1); (try clear hn2); (try clear hn3); (try clear hn0); (try clear hLr); (try clear hrk); (try clear hck))
    rintro n m₂ news₂ h₂ tk₂ F₂ N₂ ⟨ck, vk, rvs, rn, ex, b, k, rem, pre, cur, tb1, td, tf, tsz, tt, rfl, hck, hrk, hLr, hin, htk, hbal, hpc, gI, hn0, hn3, hn2, hn1, hmm, hlast⟩
    (rename_i zr1 zr3 zr4 zr6 zr8 zr9 zr15 zr17 zr25 zr35 zr36 zr78 zr86 zr91 zr92 zr93 zr94 zr132 zr133 zr134 zr136 zr138 zr141 zr144 zr157 zr158 zr159 zr160 zr161 zr163 zr171 zr185 zr186 zr187 zr188 zr189 zr190 zr192 zr193 zr198; clear zr198 hbf zr192 zr190 zr189 zr188 zr187 zr186 zr185 hlR1 gI2 hilt hv tb' ta tA tb zr161 zr160 zr159 zr158 zr157 tk₁ h₁ m₁ lRL2 hsm hout hpt hpile zr138 zr136 zr134 zr133 zr132 hv0 hrsz hra hrows' hrl7 hrows hp4 rk tk9 tn9 h9 hpl7 hpl hpL hrL rows0 hLin hp3 hx1 hx2 hx3 tk6 h6 ex3 rn2 rs2 lr zr94 zr93 zr92 zr91 EX tk4 h4 zr86 q1 q0 zr78 hcl hv7 hb3 v3 hb2 v2 hpo hend zr36 zr25 zr9 zr8; (repeat (rename _ => zz; revert zz)); intro stk1 stk2; exact @Wr.get _ stk1)
  · rintro m₂ news₂ h₂ tk₂ ⟨ck, vk, rvs, rn, ex, bg, k, tb, rfl, hck, hrk, hLr, hou, hn0, hn3, hn2, hn1, hmm⟩ F₂ N₂
    have hptl : pt.length = pvs.length := by rw [hpile.length, List.length_map]
    rw [← hptl, List.drop_length, outU] at hou
    have hkk : k = kfin := Option.some.inj hou
    ((try clear N5); (try clear F5))
    (rename_i zr1 zr3 zr4 zr6 zr8 zr9 zr15 zr17 zr25 zr35 zr36 zr78 zr86 zr91 zr92 zr93 zr94 zr132 zr133 zr134 zr136 zr138 zr140 zr141 zr146; clear hptl hou lRL2 hsm hpt hpile hI0 I zr141 zr140 zr136 zr134 zr133 tk9 tn9 h9 hpl7 hp3 hp2 hx1 hx2 hx3 tk6 h6 ex3 rn2 rs2 lr zr94 zr93 zr92 zr91 EX tk4 h4 q1 q0 pdx pn zr78 hb3 v3 hb2 v2 zr36 zr35 zr25 zr9 zr8; (repeat (rename _ => zz; revert zz)); intro stk1 stk2; exact @Wr.get _ stk2)
  · exact hpo⟩
end Mine
end

example : 1 = 1 ∧ 2 = 2 := by
  w_top off
  walk1 <;> rfl
section
set_option maxRecDepth 100000
set_option Elab.async false
open PySem PySem.W PyProof.Rows PySem.Calls
namespace Mine
local macro_rules | `(tactic| k_ne) => `(tactic| (refine neN ?_; (try dsimp only); first | with_reducible assumption | (refine Ne.symm ?_; with_reducible assumption) | omega))
local macro_rules | `(tactic| k_mem) => `(tactic| (refine mt5 ?_; assumption))
local macro_rules | `(tactic| k_all) => `(tactic| (refine' List.forall_mem_cons.mpr (And.intro ?a ?b); (case a => k_ne); (case b => k_all)))
local macro_rules | `(tactic| k_all) => `(tactic| assumption)
local macro_rules | `(tactic| size_fits) => `(tactic| (rw [sizeLine_eq]; simp only [List.size_toArray]; omega))
set_option maxHeartbeats 8000000 in
noncomputable def LawE_s : S1 (LawD_s.P) := ⟨_, by
  intro stk1
  intro w _ s1 _ _ _ T _ _ _ qk ek K1 la da li lvs dvs vvs ln dn vn Ts ds hl7 hLab hiD hd7 cl P pa rl pvs pn pdx EY hp2 hO2 hO3 hO4 rowL vs0 ra rxs hri RL lRL cr hcr tk KX I _ hI0 pt kfin i bg k sz toks hou hpi hpv hdrop hsz8 b' k' hou hsm1 hsm2 hspl tk _ fin hfn hfz n m₂ h₂ tk₂ F₂ ck vk rvs rn ex b k rem pre cur tb1 td tf tsz tt hck hrk hLr hin htk hbal hpc gI hn0 hn3 hn2 hn1 hmm hlast N₂
  revert KX; k_fill; intro KX
  cases n with
  | zero => cases hin
  | succ f =>
    rcases inU_step hin with ⟨hblt, d, rem3, hdk, hszd, hcur, hrem, hin3⟩ | ⟨hblt, hrem, hcur, hb', hk'⟩
    · obtain ⟨hdd, hd8, hkl⟩ := getD_nat P.bd hdk
      replace F₂ := fr_ov F₂ hmm
      ((try clear hmm))
      refine fr_let F₂ ?_
      ((try clear F₂))
      intro M F₂
      have gO2 := List.mem_append_right ex hO2
      have gO3 := List.mem_append_right ex hO3
      have gO4 := List.mem_append_right ex hO4
      have gp2 := List.mem_append_right ex hp2
      have hrsz2 : rvs.toArray.size = k := by rw [List.size_toArray, hrk]
      have hIR : @LT.lt Nat _ RL I := hI0 _ (List.Mem.head _)
      have hlR1 : @LT.lt Nat _ (s1.heap.objs.size + 1 + 1 + 1) RL := lRL.1
      generalize hEZ : ex ++ EY = EZ at *
      repeat' (((first | (k_unfold; (try dsimp only); (try clear qk); (try clear ek)) | ((with_reducible show wpAny _ _ (exec _ _) _ _ _); k_fold) | ((fail_if_success (with_reducible show wpAny _ _ (exec (Stmt.If _ _ _ _) _) _ _ _)); (first | (((with_reducible show wpAny _ _ (getMethod (Value.str _ _) (Str.ofString "encode") _) _ _ _); refine m_encode ?_)) | (((with_reducible show wpAny _ _ (subscriptTail _ (PySem.Expr.Slice (some _) (some _) none _) _ _) _ _ _); (with_reducible rename Fr _ _ _ _ => F'); (with_reducible rename News _ _ _ _ => N'); (refine sl_ss (s := ⟨_, _, _, _, _⟩) (by with_reducible assumption) F' N' (by omega) ?_); intro _ _ _ _ _)) | (((with_reducible show wpAny _ _ (subscriptTail _ (PySem.Expr.Slice none (some _) none _) _ _) _ _ _); (with_reducible rename Fr _ _ _ _ => F'); (with_reducible rename News _ _ _ _ => N'); (refine sl_ns (s := ⟨_, _, _, _, _⟩) (by with_reducible assumption) F' N' (by omega) ?_); intro _ _ _ _ _)) | (((with_reducible show wpAny _ _ (call (Value.builtin "len") [Value.str (tx _) _]) _ _ _); refine len_tx (by omega) ?_; intro _ _)) | ((with_reducible show wpAny _ _ (call (Value.builtin "str.encode") _) _ _ _); ((refine call_encode (by with_reducible assumption) (by omega) ?_; intro _ _))) | ((with_reducible show wpAny _ _ (call (Value.builtin "str.find") _) _ _ _); ((refine find_tx (by with_reducible assumption) ?_; intro _ _))) | (((with_reducible show wpAny _ _ (binaryOp Operator.Add (Value.str (tx _) _) (Value.str (tx _) _)) _ _ _); refine add_tx (by simp only [List.length_append, List.length_replicate]; omega) ?_; intro _ _)) | (first | ((with_reducible show wpAny _ _ (binaryOp Operator.Mult (Value.str (Str.ofString "(") _) (Value.int _ _)) _ _ _); refine mul_lp (by omega) ?_; intro _ _) | ((with_reducible show wpAny _ _ (binaryOp Operator.Mult (Value.str (Str.ofString ")") _) (Value.int _ _)) _ _ _); refine mul_rp (by omega) ?_; intro _ _)) | ((with_reducible show wpAny _ _ (binaryOp Operator.FloorDiv (Value.int _ _) (Value.int _ _)) _ _ _); ((refine' floordiv_int ?k1 ?_ ?k2; (case k1 => exact sh_ne (by omega) (by omega)); (case k2 => exact .inl (PyProof.noPylong_small (sh_small (by omega) (by omega))))))) | ((k_here; (with_reducible show wpAny _ _ (subscriptTail _ _ (Value.ref _) (Value.int _ _)) _ _ _); k_dflt (first | (refine' dep_sub ?k1 ?k2 ?k3 ?k4 ?k5 ?k6 ?_ ?k7; (case k1 => k_asm); (case k2 => k_mem); (case k3 => with_reducible assumption); (case k4 => with_reducible assumption); (case k5 => omega); (case k6 => omega); (case k7 => with_unfolding_all rfl); k_whole; intro _) | (refine' lab_sub ?k1 ?k2 ?k3 ?k4 ?k5 ?_ ?k7; (case k1 => k_asm); (case k2 => k_mem); (case k3 => with_reducible assumption); (case k4 => omega); (case k5 => omega); (case k7 => with_unfolding_all rfl); k_whole; intro _)))) | ((k_here; (with_reducible show wpAny _ _ (call (Value.builtin "len") [Value.ref _]) _ _ _); refine' KM.len_K ?k1 ?k2 ?k3 ?k4 ?_; (case k1 => k_asm); (case k2 => k_mem); (case k3 => assumption); (case k4 => omega))) | (((with_reducible show wpAny _ _ (call (Value.ref 83) _) _ _ _); refine halt ?_)) | (((with_reducible show wpAny _ _ (call (Value.ref 51) _) _ _ _); refine halt ?_)) | (((with_reducible show wpAny _ _ (call (Value.ref 193) _) _ _ _); refine halt ?_)) | walk1)) | (dsimp only; (fail_if_success (with_reducible show wpAny _ _ (exec (Stmt.If _ _ _ _) _) _ _ _)); (first | (((with_reducible show wpAny _ _ (getMethod (Value.str _ _) (Str.ofString "encode") _) _ _ _); refine m_encode ?_)) | (((with_reducible show wpAny _ _ (subscriptTail _ (PySem.Expr.Slice (some _) (some _) none _) _ _) _ _ _); (with_reducible rename Fr _ _ _ _ => F'); (with_reducible rename News _ _ _ _ => N'); (refine sl_ss (s := ⟨_, _, _, _, _⟩) (by with_reducible assumption) F' N' (by omega) ?_); intro _ _ _ _ _)) | (((with_reducible show wpAny _ _ (subscriptTail _ (PySem.Expr.Slice none (some _) none _) _ _) _ _ _); (with_reducible rename Fr _ _ _ _ => F'); (with_reducible rename News _ _ _ _ => N'); (refine sl_ns (s := ⟨_, _, _, _, _⟩) (by with_reducible assumption) F' N' (by omega) ?_); intro _ _ _ _ _)) | (((with_reducible show wpAny _ _ (call (Value.builtin "len") [Value.str (tx _) _]) _ _ _); refine len_tx (by omega) ?_; intro _ _)) | ((with_reducible show wpAny _ _ (call (Value.builtin "str.encode") _) _ _ _); ((refine call_encode (by with_reducible assumption) (by omega) ?_; intro _ _))) | ((with_reducible show wpAny _ _ (call (Value.builtin "str.find") _) _ _ _); ((refine find_tx (by with_reducible assumption) ?_; intro _ _))) | (((with_reducible show wpAny _ _ (binaryOp Operator.Add (Value.str (tx _) _) (Value.str (tx _) _)) _ _ _); refine add_tx (by simp only [List.length_append, List.length_replicate]; omega) ?_; intro _ _)) | (first | ((with_reducible show wpAny _ _ (binaryOp Operator.Mult (Value.str (Str.ofString "(") _) (Value.int _ _)) _ _ _); refine mul_lp (by omega) ?_; intro _ _) | ((with_reducible show wpAny _ _ (binaryOp Operator.Mult (Value.str (Str.ofString ")") _) (Value.int _ _)) _ _ _); refine mul_rp (by omega) ?_; intro _ _)) | ((with_reducible show wpAny _ _ (binaryOp Operator.FloorDiv (Value.int _ _) (Value.int _ _)) _ _ _); ((refine' floordiv_int ?k1 ?_ ?k2; (case k1 => exact sh_ne (by omega) (by omega)); (case k2 => exact .inl (PyProof.noPylong_small (sh_small (by omega) (by omega))))))) | ((k_here; (with_reducible show wpAny _ _ (subscriptTail _ _ (Value.ref _) (Value.int _ _)) _ _ _); k_dflt (first | (refine' dep_sub ?k1 ?k2 ?k3 ?k4 ?k5 ?k6 ?_ ?k7; (case k1 => k_asm); (case k2 => k_mem); (case k3 => with_reducible assumption); (case k4 => with_reducible assumption); (case k5 => omega); (case k6 => omega); (case k7 => with_unfolding_all rfl); k_whole; intro _) | (refine' lab_sub ?k1 ?k2 ?k3 ?k4 ?k5 ?_ ?k7; (case k1 => k_asm); (case k2 => k_mem); (case k3 => with_reducible assumption); (case k4 => omega); (case k5 => omega); (case k7 => with_unfolding_all rfl); k_whole; intro _)))) | ((k_here; (with_reducible show wpAny _ _ (call (Value.builtin "len") [Value.ref _]) _ _ _); refine' KM.len_K ?k1 ?k2 ?k3 ?k4 ?_; (case k1 => k_asm); (case k2 => k_mem); (case k3 => assumption); (case k4 => omega))) | (((with_reducible show wpAny _ _ (call (Value.ref 83) _) _ _ _); refine halt ?_)) | (((with_reducible show wpAny _ _ (call (Value.ref 51) _) _ _ _); refine halt ?_)) | (((with_reducible show wpAny _ _ (call (Value.ref 193) _) _ _ _); refine halt ?_)) | walk1)))))
      with_reducible rename News s1.heap _ _ _ => N5
      with_reducible rename Fr s1.heap _ _ _ => F5
      have hwz : ((b : Int)).fdiv (Int.fdiv 256 (2 ^ ((d : Nat) : Int).toNat)) = ((b / (256 >>> d) : Nat) : Int) := by
        rw [shr_eq hd8, Int.fdiv_eq_ediv_of_nonneg _ (Int.natCast_nonneg _)]
        exact (Int.natCast_ediv _ _).symm
      generalize ((b : Int)).fdiv (Int.fdiv 256 (2 ^ ((d : Nat) : Int).toNat)) = wz at *
      subst hwz
      have hds : ((d : Int) - (sz : Int)).toNat = d - sz := Int.toNat_sub d sz
      generalize hwn : b / (256 >>> d) = wn at *
      have hr0 : runF (wn : Int) 0 ((d : Int) - (sz : Int)).toNat 0 = ((runT wn 0 (d - sz) 0 : Nat) : Int) := by rw [hds]; exact run_eq wn 0 (d - sz) 0
      have hr1 : runF (wn : Int) 1 ((d : Int) - (sz : Int)).toNat 0 = ((runT wn 1 (d - sz) 0 : Nat) : Int) := by rw [hds]; exact run_eq wn 1 (d - sz) 0
      have hb0 := (runT_le wn 0 (d - sz) 0).2
      have hb1 := (runT_le wn 1 (d - sz) 0).2
      generalize runT wn 0 (d - sz) 0 = o at *
      generalize runT wn 1 (d - sz) 0 = c at *
      have hW := Wr.mk (And.intro hbal hcur)
      ((try clear hds); (try clear hcur); (try clear hbal))
      refine unhalt ?_
      refine wpAny_call ?_
      refine c_run K1 F5 KX N5 T rfl (Around.frames_deeper K1.stack) rfl rfl ?_ ?_ (by omega) (by omega) ?_
      · simp only [depth_deeper]; decide
      · simp only [Around.deeper_units]; decide
      intro h6 tk6 t6 F6 N6
      dsimp only
      rw [hr0]
      ((try clear hr0))
      ((try clear N5); (try clear F5))
      have hpl1 : (rend Ts pre).length ≤ 300 := by
        have h1 := rend_len Ts pre
        have h2 := congrArg List.length htk
        rw [List.length_append] at h2
        omega
      have hll := (lab_len k (Ts.getD k 0))
      rw [tx_len] at hll
      repeat' (((first | (k_unfold; (try dsimp only); (try clear qk); (try clear ek)) | ((with_reducible show wpAny _ _ (exec _ _) _ _ _); k_fold) | ((fail_if_success (with_reducible show wpAny _ _ (exec (Stmt.If _ _ _ _) _) _ _ _)); (first | (((with_reducible show wpAny _ _ (getMethod (Value.str _ _) (Str.ofString "encode") _) _ _ _); refine m_encode ?_)) | (((with_reducible show wpAny _ _ (subscriptTail _ (PySem.Expr.Slice (some _) (some _) none _) _ _) _ _ _); (with_reducible rename Fr _ _ _ _ => F'); (with_reducible rename News _ _ _ _ => N'); (refine sl_ss (s := ⟨_, _, _, _, _⟩) (by with_reducible assumption) F' N' (by omega) ?_); intro _ _ _ _ _)) | (((with_reducible show wpAny _ _ (subscriptTail _ (PySem.Expr.Slice none (some _) none _) _ _) _ _ _); (with_reducible rename Fr _ _ _ _ => F'); (with_reducible rename News _ _ _ _ => N'); (refine sl_ns (s := ⟨_, _, _, _, _⟩) (by with_reducible assumption) F' N' (by omega) ?_); intro _ _ _ _ _)) | (((with_reducible show wpAny _ _ (call (Value.builtin "len") [Value.str (tx _) _]) _ _ _); refine len_tx (by omega) ?_; intro _ _)) | ((with_reducible show wpAny _ _ (call (Value.builtin "str.encode") _) _ _ _); ((refine call_encode (by with_reducible assumption) (by omega) ?_; intro _ _))) | ((with_reducible show wpAny _ _ (call (Value.builtin "str.find") _) _ _ _); ((refine find_tx (by with_reducible assumption) ?_; intro _ _))) | (((with_reducible show wpAny _ _ (binaryOp Operator.Add (Value.str (tx _) _) (Value.str (tx _) _)) _ _ _); refine add_tx (by simp only [List.length_append, List.length_replicate]; omega) ?_; intro _ _)) | (first | ((with_reducible show wpAny _ _ (binaryOp Operator.Mult (Value.str (Str.ofString "(") _) (Value.int _ _)) _ _ _); refine mul_lp (by omega) ?_; intro _ _) | ((with_reducible show wpAny _ _ (binaryOp Operator.Mult (Value.str (Str.ofString ")") _) (Value.int _ _)) _ _ _); refine mul_rp (by omega) ?_; intro _ _)) | ((with_reducible show wpAny _ _ (binaryOp Operator.FloorDiv (Value.int _ _) (Value.int _ _)) _ _ _); ((refine' floordiv_int ?k1 ?_ ?k2; (case k1 => exact sh_ne (by omega) (by omega)); (case k2 => exact .inl (PyProof.noPylong_small (sh_small (by omega) (by omega))))))) | ((k_here; (with_reducible show wpAny _ _ (subscriptTail _ _ (Value.ref _) (Value.int _ _)) _ _ _); k_dflt (first | (refine' dep_sub ?k1 ?k2 ?k3 ?k4 ?k5 ?k6 ?_ ?k7; (case k1 => k_asm); (case k2 => k_mem); (case k3 => with_reducible assumption); (case k4 => with_reducible assumption); (case k5 => omega); (case k6 => omega); (case k7 => with_unfolding_all rfl); k_whole; intro _) | (refine' lab_sub ?k1 ?k2 ?k3 ?k4 ?k5 ?_ ?k7; (case k1 => k_asm); (case k2 => k_mem); (case k3 => with_reducible assumption); (case k4 => omega); (case k5 => omega); (case k7 => with_unfolding_all rfl); k_whole; intro _)))) | ((k_here; (with_reducible show wpAny _ _ (call (Value.builtin "len") [Value.ref _]) _ _ _); refine' KM.len_K ?k1 ?k2 ?k3 ?k4 ?_; (case k1 => k_asm); (case k2 => k_mem); (case k3 => assumption); (case k4 => omega))) | (((with_reducible show wpAny _ _ (call (Value.ref 83) _) _ _ _); refine halt ?_)) | (((with_reducible show wpAny _ _ (call (Value.ref 51) _) _ _ _); refine halt ?_)) | (((with_reducible show wpAny _ _ (call (Value.ref 193) _) _ _ _); refine halt ?_)) | walk1)) | (dsimp only; (fail_if_success (with_reducible show wpAny _ _ (exec (Stmt.If _ _ _ _) _) _ _ _)); (first | (((with_reducible show wpAny _ _ (getMethod (Value.str _ _) (Str.ofString "encode") _) _ _ _); refine m_encode ?_)) | (((with_reducible show wpAny _ _ (subscriptTail _ (PySem.Expr.Slice (some _) (some _) none _) _ _) _ _ _); (with_reducible rename Fr _ _ _ _ => F'); (with_reducible rename News _ _ _ _ => N'); (refine sl_ss (s := ⟨_, _, _, _, _⟩) (by with_reducible assumption) F' N' (by omega) ?_); intro _ _ _ _ _)) | (((with_reducible show wpAny _ _ (subscriptTail _ (PySem.Expr.Slice none (some _) none _) _ _) _ _ _); (with_reducible rename Fr _ _ _ _ => F'); (with_reducible rename News _ _ _ _ => N'); (refine sl_ns (s := ⟨_, _, _, _, _⟩) (by with_reducible assumption) F' N' (by omega) ?_); intro _ _ _ _ _)) | (((with_reducible show wpAny _ _ (call (Value.builtin "len") [Value.str (tx _) _]) _ _ _); refine len_tx (by omega) ?_; intro _ _)) | ((with_reducible show wpAny _ _ (call (Value.builtin "str.encode") _) _ _ _); ((refine call_encode (by with_reducible assumption) (by omega) ?_; intro _ _))) | ((with_reducible show wpAny _ _ (call (Value.builtin "str.find") _) _ _ _); ((refine find_tx (by with_reducible assumption) ?_; intro _ _))) | (((with_reducible show wpAny _ _ (binaryOp Operator.Add (Value.str (tx _) _) (Value.str (tx _) _)) _ _ _); refine add_tx (by simp only [List.length_append, List.length_replicate]; omega) ?_; intro _ _)) | (first | ((with_reducible show wpAny _ _ (binaryOp Operator.Mult (Value.str (Str.ofString "(") _) (Value.int _ _)) _ _ _); refine mul_lp (by omega) ?_; intro _ _) | ((with_reducible show wpAny _ _ (binaryOp Operator.Mult (Value.str (Str.ofString ")") _) (Value.int _ _)) _ _ _); refine mul_rp (by omega) ?_; intro _ _)) | ((with_reducible show wpAny _ _ (binaryOp Operator.FloorDiv (Value.int _ _) (Value.int _ _)) _ _ _); ((refine' floordiv_int ?k1 ?_ ?k2; (case k1 => exact sh_ne (by omega) (by omega)); (case k2 => exact .inl (PyProof.noPylong_small (sh_small (by omega) (by omega))))))) | ((k_here; (with_reducible show wpAny _ _ (subscriptTail _ _ (Value.ref _) (Value.int _ _)) _ _ _); k_dflt (first | (refine' dep_sub ?k1 ?k2 ?k3 ?k4 ?k5 ?k6 ?_ ?k7; (case k1 => k_asm); (case k2 => k_mem); (case k3 => with_reducible assumption); (case k4 => with_reducible assumption); (case k5 => omega); (case k6 => omega); (case k7 => with_unfolding_all rfl); k_whole; intro _) | (refine' lab_sub ?k1 ?k2 ?k3 ?k4 ?k5 ?_ ?k7; (case k1 => k_asm); (case k2 => k_mem); (case k3 => with_reducible assumption); (case k4 => omega); (case k5 => omega); (case k7 => with_unfolding_all rfl); k_whole; intro _)))) | ((k_here; (with_reducible show wpAny _ _ (call (Value.builtin "len") [Value.ref _]) _ _ _); refine' KM.len_K ?k1 ?k2 ?k3 ?k4 ?_; (case k1 => k_asm); (case k2 => k_mem); (case k3 => assumption); (case k4 => omega))) | (((with_reducible show wpAny _ _ (call (Value.ref 83) _) _ _ _); refine halt ?_)) | (((with_reducible show wpAny _ _ (call (Value.ref 51) _) _ _ _); refine halt ?_)) | (((with_reducible show wpAny _ _ (call (Value.ref 193) _) _ _ _); refine halt ?_)) | walk1)))))
      with_reducible rename News s1.heap _ _ _ => N7
      with_reducible rename Fr s1.heap _ _ _ => F7
      refine unhalt ?_
      refine wpAny_call ?_
      refine c_run K1 F7 KX N7 T rfl (Around.frames_deeper K1.stack) rfl rfl ?_ ?_ (by omega) (by omega) ?_
      · simp only [depth_deeper]; decide
      · simp only [Around.deeper_units]; decide
      intro h8 tk8 t8 F8 N8
      dsimp only
      rw [hr1]
      ((try clear hr1))
      ((try clear N7); (try clear F7))
      have htoks : toks = (pre ++ List.replicate o 0) ++ (k + 2) :: (List.replicate c 1 ++ rem3) := by rw [htk, hrem, List.append_assoc]
      have hp1c : ∀ x ∈ pre ++ List.replicate o 0, x < k + 2 := by
        intro x hx
        rcases List.mem_append.mp hx with hx | hx
        · exact hpc x hx
        · rw [List.eq_of_mem_replicate hx]; omega
      have hfind := find_lab (Ts := Ts) (p2 := List.replicate c 1 ++ rem3) hp1c
      rw [← htoks] at hfind
      have hsl1 : Txt.slice (tx (rend Ts toks)) none (some ((rend Ts (pre ++ List.replicate o 0)).length : Int)) = tx (rend Ts (pre ++ List.replicate o 0)) := by
        rw [htoks, rend_app]; exact slice_to _ _
      have hsl2 : Txt.slice (tx (rend Ts toks)) (some ((rend Ts (pre ++ List.replicate o 0)).length : Int)) (some (((rend Ts (pre ++ List.replicate o 0)).length : Int) + ((labL k (Ts.getD k 0)).length : Nat))) = tx (labL k (Ts.getD k 0)) := by
        rw [htoks, rend_app, rend_cons, ← List.append_assoc]; exact slice_mid _ _ _
      have hlt := rend_len Ts toks
      have hlp := rend_len Ts (pre ++ List.replicate o 0)
      have hp1l : (pre ++ List.replicate o 0).length ≤ 40 := by
        have := congrArg List.length htoks
        rw [List.length_append (as := pre ++ List.replicate o 0)] at this
        omega
      have hp19 : ∀ x ∈ pre ++ List.replicate o 0, x < 9 := fun x hx => hsm2 x (by rw [htoks]; exact List.mem_append_left _ hx)
      have h128 := rend_128 (Ts := Ts) hp19
      have hcn0 : (pre ++ List.replicate o 0).count 0 = pre.count 0 + o := by rw [List.count_append, List.count_replicate_self]
      have hcn1 : (pre ++ List.replicate o 0).count 1 = pre.count 1 := by rw [List.count_append, List.count_replicate]; simp
      have hrp1 : rend Ts (pre ++ List.replicate o 0) = rend Ts pre ++ List.replicate o 40 := by rw [rend_app, rend_rep0]
      have hdue : rend Ts pre ++ List.replicate o 40 ++ labL k (Ts.getD k 0) ++ List.replicate c 41 = rend Ts (pre ++ List.replicate o 0 ++ (k + 2) :: List.replicate c 1) := by
        rw [rend_app, rend_cons, rend_rep1, hrp1, List.append_assoc]; rfl
      generalize hP1 : pre ++ List.replicate o 0 = p1 at *
      have hdepN : sz + p1.count 0 = d + p1.count 1 := by
        obtain ⟨hbal, hcur⟩ := hW.get
        omega
      ((try clear hW); (try clear hcn1); (try clear hcn0))
      repeat' (((first | (k_unfold; (try dsimp only); (try clear qk); (try clear ek)) | ((with_reducible show wpAny _ _ (exec _ _) _ _ _); k_fold) | ((fail_if_success (with_reducible show wpAny _ _ (exec (Stmt.If _ _ _ _) _) _ _ _)); (first | (((with_reducible show wpAny _ _ (getMethod (Value.str _ _) (Str.ofString "encode") _) _ _ _); refine m_encode ?_)) | (((with_reducible show wpAny _ _ (subscriptTail _ (PySem.Expr.Slice (some _) (some _) none _) _ _) _ _ _); (with_reducible rename Fr _ _ _ _ => F'); (with_reducible rename News _ _ _ _ => N'); (refine sl_ss (s := ⟨_, _, _, _, _⟩) (by with_reducible assumption) F' N' (by omega) ?_); intro _ _ _ _ _)) | (((with_reducible show wpAny _ _ (subscriptTail _ (PySem.Expr.Slice none (some _) none _) _ _) _ _ _); (with_reducible rename Fr _ _ _ _ => F'); (with_reducible rename News _ _ _ _ => N'); (refine sl_ns (s := ⟨_, _, _, _, _⟩) (by with_reducible assumption) F' N' (by omega) ?_); intro _ _ _ _ _)) | (((with_reducible show wpAny _ _ (call (Value.builtin "len") [Value.str (tx _) _]) _ _ _); refine len_tx (by omega) ?_; intro _ _)) | ((with_reducible show wpAny _ _ (call (Value.builtin "str.encode") _) _ _ _); ((refine call_encode (by with_reducible assumption) (by omega) ?_; intro _ _))) | ((with_reducible show wpAny _ _ (call (Value.builtin "str.find") _) _ _ _); ((refine find_tx (by with_reducible assumption) ?_; intro _ _))) | (((with_reducible show wpAny _ _ (binaryOp Operator.Add (Value.str (tx _) _) (Value.str (tx _) _)) _ _ _); refine add_tx (by simp only [List.length_append, List.length_replicate]; omega) ?_; intro _ _)) | (first | ((with_reducible show wpAny _ _ (binaryOp Operator.Mult (Value.str (Str.ofString "(") _) (Value.int _ _)) _ _ _); refine mul_lp (by omega) ?_; intro _ _) | ((with_reducible show wpAny _ _ (binaryOp Operator.Mult (Value.str (Str.ofString ")") _) (Value.int _ _)) _ _ _); refine mul_rp (by omega) ?_; intro _ _)) | ((with_reducible show wpAny _ _ (binaryOp Operator.FloorDiv (Value.int _ _) (Value.int _ _)) _ _ _); ((refine' floordiv_int ?k1 ?_ ?k2; (case k1 => exact sh_ne (by omega) (by omega)); (case k2 => exact .inl (PyProof.noPylong_small (sh_small (by omega) (by omega))))))) | ((k_here; (with_reducible show wpAny _ _ (subscriptTail _ _ (Value.ref _) (Value.int _ _)) _ _ _); k_dflt (first | (refine' dep_sub ?k1 ?k2 ?k3 ?k4 ?k5 ?k6 ?_ ?k7; (case k1 => k_asm); (case k2 => k_mem); (case k3 => with_reducible assumption); (case k4 => with_reducible assumption); (case k5 => omega); (case k6 => omega); (case k7 => with_unfolding_all rfl); k_whole; intro _) | (refine' lab_sub ?k1 ?k2 ?k3 ?k4 ?k5 ?_ ?k7; (case k1 => k_asm); (case k2 => k_mem); (case k3 => with_reducible assumption); (case k4 => omega); (case k5 => omega); (case k7 => with_unfolding_all rfl); k_whole; intro _)))) | ((k_here; (with_reducible show wpAny _ _ (call (Value.builtin "len") [Value.ref _]) _ _ _); refine' KM.len_K ?k1 ?k2 ?k3 ?k4 ?_; (case k1 => k_asm); (case k2 => k_mem); (case k3 => assumption); (case k4 => omega))) | (((with_reducible show wpAny _ _ (call (Value.ref 83) _) _ _ _); refine halt ?_)) | (((with_reducible show wpAny _ _ (call (Value.ref 51) _) _ _ _); refine halt ?_)) | (((with_reducible show wpAny _ _ (call (Value.ref 193) _) _ _ _); refine halt ?_)) | walk1)) | (dsimp only; (fail_if_success (with_reducible show wpAny _ _ (exec (Stmt.If _ _ _ _) _) _ _ _)); (first | (((with_reducible show wpAny _ _ (getMethod (Value.str _ _) (Str.ofString "encode") _) _ _ _); refine m_encode ?_)) | (((with_reducible show wpAny _ _ (subscriptTail _ (PySem.Expr.Slice (some _) (some _) none _) _ _) _ _ _); (with_reducible rename Fr _ _ _ _ => F'); (with_reducible rename News _ _ _ _ => N'); (refine sl_ss (s := ⟨_, _, _, _, _⟩) (by with_reducible assumption) F' N' (by omega) ?_); intro _ _ _ _ _)) | (((with_reducible show wpAny _ _ (subscriptTail _ (PySem.Expr.Slice none (some _) none _) _ _) _ _ _); (with_reducible rename Fr _ _ _ _ => F'); (with_reducible rename News _ _ _ _ => N'); (refine sl_ns (s := ⟨_, _, _, _, _⟩) (by with_reducible assumption) F' N' (by omega) ?_); intro _ _ _ _ _)) | (((with_reducible show wpAny _ _ (call (Value.builtin "len") [Value.str (tx _) _]) _ _ _); refine len_tx (by omega) ?_; intro _ _)) | ((with_reducible show wpAny _ _ (call (Value.builtin "str.encode") _) _ _ _); ((refine call_encode (by with_reducible assumption) (by omega) ?_; intro _ _))) | ((with_reducible show wpAny _ _ (call (Value.builtin "str.find") _) _ _ _); ((refine find_tx (by with_reducible assumption) ?_; intro _ _))) | (((with_reducible show wpAny _ _ (binaryOp Operator.Add (Value.str (tx _) _) (Value.str (tx _) _)) _ _ _); refine add_tx (by simp only [List.length_append, List.length_replicate]; omega) ?_; intro _ _)) | (first | ((with_reducible show wpAny _ _ (binaryOp Operator.Mult (Value.str (Str.ofString "(") _) (Value.int _ _)) _ _ _); refine mul_lp (by omega) ?_; intro _ _) | ((with_reducible show wpAny _ _ (binaryOp Operator.Mult (Value.str (Str.ofString ")") _) (Value.int _ _)) _ _ _); refine mul_rp (by omega) ?_; intro _ _)) | ((with_reducible show wpAny _ _ (binaryOp Operator.FloorDiv (Value.int _ _) (Value.int _ _)) _ _ _); ((refine' floordiv_int ?k1 ?_ ?k2; (case k1 => exact sh_ne (by omega) (by omega)); (case k2 => exact .inl (PyProof.noPylong_small (sh_small (by omega) (by omega))))))) | ((k_here; (with_reducible show wpAny _ _ (subscriptTail _ _ (Value.ref _) (Value.int _ _)) _ _ _); k_dflt (first | (refine' dep_sub ?k1 ?k2 ?k3 ?k4 ?k5 ?k6 ?_ ?k7; (case k1 => k_asm); (case k2 => k_mem); (case k3 => with_reducible assumption); (case k4 => with_reducible assumption); (case k5 => omega); (case k6 => omega); (case k7 => with_unfolding_all rfl); k_whole; intro _) | (refine' lab_sub ?k1 ?k2 ?k3 ?k4 ?k5 ?_ ?k7; (case k1 => k_asm); (case k2 => k_mem); (case k3 => with_reducible assumption); (case k4 => omega); (case k5 => omega); (case k7 => with_unfolding_all rfl); k_whole; intro _)))) | ((k_here; (with_reducible show wpAny _ _ (call (Value.builtin "len") [Value.ref _]) _ _ _); refine' KM.len_K ?k1 ?k2 ?k3 ?k4 ?_; (case k1 => k_asm); (case k2 => k_mem); (case k3 => assumption); (case k4 => omega))) | (((with_reducible show wpAny _ _ (call (Value.ref 83) _) _ _ _); refine halt ?_)) | (((with_reducible show wpAny _ _ (call (Value.ref 51) _) _ _ _); refine halt ?_)) | (((with_reducible show wpAny _ _ (call (Value.ref 193) _) _ _ _); refine halt ?_)) | walk1)))))
      with_reducible rename News s1.heap _ _ _ => N9
      with_reducible rename Fr s1.heap _ _ _ => F9
      refine unhalt ?_
      refine wpAny_call ?_
      refine c_parenT K1 F9 KX N9 T rfl (Around.frames_deeper K1.stack) rfl rfl ?_ hp1l hp19 ?_
      · simp only [depth_deeper]; decide
      intro t10 h10 tk10 F10 N10
      dsimp only
      have hdep : (sz : Int) + (p1.count 0 : Nat) - (p1.count 1 : Nat) = (d : Int) := by omega
      rw [hdep]
      ((try clear N9); (try clear F9))
      repeat' (((first | (k_unfold; (try dsimp only); (try clear qk); (try clear ek)) | ((with_reducible show wpAny _ _ (exec _ _) _ _ _); k_fold) | ((fail_if_success (with_reducible show wpAny _ _ (exec (Stmt.If _ _ _ _) _) _ _ _)); (first | (((with_reducible show wpAny _ _ (getMethod (Value.str _ _) (Str.ofString "encode") _) _ _ _); refine m_encode ?_)) | (((with_reducible show wpAny _ _ (subscriptTail _ (PySem.Expr.Slice (some _) (some _) none _) _ _) _ _ _); (with_reducible rename Fr _ _ _ _ => F'); (with_reducible rename News _ _ _ _ => N'); (refine sl_ss (s := ⟨_, _, _, _, _⟩) (by with_reducible assumption) F' N' (by omega) ?_); intro _ _ _ _ _)) | (((with_reducible show wpAny _ _ (subscriptTail _ (PySem.Expr.Slice none (some _) none _) _ _) _ _ _); (with_reducible rename Fr _ _ _ _ => F'); (with_reducible rename News _ _ _ _ => N'); (refine sl_ns (s := ⟨_, _, _, _, _⟩) (by with_reducible assumption) F' N' (by omega) ?_); intro _ _ _ _ _)) | (((with_reducible show wpAny _ _ (call (Value.builtin "len") [Value.str (tx _) _]) _ _ _); refine len_tx (by omega) ?_; intro _ _)) | ((with_reducible show wpAny _ _ (call (Value.builtin "str.encode") _) _ _ _); ((refine call_encode (by with_reducible assumption) (by omega) ?_; intro _ _))) | ((with_reducible show wpAny _ _ (call (Value.builtin "str.find") _) _ _ _); ((refine find_tx (by with_reducible assumption) ?_; intro _ _))) | (((with_reducible show wpAny _ _ (binaryOp Operator.Add (Value.str (tx _) _) (Value.str (tx _) _)) _ _ _); refine add_tx (by simp only [List.length_append, List.length_replicate]; omega) ?_; intro _ _)) | (first | ((with_reducible show wpAny _ _ (binaryOp Operator.Mult (Value.str (Str.ofString "(") _) (Value.int _ _)) _ _ _); refine mul_lp (by omega) ?_; intro _ _) | ((with_reducible show wpAny _ _ (binaryOp Operator.Mult (Value.str (Str.ofString ")") _) (Value.int _ _)) _ _ _); refine mul_rp (by omega) ?_; intro _ _)) | ((with_reducible show wpAny _ _ (binaryOp Operator.FloorDiv (Value.int _ _) (Value.int _ _)) _ _ _); ((refine' floordiv_int ?k1 ?_ ?k2; (case k1 => exact sh_ne (by omega) (by omega)); (case k2 => exact .inl (PyProof.noPylong_small (sh_small (by omega) (by omega))))))) | ((k_here; (with_reducible show wpAny _ _ (subscriptTail _ _ (Value.ref _) (Value.int _ _)) _ _ _); k_dflt (first | (refine' dep_sub ?k1 ?k2 ?k3 ?k4 ?k5 ?k6 ?_ ?k7; (case k1 => k_asm); (case k2 => k_mem); (case k3 => with_reducible assumption); (case k4 => with_reducible assumption); (case k5 => omega); (case k6 => omega); (case k7 => with_unfolding_all rfl); k_whole; intro _) | (refine' lab_sub ?k1 ?k2 ?k3 ?k4 ?k5 ?_ ?k7; (case k1 => k_asm); (case k2 => k_mem); (case k3 => with_reducible assumption); (case k4 => omega); (case k5 => omega); (case k7 => with_unfolding_all rfl); k_whole; intro _)))) | ((k_here; (with_reducible show wpAny _ _ (call (Value.builtin "len") [Value.ref _]) _ _ _); refine' KM.len_K ?k1 ?k2 ?k3 ?k4 ?_; (case k1 => k_asm); (case k2 => k_mem); (case k3 => assumption); (case k4 => omega))) | (((with_reducible show wpAny _ _ (call (Value.ref 83) _) _ _ _); refine halt ?_)) | (((with_reducible show wpAny _ _ (call (Value.ref 51) _) _ _ _); refine halt ?_)) | (((with_reducible show wpAny _ _ (call (Value.ref 193) _) _ _ _); refine halt ?_)) | walk1)) | (dsimp only; (fail_if_success (with_reducible show wpAny _ _ (exec (Stmt.If _ _ _ _) _) _ _ _)); (first | (((with_reducible show wpAny _ _ (getMethod (Value.str _ _) (Str.ofString "encode") _) _ _ _); refine m_encode ?_)) | (((with_reducible show wpAny _ _ (subscriptTail _ (PySem.Expr.Slice (some _) (some _) none _) _ _) _ _ _); (with_reducible rename Fr _ _ _ _ => F'); (with_reducible rename News _ _ _ _ => N'); (refine sl_ss (s := ⟨_, _, _, _, _⟩) (by with_reducible assumption) F' N' (by omega) ?_); intro _ _ _ _ _)) | (((with_reducible show wpAny _ _ (subscriptTail _ (PySem.Expr.Slice none (some _) none _) _ _) _ _ _); (with_reducible rename Fr _ _ _ _ => F'); (with_reducible rename News _ _ _ _ => N'); (refine sl_ns (s := ⟨_, _, _, _, _⟩) (by with_reducible assumption) F' N' (by omega) ?_); intro _ _ _ _ _)) | (((with_reducible show wpAny _ _ (call (Value.builtin "len") [Value.str (tx _) _]) _ _ _); refine len_tx (by omega) ?_; intro _ _)) | ((with_reducible show wpAny _ _ (call (Value.builtin "str.encode") _) _ _ _); ((refine call_encode (by with_reducible assumption) (by omega) ?_; intro _ _))) | ((with_reducible show wpAny _ _ (call (Value.builtin "str.find") _) _ _ _); ((refine find_tx (by with_reducible assumption) ?_; intro _ _))) | (((with_reducible show wpAny _ _ (binaryOp Operator.Add (Value.str (tx _) _) (Value.str (tx _) _)) _ _ _); refine add_tx (by simp only [List.length_append, List.length_replicate]; omega) ?_; intro _ _)) | (first | ((with_reducible show wpAny _ _ (binaryOp Operator.Mult (Value.str (Str.ofString "(") _) (Value.int _ _)) _ _ _); refine mul_lp (by omega) ?_; intro _ _) | ((with_reducible show wpAny _ _ (binaryOp Operator.Mult (Value.str (Str.ofString ")") _) (Value.int _ _)) _ _ _); refine mul_rp (by omega) ?_; intro _ _)) | ((with_reducible show wpAny _ _ (binaryOp Operator.FloorDiv (Value.int _ _) (Value.int _ _)) _ _ _); ((refine' floordiv_int ?k1 ?_ ?k2; (case k1 => exact sh_ne (by omega) (by omega)); (case k2 => exact .inl (PyProof.noPylong_small (sh_small (by omega) (by omega))))))) | ((k_here; (with_reducible show wpAny _ _ (subscriptTail _ _ (Value.ref _) (Value.int _ _)) _ _ _); k_dflt (first | (refine' dep_sub ?k1 ?k2 ?k3 ?k4 ?k5 ?k6 ?_ ?k7; (case k1 => k_asm); (case k2 => k_mem); (case k3 => with_reducible assumption); (case k4 => with_reducible assumption); (case k5 => omega); (case k6 => omega); (case k7 => with_unfolding_all rfl); k_whole; intro _) | (refine' lab_sub ?k1 ?k2 ?k3 ?k4 ?k5 ?_ ?k7; (case k1 => k_asm); (case k2 => k_mem); (case k3 => with_reducible assumption); (case k4 => omega); (case k5 => omega); (case k7 => with_unfolding_all rfl); k_whole; intro _)))) | ((k_here; (with_reducible show wpAny _ _ (call (Value.builtin "len") [Value.ref _]) _ _ _); refine' KM.len_K ?k1 ?k2 ?k3 ?k4 ?_; (case k1 => k_asm); (case k2 => k_mem); (case k3 => assumption); (case k4 => omega))) | (((with_reducible show wpAny _ _ (call (Value.ref 83) _) _ _ _); refine halt ?_)) | (((with_reducible show wpAny _ _ (call (Value.ref 51) _) _ _ _); refine halt ?_)) | (((with_reducible show wpAny _ _ (call (Value.ref 193) _) _ _ _); refine halt ?_)) | walk1)))))
      with_reducible rename News s1.heap _ _ _ => N11
      with_reducible rename Fr s1.heap _ _ _ => F11
      with_reducible rename (Obj.data _ = Data.cell (some (Value.int _ _))) => hck2
      refine unhalt ?_
      refine c_ex K1 F11 KX N11 T rfl (Around.frames_deeper K1.stack) rfl rfl ?_ ?_ ?_ ?_
      · simp only [depth_deeper]; decide
      · simp only [Around.deeper_units]; decide
      · rw [tx_len]; omega
      intro xA xd xo oE xtk h12 tk12 F12 N12 l1 l2 l3 hzE hoE
      dsimp only
      ((try clear N11); (try clear F11))
      have l2' : @LT.lt Nat _ xd xA := l2
      have l3' : @LT.lt Nat _ xA xo := l3
      have lI : @LT.lt Nat _ I xd := l1 _ (List.Mem.head _)
      have lR : @LT.lt Nat _ RL xd := l1 _ (List.Mem.tail _ (List.Mem.head _))
      have src1 := (src_all k (by omega) (Ts.getD k 0) (labs_lt hLab (by omega))).2.2
      rw [src1] at N12
      have cons3 : ∀ (a : Addr), @LT.lt Nat _ a xd → (∀ p ∈ EZ, @Ne Nat p.1 a) → ∀ p ∈ (xo, oE) :: (xA, instObj 83 xd) :: (xd, exD w.params xtk (tx (labL k (Ts.getD k 0)) ++ Str.ofString "\n") k d xo) :: EZ, @Ne Nat p.1 a := by
        intro a ha hE
        refine List.forall_mem_cons.mpr ⟨?_, List.forall_mem_cons.mpr ⟨?_, List.forall_mem_cons.mpr ⟨?_, hE⟩⟩⟩ <;> dsimp only <;> omega
      have gI' := cons3 I lI gI
      have hn0' := cons3 RL lR hn0
      have hn3' := cons3 (s1.heap.objs.size + 1 + 1 + 1) (by omega) hn3
      have hn2' := cons3 (s1.heap.objs.size + 1 + 1) (by omega) hn2
      have hn1' := cons3 (s1.heap.objs.size + 1) (by omega) hn1
      replace N12 := re9 N12
      replace gO2 : (la, W.listOf lvs.toArray ln) ∈ (xo, oE) :: (xA, instObj 83 xd) :: (xd, exD w.params xtk (tx (labL k (Ts.getD k 0)) ++ Str.ofString "\n") k d xo) :: EZ := List.Mem.tail _ (List.Mem.tail _ (List.Mem.tail _ gO2))
      replace gO3 : (da, W.listOf dvs.toArray dn) ∈ (xo, oE) :: (xA, instObj 83 xd) :: (xd, exD w.params xtk (tx (labL k (Ts.getD k 0)) ++ Str.ofString "\n") k d xo) :: EZ := List.Mem.tail _ (List.Mem.tail _ (List.Mem.tail _ gO3))
      generalize hEZ2 : (xo, oE) :: (xA, instObj 83 xd) :: (xd, exD w.params xtk (tx (labL k (Ts.getD k 0)) ++ Str.ofString "\n") k d xo) :: EZ = EZ2 at N12 gI' hn0' hn3' hn2' hn1' gO2 gO3
      ((try clear cons3); (try clear l1); (try clear hn3); (try clear hn2); (try clear hn1); (try clear hn0); (try clear gI))
      repeat' (((first | (k_unfold; (try dsimp only); (try clear qk); (try clear ek)) | ((with_reducible show wpAny _ _ (exec _ _) _ _ _); k_fold) | ((fail_if_success (with_reducible show wpAny _ _ (exec (Stmt.If _ _ _ _) _) _ _ _)); (first | (((with_reducible show wpAny _ _ (getMethod (Value.str _ _) (Str.ofString "encode") _) _ _ _); refine m_encode ?_)) | (((with_reducible show wpAny _ _ (subscriptTail _ (PySem.Expr.Slice (some _) (some _) none _) _ _) _ _ _); (with_reducible rename Fr _ _ _ _ => F'); (with_reducible rename News _ _ _ _ => N'); (refine sl_ss (s := ⟨_, _, _, _, _⟩) (by with_reducible assumption) F' N' (by omega) ?_); intro _ _ _ _ _)) | (((with_reducible show wpAny _ _ (subscriptTail _ (PySem.Expr.Slice none (some _) none _) _ _) _ _ _); (with_reducible rename Fr _ _ _ _ => F'); (with_reducible rename News _ _ _ _ => N'); (refine sl_ns (s := ⟨_, _, _, _, _⟩) (by with_reducible assumption) F' N' (by omega) ?_); intro _ _ _ _ _)) | (((with_reducible show wpAny _ _ (call (Value.builtin "len") [Value.str (tx _) _]) _ _ _); refine len_tx (by omega) ?_; intro _ _)) | ((with_reducible show wpAny _ _ (call (Value.builtin "str.encode") _) _ _ _); ((refine call_encode (by with_reducible assumption) (by omega) ?_; intro _ _))) | ((with_reducible show wpAny _ _ (call (Value.builtin "str.find") _) _ _ _); ((refine find_tx (by with_reducible assumption) ?_; intro _ _))) | (((with_reducible show wpAny _ _ (binaryOp Operator.Add (Value.str (tx _) _) (Value.str (tx _) _)) _ _ _); refine add_tx (by simp only [List.length_append, List.length_replicate]; omega) ?_; intro _ _)) | (first | ((with_reducible show wpAny _ _ (binaryOp Operator.Mult (Value.str (Str.ofString "(") _) (Value.int _ _)) _ _ _); refine mul_lp (by omega) ?_; intro _ _) | ((with_reducible show wpAny _ _ (binaryOp Operator.Mult (Value.str (Str.ofString ")") _) (Value.int _ _)) _ _ _); refine mul_rp (by omega) ?_; intro _ _)) | ((with_reducible show wpAny _ _ (binaryOp Operator.FloorDiv (Value.int _ _) (Value.int _ _)) _ _ _); ((refine' floordiv_int ?k1 ?_ ?k2; (case k1 => exact sh_ne (by omega) (by omega)); (case k2 => exact .inl (PyProof.noPylong_small (sh_small (by omega) (by omega))))))) | ((k_here; (with_reducible show wpAny _ _ (subscriptTail _ _ (Value.ref _) (Value.int _ _)) _ _ _); k_dflt (first | (refine' dep_sub ?k1 ?k2 ?k3 ?k4 ?k5 ?k6 ?_ ?k7; (case k1 => k_asm); (case k2 => k_mem); (case k3 => with_reducible assumption); (case k4 => with_reducible assumption); (case k5 => omega); (case k6 => omega); (case k7 => with_unfolding_all rfl); k_whole; intro _) | (refine' lab_sub ?k1 ?k2 ?k3 ?k4 ?k5 ?_ ?k7; (case k1 => k_asm); (case k2 => k_mem); (case k3 => with_reducible assumption); (case k4 => omega); (case k5 => omega); (case k7 => with_unfolding_all rfl); k_whole; intro _)))) | ((k_here; (with_reducible show wpAny _ _ (call (Value.builtin "len") [Value.ref _]) _ _ _); refine' KM.len_K ?k1 ?k2 ?k3 ?k4 ?_; (case k1 => k_asm); (case k2 => k_mem); (case k3 => assumption); (case k4 => omega))) | (((with_reducible show wpAny _ _ (call (Value.ref 83) _) _ _ _); refine halt ?_)) | (((with_reducible show wpAny _ _ (call (Value.ref 51) _) _ _ _); refine halt ?_)) | (((with_reducible show wpAny _ _ (call (Value.ref 193) _) _ _ _); refine halt ?_)) | walk1)) | (dsimp only; (fail_if_success (with_reducible show wpAny _ _ (exec (Stmt.If _ _ _ _) _) _ _ _)); (first | (((with_reducible show wpAny _ _ (getMethod (Value.str _ _) (Str.ofString "encode") _) _ _ _); refine m_encode ?_)) | (((with_reducible show wpAny _ _ (subscriptTail _ (PySem.Expr.Slice (some _) (some _) none _) _ _) _ _ _); (with_reducible rename Fr _ _ _ _ => F'); (with_reducible rename News _ _ _ _ => N'); (refine sl_ss (s := ⟨_, _, _, _, _⟩) (by with_reducible assumption) F' N' (by omega) ?_); intro _ _ _ _ _)) | (((with_reducible show wpAny _ _ (subscriptTail _ (PySem.Expr.Slice none (some _) none _) _ _) _ _ _); (with_reducible rename Fr _ _ _ _ => F'); (with_reducible rename News _ _ _ _ => N'); (refine sl_ns (s := ⟨_, _, _, _, _⟩) (by with_reducible assumption) F' N' (by omega) ?_); intro _ _ _ _ _)) | (((with_reducible show wpAny _ _ (call (Value.builtin "len") [Value.str (tx _) _]) _ _ _); refine len_tx (by omega) ?_; intro _ _)) | ((with_reducible show wpAny _ _ (call (Value.builtin "str.encode") _) _ _ _); ((refine call_encode (by with_reducible assumption) (by omega) ?_; intro _ _))) | ((with_reducible show wpAny _ _ (call (Value.builtin "str.find") _) _ _ _); ((refine find_tx (by with_reducible assumption) ?_; intro _ _))) | (((with_reducible show wpAny _ _ (binaryOp Operator.Add (Value.str (tx _) _) (Value.str (tx _) _)) _ _ _); refine add_tx (by simp only [List.length_append, List.length_replicate]; omega) ?_; intro _ _)) | (first | ((with_reducible show wpAny _ _ (binaryOp Operator.Mult (Value.str (Str.ofString "(") _) (Value.int _ _)) _ _ _); refine mul_lp (by omega) ?_; intro _ _) | ((with_reducible show wpAny _ _ (binaryOp Operator.Mult (Value.str (Str.ofString ")") _) (Value.int _ _)) _ _ _); refine mul_rp (by omega) ?_; intro _ _)) | ((with_reducible show wpAny _ _ (binaryOp Operator.FloorDiv (Value.int _ _) (Value.int _ _)) _ _ _); ((refine' floordiv_int ?k1 ?_ ?k2; (case k1 => exact sh_ne (by omega) (by omega)); (case k2 => exact .inl (PyProof.noPylong_small (sh_small (by omega) (by omega))))))) | ((k_here; (with_reducible show wpAny _ _ (subscriptTail _ _ (Value.ref _) (Value.int _ _)) _ _ _); k_dflt (first | (refine' dep_sub ?k1 ?k2 ?k3 ?k4 ?k5 ?k6 ?_ ?k7; (case k1 => k_asm); (case k2 => k_mem); (case k3 => with_reducible assumption); (case k4 => with_reducible assumption); (case k5 => omega); (case k6 => omega); (case k7 => with_unfolding_all rfl); k_whole; intro _) | (refine' lab_sub ?k1 ?k2 ?k3 ?k4 ?k5 ?_ ?k7; (case k1 => k_asm); (case k2 => k_mem); (case k3 => with_reducible assumption); (case k4 => omega); (case k5 => omega); (case k7 => with_unfolding_all rfl); k_whole; intro _)))) | ((k_here; (with_reducible show wpAny _ _ (call (Value.builtin "len") [Value.ref _]) _ _ _); refine' KM.len_K ?k1 ?k2 ?k3 ?k4 ?_; (case k1 => k_asm); (case k2 => k_mem); (case k3 => assumption); (case k4 => omega))) | (((with_reducible show wpAny _ _ (call (Value.ref 83) _) _ _ _); refine halt ?_)) | (((with_reducible show wpAny _ _ (call (Value.ref 51) _) _ _ _); refine halt ?_)) | (((with_reducible show wpAny _ _ (call (Value.ref 193) _) _ _ _); refine halt ?_)) | walk1)))))
      with_reducible rename News s1.heap _ _ _ => N13
      with_reducible rename Fr s1.heap _ _ _ => F13
      have hpush : rvs.toArray.push (Value.ref xA) = (rvs ++ [Value.ref xA]).toArray := by simp
      rw [hpush] at N13
      have hexA : ExAt w ((xo, oE) :: (xA, instObj 83 xd) :: (xd, exD w.params xtk (tx (labL k (Ts.getD k 0)) ++ Str.ofString "\n") k d xo) :: ex) (.ref xA) (tx (labL k (Ts.getD k 0)) ++ Str.ofString "\n") (k : Int) (ds.getD k 0) :=
        ⟨xA, xd, xo, oE, xtk, rfl, List.Mem.tail _ (List.Mem.head _), by rw [hdd]; exact List.Mem.tail _ (List.Mem.tail _ (List.Mem.head _)), List.Mem.head _, hoE, hzE⟩
      have hbe : (b : Int) + Int.fdiv 256 (2 ^ ((d : Nat) : Int).toNat) = ((b + 256 >>> d : Nat) : Int) := by rw [shr_eq hd8]; push_cast; rfl
      subst hEZ
      subst hEZ2
      refine ⟨_, _, _, _, f, rfl, F13, N13, Nat.lt_succ_self f, _, _, rvs ++ [Value.ref xA], rn + 1, (xo, oE) :: (xA, instObj 83 xd) :: (xd, exD w.params xtk (tx (labL k (Ts.getD k 0)) ++ Str.ofString "\n") k d xo) :: ex, b + 256 >>> d, k + 1, rem3, p1 ++ (k + 2) :: List.replicate c 1, d - c, ?tb1, ?td1, _, _, _,
        rfl, hck2, by simp [hrk], ?lin, hin3, ?toks, ?bal, ?lt, gI', hn0', hn3', hn2', hn1', ⟨?hb, ?hd, rfl, rfl, rfl, rfl, rfl, rfl, rfl, trivial⟩, .inr ⟨k, p1, List.replicate c 1 ++ rem3, _, _, d, rfl, rfl, htoks, rfl, hdd, hkl, ?b2⟩⟩
      case lin =>
        refine (hLr.mono fun p hp => List.Mem.tail _ (List.Mem.tail _ (List.Mem.tail _ hp))).snoc ?_
        rw [hrk]
        exact hexA
      case toks => rw [htoks, List.append_assoc]; rfl
      case bal =>
        rw [List.count_append, List.count_append, List.count_cons, List.count_cons, List.count_replicate, List.count_replicate_self]
        simp
        omega
      case lt =>
        intro x hx
        rcases List.mem_append.mp hx with hx | hx
        · have := hp1c x hx; omega
        · rcases List.mem_cons.mp hx with rfl | hx
          · omega
          · rw [List.eq_of_mem_replicate hx]; omega
      case hb => exact congrArg (fun z => some (Value.int z _)) hbe
      case hd => exact congrArg (fun z => some (Value.str (tx z) _)) hdue
      case b2 => exact hdepN
    · (rename_i zr1 zr3 zr4 zr6 zr15 zr17 zr35 zr141 zr143 zr162 zr170 zr192; clear hcr hO4 hp2 pdx pn P hLab hl7 vn li; (repeat (rename _ => zz; revert zz)); intro stk1; exact @Wr.get _ stk1)⟩
end Mine
end

example : 1 = 1 ∧ 2 = 2 := by
  w_top off
  walk1 <;> rfl
section
set_option maxRecDepth 100000
set_option Elab.async false
open PySem PySem.W PyProof.Rows PySem.Calls
namespace Mine
local macro_rules | `(tactic| k_mem) => `(tactic| (refine mt5 ?_; assumption))
local macro_rules | `(tactic| k_all) => `(tactic| (refine' List.forall_mem_cons.mpr (And.intro ?a ?b); (case a => k_ne); (case b => k_all)))
local macro_rules | `(tactic| k_all) => `(tactic| assumption)
local macro_rules | `(tactic| size_fits) => `(tactic| (rw [sizeLine_eq]; simp only [List.size_toArray]; omega))
set_option maxHeartbeats 8000000 in
theorem LawF_pf : Wr LawE_s.P := ⟨by
  intro w _ s1 _ _ _ T _ _ _ qk ek K1 la da lvs dvs vvs ln dn Ts ds hiD hd7 cl pa rl pvs EY hO2 hO3 rowL vs0 ra rxs hri RL lRL cr tk I _ hI0 pt kfin i bg k sz toks hou hpi hpv hdrop hsz8 b' k' hou hsm1 hsm2 hspl tk _ fin hfn hfz m₂ h₂ tk₂ F₂ ck vk rvs rn ex b k rem pre cur tb1 td tf tsz tt hck hrk hLr htk hbal hpc gI hn0 hn3 hn2 hn1 hmm hlast N₂ KX f hin hblt hrem hcur hb' hk'
  revert KX; k_fill; intro KX
  have htp : toks = pre := by rw [htk, hrem, List.append_nil]
  subst htp
  subst hrem hcur hb' hk'
  obtain ⟨kl, p1, p2, tat, tkk, dl, rfl, rfl, htoks, hatm, hdl, hkl, hbl⟩ := hlast.resolve_left hblt
  replace F₂ := fr_ov (l := (Str.ofString "at", .int (rend Ts p1).length tat) :: _) F₂ ⟨hatm, hmm⟩
  ((try clear hatm); (try clear hmm))
  refine fr_let F₂ ?_
  ((try clear F₂))
  intro M F₂
  have gO2 := List.mem_append_right ex hO2
  have gO3 := List.mem_append_right ex hO3
  have hIR : @LT.lt Nat _ RL I := hI0 _ (List.Mem.head _)
  have hlR1 : @LT.lt Nat _ (s1.heap.objs.size + 1 + 1 + 1) RL := lRL.1
  have hlt := rend_len Ts toks
  have h128 := rend_128 (Ts := Ts) hsm2
  generalize hEZ : ex ++ EY = EZ at *
  repeat' (((first | (k_unfold; (try dsimp only); (try clear qk); (try clear ek)) | ((with_reducible show wpAny _ _ (exec _ _) _ _ _); k_fold) | (first | (((with_reducible show wpAny _ _ (subscriptTail _ (PySem.Expr.Slice (some _) none none _) _ _) _ _ _); (with_reducible rename Fr _ _ _ _ => F'); (with_reducible rename News _ _ _ _ => N'); (refine sl_sn (s := ⟨_, _, _, _, _⟩) (by with_reducible assumption) F' N' (by omega) ?_); intro _ _ _ _ _)) | (((with_reducible show wpAny _ _ (getMethod (Value.str _ _) (Str.ofString "encode") _) _ _ _); refine m_encode ?_)) | (((with_reducible show wpAny _ _ (subscriptTail _ (PySem.Expr.Slice (some _) (some _) none _) _ _) _ _ _); (with_reducible rename Fr _ _ _ _ => F'); (with_reducible rename News _ _ _ _ => N'); (refine sl_ss (s := ⟨_, _, _, _, _⟩) (by with_reducible assumption) F' N' (by omega) ?_); intro _ _ _ _ _)) | (((with_reducible show wpAny _ _ (subscriptTail _ (PySem.Expr.Slice none (some _) none _) _ _) _ _ _); (with_reducible rename Fr _ _ _ _ => F'); (with_reducible rename News _ _ _ _ => N'); (refine sl_ns (s := ⟨_, _, _, _, _⟩) (by with_reducible assumption) F' N' (by omega) ?_); intro _ _ _ _ _)) | (((with_reducible show wpAny _ _ (call (Value.builtin "len") [Value.str (tx _) _]) _ _ _); refine len_tx (by omega) ?_; intro _ _)) | ((with_reducible show wpAny _ _ (call (Value.builtin "str.encode") _) _ _ _); ((refine call_encode (by with_reducible assumption) (by omega) ?_; intro _ _))) | ((with_reducible show wpAny _ _ (call (Value.builtin "str.find") _) _ _ _); ((refine find_tx (by with_reducible assumption) ?_; intro _ _))) | (((with_reducible show wpAny _ _ (binaryOp Operator.Add (Value.str (tx _) _) (Value.str (tx _) _)) _ _ _); refine add_tx (by simp only [List.length_append, List.length_replicate]; omega) ?_; intro _ _)) | (first | ((with_reducible show wpAny _ _ (binaryOp Operator.Mult (Value.str (Str.ofString "(") _) (Value.int _ _)) _ _ _); refine mul_lp (by omega) ?_; intro _ _) | ((with_reducible show wpAny _ _ (binaryOp Operator.Mult (Value.str (Str.ofString ")") _) (Value.int _ _)) _ _ _); refine mul_rp (by omega) ?_; intro _ _)) | ((with_reducible show wpAny _ _ (binaryOp Operator.FloorDiv (Value.int _ _) (Value.int _ _)) _ _ _); ((refine' floordiv_int ?k1 ?_ ?k2; (case k1 => exact sh_ne (by omega) (by omega)); (case k2 => exact .inl (PyProof.noPylong_small (sh_small (by omega) (by omega))))))) | ((k_here; (with_reducible show wpAny _ _ (subscriptTail _ _ (Value.ref _) (Value.int _ _)) _ _ _); k_dflt (first | (refine' dep_sub ?k1 ?k2 ?k3 ?k4 ?k5 ?k6 ?_ ?k7; (case k1 => k_asm); (case k2 => k_mem); (case k3 => with_reducible assumption); (case k4 => with_reducible assumption); (case k5 => omega); (case k6 => omega); (case k7 => with_unfolding_all rfl); k_whole; intro _) | (refine' lab_sub ?k1 ?k2 ?k3 ?k4 ?k5 ?_ ?k7; (case k1 => k_asm); (case k2 => k_mem); (case k3 => with_reducible assumption); (case k4 => omega); (case k5 => omega); (case k7 => with_unfolding_all rfl); k_whole; intro _)))) | ((k_here; (with_reducible show wpAny _ _ (call (Value.builtin "len") [Value.ref _]) _ _ _); refine' KM.len_K ?k1 ?k2 ?k3 ?k4 ?_; (case k1 => k_asm); (case k2 => k_mem); (case k3 => assumption); (case k4 => omega))) | (((with_reducible show wpAny _ _ (call (Value.ref 83) _) _ _ _); refine halt ?_)) | (((with_reducible show wpAny _ _ (call (Value.ref 51) _) _ _ _); refine halt ?_)) | (((with_reducible show wpAny _ _ (call (Value.ref 193) _) _ _ _); refine halt ?_)) | walk1) | (dsimp only; (first | (((with_reducible show wpAny _ _ (subscriptTail _ (PySem.Expr.Slice (some _) none none _) _ _) _ _ _); (with_reducible rename Fr _ _ _ _ => F'); (with_reducible rename News _ _ _ _ => N'); (refine sl_sn (s := ⟨_, _, _, _, _⟩) (by with_reducible assumption) F' N' (by omega) ?_); intro _ _ _ _ _)) | (((with_reducible show wpAny _ _ (getMethod (Value.str _ _) (Str.ofString "encode") _) _ _ _); refine m_encode ?_)) | (((with_reducible show wpAny _ _ (subscriptTail _ (PySem.Expr.Slice (some _) (some _) none _) _ _) _ _ _); (with_reducible rename Fr _ _ _ _ => F'); (with_reducible rename News _ _ _ _ => N'); (refine sl_ss (s := ⟨_, _, _, _, _⟩) (by with_reducible assumption) F' N' (by omega) ?_); intro _ _ _ _ _)) | (((with_reducible show wpAny _ _ (subscriptTail _ (PySem.Expr.Slice none (some _) none _) _ _) _ _ _); (with_reducible rename Fr _ _ _ _ => F'); (with_reducible rename News _ _ _ _ => N'); (refine sl_ns (s := ⟨_, _, _, _, _⟩) (by with_reducible assumption) F' N' (by omega) ?_); intro _ _ _ _ _)) | (((with_reducible show wpAny _ _ (call (Value.builtin "len") [Value.str (tx _) _]) _ _ _); refine len_tx (by omega) ?_; intro _ _)) | ((with_reducible show wpAny _ _ (call (Value.builtin "str.encode") _) _ _ _); ((refine call_encode (by with_reducible assumption) (by omega) ?_; intro _ _))) | ((with_reducible show wpAny _ _ (call (Value.builtin "str.find") _) _ _ _); ((refine find_tx (by with_reducible assumption) ?_; intro _ _))) | (((with_reducible show wpAny _ _ (binaryOp Operator.Add (Value.str (tx _) _) (Value.str (tx _) _)) _ _ _); refine add_tx (by simp only [List.length_append, List.length_replicate]; omega) ?_; intro _ _)) | (first | ((with_reducible show wpAny _ _ (binaryOp Operator.Mult (Value.str (Str.ofString "(") _) (Value.int _ _)) _ _ _); refine mul_lp (by omega) ?_; intro _ _) | ((with_reducible show wpAny _ _ (binaryOp Operator.Mult (Value.str (Str.ofString ")") _) (Value.int _ _)) _ _ _); refine mul_rp (by omega) ?_; intro _ _)) | ((with_reducible show wpAny _ _ (binaryOp Operator.FloorDiv (Value.int _ _) (Value.int _ _)) _ _ _); ((refine' floordiv_int ?k1 ?_ ?k2; (case k1 => exact sh_ne (by omega) (by omega)); (case k2 => exact .inl (PyProof.noPylong_small (sh_small (by omega) (by omega))))))) | ((k_here; (with_reducible show wpAny _ _ (subscriptTail _ _ (Value.ref _) (Value.int _ _)) _ _ _); k_dflt (first | (refine' dep_sub ?k1 ?k2 ?k3 ?k4 ?k5 ?k6 ?_ ?k7; (case k1 => k_asm); (case k2 => k_mem); (case k3 => with_reducible assumption); (case k4 => with_reducible assumption); (case k5 => omega); (case k6 => omega); (case k7 => with_unfolding_all rfl); k_whole; intro _) | (refine' lab_sub ?k1 ?k2 ?k3 ?k4 ?k5 ?_ ?k7; (case k1 => k_asm); (case k2 => k_mem); (case k3 => with_reducible assumption); (case k4 => omega); (case k5 => omega); (case k7 => with_unfolding_all rfl); k_whole; intro _)))) | ((k_here; (with_reducible show wpAny _ _ (call (Value.builtin "len") [Value.ref _]) _ _ _); refine' KM.len_K ?k1 ?k2 ?k3 ?k4 ?_; (case k1 => k_asm); (case k2 => k_mem); (case k3 => assumption); (case k4 => omega))) | (((with_reducible show wpAny _ _ (call (Value.ref 83) _) _ _ _); refine halt ?_)) | (((with_reducible show wpAny _ _ (call (Value.ref 51) _) _ _ _); refine halt ?_)) | (((with_reducible show wpAny _ _ (call (Value.ref 193) _) _ _ _); refine halt ?_)) | walk1)))))
  · exfalso
    with_reducible rename ((_ != _) = true) => hx
    simp at hx
  with_reducible rename News s1.heap _ _ _ => N3
  with_reducible rename Fr s1.heap _ _ _ => F3
  refine unhalt ?_
  refine wpAny_call ?_
  refine c_parenT K1 F3 KX N3 T rfl (Around.frames_deeper K1.stack) rfl rfl ?_ hsm1 hsm2 ?_
  · simp only [depth_deeper]; decide
  intro t4 h4 tk4 F4 N4
  dsimp only
  have hdep : (cur : Int) + (toks.count 0 : Nat) - (toks.count 1 : Nat) = (cur : Int) := by omega
  rw [hdep]
  ((try clear N3); (try clear F3))
  have hcs : toks.count 0 = p1.count 0 + ((kl + 2) :: p2).count 0 ∧ toks.count 1 = p1.count 1 + ((kl + 2) :: p2).count 1 := by
    rw [htoks, List.count_append, List.count_append]; exact ⟨rfl, rfl⟩
  have hsl3 : Txt.slice (tx (rend Ts toks)) (some ((rend Ts p1).length : Int)) none = tx (rend Ts ((kl + 2) :: p2)) := by
    rw [htoks, rend_app]; exact slice_from _ _
  have hq9 : ∀ x ∈ (kl + 2) :: p2, x < 9 := fun x hx => hsm2 x (by rw [htoks]; exact List.mem_append_right _ hx)
  have hql : ((kl + 2) :: p2).length ≤ 40 := by
    have h1 := congrArg List.length htoks
    rw [List.length_append] at h1
    omega
  have h128q := rend_128 (Ts := Ts) hq9
  have hltq := rend_len Ts ((kl + 2) :: p2)
  generalize hq : (kl + 2) :: p2 = q at *
  repeat' (((first | (k_unfold; (try dsimp only); (try clear qk); (try clear ek)) | ((with_reducible show wpAny _ _ (exec _ _) _ _ _); k_fold) | (first | (((with_reducible show wpAny _ _ (subscriptTail _ (PySem.Expr.Slice (some _) none none _) _ _) _ _ _); (with_reducible rename Fr _ _ _ _ => F'); (with_reducible rename News _ _ _ _ => N'); (refine sl_sn (s := ⟨_, _, _, _, _⟩) (by with_reducible assumption) F' N' (by omega) ?_); intro _ _ _ _ _)) | (((with_reducible show wpAny _ _ (getMethod (Value.str _ _) (Str.ofString "encode") _) _ _ _); refine m_encode ?_)) | (((with_reducible show wpAny _ _ (subscriptTail _ (PySem.Expr.Slice (some _) (some _) none _) _ _) _ _ _); (with_reducible rename Fr _ _ _ _ => F'); (with_reducible rename News _ _ _ _ => N'); (refine sl_ss (s := ⟨_, _, _, _, _⟩) (by with_reducible assumption) F' N' (by omega) ?_); intro _ _ _ _ _)) | (((with_reducible show wpAny _ _ (subscriptTail _ (PySem.Expr.Slice none (some _) none _) _ _) _ _ _); (with_reducible rename Fr _ _ _ _ => F'); (with_reducible rename News _ _ _ _ => N'); (refine sl_ns (s := ⟨_, _, _, _, _⟩) (by with_reducible assumption) F' N' (by omega) ?_); intro _ _ _ _ _)) | (((with_reducible show wpAny _ _ (call (Value.builtin "len") [Value.str (tx _) _]) _ _ _); refine len_tx (by omega) ?_; intro _ _)) | ((with_reducible show wpAny _ _ (call (Value.builtin "str.encode") _) _ _ _); ((refine call_encode (by with_reducible assumption) (by omega) ?_; intro _ _))) | ((with_reducible show wpAny _ _ (call (Value.builtin "str.find") _) _ _ _); ((refine find_tx (by with_reducible assumption) ?_; intro _ _))) | (((with_reducible show wpAny _ _ (binaryOp Operator.Add (Value.str (tx _) _) (Value.str (tx _) _)) _ _ _); refine add_tx (by simp only [List.length_append, List.length_replicate]; omega) ?_; intro _ _)) | (first | ((with_reducible show wpAny _ _ (binaryOp Operator.Mult (Value.str (Str.ofString "(") _) (Value.int _ _)) _ _ _); refine mul_lp (by omega) ?_; intro _ _) | ((with_reducible show wpAny _ _ (binaryOp Operator.Mult (Value.str (Str.ofString ")") _) (Value.int _ _)) _ _ _); refine mul_rp (by omega) ?_; intro _ _)) | ((with_reducible show wpAny _ _ (binaryOp Operator.FloorDiv (Value.int _ _) (Value.int _ _)) _ _ _); ((refine' floordiv_int ?k1 ?_ ?k2; (case k1 => exact sh_ne (by omega) (by omega)); (case k2 => exact .inl (PyProof.noPylong_small (sh_small (by omega) (by omega))))))) | ((k_here; (with_reducible show wpAny _ _ (subscriptTail _ _ (Value.ref _) (Value.int _ _)) _ _ _); k_dflt (first | (refine' dep_sub ?k1 ?k2 ?k3 ?k4 ?k5 ?k6 ?_ ?k7; (case k1 => k_asm); (case k2 => k_mem); (case k3 => with_reducible assumption); (case k4 => with_reducible assumption); (case k5 => omega); (case k6 => omega); (case k7 => with_unfolding_all rfl); k_whole; intro _) | (refine' lab_sub ?k1 ?k2 ?k3 ?k4 ?k5 ?_ ?k7; (case k1 => k_asm); (case k2 => k_mem); (case k3 => with_reducible assumption); (case k4 => omega); (case k5 => omega); (case k7 => with_unfolding_all rfl); k_whole; intro _)))) | ((k_here; (with_reducible show wpAny _ _ (call (Value.builtin "len") [Value.ref _]) _ _ _); refine' KM.len_K ?k1 ?k2 ?k3 ?k4 ?_; (case k1 => k_asm); (case k2 => k_mem); (case k3 => assumption); (case k4 => omega))) | (((with_reducible show wpAny _ _ (call (Value.ref 83) _) _ _ _); refine halt ?_)) | (((with_reducible show wpAny _ _ (call (Value.ref 51) _) _ _ _); refine halt ?_)) | (((with_reducible show wpAny _ _ (call (Value.ref 193) _) _ _ _); refine halt ?_)) | walk1) | (dsimp only; (first | (((with_reducible show wpAny _ _ (subscriptTail _ (PySem.Expr.Slice (some _) none none _) _ _) _ _ _); (with_reducible rename Fr _ _ _ _ => F'); (with_reducible rename News _ _ _ _ => N'); (refine sl_sn (s := ⟨_, _, _, _, _⟩) (by with_reducible assumption) F' N' (by omega) ?_); intro _ _ _ _ _)) | (((with_reducible show wpAny _ _ (getMethod (Value.str _ _) (Str.ofString "encode") _) _ _ _); refine m_encode ?_)) | (((with_reducible show wpAny _ _ (subscriptTail _ (PySem.Expr.Slice (some _) (some _) none _) _ _) _ _ _); (with_reducible rename Fr _ _ _ _ => F'); (with_reducible rename News _ _ _ _ => N'); (refine sl_ss (s := ⟨_, _, _, _, _⟩) (by with_reducible assumption) F' N' (by omega) ?_); intro _ _ _ _ _)) | (((with_reducible show wpAny _ _ (subscriptTail _ (PySem.Expr.Slice none (some _) none _) _ _) _ _ _); (with_reducible rename Fr _ _ _ _ => F'); (with_reducible rename News _ _ _ _ => N'); (refine sl_ns (s := ⟨_, _, _, _, _⟩) (by with_reducible assumption) F' N' (by omega) ?_); intro _ _ _ _ _)) | (((with_reducible show wpAny _ _ (call (Value.builtin "len") [Value.str (tx _) _]) _ _ _); refine len_tx (by omega) ?_; intro _ _)) | ((with_reducible show wpAny _ _ (call (Value.builtin "str.encode") _) _ _ _); ((refine call_encode (by with_reducible assumption) (by omega) ?_; intro _ _))) | ((with_reducible show wpAny _ _ (call (Value.builtin "str.find") _) _ _ _); ((refine find_tx (by with_reducible assumption) ?_; intro _ _))) | (((with_reducible show wpAny _ _ (binaryOp Operator.Add (Value.str (tx _) _) (Value.str (tx _) _)) _ _ _); refine add_tx (by simp only [List.length_append, List.length_replicate]; omega) ?_; intro _ _)) | (first | ((with_reducible show wpAny _ _ (binaryOp Operator.Mult (Value.str (Str.ofString "(") _) (Value.int _ _)) _ _ _); refine mul_lp (by omega) ?_; intro _ _) | ((with_reducible show wpAny _ _ (binaryOp Operator.Mult (Value.str (Str.ofString ")") _) (Value.int _ _)) _ _ _); refine mul_rp (by omega) ?_; intro _ _)) | ((with_reducible show wpAny _ _ (binaryOp Operator.FloorDiv (Value.int _ _) (Value.int _ _)) _ _ _); ((refine' floordiv_int ?k1 ?_ ?k2; (case k1 => exact sh_ne (by omega) (by omega)); (case k2 => exact .inl (PyProof.noPylong_small (sh_small (by omega) (by omega))))))) | ((k_here; (with_reducible show wpAny _ _ (subscriptTail _ _ (Value.ref _) (Value.int _ _)) _ _ _); k_dflt (first | (refine' dep_sub ?k1 ?k2 ?k3 ?k4 ?k5 ?k6 ?_ ?k7; (case k1 => k_asm); (case k2 => k_mem); (case k3 => with_reducible assumption); (case k4 => with_reducible assumption); (case k5 => omega); (case k6 => omega); (case k7 => with_unfolding_all rfl); k_whole; intro _) | (refine' lab_sub ?k1 ?k2 ?k3 ?k4 ?k5 ?_ ?k7; (case k1 => k_asm); (case k2 => k_mem); (case k3 => with_reducible assumption); (case k4 => omega); (case k5 => omega); (case k7 => with_unfolding_all rfl); k_whole; intro _)))) | ((k_here; (with_reducible show wpAny _ _ (call (Value.builtin "len") [Value.ref _]) _ _ _); refine' KM.len_K ?k1 ?k2 ?k3 ?k4 ?_; (case k1 => k_asm); (case k2 => k_mem); (case k3 => assumption); (case k4 => omega))) | (((with_reducible show wpAny _ _ (call (Value.ref 83) _) _ _ _); refine halt ?_)) | (((with_reducible show wpAny _ _ (call (Value.ref 51) _) _ _ _); refine halt ?_)) | (((with_reducible show wpAny _ _ (call (Value.ref 193) _) _ _ _); refine halt ?_)) | walk1)))))
  · exfalso
    omega
  with_reducible rename News s1.heap _ _ _ => N5
  with_reducible rename Fr s1.heap _ _ _ => F5
  refine unhalt ?_
  refine wpAny_call ?_
  refine c_parenT K1 F5 KX N5 T rfl (Around.frames_deeper K1.stack) rfl rfl ?_ hql hq9 ?_
  · simp only [depth_deeper]; decide
  intro t6 h6 tk6 F6 N6
  dsimp only
  have hdep2 : (dl : Int) + (q.count 0 : Nat) - (q.count 1 : Nat) = (cur : Int) := by omega
  rw [hdep2]
  ((try clear N5); (try clear F5))
  repeat' (((first | (k_unfold; (try dsimp only); (try clear qk); (try clear ek)) | ((with_reducible show wpAny _ _ (exec _ _) _ _ _); k_fold) | (first | (((with_reducible show wpAny _ _ (subscriptTail _ (PySem.Expr.Slice (some _) none none _) _ _) _ _ _); (with_reducible rename Fr _ _ _ _ => F'); (with_reducible rename News _ _ _ _ => N'); (refine sl_sn (s := ⟨_, _, _, _, _⟩) (by with_reducible assumption) F' N' (by omega) ?_); intro _ _ _ _ _)) | (((with_reducible show wpAny _ _ (getMethod (Value.str _ _) (Str.ofString "encode") _) _ _ _); refine m_encode ?_)) | (((with_reducible show wpAny _ _ (subscriptTail _ (PySem.Expr.Slice (some _) (some _) none _) _ _) _ _ _); (with_reducible rename Fr _ _ _ _ => F'); (with_reducible rename News _ _ _ _ => N'); (refine sl_ss (s := ⟨_, _, _, _, _⟩) (by with_reducible assumption) F' N' (by omega) ?_); intro _ _ _ _ _)) | (((with_reducible show wpAny _ _ (subscriptTail _ (PySem.Expr.Slice none (some _) none _) _ _) _ _ _); (with_reducible rename Fr _ _ _ _ => F'); (with_reducible rename News _ _ _ _ => N'); (refine sl_ns (s := ⟨_, _, _, _, _⟩) (by with_reducible assumption) F' N' (by omega) ?_); intro _ _ _ _ _)) | (((with_reducible show wpAny _ _ (call (Value.builtin "len") [Value.str (tx _) _]) _ _ _); refine len_tx (by omega) ?_; intro _ _)) | ((with_reducible show wpAny _ _ (call (Value.builtin "str.encode") _) _ _ _); ((refine call_encode (by with_reducible assumption) (by omega) ?_; intro _ _))) | ((with_reducible show wpAny _ _ (call (Value.builtin "str.find") _) _ _ _); ((refine find_tx (by with_reducible assumption) ?_; intro _ _))) | (((with_reducible show wpAny _ _ (binaryOp Operator.Add (Value.str (tx _) _) (Value.str (tx _) _)) _ _ _); refine add_tx (by simp only [List.length_append, List.length_replicate]; omega) ?_; intro _ _)) | (first | ((with_reducible show wpAny _ _ (binaryOp Operator.Mult (Value.str (Str.ofString "(") _) (Value.int _ _)) _ _ _); refine mul_lp (by omega) ?_; intro _ _) | ((with_reducible show wpAny _ _ (binaryOp Operator.Mult (Value.str (Str.ofString ")") _) (Value.int _ _)) _ _ _); refine mul_rp (by omega) ?_; intro _ _)) | ((with_reducible show wpAny _ _ (binaryOp Operator.FloorDiv (Value.int _ _) (Value.int _ _)) _ _ _); ((refine' floordiv_int ?k1 ?_ ?k2; (case k1 => exact sh_ne (by omega) (by omega)); (case k2 => exact .inl (PyProof.noPylong_small (sh_small (by omega) (by omega))))))) | ((k_here; (with_reducible show wpAny _ _ (subscriptTail _ _ (Value.ref _) (Value.int _ _)) _ _ _); k_dflt (first | (refine' dep_sub ?k1 ?k2 ?k3 ?k4 ?k5 ?k6 ?_ ?k7; (case k1 => k_asm); (case k2 => k_mem); (case k3 => with_reducible assumption); (case k4 => with_reducible assumption); (case k5 => omega); (case k6 => omega); (case k7 => with_unfolding_all rfl); k_whole; intro _) | (refine' lab_sub ?k1 ?k2 ?k3 ?k4 ?k5 ?_ ?k7; (case k1 => k_asm); (case k2 => k_mem); (case k3 => with_reducible assumption); (case k4 => omega); (case k5 => omega); (case k7 => with_unfolding_all rfl); k_whole; intro _)))) | ((k_here; (with_reducible show wpAny _ _ (call (Value.builtin "len") [Value.ref _]) _ _ _); refine' KM.len_K ?k1 ?k2 ?k3 ?k4 ?_; (case k1 => k_asm); (case k2 => k_mem); (case k3 => assumption); (case k4 => omega))) | (((with_reducible show wpAny _ _ (call (Value.ref 83) _) _ _ _); refine halt ?_)) | (((with_reducible show wpAny _ _ (call (Value.ref 51) _) _ _ _); refine halt ?_)) | (((with_reducible show wpAny _ _ (call (Value.ref 193) _) _ _ _); refine halt ?_)) | walk1) | (dsimp only; (first | (((with_reducible show wpAny _ _ (subscriptTail _ (PySem.Expr.Slice (some _) none none _) _ _) _ _ _); (with_reducible rename Fr _ _ _ _ => F'); (with_reducible rename News _ _ _ _ => N'); (refine sl_sn (s := ⟨_, _, _, _, _⟩) (by with_reducible assumption) F' N' (by omega) ?_); intro _ _ _ _ _)) | (((with_reducible show wpAny _ _ (getMethod (Value.str _ _) (Str.ofString "encode") _) _ _ _); refine m_encode ?_)) | (((with_reducible show wpAny _ _ (subscriptTail _ (PySem.Expr.Slice (some _) (some _) none _) _ _) _ _ _); (with_reducible rename Fr _ _ _ _ => F'); (with_reducible rename News _ _ _ _ => N'); (refine sl_ss (s := ⟨_, _, _, _, _⟩) (by with_reducible assumption) F' N' (by omega) ?_); intro _ _ _ _ _)) | (((with_reducible show wpAny _ _ (subscriptTail _ (PySem.Expr.Slice none (some _) none _) _ _) _ _ _); (with_reducible rename Fr _ _ _ _ => F'); (with_reducible rename News _ _ _ _ => N'); (refine sl_ns (s := ⟨_, _, _, _, _⟩) (by with_reducible assumption) F' N' (by omega) ?_); intro _ _ _ _ _)) | (((with_reducible show wpAny _ _ (call (Value.builtin "len") [Value.str (tx _) _]) _ _ _); refine len_tx (by omega) ?_; intro _ _)) | ((with_reducible show wpAny _ _ (call (Value.builtin "str.encode") _) _ _ _); ((refine call_encode (by with_reducible assumption) (by omega) ?_; intro _ _))) | ((with_reducible show wpAny _ _ (call (Value.builtin "str.find") _) _ _ _); ((refine find_tx (by with_reducible assumption) ?_; intro _ _))) | (((with_reducible show wpAny _ _ (binaryOp Operator.Add (Value.str (tx _) _) (Value.str (tx _) _)) _ _ _); refine add_tx (by simp only [List.length_append, List.length_replicate]; omega) ?_; intro _ _)) | (first | ((with_reducible show wpAny _ _ (binaryOp Operator.Mult (Value.str (Str.ofString "(") _) (Value.int _ _)) _ _ _); refine mul_lp (by omega) ?_; intro _ _) | ((with_reducible show wpAny _ _ (binaryOp Operator.Mult (Value.str (Str.ofString ")") _) (Value.int _ _)) _ _ _); refine mul_rp (by omega) ?_; intro _ _)) | ((with_reducible show wpAny _ _ (binaryOp Operator.FloorDiv (Value.int _ _) (Value.int _ _)) _ _ _); ((refine' floordiv_int ?k1 ?_ ?k2; (case k1 => exact sh_ne (by omega) (by omega)); (case k2 => exact .inl (PyProof.noPylong_small (sh_small (by omega) (by omega))))))) | ((k_here; (with_reducible show wpAny _ _ (subscriptTail _ _ (Value.ref _) (Value.int _ _)) _ _ _); k_dflt (first | (refine' dep_sub ?k1 ?k2 ?k3 ?k4 ?k5 ?k6 ?_ ?k7; (case k1 => k_asm); (case k2 => k_mem); (case k3 => with_reducible assumption); (case k4 => with_reducible assumption); (case k5 => omega); (case k6 => omega); (case k7 => with_unfolding_all rfl); k_whole; intro _) | (refine' lab_sub ?k1 ?k2 ?k3 ?k4 ?k5 ?_ ?k7; (case k1 => k_asm); (case k2 => k_mem); (case k3 => with_reducible assumption); (case k4 => omega); (case k5 => omega); (case k7 => with_unfolding_all rfl); k_whole; intro _)))) | ((k_here; (with_reducible show wpAny _ _ (call (Value.builtin "len") [Value.ref _]) _ _ _); refine' KM.len_K ?k1 ?k2 ?k3 ?k4 ?_; (case k1 => k_asm); (case k2 => k_mem); (case k3 => assumption); (case k4 => omega))) | (((with_reducible show wpAny _ _ (call (Value.ref 83) _) _ _ _); refine halt ?_)) | (((with_reducible show wpAny _ _ (call (Value.ref 51) _) _ _ _); refine halt ?_)) | (((with_reducible show wpAny _ _ (call (Value.ref 193) _) _ _ _); refine halt ?_)) | walk1)))))
  · exfalso
    omega
  with_reducible rename News s1.heap _ _ _ => N7
  with_reducible rename Fr s1.heap _ _ _ => F7
  dsimp only [ForStep]
  subst hEZ
  refine ⟨_, _, _, _, rfl, F7, N7, ?_, ck, _, rvs, rn, ex, b', kl + 1, tb1, rfl, hck, hrk, hLr, hou, hn0, hn3, hn2, hn1, rfl, rfl, rfl, rfl, rfl, trivial⟩
  have hI3 : @LT.lt Nat _ (s1.heap.objs.size + 1 + 1 + 1) I := Nat.lt_trans hlR1 hIR
  have hI2 : @LT.lt Nat _ (s1.heap.objs.size + 1 + 1) I := Nat.lt_trans (Nat.lt_succ_self _) hI3
  have hI1 : @LT.lt Nat _ (s1.heap.objs.size + 1) I := Nat.lt_trans (Nat.lt_succ_self _) hI2
  exact List.forall_mem_cons.mpr ⟨Nat.ne_of_lt hIR, List.forall_mem_cons.mpr ⟨Nat.ne_of_lt hI3, List.forall_mem_cons.mpr ⟨Nat.ne_of_lt hI2, List.forall_mem_cons.mpr ⟨Nat.ne_of_lt hI1, gI⟩⟩⟩⟩⟩
end Mine
end

example : 1 = 1 ∧ 2 = 2 := by
  w_top off
  walk1 <;> rfl
section
set_option maxRecDepth 100000
set_option Elab.async false
open PySem PySem.W PyProof.Rows PySem.Calls
namespace Mine
/-- what holds ahead of each line that was read -/
inductive InvG (Z : Nat) (RL : Addr) (rn : Nat) (cr cl : Obj) (EZ : List (Addr × Obj)) (rvs : List Value) (la da pa rl : Addr) (i : Nat) (m' : Str → Option Value) (n' : List (Addr × Obj)) : Prop
  | mk (ck : Obj) (vk : Option Value) (ex : List (Addr × Obj)) (h1 : n' = (RL, W.listOf rvs.toArray rn) :: (Z + 1 + 1 + 1, ck) :: (Z + 1 + 1, cr) :: (Z + 1, cl) :: (ex ++ EZ)) (h2 : ck.data = .cell vk)
      (h3 : ∀ p ∈ ex ++ EZ, @Ne Nat p.1 RL) (h4 : ∀ p ∈ ex ++ EZ, @Ne Nat p.1 (Z + 1 + 1 + 1)) (h5 : ∀ p ∈ ex ++ EZ, @Ne Nat p.1 (Z + 1 + 1)) (h6 : ∀ p ∈ ex ++ EZ, @Ne Nat p.1 (Z + 1))
      (h7 : Has m' [(Str.ofString "labels", .ref la), (Str.ofString "depths", .ref da), (Str.ofString "pile", .ref pa), (Str.ofString "rows", .ref rl)]) : InvG Z RL rn cr cl EZ rvs la da pa rl i m' n'
local macro_rules | `(tactic| k_mem) => `(tactic| (refine mt4 ?_; assumption))
local macro_rules | `(tactic| k_all) => `(tactic| (refine' List.forall_mem_cons.mpr (And.intro ?a ?b); (case a => k_ne); (case b => k_all)))
local macro_rules | `(tactic| k_all) => `(tactic| assumption)
local macro_rules | `(tactic| walk_at "pyIter ref") => `(tactic| refine halt ?_)
set_option maxHeartbeats 8000000 in
noncomputable def LawG_s : S2 (LawD_s.Q) := ⟨_, _, by
  intro stk1 stk2
  intro w _ s1 _ _ _ T _ _ qk ek hend K1 hpo la da li lvs dvs vvs ln dn vn Ts ds hl7 hLab hiD hd7 hv7 cl hcl P pa rl pvs rn EY hO2 hO3 hO4 hLin rows0 rowL hrL hpL hpl vs0 ra rxs rk hp4 hrows hrl7 hrows' hra hri hrsz hv0 _ RL lRL _ cr hcr tk KX _ pt kfin hout m₂ h₂ tk₂ ck vk rvs rn ex bg k tb hck hrk hLr hn0 hn3 hn2 hn1 hmm F₂ N₂ hkk
  revert KX; k_fill; intro KX
  replace F₂ := fr_ov F₂ hmm
  ((try clear hmm))
  have hk7 : k ≤ 7 := by
    have := outU_le hout (Nat.zero_le _)
    rw [List.length_map, hd7] at this
    omega
  have hrsz2 : rvs.toArray.size = k := by rw [List.size_toArray, hrk]
  have gO2 := List.mem_append_right ex hO2
  have gO3 := List.mem_append_right ex hO3
  have gO4 := List.mem_append_right ex hO4
  have gp4 := List.mem_append_right ex hp4
  have gra := List.mem_append_right ex hra
  have gLn := hLin.mono fun p hp => List.mem_append_right ex hp
  have gLr := hLr.mono fun p hp => List.mem_append_left EY hp
  have grw := hrows'.mono fun p hp => List.mem_append_right ex hp
  have hlR1 : @LT.lt Nat _ (s1.heap.objs.size + 1 + 1 + 1) RL := lRL.1
  generalize hEZ : ex ++ EY = EZ at *
  repeat' (((first | (k_unfold; (try dsimp only)) | ((fail_if_success (with_reducible show wpAny _ _ (exec (Stmt.For _ _ _ _ _) _) _ _ _)); (first | ((k_here; (with_reducible show wpAny _ _ (call (Value.builtin "len") [Value.ref _]) _ _ _); refine' KM.len_K ?k1 ?k2 ?k3 ?k4 ?_; (case k1 => k_asm); (case k2 => k_mem); (case k3 => assumption); (case k4 => omega))) | walk1)) | (dsimp only; (fail_if_success (with_reducible show wpAny _ _ (exec (Stmt.For _ _ _ _ _) _) _ _ _)); (first | ((k_here; (with_reducible show wpAny _ _ (call (Value.builtin "len") [Value.ref _]) _ _ _); refine' KM.len_K ?k1 ?k2 ?k3 ?k4 ?_; (case k1 => k_asm); (case k2 => k_mem); (case k3 => assumption); (case k4 => omega))) | walk1)))))
  refine wpAny_For ?_ (by intro _; rfl)
  repeat' (((first | (k_unfold; (try dsimp only)) | ((fail_if_success (with_reducible show wpAny _ _ (exec (Stmt.For _ _ _ _ _) _) _ _ _)); (first | ((k_here; (with_reducible show wpAny _ _ (call (Value.builtin "len") [Value.ref _]) _ _ _); refine' KM.len_K ?k1 ?k2 ?k3 ?k4 ?_; (case k1 => k_asm); (case k2 => k_mem); (case k3 => assumption); (case k4 => omega))) | walk1)) | (dsimp only; (fail_if_success (with_reducible show wpAny _ _ (exec (Stmt.For _ _ _ _ _) _) _ _ _)); (first | ((k_here; (with_reducible show wpAny _ _ (call (Value.builtin "len") [Value.ref _]) _ _ _); refine' KM.len_K ?k1 ?k2 ?k3 ?k4 ?_; (case k1 => k_asm); (case k2 => k_mem); (case k3 => assumption); (case k4 => omega))) | walk1)))))
  with_reducible rename News s1.heap _ _ _ => N3
  with_reducible rename Fr s1.heap _ _ _ => F3
  with_reducible rename IsRange _ _ _ _ _ _ _ _ => hRg
  refine unhalt ?_
  refine for_rng (InvG s1.heap.objs.size RL rn cr cl EZ rvs la da pa rl) rfl hRg hk7 F3 N3 ?_ ?_ ?_ hpo
  · exact ⟨ck, vk, [], rfl, hck, hn0, hn3, hn2, hn1, rfl, rfl, rfl, rfl, trivial⟩
  · rintro I i t m₃ news₃ h₃ tk₃ oI hIlt hik ⟨ck, vk, ex3, rfl, hck, gn0, gn3, gn2, gn1, hmm⟩ F₃ N₃ hI3
    have hIR : @LT.lt Nat _ RL I := hIlt _ (List.Mem.head _)
    ((try clear N3); (try clear F3))
    (rename_i zr1 zr3 zr4 zr6 zr15 zr17 zr86 zr132 zr138 zr145 zr157 zr158 zr165 zr172 zr182 zr191 zr192 zr193 zr194 zr195 zr197; clear hIlt zr197 hRg zr195 zr194 zr193 grw gra gp4 zr182 hn1 hn2 hn3 hn0 hEZ zr172 hLr zr165 tb bg ex zr158 zr157 m₂ hout zr145 tk zr138 zr132 hv0 hrsz hri hra hrows' hrl7 hrows hp4 rk hpl hpL hrL rows0 hLin hO4 hO3 hO2 zr86 hpo hend; (repeat (rename _ => zz; revert zz)); intro stk1 stk2; exact @Wr.get _ stk1)
  · rintro m₃ news₃ h₃ tk₃ ⟨ck, vk, ex3, rfl, hck, gn0, gn3, gn2, gn1, hmm⟩ F₃ N₃
    (rename_i zr1 zr3 zr4 zr6 zr15 zr17 zr86 zr132 zr138 zr145 zr157 zr158 zr165 zr172 zr182 zr191 zr192 zr193 zr194 zr195 zr199; clear gn1 gn2 gn3 gn0 hck vk zr199 N3 F3 hRg zr195 zr194 zr193 gLr gO3 gO2 zr182 hn1 hn2 hn3 hn0 hEZ hlR1 hrsz2 hk7 zr172 hkk hLr hrk zr165 tb bg ex zr158 zr157 m₂ hout zr145 tk hcr zr138 lRL hra hrows' hp4 hLin hO4 hO3 hO2 hiD hLab hl7 dn ln dvs hpo; (repeat (rename _ => zz; revert zz)); intro stk1 stk2; exact @Wr.get _ stk2)⟩
end Mine
end

example : 1 = 1 ∧ 2 = 2 := by
  w_top off
  walk1 <;> rfl
section
set_option maxRecDepth 100000
set_option Elab.async false
open PySem PySem.W PyProof.Rows PySem.Calls
namespace Mine
local macro_rules | `(tactic| k_mem) => `(tactic| (refine mt5 ?_; assumption))
local macro_rules | `(tactic| walk_at "CompSrcT") => `(tactic| refine halt ?_)
local macro_rules | `(tactic| k_all) => `(tactic| (refine' List.forall_mem_cons.mpr (And.intro ?a ?b); (case a => k_ne); (case b => k_all)))
local macro_rules | `(tactic| k_all) => `(tactic| assumption)
local macro_rules | `(tactic| k_mem) => `(tactic| (refine mt6 ?_; assumption))
local macro_rules | `(tactic| size_fits) => `(tactic| exact Nat.le_of_ble_eq_true rfl)
set_option maxHeartbeats 8000000 in
noncomputable def LawI_s : S1 (LawG_s.P) := ⟨_, by
  intro stk1
  intro w _ s1 _ _ _ T _ _ qk ek K1 la da li lvs dvs vvs ln dn vn Ts ds hl7 hLab hiD hd7 hv7 cl hcl P pa rl pvs EY rowL vs0 ra rxs RL lRL cr hcr pt kfin h₂ tk₂ rvs rn k hrk hkk KX hk7 hrsz2 hlR1 EZ gO2 gO3 gO4 gLn gLr _ _ I i t m₃ h₃ tk₃ oI hik ck vk ex3 hck gn0 gn3 gn2 gn1 hmm F₃ N₃ hI3 hIR
  revert KX; k_fill; intro KX
  replace F₃ := fr_ov F₃ hmm
  ((try clear hmm))
  replace gO2 := List.mem_append_right ex3 gO2
  replace gO3 := List.mem_append_right ex3 gO3
  replace gO4 := List.mem_append_right ex3 gO4
  replace gLn := gLn.mono fun p hp => List.mem_append_right ex3 hp
  replace gLr := gLr.mono fun p hp => List.mem_append_right ex3 hp
  have hiI : (0 : Int) + (i : Int) = (i : Int) := Int.zero_add _
  rw [hiI]
  have hid : i < ds.length := by omega
  obtain ⟨d, hdd, hd8⟩ : ∃ d : Nat, ds.getD i 0 = (d : Int) ∧ d ≤ 8 := by
    have := P.bd (ds.getD i 0) (by rw [List.getD_eq_getElem?_getD, List.getElem?_eq_getElem hid]; exact List.getElem_mem _)
    exact ⟨(ds.getD i 0).toNat, by omega, by omega⟩
  ((try clear hIlt))
  generalize hEW : ex3 ++ EZ = EW at *
  have gI : ∀ p ∈ EW, @Ne Nat p.1 I := fun p hp => hI3 p (List.Mem.tail _ (List.Mem.tail _ (List.Mem.tail _ (List.Mem.tail _ hp))))
  have hll := lab_len i (Ts.getD i 0)
  rw [tx_len] at hll
  repeat' (((first | (k_unfold; (try dsimp only); (try clear qk); (try clear ek)) | ((with_reducible show wpAny _ _ (exec _ _) _ _ _); k_fold) | ((fail_if_success (with_reducible show wpAny _ _ (exec (Stmt.For _ _ _ _ _) _) _ _ _)); (first | ((k_here; (with_reducible show wpAny _ _ (subscriptTail _ _ (Value.ref _) (Value.int (_ - 1) _)) _ _ _); k_dflt (refine' lab_pred ?k1 ?k2 ?k3 ?k4 ?k5 ?_ ?k7; (case k1 => k_asm); (case k2 => k_mem); (case k3 => with_reducible assumption); (case k4 => assumption); (case k5 => omega); (case k7 => with_unfolding_all rfl); k_whole; intro _))) | ((k_here; (with_reducible show wpAny _ _ (call (Value.builtin "len") [Value.ref _]) _ _ _); refine' KM.len_K ?k1 ?k2 ?k3 ?k4 ?_; (case k1 => k_asm); (case k2 => k_mem); (case k3 => assumption); (case k4 => omega))) | ((k_here; (with_reducible show wpAny _ _ (subscriptTail _ _ (Value.ref _) (Value.int _ _)) _ _ _); k_dflt (first | (refine' dep_sub ?k1 ?k2 ?k3 ?k4 ?k5 ?k6 ?_ ?k7; (case k1 => k_asm); (case k2 => k_mem); (case k3 => with_reducible assumption); (case k4 => with_reducible assumption); (case k5 => omega); (case k6 => omega); (case k7 => with_unfolding_all rfl); k_whole; intro _) | (refine' lab_sub ?k1 ?k2 ?k3 ?k4 ?k5 ?_ ?k7; (case k1 => k_asm); (case k2 => k_mem); (case k3 => with_reducible assumption); (case k4 => omega); (case k5 => omega); (case k7 => with_unfolding_all rfl); k_whole; intro _)))) | (((with_reducible show wpAny _ _ (call (Value.ref 83) _) _ _ _); refine halt ?_)) | walk1)) | (dsimp only; (fail_if_success (with_reducible show wpAny _ _ (exec (Stmt.For _ _ _ _ _) _) _ _ _)); (first | ((k_here; (with_reducible show wpAny _ _ (subscriptTail _ _ (Value.ref _) (Value.int (_ - 1) _)) _ _ _); k_dflt (refine' lab_pred ?k1 ?k2 ?k3 ?k4 ?k5 ?_ ?k7; (case k1 => k_asm); (case k2 => k_mem); (case k3 => with_reducible assumption); (case k4 => assumption); (case k5 => omega); (case k7 => with_unfolding_all rfl); k_whole; intro _))) | ((k_here; (with_reducible show wpAny _ _ (call (Value.builtin "len") [Value.ref _]) _ _ _); refine' KM.len_K ?k1 ?k2 ?k3 ?k4 ?_; (case k1 => k_asm); (case k2 => k_mem); (case k3 => assumption); (case k4 => omega))) | ((k_here; (with_reducible show wpAny _ _ (subscriptTail _ _ (Value.ref _) (Value.int _ _)) _ _ _); k_dflt (first | (refine' dep_sub ?k1 ?k2 ?k3 ?k4 ?k5 ?k6 ?_ ?k7; (case k1 => k_asm); (case k2 => k_mem); (case k3 => with_reducible assumption); (case k4 => with_reducible assumption); (case k5 => omega); (case k6 => omega); (case k7 => with_unfolding_all rfl); k_whole; intro _) | (refine' lab_sub ?k1 ?k2 ?k3 ?k4 ?k5 ?_ ?k7; (case k1 => k_asm); (case k2 => k_mem); (case k3 => with_reducible assumption); (case k4 => omega); (case k5 => omega); (case k7 => with_unfolding_all rfl); k_whole; intro _)))) | (((with_reducible show wpAny _ _ (call (Value.ref 83) _) _ _ _); refine halt ?_)) | walk1)))))
  with_reducible rename News s1.heap _ _ _ => N1
  with_reducible rename Fr s1.heap _ _ _ => F1
  refine unhalt ?_
  refine c_ex K1 F1 KX N1 T rfl (Around.frames_deeper K1.stack) rfl rfl ?_ ?_ ?_ ?_
  · simp only [depth_deeper]; decide
  · simp only [Around.deeper_units]; decide
  · rw [tx_len]; omega
  intro x1 y1 z1 o1 q1 h1 tk1 Fa1 Na1 l1 m1 n1 zz1 zo1
  dsimp only
  ((try clear N1); (try clear F1))
  have m1' : @LT.lt Nat _ y1 x1 := m1
  have n1' : @LT.lt Nat _ x1 z1 := n1
  have lI1 : @LT.lt Nat _ I y1 := l1 _ (List.Mem.head _)
  have lR1 : @LT.lt Nat _ RL y1 := l1 _ (List.Mem.tail _ (List.Mem.head _))
  have lW1 : ∀ p ∈ EW, @LT.lt Nat _ p.1 y1 := fun p hp => l1 p (List.Mem.tail _ (List.Mem.tail _ (List.Mem.tail _ (List.Mem.tail _ (List.Mem.tail _ hp)))))
  replace Na1 := re9 Na1
  replace gI := ne3 (o1 := o1) (o2 := instObj 83 y1) (o3 := exD w.params q1 (srcEnd (tx (labL i (Ts.getD i 0)))) ((i : Int) + 1) d z1) lI1 m1' n1' gI
  replace gn0 := ne3 (o1 := o1) (o2 := instObj 83 y1) (o3 := exD w.params q1 (srcEnd (tx (labL i (Ts.getD i 0)))) ((i : Int) + 1) d z1) lR1 m1' n1' gn0
  replace gn3 := ne3 (a := s1.heap.objs.size + 1 + 1 + 1) (o1 := o1) (o2 := instObj 83 y1) (o3 := exD w.params q1 (srcEnd (tx (labL i (Ts.getD i 0)))) ((i : Int) + 1) d z1) (Nat.lt_trans hlR1 lR1) m1' n1' gn3
  replace gn2 := ne3 (a := s1.heap.objs.size + 1 + 1) (o1 := o1) (o2 := instObj 83 y1) (o3 := exD w.params q1 (srcEnd (tx (labL i (Ts.getD i 0)))) ((i : Int) + 1) d z1) (Nat.lt_trans (Nat.lt_succ_self _) (Nat.lt_trans hlR1 lR1)) m1' n1' gn2
  replace gn1 := ne3 (a := s1.heap.objs.size + 1) (o1 := o1) (o2 := instObj 83 y1) (o3 := exD w.params q1 (srcEnd (tx (labL i (Ts.getD i 0)))) ((i : Int) + 1) d z1) (Nat.lt_trans (Nat.lt_succ_self _) (Nat.lt_trans (Nat.lt_succ_self _) (Nat.lt_trans hlR1 lR1))) m1' n1' gn1
  have src1 := (src_all i (by omega) (Ts.getD i 0) (labs_lt hLab (by omega))).2.2
  have X1 := ex_new (w := w) (EW := EW) (x := x1) (dx := y1) (tk := q1) (k := (i : Int) + 1) (d := (d : Int)) src1 zz1 zo1
  have up1 : ∀ p ∈ EW, p ∈ (z1, o1) :: (x1, instObj 83 y1) :: (y1, exD w.params q1 (srcEnd (tx (labL i (Ts.getD i 0)))) ((i : Int) + 1) d z1) :: EW := fun p hp => List.Mem.tail _ (List.Mem.tail _ (List.Mem.tail _ hp))
  replace gO2 := up1 _ gO2
  replace gO3 := up1 _ gO3
  replace gO4 := up1 _ gO4
  replace gLn := gLn.mono up1
  replace gLr := gLr.mono up1
  generalize hE1 : (z1, o1) :: (x1, instObj 83 y1) :: (y1, exD w.params q1 (srcEnd (tx (labL i (Ts.getD i 0)))) ((i : Int) + 1) d z1) :: EW = E1 at *
  repeat' (((first | (k_unfold; (try dsimp only); (try clear qk); (try clear ek)) | ((with_reducible show wpAny _ _ (exec _ _) _ _ _); k_fold) | ((fail_if_success (with_reducible show wpAny _ _ (exec (Stmt.For _ _ _ _ _) _) _ _ _)); (first | ((k_here; (with_reducible show wpAny _ _ (subscriptTail _ _ (Value.ref _) (Value.int (_ - 1) _)) _ _ _); k_dflt (refine' lab_pred ?k1 ?k2 ?k3 ?k4 ?k5 ?_ ?k7; (case k1 => k_asm); (case k2 => k_mem); (case k3 => with_reducible assumption); (case k4 => assumption); (case k5 => omega); (case k7 => with_unfolding_all rfl); k_whole; intro _))) | ((k_here; (with_reducible show wpAny _ _ (call (Value.builtin "len") [Value.ref _]) _ _ _); refine' KM.len_K ?k1 ?k2 ?k3 ?k4 ?_; (case k1 => k_asm); (case k2 => k_mem); (case k3 => assumption); (case k4 => omega))) | ((k_here; (with_reducible show wpAny _ _ (subscriptTail _ _ (Value.ref _) (Value.int _ _)) _ _ _); k_dflt (first | (refine' dep_sub ?k1 ?k2 ?k3 ?k4 ?k5 ?k6 ?_ ?k7; (case k1 => k_asm); (case k2 => k_mem); (case k3 => with_reducible assumption); (case k4 => with_reducible assumption); (case k5 => omega); (case k6 => omega); (case k7 => with_unfolding_all rfl); k_whole; intro _) | (refine' lab_sub ?k1 ?k2 ?k3 ?k4 ?k5 ?_ ?k7; (case k1 => k_asm); (case k2 => k_mem); (case k3 => with_reducible assumption); (case k4 => omega); (case k5 => omega); (case k7 => with_unfolding_all rfl); k_whole; intro _)))) | (((with_reducible show wpAny _ _ (call (Value.ref 83) _) _ _ _); refine halt ?_)) | walk1)) | (dsimp only; (fail_if_success (with_reducible show wpAny _ _ (exec (Stmt.For _ _ _ _ _) _) _ _ _)); (first | ((k_here; (with_reducible show wpAny _ _ (subscriptTail _ _ (Value.ref _) (Value.int (_ - 1) _)) _ _ _); k_dflt (refine' lab_pred ?k1 ?k2 ?k3 ?k4 ?k5 ?_ ?k7; (case k1 => k_asm); (case k2 => k_mem); (case k3 => with_reducible assumption); (case k4 => assumption); (case k5 => omega); (case k7 => with_unfolding_all rfl); k_whole; intro _))) | ((k_here; (with_reducible show wpAny _ _ (call (Value.builtin "len") [Value.ref _]) _ _ _); refine' KM.len_K ?k1 ?k2 ?k3 ?k4 ?_; (case k1 => k_asm); (case k2 => k_mem); (case k3 => assumption); (case k4 => omega))) | ((k_here; (with_reducible show wpAny _ _ (subscriptTail _ _ (Value.ref _) (Value.int _ _)) _ _ _); k_dflt (first | (refine' dep_sub ?k1 ?k2 ?k3 ?k4 ?k5 ?k6 ?_ ?k7; (case k1 => k_asm); (case k2 => k_mem); (case k3 => with_reducible assumption); (case k4 => with_reducible assumption); (case k5 => omega); (case k6 => omega); (case k7 => with_unfolding_all rfl); k_whole; intro _) | (refine' lab_sub ?k1 ?k2 ?k3 ?k4 ?k5 ?_ ?k7; (case k1 => k_asm); (case k2 => k_mem); (case k3 => with_reducible assumption); (case k4 => omega); (case k5 => omega); (case k7 => with_unfolding_all rfl); k_whole; intro _)))) | (((with_reducible show wpAny _ _ (call (Value.ref 83) _) _ _ _); refine halt ?_)) | walk1)))))
  with_reducible rename News s1.heap _ _ _ => N2
  with_reducible rename Fr s1.heap _ _ _ => F2
  refine unhalt ?_
  refine c_ex K1 F2 KX N2 T rfl (Around.frames_deeper K1.stack) rfl rfl ?_ ?_ ?_ ?_
  · simp only [depth_deeper]; decide
  · simp only [Around.deeper_units]; decide
  · rw [tx_len]; omega
  intro x2 y2 z2 o2 q2 h2 tk2 Fa2 Na2 l2 m2 n2 zz2 zo2
  dsimp only
  ((try clear N2); (try clear F2))
  have m2' : @LT.lt Nat _ y2 x2 := m2
  have n2' : @LT.lt Nat _ x2 z2 := n2
  have lI2 : @LT.lt Nat _ I y2 := l2 _ (List.Mem.head _)
  have lR2 : @LT.lt Nat _ RL y2 := l2 _ (List.Mem.tail _ (List.Mem.head _))
  have lW2 : ∀ p ∈ E1, @LT.lt Nat _ p.1 y2 := fun p hp => l2 p (List.Mem.tail _ (List.Mem.tail _ (List.Mem.tail _ (List.Mem.tail _ (List.Mem.tail _ hp)))))
  replace Na2 := re9 Na2
  replace gI := ne3 (o1 := o2) (o2 := instObj 83 y2) (o3 := exD w.params q2 (srcEnd (tx (labL i (Ts.getD i 0)))) (i : Int) ((d : Int) + 1) z2) lI2 m2' n2' gI
  replace gn0 := ne3 (o1 := o2) (o2 := instObj 83 y2) (o3 := exD w.params q2 (srcEnd (tx (labL i (Ts.getD i 0)))) (i : Int) ((d : Int) + 1) z2) lR2 m2' n2' gn0
  replace gn3 := ne3 (a := s1.heap.objs.size + 1 + 1 + 1) (o1 := o2) (o2 := instObj 83 y2) (o3 := exD w.params q2 (srcEnd (tx (labL i (Ts.getD i 0)))) (i : Int) ((d : Int) + 1) z2) (Nat.lt_trans hlR1 lR2) m2' n2' gn3
  replace gn2 := ne3 (a := s1.heap.objs.size + 1 + 1) (o1 := o2) (o2 := instObj 83 y2) (o3 := exD w.params q2 (srcEnd (tx (labL i (Ts.getD i 0)))) (i : Int) ((d : Int) + 1) z2) (Nat.lt_trans (Nat.lt_succ_self _) (Nat.lt_trans hlR1 lR2)) m2' n2' gn2
  replace gn1 := ne3 (a := s1.heap.objs.size + 1) (o1 := o2) (o2 := instObj 83 y2) (o3 := exD w.params q2 (srcEnd (tx (labL i (Ts.getD i 0)))) (i : Int) ((d : Int) + 1) z2) (Nat.lt_trans (Nat.lt_succ_self _) (Nat.lt_trans (Nat.lt_succ_self _) (Nat.lt_trans hlR1 lR2))) m2' n2' gn1
  have src2 := (src_all i (by omega) (Ts.getD i 0) (labs_lt hLab (by omega))).2.2
  have X2 := ex_new (w := w) (EW := E1) (x := x2) (dx := y2) (tk := q2) (k := (i : Int)) (d := (d : Int) + 1) src2 zz2 zo2
  have up2 : ∀ p ∈ E1, p ∈ (z2, o2) :: (x2, instObj 83 y2) :: (y2, exD w.params q2 (srcEnd (tx (labL i (Ts.getD i 0)))) (i : Int) ((d : Int) + 1) z2) :: E1 := fun p hp => List.Mem.tail _ (List.Mem.tail _ (List.Mem.tail _ hp))
  replace gO2 := up2 _ gO2
  replace gO3 := up2 _ gO3
  replace gO4 := up2 _ gO4
  replace gLn := gLn.mono up2
  replace gLr := gLr.mono up2
  replace X1 := X1.mono up2
  generalize hE2 : (z2, o2) :: (x2, instObj 83 y2) :: (y2, exD w.params q2 (srcEnd (tx (labL i (Ts.getD i 0)))) (i : Int) ((d : Int) + 1) z2) :: E1 = E2 at *
  repeat' (((first | (k_unfold; (try dsimp only); (try clear qk); (try clear ek)) | ((with_reducible show wpAny _ _ (exec _ _) _ _ _); k_fold) | ((fail_if_success (with_reducible show wpAny _ _ (exec (Stmt.For _ _ _ _ _) _) _ _ _)); (first | ((k_here; (with_reducible show wpAny _ _ (subscriptTail _ _ (Value.ref _) (Value.int (_ - 1) _)) _ _ _); k_dflt (refine' lab_pred ?k1 ?k2 ?k3 ?k4 ?k5 ?_ ?k7; (case k1 => k_asm); (case k2 => k_mem); (case k3 => with_reducible assumption); (case k4 => assumption); (case k5 => omega); (case k7 => with_unfolding_all rfl); k_whole; intro _))) | ((k_here; (with_reducible show wpAny _ _ (call (Value.builtin "len") [Value.ref _]) _ _ _); refine' KM.len_K ?k1 ?k2 ?k3 ?k4 ?_; (case k1 => k_asm); (case k2 => k_mem); (case k3 => assumption); (case k4 => omega))) | ((k_here; (with_reducible show wpAny _ _ (subscriptTail _ _ (Value.ref _) (Value.int _ _)) _ _ _); k_dflt (first | (refine' dep_sub ?k1 ?k2 ?k3 ?k4 ?k5 ?k6 ?_ ?k7; (case k1 => k_asm); (case k2 => k_mem); (case k3 => with_reducible assumption); (case k4 => with_reducible assumption); (case k5 => omega); (case k6 => omega); (case k7 => with_unfolding_all rfl); k_whole; intro _) | (refine' lab_sub ?k1 ?k2 ?k3 ?k4 ?k5 ?_ ?k7; (case k1 => k_asm); (case k2 => k_mem); (case k3 => with_reducible assumption); (case k4 => omega); (case k5 => omega); (case k7 => with_unfolding_all rfl); k_whole; intro _)))) | (((with_reducible show wpAny _ _ (call (Value.ref 83) _) _ _ _); refine halt ?_)) | walk1)) | (dsimp only; (fail_if_success (with_reducible show wpAny _ _ (exec (Stmt.For _ _ _ _ _) _) _ _ _)); (first | ((k_here; (with_reducible show wpAny _ _ (subscriptTail _ _ (Value.ref _) (Value.int (_ - 1) _)) _ _ _); k_dflt (refine' lab_pred ?k1 ?k2 ?k3 ?k4 ?k5 ?_ ?k7; (case k1 => k_asm); (case k2 => k_mem); (case k3 => with_reducible assumption); (case k4 => assumption); (case k5 => omega); (case k7 => with_unfolding_all rfl); k_whole; intro _))) | ((k_here; (with_reducible show wpAny _ _ (call (Value.builtin "len") [Value.ref _]) _ _ _); refine' KM.len_K ?k1 ?k2 ?k3 ?k4 ?_; (case k1 => k_asm); (case k2 => k_mem); (case k3 => assumption); (case k4 => omega))) | ((k_here; (with_reducible show wpAny _ _ (subscriptTail _ _ (Value.ref _) (Value.int _ _)) _ _ _); k_dflt (first | (refine' dep_sub ?k1 ?k2 ?k3 ?k4 ?k5 ?k6 ?_ ?k7; (case k1 => k_asm); (case k2 => k_mem); (case k3 => with_reducible assumption); (case k4 => with_reducible assumption); (case k5 => omega); (case k6 => omega); (case k7 => with_unfolding_all rfl); k_whole; intro _) | (refine' lab_sub ?k1 ?k2 ?k3 ?k4 ?k5 ?_ ?k7; (case k1 => k_asm); (case k2 => k_mem); (case k3 => with_reducible assumption); (case k4 => omega); (case k5 => omega); (case k7 => with_unfolding_all rfl); k_whole; intro _)))) | (((with_reducible show wpAny _ _ (call (Value.ref 83) _) _ _ _); refine halt ?_)) | walk1)))))
  with_reducible rename News s1.heap _ _ _ => N3
  with_reducible rename Fr s1.heap _ _ _ => F3
  rename_i NL _ lNL _ _ _
  have hpk := prevK_lt (show i < 7 by omega)
  have hll3 := lab_len (prevK i) (Ts.getD (prevK i) 0)
  rw [tx_len] at hll3
  refine unhalt ?_
  refine c_ex K1 F3 KX N3 T rfl (Around.frames_deeper K1.stack) rfl rfl ?_ ?_ ?_ ?_
  · simp only [depth_deeper]; decide
  · simp only [Around.deeper_units]; decide
  · rw [tx_len]; omega
  intro x3 y3 z3 o3 q3 h3 tk3 Fa3 Na3 l3 m3 n3 zz3 zo3
  dsimp only
  ((try clear N3); (try clear F3))
  have m3' : @LT.lt Nat _ y3 x3 := m3
  have n3' : @LT.lt Nat _ x3 z3 := n3
  have lN3 : @LT.lt Nat _ NL y3 := l3 _ (List.Mem.head _)
  have lI3 : @LT.lt Nat _ I y3 := l3 _ (List.Mem.tail _ (List.Mem.head _))
  have lR3 : @LT.lt Nat _ RL y3 := l3 _ (List.Mem.tail _ (List.Mem.tail _ (List.Mem.head _)))
  replace Na3 := re10 Na3
  have gNL := ne3 (o1 := o3) (o2 := instObj 83 y3) (o3 := exD w.params q3 (srcEnd (tx (labL (prevK i) (Ts.getD (prevK i) 0)))) (i : Int) d z3) lN3 m3' n3' (fun p hp => Nat.ne_of_lt (of_allLt lNL.2.2.2.2.2 p hp))
  replace gI := ne3 (o1 := o3) (o2 := instObj 83 y3) (o3 := exD w.params q3 (srcEnd (tx (labL (prevK i) (Ts.getD (prevK i) 0)))) (i : Int) d z3) lI3 m3' n3' gI
  replace gn0 := ne3 (o1 := o3) (o2 := instObj 83 y3) (o3 := exD w.params q3 (srcEnd (tx (labL (prevK i) (Ts.getD (prevK i) 0)))) (i : Int) d z3) lR3 m3' n3' gn0
  replace gn3 := ne3 (a := s1.heap.objs.size + 1 + 1 + 1) (o1 := o3) (o2 := instObj 83 y3) (o3 := exD w.params q3 (srcEnd (tx (labL (prevK i) (Ts.getD (prevK i) 0)))) (i : Int) d z3) (Nat.lt_trans hlR1 lR3) m3' n3' gn3
  replace gn2 := ne3 (a := s1.heap.objs.size + 1 + 1) (o1 := o3) (o2 := instObj 83 y3) (o3 := exD w.params q3 (srcEnd (tx (labL (prevK i) (Ts.getD (prevK i) 0)))) (i : Int) d z3) (Nat.lt_trans (Nat.lt_succ_self _) (Nat.lt_trans hlR1 lR3)) m3' n3' gn2
  replace gn1 := ne3 (a := s1.heap.objs.size + 1) (o1 := o3) (o2 := instObj 83 y3) (o3 := exD w.params q3 (srcEnd (tx (labL (prevK i) (Ts.getD (prevK i) 0)))) (i : Int) d z3) (Nat.lt_trans (Nat.lt_succ_self _) (Nat.lt_trans (Nat.lt_succ_self _) (Nat.lt_trans hlR1 lR3))) m3' n3' gn1
  have src3 := (src_all (prevK i) hpk.1 (Ts.getD (prevK i) 0) (labs_lt hLab (by omega))).2.2
  have X3 := ex_new (w := w) (EW := E2) (x := x3) (dx := y3) (tk := q3) (k := (i : Int)) (d := (d : Int)) src3 zz3 zo3
  have up3 : ∀ p ∈ E2, p ∈ (z3, o3) :: (x3, instObj 83 y3) :: (y3, exD w.params q3 (srcEnd (tx (labL (prevK i) (Ts.getD (prevK i) 0)))) (i : Int) d z3) :: E2 := fun p hp => List.Mem.tail _ (List.Mem.tail _ (List.Mem.tail _ hp))
  replace gO2 := up3 _ gO2
  replace gO3 := up3 _ gO3
  replace gO4 := up3 _ gO4
  replace gLn := gLn.mono up3
  replace gLr := gLr.mono up3
  replace X1 := X1.mono up3
  replace X2 := X2.mono up3
  generalize hE3 : (z3, o3) :: (x3, instObj 83 y3) :: (y3, exD w.params q3 (srcEnd (tx (labL (prevK i) (Ts.getD (prevK i) 0)))) (i : Int) d z3) :: E2 = E3 at *
  repeat' (((first | (k_unfold; (try dsimp only); (try clear qk); (try clear ek)) | ((with_reducible show wpAny _ _ (exec _ _) _ _ _); k_fold) | ((fail_if_success (with_reducible show wpAny _ _ (exec (Stmt.If _ _ _ _) _) _ _ _)); (first | ((k_here; (with_reducible show wpAny _ _ (subscriptTail _ _ (Value.ref _) (Value.int (_ - 1) _)) _ _ _); k_dflt (refine' lab_pred ?k1 ?k2 ?k3 ?k4 ?k5 ?_ ?k7; (case k1 => k_asm); (case k2 => k_mem); (case k3 => with_reducible assumption); (case k4 => assumption); (case k5 => omega); (case k7 => with_unfolding_all rfl); k_whole; intro _))) | ((k_here; (with_reducible show wpAny _ _ (call (Value.builtin "len") [Value.ref _]) _ _ _); refine' KM.len_K ?k1 ?k2 ?k3 ?k4 ?_; (case k1 => k_asm); (case k2 => k_mem); (case k3 => assumption); (case k4 => omega))) | ((k_here; (with_reducible show wpAny _ _ (subscriptTail _ _ (Value.ref _) (Value.int _ _)) _ _ _); k_dflt (first | (refine' dep_sub ?k1 ?k2 ?k3 ?k4 ?k5 ?k6 ?_ ?k7; (case k1 => k_asm); (case k2 => k_mem); (case k3 => with_reducible assumption); (case k4 => with_reducible assumption); (case k5 => omega); (case k6 => omega); (case k7 => with_unfolding_all rfl); k_whole; intro _) | (refine' lab_sub ?k1 ?k2 ?k3 ?k4 ?k5 ?_ ?k7; (case k1 => k_asm); (case k2 => k_mem); (case k3 => with_reducible assumption); (case k4 => omega); (case k5 => omega); (case k7 => with_unfolding_all rfl); k_whole; intro _)))) | (((with_reducible show wpAny _ _ (call (Value.ref 83) _) _ _ _); refine halt ?_)) | walk1)) | (dsimp only; (fail_if_success (with_reducible show wpAny _ _ (exec (Stmt.If _ _ _ _) _) _ _ _)); (first | ((k_here; (with_reducible show wpAny _ _ (subscriptTail _ _ (Value.ref _) (Value.int (_ - 1) _)) _ _ _); k_dflt (refine' lab_pred ?k1 ?k2 ?k3 ?k4 ?k5 ?_ ?k7; (case k1 => k_asm); (case k2 => k_mem); (case k3 => with_reducible assumption); (case k4 => assumption); (case k5 => omega); (case k7 => with_unfolding_all rfl); k_whole; intro _))) | ((k_here; (with_reducible show wpAny _ _ (call (Value.builtin "len") [Value.ref _]) _ _ _); refine' KM.len_K ?k1 ?k2 ?k3 ?k4 ?_; (case k1 => k_asm); (case k2 => k_mem); (case k3 => assumption); (case k4 => omega))) | ((k_here; (with_reducible show wpAny _ _ (subscriptTail _ _ (Value.ref _) (Value.int _ _)) _ _ _); k_dflt (first | (refine' dep_sub ?k1 ?k2 ?k3 ?k4 ?k5 ?k6 ?_ ?k7; (case k1 => k_asm); (case k2 => k_mem); (case k3 => with_reducible assumption); (case k4 => with_reducible assumption); (case k5 => omega); (case k6 => omega); (case k7 => with_unfolding_all rfl); k_whole; intro _) | (refine' lab_sub ?k1 ?k2 ?k3 ?k4 ?k5 ?_ ?k7; (case k1 => k_asm); (case k2 => k_mem); (case k3 => with_reducible assumption); (case k4 => omega); (case k5 => omega); (case k7 => with_unfolding_all rfl); k_whole; intro _)))) | (((with_reducible show wpAny _ _ (call (Value.ref 83) _) _ _ _); refine halt ?_)) | walk1)))))
  with_reducible rename News s1.heap _ _ _ => N4
  with_reducible rename Fr s1.heap _ _ _ => F4
  with_reducible rename (Obj.data _ = Data.cell (some (Value.int _ _))) => hckk
  replace N4 : News s1.heap _ _ ((NL, W.listOf (List.toArray [Value.ref x1, Value.ref x2, Value.ref x3]) 1) :: _) := N4
  (rename_i zr1 zr3 zr4 zr6 zr15 zr17 zr38 zr39 zr183 zr184 zr215 zr216 zr218 zr219 zr220 zr242 zr243 zr266 zr268 zr270 zr271 zr309; clear lR3 lI3 lN3 n3' m3' zo3 zz3 n3 m3 l3 h3 zr271 zr270 tk zr268 lNL zr266 up2 lW2 lR2 lI2 n2' m2' zo2 zz2 n2 m2 l2 tk2 h2 zr243 zr242 up1 lW1 lR1 lI1 n1' m1' zo1 zz1 n1 m1 l1 tk1 h1 zr220 zr219 zr218 zr215 hI3 N₃ hd8 F₃ hck vk ck tk₃ h₃ tk₂ h₂ lRL EY P hiD hLab hl7; (repeat (rename _ => zz; revert zz)); intro stk1; exact @Wr.get _ stk1)⟩
end Mine
end

example : 1 = 1 ∧ 2 = 2 := by
  w_top off
  walk1 <;> rfl
section
set_option maxRecDepth 100000
set_option Elab.async false
open PySem PySem.W PyProof.Rows PySem.Calls
namespace Mine
local macro_rules | `(tactic| k_mem) => `(tactic| (refine mt5 ?_; assumption))
local macro_rules | `(tactic| walk_at "CompSrcT") => `(tactic| refine halt ?_)
local macro_rules | `(tactic| k_all) => `(tactic| (refine' List.forall_mem_cons.mpr (And.intro ?a ?b); (case a => k_ne); (case b => k_all)))
local macro_rules | `(tactic| k_all) => `(tactic| assumption)
local macro_rules | `(tactic| k_mem) => `(tactic| (refine mt6 ?_; with_reducible assumption))
local macro_rules | `(tactic| size_fits) => `(tactic| exact Nat.le_of_ble_eq_true rfl)
local macro_rules | `(tactic| k_mem) => `(tactic| (refine mt9 ?_; with_reducible assumption))
set_option maxHeartbeats 8000000 in
theorem LawJ_pf : Wr LawI_s.P := ⟨by
  intro w _ s1 _ _ _ T _ _ qk ek K1 la da li lvs dvs vvs ln dn vn Ts ds hd7 hv7 cl hcl pa rl pvs rowL vs0 ra rxs RL cr hcr pt kfin rvs rn k hrk hkk hk7 hrsz2 hlR1 EZ _ _ I i t m₃ oI hik ex3 hIR KX hiI hid d hdd EW hEW hll _ hckk x1 y1 z1 o1 q1 src1 E1 hE1 x2 y2 z2 o2 q2 src2 E2 hE2 NL hpk hll3 x3 y3 z3 o3 q3 tk3 src3 E3 hE3 gNL gI gn0 gn3 gn2 gn1 X3 up3 gO2 gO3 gO4 gLn gLr X1 X2 _ F4 qk ek N4
  revert KX; k_fill; intro KX
  repeat' ((first | ((first | (k_unfold; (try dsimp only); (try clear qk); (try clear ek)) | ((with_reducible show wpAny _ _ (exec _ _) _ _ _); k_fold) | (first | ((k_here; (with_reducible show wpAny _ _ (subscriptTail _ _ (Value.ref _) (Value.int _ _)) _ _ _); k_dflt (refine' obj_sub ?k1 ?k2 ?k3 ?k4 ?k5 ?_ ?k7; (case k1 => k_asm); (case k2 => k_mem); (case k3 => with_reducible assumption); (case k4 => omega); (case k5 => omega); (case k7 => with_unfolding_all rfl); k_whole; intro _ _))) | ((k_here; (with_reducible show wpAny _ _ (subscriptTail _ _ (Value.ref _) (Value.int (_ - 1) _)) _ _ _); k_dflt (refine' lab_pred ?k1 ?k2 ?k3 ?k4 ?k5 ?_ ?k7; (case k1 => k_asm); (case k2 => k_mem); (case k3 => with_reducible assumption); (case k4 => assumption); (case k5 => omega); (case k7 => with_unfolding_all rfl); k_whole; intro _))) | ((k_here; (with_reducible show wpAny _ _ (call (Value.builtin "len") [Value.ref _]) _ _ _); refine' KM.len_K ?k1 ?k2 ?k3 ?k4 ?_; (case k1 => k_asm); (case k2 => k_mem); (case k3 => assumption); (case k4 => omega))) | ((k_here; (with_reducible show wpAny _ _ (subscriptTail _ _ (Value.ref _) (Value.int _ _)) _ _ _); k_dflt (first | (refine' dep_sub ?k1 ?k2 ?k3 ?k4 ?k5 ?k6 ?_ ?k7; (case k1 => k_asm); (case k2 => k_mem); (case k3 => with_reducible assumption); (case k4 => with_reducible assumption); (case k5 => omega); (case k6 => omega); (case k7 => with_unfolding_all rfl); k_whole; intro _) | (refine' lab_sub ?k1 ?k2 ?k3 ?k4 ?k5 ?_ ?k7; (case k1 => k_asm); (case k2 => k_mem); (case k3 => with_reducible assumption); (case k4 => omega); (case k5 => omega); (case k7 => with_unfolding_all rfl); k_whole; intro _)))) | (((with_reducible show wpAny _ _ (call (Value.ref 83) _) _ _ _); refine halt ?_)) | walk1) | (dsimp only; (first | ((k_here; (with_reducible show wpAny _ _ (subscriptTail _ _ (Value.ref _) (Value.int _ _)) _ _ _); k_dflt (refine' obj_sub ?k1 ?k2 ?k3 ?k4 ?k5 ?_ ?k7; (case k1 => k_asm); (case k2 => k_mem); (case k3 => with_reducible assumption); (case k4 => omega); (case k5 => omega); (case k7 => with_unfolding_all rfl); k_whole; intro _ _))) | ((k_here; (with_reducible show wpAny _ _ (subscriptTail _ _ (Value.ref _) (Value.int (_ - 1) _)) _ _ _); k_dflt (refine' lab_pred ?k1 ?k2 ?k3 ?k4 ?k5 ?_ ?k7; (case k1 => k_asm); (case k2 => k_mem); (case k3 => with_reducible assumption); (case k4 => assumption); (case k5 => omega); (case k7 => with_unfolding_all rfl); k_whole; intro _))) | ((k_here; (with_reducible show wpAny _ _ (call (Value.builtin "len") [Value.ref _]) _ _ _); refine' KM.len_K ?k1 ?k2 ?k3 ?k4 ?_; (case k1 => k_asm); (case k2 => k_mem); (case k3 => assumption); (case k4 => omega))) | ((k_here; (with_reducible show wpAny _ _ (subscriptTail _ _ (Value.ref _) (Value.int _ _)) _ _ _); k_dflt (first | (refine' dep_sub ?k1 ?k2 ?k3 ?k4 ?k5 ?k6 ?_ ?k7; (case k1 => k_asm); (case k2 => k_mem); (case k3 => with_reducible assumption); (case k4 => with_reducible assumption); (case k5 => omega); (case k6 => omega); (case k7 => with_unfolding_all rfl); k_whole; intro _) | (refine' lab_sub ?k1 ?k2 ?k3 ?k4 ?k5 ?_ ?k7; (case k1 => k_asm); (case k2 => k_mem); (case k3 => with_reducible assumption); (case k4 => omega); (case k5 => omega); (case k7 => with_unfolding_all rfl); k_whole; intro _)))) | (((with_reducible show wpAny _ _ (call (Value.ref 83) _) _ _ _); refine halt ?_)) | walk1)))) | ((first | (k_unfold; (try dsimp only); (try clear qk); (try clear ek)) | ((with_reducible show wpAny _ _ (exec _ _) _ _ _); k_fold) | ((fail_if_success (with_reducible show wpAny _ _ (exec (Stmt.For _ _ _ _ _) _) _ _ _)); (first | ((k_here; (with_reducible show wpAny _ _ (subscriptTail _ _ (Value.ref _) (Value.int _ _)) _ _ _); k_dflt (refine' obj_sub ?k1 ?k2 ?k3 ?k4 ?k5 ?_ ?k7; (case k1 => k_asm); (case k2 => k_mem); (case k3 => with_reducible assumption); (case k4 => omega); (case k5 => omega); (case k7 => with_unfolding_all rfl); k_whole; intro _ _))) | ((k_here; (with_reducible show wpAny _ _ (subscriptTail _ _ (Value.ref _) (Value.int (_ - 1) _)) _ _ _); k_dflt (refine' lab_pred ?k1 ?k2 ?k3 ?k4 ?k5 ?_ ?k7; (case k1 => k_asm); (case k2 => k_mem); (case k3 => with_reducible assumption); (case k4 => assumption); (case k5 => omega); (case k7 => with_unfolding_all rfl); k_whole; intro _))) | ((k_here; (with_reducible show wpAny _ _ (call (Value.builtin "len") [Value.ref _]) _ _ _); refine' KM.len_K ?k1 ?k2 ?k3 ?k4 ?_; (case k1 => k_asm); (case k2 => k_mem); (case k3 => assumption); (case k4 => omega))) | ((k_here; (with_reducible show wpAny _ _ (subscriptTail _ _ (Value.ref _) (Value.int _ _)) _ _ _); k_dflt (first | (refine' dep_sub ?k1 ?k2 ?k3 ?k4 ?k5 ?k6 ?_ ?k7; (case k1 => k_asm); (case k2 => k_mem); (case k3 => with_reducible assumption); (case k4 => with_reducible assumption); (case k5 => omega); (case k6 => omega); (case k7 => with_unfolding_all rfl); k_whole; intro _) | (refine' lab_sub ?k1 ?k2 ?k3 ?k4 ?k5 ?_ ?k7; (case k1 => k_asm); (case k2 => k_mem); (case k3 => with_reducible assumption); (case k4 => omega); (case k5 => omega); (case k7 => with_unfolding_all rfl); k_whole; intro _)))) | (((with_reducible show wpAny _ _ (call (Value.ref 83) _) _ _ _); refine halt ?_)) | walk1)) | (dsimp only; (fail_if_success (with_reducible show wpAny _ _ (exec (Stmt.For _ _ _ _ _) _) _ _ _)); (first | ((k_here; (with_reducible show wpAny _ _ (subscriptTail _ _ (Value.ref _) (Value.int _ _)) _ _ _); k_dflt (refine' obj_sub ?k1 ?k2 ?k3 ?k4 ?k5 ?_ ?k7; (case k1 => k_asm); (case k2 => k_mem); (case k3 => with_reducible assumption); (case k4 => omega); (case k5 => omega); (case k7 => with_unfolding_all rfl); k_whole; intro _ _))) | ((k_here; (with_reducible show wpAny _ _ (subscriptTail _ _ (Value.ref _) (Value.int (_ - 1) _)) _ _ _); k_dflt (refine' lab_pred ?k1 ?k2 ?k3 ?k4 ?k5 ?_ ?k7; (case k1 => k_asm); (case k2 => k_mem); (case k3 => with_reducible assumption); (case k4 => assumption); (case k5 => omega); (case k7 => with_unfolding_all rfl); k_whole; intro _))) | ((k_here; (with_reducible show wpAny _ _ (call (Value.builtin "len") [Value.ref _]) _ _ _); refine' KM.len_K ?k1 ?k2 ?k3 ?k4 ?_; (case k1 => k_asm); (case k2 => k_mem); (case k3 => assumption); (case k4 => omega))) | ((k_here; (with_reducible show wpAny _ _ (subscriptTail _ _ (Value.ref _) (Value.int _ _)) _ _ _); k_dflt (first | (refine' dep_sub ?k1 ?k2 ?k3 ?k4 ?k5 ?k6 ?_ ?k7; (case k1 => k_asm); (case k2 => k_mem); (case k3 => with_reducible assumption); (case k4 => with_reducible assumption); (case k5 => omega); (case k6 => omega); (case k7 => with_unfolding_all rfl); k_whole; intro _) | (refine' lab_sub ?k1 ?k2 ?k3 ?k4 ?k5 ?_ ?k7; (case k1 => k_asm); (case k2 => k_mem); (case k3 => with_reducible assumption); (case k4 => omega); (case k5 => omega); (case k7 => with_unfolding_all rfl); k_whole; intro _)))) | (((with_reducible show wpAny _ _ (call (Value.ref 83) _) _ _ _); refine halt ?_)) | walk1))))))
  refine unhalt ?_
  refine LCt.CompSrcT.range (by rfl) (by k_asm) (by k_asm) (by assumption) (by decide) (by rfl) (by exact Nat.le_of_ble_eq_true rfl) ?_
  intro gg
  refine kci_range (fun l j => if j = (i : Int) then l ++ [j] else l) (fun j' t' I' oI' C' oC' D' m' ys' l' h' tk' E' hlo' hhi' hI' hC' hx' F' N' off' ne' _ => ?_) ?_ ?_
  · obtain ⟨jn, rfl⟩ := Int.eq_ofNat_of_zero_le hlo'
    have hj7 : jn < 7 := by simp at hhi'; omega
    repeat' ((first | ((with_reducible show wpAny _ _ (compareOp CmpOp.Eq _ _) _ _ _); refine halt ?_) | (first | ((first | (k_unfold; (try dsimp only); (try clear qk); (try clear ek)) | ((with_reducible show wpAny _ _ (exec _ _) _ _ _); k_fold) | (first | ((k_here; (with_reducible show wpAny _ _ (subscriptTail _ _ (Value.ref _) (Value.int _ _)) _ _ _); k_dflt (refine' obj_sub ?k1 ?k2 ?k3 ?k4 ?k5 ?_ ?k7; (case k1 => k_asm); (case k2 => k_mem); (case k3 => with_reducible assumption); (case k4 => omega); (case k5 => omega); (case k7 => with_unfolding_all rfl); k_whole; intro _ _))) | ((k_here; (with_reducible show wpAny _ _ (subscriptTail _ _ (Value.ref _) (Value.int (_ - 1) _)) _ _ _); k_dflt (refine' lab_pred ?k1 ?k2 ?k3 ?k4 ?k5 ?_ ?k7; (case k1 => k_asm); (case k2 => k_mem); (case k3 => with_reducible assumption); (case k4 => assumption); (case k5 => omega); (case k7 => with_unfolding_all rfl); k_whole; intro _))) | ((k_here; (with_reducible show wpAny _ _ (call (Value.builtin "len") [Value.ref _]) _ _ _); refine' KM.len_K ?k1 ?k2 ?k3 ?k4 ?_; (case k1 => k_asm); (case k2 => k_mem); (case k3 => assumption); (case k4 => omega))) | ((k_here; (with_reducible show wpAny _ _ (subscriptTail _ _ (Value.ref _) (Value.int _ _)) _ _ _); k_dflt (first | (refine' dep_sub ?k1 ?k2 ?k3 ?k4 ?k5 ?k6 ?_ ?k7; (case k1 => k_asm); (case k2 => k_mem); (case k3 => with_reducible assumption); (case k4 => with_reducible assumption); (case k5 => omega); (case k6 => omega); (case k7 => with_unfolding_all rfl); k_whole; intro _) | (refine' lab_sub ?k1 ?k2 ?k3 ?k4 ?k5 ?_ ?k7; (case k1 => k_asm); (case k2 => k_mem); (case k3 => with_reducible assumption); (case k4 => omega); (case k5 => omega); (case k7 => with_unfolding_all rfl); k_whole; intro _)))) | (((with_reducible show wpAny _ _ (call (Value.ref 83) _) _ _ _); refine halt ?_)) | walk1) | (dsimp only; (first | ((k_here; (with_reducible show wpAny _ _ (subscriptTail _ _ (Value.ref _) (Value.int _ _)) _ _ _); k_dflt (refine' obj_sub ?k1 ?k2 ?k3 ?k4 ?k5 ?_ ?k7; (case k1 => k_asm); (case k2 => k_mem); (case k3 => with_reducible assumption); (case k4 => omega); (case k5 => omega); (case k7 => with_unfolding_all rfl); k_whole; intro _ _))) | ((k_here; (with_reducible show wpAny _ _ (subscriptTail _ _ (Value.ref _) (Value.int (_ - 1) _)) _ _ _); k_dflt (refine' lab_pred ?k1 ?k2 ?k3 ?k4 ?k5 ?_ ?k7; (case k1 => k_asm); (case k2 => k_mem); (case k3 => with_reducible assumption); (case k4 => assumption); (case k5 => omega); (case k7 => with_unfolding_all rfl); k_whole; intro _))) | ((k_here; (with_reducible show wpAny _ _ (call (Value.builtin "len") [Value.ref _]) _ _ _); refine' KM.len_K ?k1 ?k2 ?k3 ?k4 ?_; (case k1 => k_asm); (case k2 => k_mem); (case k3 => assumption); (case k4 => omega))) | ((k_here; (with_reducible show wpAny _ _ (subscriptTail _ _ (Value.ref _) (Value.int _ _)) _ _ _); k_dflt (first | (refine' dep_sub ?k1 ?k2 ?k3 ?k4 ?k5 ?k6 ?_ ?k7; (case k1 => k_asm); (case k2 => k_mem); (case k3 => with_reducible assumption); (case k4 => with_reducible assumption); (case k5 => omega); (case k6 => omega); (case k7 => with_unfolding_all rfl); k_whole; intro _) | (refine' lab_sub ?k1 ?k2 ?k3 ?k4 ?k5 ?_ ?k7; (case k1 => k_asm); (case k2 => k_mem); (case k3 => with_reducible assumption); (case k4 => omega); (case k5 => omega); (case k7 => with_unfolding_all rfl); k_whole; intro _)))) | (((with_reducible show wpAny _ _ (call (Value.ref 83) _) _ _ _); refine halt ?_)) | walk1)))) | ((first | (k_unfold; (try dsimp only); (try clear qk); (try clear ek)) | ((with_reducible show wpAny _ _ (exec _ _) _ _ _); k_fold) | ((fail_if_success (with_reducible show wpAny _ _ (exec (Stmt.For _ _ _ _ _) _) _ _ _)); (first | ((k_here; (with_reducible show wpAny _ _ (subscriptTail _ _ (Value.ref _) (Value.int _ _)) _ _ _); k_dflt (refine' obj_sub ?k1 ?k2 ?k3 ?k4 ?k5 ?_ ?k7; (case k1 => k_asm); (case k2 => k_mem); (case k3 => with_reducible assumption); (case k4 => omega); (case k5 => omega); (case k7 => with_unfolding_all rfl); k_whole; intro _ _))) | ((k_here; (with_reducible show wpAny _ _ (subscriptTail _ _ (Value.ref _) (Value.int (_ - 1) _)) _ _ _); k_dflt (refine' lab_pred ?k1 ?k2 ?k3 ?k4 ?k5 ?_ ?k7; (case k1 => k_asm); (case k2 => k_mem); (case k3 => with_reducible assumption); (case k4 => assumption); (case k5 => omega); (case k7 => with_unfolding_all rfl); k_whole; intro _))) | ((k_here; (with_reducible show wpAny _ _ (call (Value.builtin "len") [Value.ref _]) _ _ _); refine' KM.len_K ?k1 ?k2 ?k3 ?k4 ?_; (case k1 => k_asm); (case k2 => k_mem); (case k3 => assumption); (case k4 => omega))) | ((k_here; (with_reducible show wpAny _ _ (subscriptTail _ _ (Value.ref _) (Value.int _ _)) _ _ _); k_dflt (first | (refine' dep_sub ?k1 ?k2 ?k3 ?k4 ?k5 ?k6 ?_ ?k7; (case k1 => k_asm); (case k2 => k_mem); (case k3 => with_reducible assumption); (case k4 => with_reducible assumption); (case k5 => omega); (case k6 => omega); (case k7 => with_unfolding_all rfl); k_whole; intro _) | (refine' lab_sub ?k1 ?k2 ?k3 ?k4 ?k5 ?_ ?k7; (case k1 => k_asm); (case k2 => k_mem); (case k3 => with_reducible assumption); (case k4 => omega); (case k5 => omega); (case k7 => with_unfolding_all rfl); k_whole; intro _)))) | (((with_reducible show wpAny _ _ (call (Value.ref 83) _) _ _ _); refine halt ?_)) | walk1)) | (dsimp only; (fail_if_success (with_reducible show wpAny _ _ (exec (Stmt.For _ _ _ _ _) _) _ _ _)); (first | ((k_here; (with_reducible show wpAny _ _ (subscriptTail _ _ (Value.ref _) (Value.int _ _)) _ _ _); k_dflt (refine' obj_sub ?k1 ?k2 ?k3 ?k4 ?k5 ?_ ?k7; (case k1 => k_asm); (case k2 => k_mem); (case k3 => with_reducible assumption); (case k4 => omega); (case k5 => omega); (case k7 => with_unfolding_all rfl); k_whole; intro _ _))) | ((k_here; (with_reducible show wpAny _ _ (subscriptTail _ _ (Value.ref _) (Value.int (_ - 1) _)) _ _ _); k_dflt (refine' lab_pred ?k1 ?k2 ?k3 ?k4 ?k5 ?_ ?k7; (case k1 => k_asm); (case k2 => k_mem); (case k3 => with_reducible assumption); (case k4 => assumption); (case k5 => omega); (case k7 => with_unfolding_all rfl); k_whole; intro _))) | ((k_here; (with_reducible show wpAny _ _ (call (Value.builtin "len") [Value.ref _]) _ _ _); refine' KM.len_K ?k1 ?k2 ?k3 ?k4 ?_; (case k1 => k_asm); (case k2 => k_mem); (case k3 => assumption); (case k4 => omega))) | ((k_here; (with_reducible show wpAny _ _ (subscriptTail _ _ (Value.ref _) (Value.int _ _)) _ _ _); k_dflt (first | (refine' dep_sub ?k1 ?k2 ?k3 ?k4 ?k5 ?k6 ?_ ?k7; (case k1 => k_asm); (case k2 => k_mem); (case k3 => with_reducible assumption); (case k4 => with_reducible assumption); (case k5 => omega); (case k6 => omega); (case k7 => with_unfolding_all rfl); k_whole; intro _) | (refine' lab_sub ?k1 ?k2 ?k3 ?k4 ?k5 ?_ ?k7; (case k1 => k_asm); (case k2 => k_mem); (case k3 => with_reducible assumption); (case k4 => omega); (case k5 => omega); (case k7 => with_unfolding_all rfl); k_whole; intro _)))) | (((with_reducible show wpAny _ _ (call (Value.ref 83) _) _ _ _); refine halt ?_)) | walk1)))))))
    rename_i v1 e1 v2 e2
    refine unhalt ?_
    refine ex_cmp e1 e2 (fun p hp => List.Mem.tail _ (List.Mem.tail _ (List.Mem.tail _ (List.Mem.tail _ (List.Mem.tail _ (List.Mem.tail _ (List.Mem.tail _ (List.Mem.tail _ (List.Mem.tail _ hp))))))))) K1 F' KX N' T rfl (Around.frames_deeper K1.stack) rfl rfl ?_ ?_ ?_
    · simp only [depth_deeper]; decide
    · simp only [Around.deeper_units]; decide
    intro h5 tk5 F5 N5
    dsimp only
    have hdec : decide (tx (labL i (Ts.getD i 0)) ++ Str.ofString "\n" = tx (labL jn (Ts.getD jn 0)) ++ Str.ofString "\n" ∧ (i : Int) = (jn : Int) ∧ ds.getD i 0 = ds.getD jn 0) = decide ((jn : Int) = (i : Int)) := by
      by_cases hji : jn = i
      · subst hji
        rw [decide_eq_true (show _ ∧ _ ∧ _ from ⟨rfl, rfl, rfl⟩), decide_eq_true rfl]
      · rw [decide_eq_false (fun h => hji (by have := h.2.1; omega)), decide_eq_false (fun h => hji (by omega))]
    rw [hdec]
    by_cases hji : (jn : Int) = (i : Int)
    · rw [decide_eq_true hji]
      repeat' ((first | ((with_reducible show wpAny _ _ (compareOp CmpOp.Eq _ _) _ _ _); refine halt ?_) | (first | ((first | (k_unfold; (try dsimp only); (try clear qk); (try clear ek)) | ((with_reducible show wpAny _ _ (exec _ _) _ _ _); k_fold) | (first | ((k_here; (with_reducible show wpAny _ _ (subscriptTail _ _ (Value.ref _) (Value.int _ _)) _ _ _); k_dflt (refine' obj_sub ?k1 ?k2 ?k3 ?k4 ?k5 ?_ ?k7; (case k1 => k_asm); (case k2 => k_mem); (case k3 => with_reducible assumption); (case k4 => omega); (case k5 => omega); (case k7 => with_unfolding_all rfl); k_whole; intro _ _))) | ((k_here; (with_reducible show wpAny _ _ (subscriptTail _ _ (Value.ref _) (Value.int (_ - 1) _)) _ _ _); k_dflt (refine' lab_pred ?k1 ?k2 ?k3 ?k4 ?k5 ?_ ?k7; (case k1 => k_asm); (case k2 => k_mem); (case k3 => with_reducible assumption); (case k4 => assumption); (case k5 => omega); (case k7 => with_unfolding_all rfl); k_whole; intro _))) | ((k_here; (with_reducible show wpAny _ _ (call (Value.builtin "len") [Value.ref _]) _ _ _); refine' KM.len_K ?k1 ?k2 ?k3 ?k4 ?_; (case k1 => k_asm); (case k2 => k_mem); (case k3 => assumption); (case k4 => omega))) | ((k_here; (with_reducible show wpAny _ _ (subscriptTail _ _ (Value.ref _) (Value.int _ _)) _ _ _); k_dflt (first | (refine' dep_sub ?k1 ?k2 ?k3 ?k4 ?k5 ?k6 ?_ ?k7; (case k1 => k_asm); (case k2 => k_mem); (case k3 => with_reducible assumption); (case k4 => with_reducible assumption); (case k5 => omega); (case k6 => omega); (case k7 => with_unfolding_all rfl); k_whole; intro _) | (refine' lab_sub ?k1 ?k2 ?k3 ?k4 ?k5 ?_ ?k7; (case k1 => k_asm); (case k2 => k_mem); (case k3 => with_reducible assumption); (case k4 => omega); (case k5 => omega); (case k7 => with_unfolding_all rfl); k_whole; intro _)))) | (((with_reducible show wpAny _ _ (call (Value.ref 83) _) _ _ _); refine halt ?_)) | walk1) | (dsimp only; (first | ((k_here; (with_reducible show wpAny _ _ (subscriptTail _ _ (Value.ref _) (Value.int _ _)) _ _ _); k_dflt (refine' obj_sub ?k1 ?k2 ?k3 ?k4 ?k5 ?_ ?k7; (case k1 => k_asm); (case k2 => k_mem); (case k3 => with_reducible assumption); (case k4 => omega); (case k5 => omega); (case k7 => with_unfolding_all rfl); k_whole; intro _ _))) | ((k_here; (with_reducible show wpAny _ _ (subscriptTail _ _ (Value.ref _) (Value.int (_ - 1) _)) _ _ _); k_dflt (refine' lab_pred ?k1 ?k2 ?k3 ?k4 ?k5 ?_ ?k7; (case k1 => k_asm); (case k2 => k_mem); (case k3 => with_reducible assumption); (case k4 => assumption); (case k5 => omega); (case k7 => with_unfolding_all rfl); k_whole; intro _))) | ((k_here; (with_reducible show wpAny _ _ (call (Value.builtin "len") [Value.ref _]) _ _ _); refine' KM.len_K ?k1 ?k2 ?k3 ?k4 ?_; (case k1 => k_asm); (case k2 => k_mem); (case k3 => assumption); (case k4 => omega))) | ((k_here; (with_reducible show wpAny _ _ (subscriptTail _ _ (Value.ref _) (Value.int _ _)) _ _ _); k_dflt (first | (refine' dep_sub ?k1 ?k2 ?k3 ?k4 ?k5 ?k6 ?_ ?k7; (case k1 => k_asm); (case k2 => k_mem); (case k3 => with_reducible assumption); (case k4 => with_reducible assumption); (case k5 => omega); (case k6 => omega); (case k7 => with_unfolding_all rfl); k_whole; intro _) | (refine' lab_sub ?k1 ?k2 ?k3 ?k4 ?k5 ?_ ?k7; (case k1 => k_asm); (case k2 => k_mem); (case k3 => with_reducible assumption); (case k4 => omega); (case k5 => omega); (case k7 => with_unfolding_all rfl); k_whole; intro _)))) | (((with_reducible show wpAny _ _ (call (Value.ref 83) _) _ _ _); refine halt ?_)) | walk1)))) | ((first | (k_unfold; (try dsimp only); (try clear qk); (try clear ek)) | ((with_reducible show wpAny _ _ (exec _ _) _ _ _); k_fold) | ((fail_if_success (with_reducible show wpAny _ _ (exec (Stmt.For _ _ _ _ _) _) _ _ _)); (first | ((k_here; (with_reducible show wpAny _ _ (subscriptTail _ _ (Value.ref _) (Value.int _ _)) _ _ _); k_dflt (refine' obj_sub ?k1 ?k2 ?k3 ?k4 ?k5 ?_ ?k7; (case k1 => k_asm); (case k2 => k_mem); (case k3 => with_reducible assumption); (case k4 => omega); (case k5 => omega); (case k7 => with_unfolding_all rfl); k_whole; intro _ _))) | ((k_here; (with_reducible show wpAny _ _ (subscriptTail _ _ (Value.ref _) (Value.int (_ - 1) _)) _ _ _); k_dflt (refine' lab_pred ?k1 ?k2 ?k3 ?k4 ?k5 ?_ ?k7; (case k1 => k_asm); (case k2 => k_mem); (case k3 => with_reducible assumption); (case k4 => assumption); (case k5 => omega); (case k7 => with_unfolding_all rfl); k_whole; intro _))) | ((k_here; (with_reducible show wpAny _ _ (call (Value.builtin "len") [Value.ref _]) _ _ _); refine' KM.len_K ?k1 ?k2 ?k3 ?k4 ?_; (case k1 => k_asm); (case k2 => k_mem); (case k3 => assumption); (case k4 => omega))) | ((k_here; (with_reducible show wpAny _ _ (subscriptTail _ _ (Value.ref _) (Value.int _ _)) _ _ _); k_dflt (first | (refine' dep_sub ?k1 ?k2 ?k3 ?k4 ?k5 ?k6 ?_ ?k7; (case k1 => k_asm); (case k2 => k_mem); (case k3 => with_reducible assumption); (case k4 => with_reducible assumption); (case k5 => omega); (case k6 => omega); (case k7 => with_unfolding_all rfl); k_whole; intro _) | (refine' lab_sub ?k1 ?k2 ?k3 ?k4 ?k5 ?_ ?k7; (case k1 => k_asm); (case k2 => k_mem); (case k3 => with_reducible assumption); (case k4 => omega); (case k5 => omega); (case k7 => with_unfolding_all rfl); k_whole; intro _)))) | (((with_reducible show wpAny _ _ (call (Value.ref 83) _) _ _ _); refine halt ?_)) | walk1)) | (dsimp only; (fail_if_success (with_reducible show wpAny _ _ (exec (Stmt.For _ _ _ _ _) _) _ _ _)); (first | ((k_here; (with_reducible show wpAny _ _ (subscriptTail _ _ (Value.ref _) (Value.int _ _)) _ _ _); k_dflt (refine' obj_sub ?k1 ?k2 ?k3 ?k4 ?k5 ?_ ?k7; (case k1 => k_asm); (case k2 => k_mem); (case k3 => with_reducible assumption); (case k4 => omega); (case k5 => omega); (case k7 => with_unfolding_all rfl); k_whole; intro _ _))) | ((k_here; (with_reducible show wpAny _ _ (subscriptTail _ _ (Value.ref _) (Value.int (_ - 1) _)) _ _ _); k_dflt (refine' lab_pred ?k1 ?k2 ?k3 ?k4 ?k5 ?_ ?k7; (case k1 => k_asm); (case k2 => k_mem); (case k3 => with_reducible assumption); (case k4 => assumption); (case k5 => omega); (case k7 => with_unfolding_all rfl); k_whole; intro _))) | ((k_here; (with_reducible show wpAny _ _ (call (Value.builtin "len") [Value.ref _]) _ _ _); refine' KM.len_K ?k1 ?k2 ?k3 ?k4 ?_; (case k1 => k_asm); (case k2 => k_mem); (case k3 => assumption); (case k4 => omega))) | ((k_here; (with_reducible show wpAny _ _ (subscriptTail _ _ (Value.ref _) (Value.int _ _)) _ _ _); k_dflt (first | (refine' dep_sub ?k1 ?k2 ?k3 ?k4 ?k5 ?k6 ?_ ?k7; (case k1 => k_asm); (case k2 => k_mem); (case k3 => with_reducible assumption); (case k4 => with_reducible assumption); (case k5 => omega); (case k6 => omega); (case k7 => with_unfolding_all rfl); k_whole; intro _) | (refine' lab_sub ?k1 ?k2 ?k3 ?k4 ?k5 ?_ ?k7; (case k1 => k_asm); (case k2 => k_mem); (case k3 => with_reducible assumption); (case k4 => omega); (case k5 => omega); (case k7 => with_unfolding_all rfl); k_whole; intro _)))) | (((with_reducible show wpAny _ _ (call (Value.ref 83) _) _ _ _); refine halt ?_)) | walk1)))))))
      exact LCg.CompEnd.intro (by assumption) (by assumption) _ (fun p hp => hp) off' trivial (kci_el (if_pos hji) rfl rfl)
    · rw [decide_eq_false hji]
      repeat' ((first | ((with_reducible show wpAny _ _ (compareOp CmpOp.Eq _ _) _ _ _); refine halt ?_) | (first | ((first | (k_unfold; (try dsimp only); (try clear qk); (try clear ek)) | ((with_reducible show wpAny _ _ (exec _ _) _ _ _); k_fold) | (first | ((k_here; (with_reducible show wpAny _ _ (subscriptTail _ _ (Value.ref _) (Value.int _ _)) _ _ _); k_dflt (refine' obj_sub ?k1 ?k2 ?k3 ?k4 ?k5 ?_ ?k7; (case k1 => k_asm); (case k2 => k_mem); (case k3 => with_reducible assumption); (case k4 => omega); (case k5 => omega); (case k7 => with_unfolding_all rfl); k_whole; intro _ _))) | ((k_here; (with_reducible show wpAny _ _ (subscriptTail _ _ (Value.ref _) (Value.int (_ - 1) _)) _ _ _); k_dflt (refine' lab_pred ?k1 ?k2 ?k3 ?k4 ?k5 ?_ ?k7; (case k1 => k_asm); (case k2 => k_mem); (case k3 => with_reducible assumption); (case k4 => assumption); (case k5 => omega); (case k7 => with_unfolding_all rfl); k_whole; intro _))) | ((k_here; (with_reducible show wpAny _ _ (call (Value.builtin "len") [Value.ref _]) _ _ _); refine' KM.len_K ?k1 ?k2 ?k3 ?k4 ?_; (case k1 => k_asm); (case k2 => k_mem); (case k3 => assumption); (case k4 => omega))) | ((k_here; (with_reducible show wpAny _ _ (subscriptTail _ _ (Value.ref _) (Value.int _ _)) _ _ _); k_dflt (first | (refine' dep_sub ?k1 ?k2 ?k3 ?k4 ?k5 ?k6 ?_ ?k7; (case k1 => k_asm); (case k2 => k_mem); (case k3 => with_reducible assumption); (case k4 => with_reducible assumption); (case k5 => omega); (case k6 => omega); (case k7 => with_unfolding_all rfl); k_whole; intro _) | (refine' lab_sub ?k1 ?k2 ?k3 ?k4 ?k5 ?_ ?k7; (case k1 => k_asm); (case k2 => k_mem); (case k3 => with_reducible assumption); (case k4 => omega); (case k5 => omega); (case k7 => with_unfolding_all rfl); k_whole; intro _)))) | (((with_reducible show wpAny _ _ (call (Value.ref 83) _) _ _ _); refine halt ?_)) | walk1) | (dsimp only; (first | ((k_here; (with_reducible show wpAny _ _ (subscriptTail _ _ (Value.ref _) (Value.int _ _)) _ _ _); k_dflt (refine' obj_sub ?k1 ?k2 ?k3 ?k4 ?k5 ?_ ?k7; (case k1 => k_asm); (case k2 => k_mem); (case k3 => with_reducible assumption); (case k4 => omega); (case k5 => omega); (case k7 => with_unfolding_all rfl); k_whole; intro _ _))) | ((k_here; (with_reducible show wpAny _ _ (subscriptTail _ _ (Value.ref _) (Value.int (_ - 1) _)) _ _ _); k_dflt (refine' lab_pred ?k1 ?k2 ?k3 ?k4 ?k5 ?_ ?k7; (case k1 => k_asm); (case k2 => k_mem); (case k3 => with_reducible assumption); (case k4 => assumption); (case k5 => omega); (case k7 => with_unfolding_all rfl); k_whole; intro _))) | ((k_here; (with_reducible show wpAny _ _ (call (Value.builtin "len") [Value.ref _]) _ _ _); refine' KM.len_K ?k1 ?k2 ?k3 ?k4 ?_; (case k1 => k_asm); (case k2 => k_mem); (case k3 => assumption); (case k4 => omega))) | ((k_here; (with_reducible show wpAny _ _ (subscriptTail _ _ (Value.ref _) (Value.int _ _)) _ _ _); k_dflt (first | (refine' dep_sub ?k1 ?k2 ?k3 ?k4 ?k5 ?k6 ?_ ?k7; (case k1 => k_asm); (case k2 => k_mem); (case k3 => with_reducible assumption); (case k4 => with_reducible assumption); (case k5 => omega); (case k6 => omega); (case k7 => with_unfolding_all rfl); k_whole; intro _) | (refine' lab_sub ?k1 ?k2 ?k3 ?k4 ?k5 ?_ ?k7; (case k1 => k_asm); (case k2 => k_mem); (case k3 => with_reducible assumption); (case k4 => omega); (case k5 => omega); (case k7 => with_unfolding_all rfl); k_whole; intro _)))) | (((with_reducible show wpAny _ _ (call (Value.ref 83) _) _ _ _); refine halt ?_)) | walk1)))) | ((first | (k_unfold; (try dsimp only); (try clear qk); (try clear ek)) | ((with_reducible show wpAny _ _ (exec _ _) _ _ _); k_fold) | ((fail_if_success (with_reducible show wpAny _ _ (exec (Stmt.For _ _ _ _ _) _) _ _ _)); (first | ((k_here; (with_reducible show wpAny _ _ (subscriptTail _ _ (Value.ref _) (Value.int _ _)) _ _ _); k_dflt (refine' obj_sub ?k1 ?k2 ?k3 ?k4 ?k5 ?_ ?k7; (case k1 => k_asm); (case k2 => k_mem); (case k3 => with_reducible assumption); (case k4 => omega); (case k5 => omega); (case k7 => with_unfolding_all rfl); k_whole; intro _ _))) | ((k_here; (with_reducible show wpAny _ _ (subscriptTail _ _ (Value.ref _) (Value.int (_ - 1) _)) _ _ _); k_dflt (refine' lab_pred ?k1 ?k2 ?k3 ?k4 ?k5 ?_ ?k7; (case k1 => k_asm); (case k2 => k_mem); (case k3 => with_reducible assumption); (case k4 => assumption); (case k5 => omega); (case k7 => with_unfolding_all rfl); k_whole; intro _))) | ((k_here; (with_reducible show wpAny _ _ (call (Value.builtin "len") [Value.ref _]) _ _ _); refine' KM.len_K ?k1 ?k2 ?k3 ?k4 ?_; (case k1 => k_asm); (case k2 => k_mem); (case k3 => assumption); (case k4 => omega))) | ((k_here; (with_reducible show wpAny _ _ (subscriptTail _ _ (Value.ref _) (Value.int _ _)) _ _ _); k_dflt (first | (refine' dep_sub ?k1 ?k2 ?k3 ?k4 ?k5 ?k6 ?_ ?k7; (case k1 => k_asm); (case k2 => k_mem); (case k3 => with_reducible assumption); (case k4 => with_reducible assumption); (case k5 => omega); (case k6 => omega); (case k7 => with_unfolding_all rfl); k_whole; intro _) | (refine' lab_sub ?k1 ?k2 ?k3 ?k4 ?k5 ?_ ?k7; (case k1 => k_asm); (case k2 => k_mem); (case k3 => with_reducible assumption); (case k4 => omega); (case k5 => omega); (case k7 => with_unfolding_all rfl); k_whole; intro _)))) | (((with_reducible show wpAny _ _ (call (Value.ref 83) _) _ _ _); refine halt ?_)) | walk1)) | (dsimp only; (fail_if_success (with_reducible show wpAny _ _ (exec (Stmt.For _ _ _ _ _) _) _ _ _)); (first | ((k_here; (with_reducible show wpAny _ _ (subscriptTail _ _ (Value.ref _) (Value.int _ _)) _ _ _); k_dflt (refine' obj_sub ?k1 ?k2 ?k3 ?k4 ?k5 ?_ ?k7; (case k1 => k_asm); (case k2 => k_mem); (case k3 => with_reducible assumption); (case k4 => omega); (case k5 => omega); (case k7 => with_unfolding_all rfl); k_whole; intro _ _))) | ((k_here; (with_reducible show wpAny _ _ (subscriptTail _ _ (Value.ref _) (Value.int (_ - 1) _)) _ _ _); k_dflt (refine' lab_pred ?k1 ?k2 ?k3 ?k4 ?k5 ?_ ?k7; (case k1 => k_asm); (case k2 => k_mem); (case k3 => with_reducible assumption); (case k4 => assumption); (case k5 => omega); (case k7 => with_unfolding_all rfl); k_whole; intro _))) | ((k_here; (with_reducible show wpAny _ _ (call (Value.builtin "len") [Value.ref _]) _ _ _); refine' KM.len_K ?k1 ?k2 ?k3 ?k4 ?_; (case k1 => k_asm); (case k2 => k_mem); (case k3 => assumption); (case k4 => omega))) | ((k_here; (with_reducible show wpAny _ _ (subscriptTail _ _ (Value.ref _) (Value.int _ _)) _ _ _); k_dflt (first | (refine' dep_sub ?k1 ?k2 ?k3 ?k4 ?k5 ?k6 ?_ ?k7; (case k1 => k_asm); (case k2 => k_mem); (case k3 => with_reducible assumption); (case k4 => with_reducible assumption); (case k5 => omega); (case k6 => omega); (case k7 => with_unfolding_all rfl); k_whole; intro _) | (refine' lab_sub ?k1 ?k2 ?k3 ?k4 ?k5 ?_ ?k7; (case k1 => k_asm); (case k2 => k_mem); (case k3 => with_reducible assumption); (case k4 => omega); (case k5 => omega); (case k7 => with_unfolding_all rfl); k_whole; intro _)))) | (((with_reducible show wpAny _ _ (call (Value.ref 83) _) _ _ _); refine halt ?_)) | walk1)))))))
      exact LCg.CompEnd.intro (by assumption) (by assumption) _ (fun p hp => hp) off' trivial (kci_no (if_neg hji) rfl)
  · intro ys hys hyl
    have hone : (rangeKs 0 7).foldl (fun (l : List Int) j => if j = (i : Int) then l ++ [j] else l) [] = [(i : Int)] := by
      rcases lt7 (show i < 7 by omega) with rfl | rfl | rfl | rfl | rfl | rfl | rfl <;> decide
    have hys' : IntsAre ys [(i : Int)] := by rw [← hone]; exact hys
    intro D5 h5 tk5 F5 N5 off5
    ((try clear hyl); (try clear hone); (try clear hys))
    repeat' ((first | ((with_reducible show wpAny _ _ (compareOp CmpOp.Eq _ _) _ _ _); refine halt ?_) | (first | ((first | (k_unfold; (try dsimp only); (try clear qk); (try clear ek)) | ((with_reducible show wpAny _ _ (exec _ _) _ _ _); k_fold) | (first | ((k_here; (with_reducible show wpAny _ _ (subscriptTail _ _ (Value.ref _) (Value.int _ _)) _ _ _); k_dflt (refine' obj_sub ?k1 ?k2 ?k3 ?k4 ?k5 ?_ ?k7; (case k1 => k_asm); (case k2 => k_mem); (case k3 => with_reducible assumption); (case k4 => omega); (case k5 => omega); (case k7 => with_unfolding_all rfl); k_whole; intro _ _))) | ((k_here; (with_reducible show wpAny _ _ (subscriptTail _ _ (Value.ref _) (Value.int (_ - 1) _)) _ _ _); k_dflt (refine' lab_pred ?k1 ?k2 ?k3 ?k4 ?k5 ?_ ?k7; (case k1 => k_asm); (case k2 => k_mem); (case k3 => with_reducible assumption); (case k4 => assumption); (case k5 => omega); (case k7 => with_unfolding_all rfl); k_whole; intro _))) | ((k_here; (with_reducible show wpAny _ _ (call (Value.builtin "len") [Value.ref _]) _ _ _); refine' KM.len_K ?k1 ?k2 ?k3 ?k4 ?_; (case k1 => k_asm); (case k2 => k_mem); (case k3 => assumption); (case k4 => omega))) | ((k_here; (with_reducible show wpAny _ _ (subscriptTail _ _ (Value.ref _) (Value.int _ _)) _ _ _); k_dflt (first | (refine' dep_sub ?k1 ?k2 ?k3 ?k4 ?k5 ?k6 ?_ ?k7; (case k1 => k_asm); (case k2 => k_mem); (case k3 => with_reducible assumption); (case k4 => with_reducible assumption); (case k5 => omega); (case k6 => omega); (case k7 => with_unfolding_all rfl); k_whole; intro _) | (refine' lab_sub ?k1 ?k2 ?k3 ?k4 ?k5 ?_ ?k7; (case k1 => k_asm); (case k2 => k_mem); (case k3 => with_reducible assumption); (case k4 => omega); (case k5 => omega); (case k7 => with_unfolding_all rfl); k_whole; intro _)))) | (((with_reducible show wpAny _ _ (call (Value.ref 83) _) _ _ _); refine halt ?_)) | walk1) | (dsimp only; (first | ((k_here; (with_reducible show wpAny _ _ (subscriptTail _ _ (Value.ref _) (Value.int _ _)) _ _ _); k_dflt (refine' obj_sub ?k1 ?k2 ?k3 ?k4 ?k5 ?_ ?k7; (case k1 => k_asm); (case k2 => k_mem); (case k3 => with_reducible assumption); (case k4 => omega); (case k5 => omega); (case k7 => with_unfolding_all rfl); k_whole; intro _ _))) | ((k_here; (with_reducible show wpAny _ _ (subscriptTail _ _ (Value.ref _) (Value.int (_ - 1) _)) _ _ _); k_dflt (refine' lab_pred ?k1 ?k2 ?k3 ?k4 ?k5 ?_ ?k7; (case k1 => k_asm); (case k2 => k_mem); (case k3 => with_reducible assumption); (case k4 => assumption); (case k5 => omega); (case k7 => with_unfolding_all rfl); k_whole; intro _))) | ((k_here; (with_reducible show wpAny _ _ (call (Value.builtin "len") [Value.ref _]) _ _ _); refine' KM.len_K ?k1 ?k2 ?k3 ?k4 ?_; (case k1 => k_asm); (case k2 => k_mem); (case k3 => assumption); (case k4 => omega))) | ((k_here; (with_reducible show wpAny _ _ (subscriptTail _ _ (Value.ref _) (Value.int _ _)) _ _ _); k_dflt (first | (refine' dep_sub ?k1 ?k2 ?k3 ?k4 ?k5 ?k6 ?_ ?k7; (case k1 => k_asm); (case k2 => k_mem); (case k3 => with_reducible assumption); (case k4 => with_reducible assumption); (case k5 => omega); (case k6 => omega); (case k7 => with_unfolding_all rfl); k_whole; intro _) | (refine' lab_sub ?k1 ?k2 ?k3 ?k4 ?k5 ?_ ?k7; (case k1 => k_asm); (case k2 => k_mem); (case k3 => with_reducible assumption); (case k4 => omega); (case k5 => omega); (case k7 => with_unfolding_all rfl); k_whole; intro _)))) | (((with_reducible show wpAny _ _ (call (Value.ref 83) _) _ _ _); refine halt ?_)) | walk1)))) | ((first | (k_unfold; (try dsimp only); (try clear qk); (try clear ek)) | ((with_reducible show wpAny _ _ (exec _ _) _ _ _); k_fold) | ((fail_if_success (with_reducible show wpAny _ _ (exec (Stmt.For _ _ _ _ _) _) _ _ _)); (first | ((k_here; (with_reducible show wpAny _ _ (subscriptTail _ _ (Value.ref _) (Value.int _ _)) _ _ _); k_dflt (refine' obj_sub ?k1 ?k2 ?k3 ?k4 ?k5 ?_ ?k7; (case k1 => k_asm); (case k2 => k_mem); (case k3 => with_reducible assumption); (case k4 => omega); (case k5 => omega); (case k7 => with_unfolding_all rfl); k_whole; intro _ _))) | ((k_here; (with_reducible show wpAny _ _ (subscriptTail _ _ (Value.ref _) (Value.int (_ - 1) _)) _ _ _); k_dflt (refine' lab_pred ?k1 ?k2 ?k3 ?k4 ?k5 ?_ ?k7; (case k1 => k_asm); (case k2 => k_mem); (case k3 => with_reducible assumption); (case k4 => assumption); (case k5 => omega); (case k7 => with_unfolding_all rfl); k_whole; intro _))) | ((k_here; (with_reducible show wpAny _ _ (call (Value.builtin "len") [Value.ref _]) _ _ _); refine' KM.len_K ?k1 ?k2 ?k3 ?k4 ?_; (case k1 => k_asm); (case k2 => k_mem); (case k3 => assumption); (case k4 => omega))) | ((k_here; (with_reducible show wpAny _ _ (subscriptTail _ _ (Value.ref _) (Value.int _ _)) _ _ _); k_dflt (first | (refine' dep_sub ?k1 ?k2 ?k3 ?k4 ?k5 ?k6 ?_ ?k7; (case k1 => k_asm); (case k2 => k_mem); (case k3 => with_reducible assumption); (case k4 => with_reducible assumption); (case k5 => omega); (case k6 => omega); (case k7 => with_unfolding_all rfl); k_whole; intro _) | (refine' lab_sub ?k1 ?k2 ?k3 ?k4 ?k5 ?_ ?k7; (case k1 => k_asm); (case k2 => k_mem); (case k3 => with_reducible assumption); (case k4 => omega); (case k5 => omega); (case k7 => with_unfolding_all rfl); k_whole; intro _)))) | (((with_reducible show wpAny _ _ (call (Value.ref 83) _) _ _ _); refine halt ?_)) | walk1)) | (dsimp only; (fail_if_success (with_reducible show wpAny _ _ (exec (Stmt.For _ _ _ _ _) _) _ _ _)); (first | ((k_here; (with_reducible show wpAny _ _ (subscriptTail _ _ (Value.ref _) (Value.int _ _)) _ _ _); k_dflt (refine' obj_sub ?k1 ?k2 ?k3 ?k4 ?k5 ?_ ?k7; (case k1 => k_asm); (case k2 => k_mem); (case k3 => with_reducible assumption); (case k4 => omega); (case k5 => omega); (case k7 => with_unfolding_all rfl); k_whole; intro _ _))) | ((k_here; (with_reducible show wpAny _ _ (subscriptTail _ _ (Value.ref _) (Value.int (_ - 1) _)) _ _ _); k_dflt (refine' lab_pred ?k1 ?k2 ?k3 ?k4 ?k5 ?_ ?k7; (case k1 => k_asm); (case k2 => k_mem); (case k3 => with_reducible assumption); (case k4 => assumption); (case k5 => omega); (case k7 => with_unfolding_all rfl); k_whole; intro _))) | ((k_here; (with_reducible show wpAny _ _ (call (Value.builtin "len") [Value.ref _]) _ _ _); refine' KM.len_K ?k1 ?k2 ?k3 ?k4 ?_; (case k1 => k_asm); (case k2 => k_mem); (case k3 => assumption); (case k4 => omega))) | ((k_here; (with_reducible show wpAny _ _ (subscriptTail _ _ (Value.ref _) (Value.int _ _)) _ _ _); k_dflt (first | (refine' dep_sub ?k1 ?k2 ?k3 ?k4 ?k5 ?k6 ?_ ?k7; (case k1 => k_asm); (case k2 => k_mem); (case k3 => with_reducible assumption); (case k4 => with_reducible assumption); (case k5 => omega); (case k6 => omega); (case k7 => with_unfolding_all rfl); k_whole; intro _) | (refine' lab_sub ?k1 ?k2 ?k3 ?k4 ?k5 ?_ ?k7; (case k1 => k_asm); (case k2 => k_mem); (case k3 => with_reducible assumption); (case k4 => omega); (case k5 => omega); (case k7 => with_unfolding_all rfl); k_whole; intro _)))) | (((with_reducible show wpAny _ _ (call (Value.ref 83) _) _ _ _); refine halt ?_)) | walk1)))))))
    with_reducible rename News s1.heap _ _ _ => N6
    with_reducible rename Fr s1.heap _ _ _ => F6
    refine unhalt ?_
    refine LCt.CompSrcT.ledger (ax := NL) (its := List.toArray [Value.ref x1, Value.ref x2, Value.ref x3]) (by rfl) F6 N6 (List.Mem.tail _ (List.Mem.tail _ (List.Mem.head _))) (Nat.le_of_ble_eq_true rfl) ?_
    intro g2
    refine none_rest ?_ ?_
    · intro j v I' oI' C' oC' D' m' h' tk' E' hj hv hC' hx' F' N' off' ne'
      obtain ⟨sr, kk, dd, hev, hne⟩ : ∃ sr kk dd, ExAt w E3 v sr kk dd ∧ ¬ (sr = tx (labL i (Ts.getD i 0)) ++ Str.ofString "\n" ∧ kk = (i : Int) ∧ dd = ds.getD i 0) := by
        rcases j with _ | _ | _ | j
        · obtain rfl : Value.ref x1 = v := by simpa using hv
          exact ⟨_, _, _, X1, fun h => by have := h.2.1; omega⟩
        · obtain rfl : Value.ref x2 = v := by simpa using hv
          exact ⟨_, _, _, X2, fun h => by have := h.2.2; omega⟩
        · obtain rfl : Value.ref x3 = v := by simpa using hv
          exact ⟨_, _, _, X3, fun h => lab_ne hpk.2 h.1⟩
        · simp at hv
      repeat' ((first | ((with_reducible show wpAny _ _ (compareOp CmpOp.Eq _ _) _ _ _); refine halt ?_) | (first | ((first | (k_unfold; (try dsimp only); (try clear qk); (try clear ek)) | ((with_reducible show wpAny _ _ (exec _ _) _ _ _); k_fold) | (first | ((k_here; (with_reducible show wpAny _ _ (subscriptTail _ _ (Value.ref _) (Value.int _ _)) _ _ _); k_dflt (refine' obj_sub ?k1 ?k2 ?k3 ?k4 ?k5 ?_ ?k7; (case k1 => k_asm); (case k2 => k_mem); (case k3 => with_reducible assumption); (case k4 => omega); (case k5 => omega); (case k7 => with_unfolding_all rfl); k_whole; intro _ _))) | ((k_here; (with_reducible show wpAny _ _ (subscriptTail _ _ (Value.ref _) (Value.int (_ - 1) _)) _ _ _); k_dflt (refine' lab_pred ?k1 ?k2 ?k3 ?k4 ?k5 ?_ ?k7; (case k1 => k_asm); (case k2 => k_mem); (case k3 => with_reducible assumption); (case k4 => assumption); (case k5 => omega); (case k7 => with_unfolding_all rfl); k_whole; intro _))) | ((k_here; (with_reducible show wpAny _ _ (call (Value.builtin "len") [Value.ref _]) _ _ _); refine' KM.len_K ?k1 ?k2 ?k3 ?k4 ?_; (case k1 => k_asm); (case k2 => k_mem); (case k3 => assumption); (case k4 => omega))) | ((k_here; (with_reducible show wpAny _ _ (subscriptTail _ _ (Value.ref _) (Value.int _ _)) _ _ _); k_dflt (first | (refine' dep_sub ?k1 ?k2 ?k3 ?k4 ?k5 ?k6 ?_ ?k7; (case k1 => k_asm); (case k2 => k_mem); (case k3 => with_reducible assumption); (case k4 => with_reducible assumption); (case k5 => omega); (case k6 => omega); (case k7 => with_unfolding_all rfl); k_whole; intro _) | (refine' lab_sub ?k1 ?k2 ?k3 ?k4 ?k5 ?_ ?k7; (case k1 => k_asm); (case k2 => k_mem); (case k3 => with_reducible assumption); (case k4 => omega); (case k5 => omega); (case k7 => with_unfolding_all rfl); k_whole; intro _)))) | (((with_reducible show wpAny _ _ (call (Value.ref 83) _) _ _ _); refine halt ?_)) | walk1) | (dsimp only; (first | ((k_here; (with_reducible show wpAny _ _ (subscriptTail _ _ (Value.ref _) (Value.int _ _)) _ _ _); k_dflt (refine' obj_sub ?k1 ?k2 ?k3 ?k4 ?k5 ?_ ?k7; (case k1 => k_asm); (case k2 => k_mem); (case k3 => with_reducible assumption); (case k4 => omega); (case k5 => omega); (case k7 => with_unfolding_all rfl); k_whole; intro _ _))) | ((k_here; (with_reducible show wpAny _ _ (subscriptTail _ _ (Value.ref _) (Value.int (_ - 1) _)) _ _ _); k_dflt (refine' lab_pred ?k1 ?k2 ?k3 ?k4 ?k5 ?_ ?k7; (case k1 => k_asm); (case k2 => k_mem); (case k3 => with_reducible assumption); (case k4 => assumption); (case k5 => omega); (case k7 => with_unfolding_all rfl); k_whole; intro _))) | ((k_here; (with_reducible show wpAny _ _ (call (Value.builtin "len") [Value.ref _]) _ _ _); refine' KM.len_K ?k1 ?k2 ?k3 ?k4 ?_; (case k1 => k_asm); (case k2 => k_mem); (case k3 => assumption); (case k4 => omega))) | ((k_here; (with_reducible show wpAny _ _ (subscriptTail _ _ (Value.ref _) (Value.int _ _)) _ _ _); k_dflt (first | (refine' dep_sub ?k1 ?k2 ?k3 ?k4 ?k5 ?k6 ?_ ?k7; (case k1 => k_asm); (case k2 => k_mem); (case k3 => with_reducible assumption); (case k4 => with_reducible assumption); (case k5 => omega); (case k6 => omega); (case k7 => with_unfolding_all rfl); k_whole; intro _) | (refine' lab_sub ?k1 ?k2 ?k3 ?k4 ?k5 ?_ ?k7; (case k1 => k_asm); (case k2 => k_mem); (case k3 => with_reducible assumption); (case k4 => omega); (case k5 => omega); (case k7 => with_unfolding_all rfl); k_whole; intro _)))) | (((with_reducible show wpAny _ _ (call (Value.ref 83) _) _ _ _); refine halt ?_)) | walk1)))) | ((first | (k_unfold; (try dsimp only); (try clear qk); (try clear ek)) | ((with_reducible show wpAny _ _ (exec _ _) _ _ _); k_fold) | ((fail_if_success (with_reducible show wpAny _ _ (exec (Stmt.For _ _ _ _ _) _) _ _ _)); (first | ((k_here; (with_reducible show wpAny _ _ (subscriptTail _ _ (Value.ref _) (Value.int _ _)) _ _ _); k_dflt (refine' obj_sub ?k1 ?k2 ?k3 ?k4 ?k5 ?_ ?k7; (case k1 => k_asm); (case k2 => k_mem); (case k3 => with_reducible assumption); (case k4 => omega); (case k5 => omega); (case k7 => with_unfolding_all rfl); k_whole; intro _ _))) | ((k_here; (with_reducible show wpAny _ _ (subscriptTail _ _ (Value.ref _) (Value.int (_ - 1) _)) _ _ _); k_dflt (refine' lab_pred ?k1 ?k2 ?k3 ?k4 ?k5 ?_ ?k7; (case k1 => k_asm); (case k2 => k_mem); (case k3 => with_reducible assumption); (case k4 => assumption); (case k5 => omega); (case k7 => with_unfolding_all rfl); k_whole; intro _))) | ((k_here; (with_reducible show wpAny _ _ (call (Value.builtin "len") [Value.ref _]) _ _ _); refine' KM.len_K ?k1 ?k2 ?k3 ?k4 ?_; (case k1 => k_asm); (case k2 => k_mem); (case k3 => assumption); (case k4 => omega))) | ((k_here; (with_reducible show wpAny _ _ (subscriptTail _ _ (Value.ref _) (Value.int _ _)) _ _ _); k_dflt (first | (refine' dep_sub ?k1 ?k2 ?k3 ?k4 ?k5 ?k6 ?_ ?k7; (case k1 => k_asm); (case k2 => k_mem); (case k3 => with_reducible assumption); (case k4 => with_reducible assumption); (case k5 => omega); (case k6 => omega); (case k7 => with_unfolding_all rfl); k_whole; intro _) | (refine' lab_sub ?k1 ?k2 ?k3 ?k4 ?k5 ?_ ?k7; (case k1 => k_asm); (case k2 => k_mem); (case k3 => with_reducible assumption); (case k4 => omega); (case k5 => omega); (case k7 => with_unfolding_all rfl); k_whole; intro _)))) | (((with_reducible show wpAny _ _ (call (Value.ref 83) _) _ _ _); refine halt ?_)) | walk1)) | (dsimp only; (fail_if_success (with_reducible show wpAny _ _ (exec (Stmt.For _ _ _ _ _) _) _ _ _)); (first | ((k_here; (with_reducible show wpAny _ _ (subscriptTail _ _ (Value.ref _) (Value.int _ _)) _ _ _); k_dflt (refine' obj_sub ?k1 ?k2 ?k3 ?k4 ?k5 ?_ ?k7; (case k1 => k_asm); (case k2 => k_mem); (case k3 => with_reducible assumption); (case k4 => omega); (case k5 => omega); (case k7 => with_unfolding_all rfl); k_whole; intro _ _))) | ((k_here; (with_reducible show wpAny _ _ (subscriptTail _ _ (Value.ref _) (Value.int (_ - 1) _)) _ _ _); k_dflt (refine' lab_pred ?k1 ?k2 ?k3 ?k4 ?k5 ?_ ?k7; (case k1 => k_asm); (case k2 => k_mem); (case k3 => with_reducible assumption); (case k4 => assumption); (case k5 => omega); (case k7 => with_unfolding_all rfl); k_whole; intro _))) | ((k_here; (with_reducible show wpAny _ _ (call (Value.builtin "len") [Value.ref _]) _ _ _); refine' KM.len_K ?k1 ?k2 ?k3 ?k4 ?_; (case k1 => k_asm); (case k2 => k_mem); (case k3 => assumption); (case k4 => omega))) | ((k_here; (with_reducible show wpAny _ _ (subscriptTail _ _ (Value.ref _) (Value.int _ _)) _ _ _); k_dflt (first | (refine' dep_sub ?k1 ?k2 ?k3 ?k4 ?k5 ?k6 ?_ ?k7; (case k1 => k_asm); (case k2 => k_mem); (case k3 => with_reducible assumption); (case k4 => with_reducible assumption); (case k5 => omega); (case k6 => omega); (case k7 => with_unfolding_all rfl); k_whole; intro _) | (refine' lab_sub ?k1 ?k2 ?k3 ?k4 ?k5 ?_ ?k7; (case k1 => k_asm); (case k2 => k_mem); (case k3 => with_reducible assumption); (case k4 => omega); (case k5 => omega); (case k7 => with_unfolding_all rfl); k_whole; intro _)))) | (((with_reducible show wpAny _ _ (call (Value.ref 83) _) _ _ _); refine halt ?_)) | walk1)))))))
      rename_i v2 e2
      refine unhalt ?_
      refine ex_cmp hev e2 (fun p hp => List.Mem.tail _ (List.Mem.tail _ (List.Mem.tail _ (List.Mem.tail _ (List.Mem.tail _ (List.Mem.tail _ (List.Mem.tail _ (List.Mem.tail _ (List.Mem.tail _ (List.Mem.tail _ (List.Mem.tail _ hp))))))))))) K1 F' KX N' T rfl (Around.frames_deeper K1.stack) rfl rfl ?_ ?_ ?_
      · simp only [depth_deeper]; decide
      · simp only [Around.deeper_units]; decide
      intro h7 tk7 F7 N7
      dsimp only
      rw [decide_eq_false hne]
      repeat' ((first | ((with_reducible show wpAny _ _ (compareOp CmpOp.Eq _ _) _ _ _); refine halt ?_) | (first | ((first | (k_unfold; (try dsimp only); (try clear qk); (try clear ek)) | ((with_reducible show wpAny _ _ (exec _ _) _ _ _); k_fold) | (first | ((k_here; (with_reducible show wpAny _ _ (subscriptTail _ _ (Value.ref _) (Value.int _ _)) _ _ _); k_dflt (refine' obj_sub ?k1 ?k2 ?k3 ?k4 ?k5 ?_ ?k7; (case k1 => k_asm); (case k2 => k_mem); (case k3 => with_reducible assumption); (case k4 => omega); (case k5 => omega); (case k7 => with_unfolding_all rfl); k_whole; intro _ _))) | ((k_here; (with_reducible show wpAny _ _ (subscriptTail _ _ (Value.ref _) (Value.int (_ - 1) _)) _ _ _); k_dflt (refine' lab_pred ?k1 ?k2 ?k3 ?k4 ?k5 ?_ ?k7; (case k1 => k_asm); (case k2 => k_mem); (case k3 => with_reducible assumption); (case k4 => assumption); (case k5 => omega); (case k7 => with_unfolding_all rfl); k_whole; intro _))) | ((k_here; (with_reducible show wpAny _ _ (call (Value.builtin "len") [Value.ref _]) _ _ _); refine' KM.len_K ?k1 ?k2 ?k3 ?k4 ?_; (case k1 => k_asm); (case k2 => k_mem); (case k3 => assumption); (case k4 => omega))) | ((k_here; (with_reducible show wpAny _ _ (subscriptTail _ _ (Value.ref _) (Value.int _ _)) _ _ _); k_dflt (first | (refine' dep_sub ?k1 ?k2 ?k3 ?k4 ?k5 ?k6 ?_ ?k7; (case k1 => k_asm); (case k2 => k_mem); (case k3 => with_reducible assumption); (case k4 => with_reducible assumption); (case k5 => omega); (case k6 => omega); (case k7 => with_unfolding_all rfl); k_whole; intro _) | (refine' lab_sub ?k1 ?k2 ?k3 ?k4 ?k5 ?_ ?k7; (case k1 => k_asm); (case k2 => k_mem); (case k3 => with_reducible assumption); (case k4 => omega); (case k5 => omega); (case k7 => with_unfolding_all rfl); k_whole; intro _)))) | (((with_reducible show wpAny _ _ (call (Value.ref 83) _) _ _ _); refine halt ?_)) | walk1) | (dsimp only; (first | ((k_here; (with_reducible show wpAny _ _ (subscriptTail _ _ (Value.ref _) (Value.int _ _)) _ _ _); k_dflt (refine' obj_sub ?k1 ?k2 ?k3 ?k4 ?k5 ?_ ?k7; (case k1 => k_asm); (case k2 => k_mem); (case k3 => with_reducible assumption); (case k4 => omega); (case k5 => omega); (case k7 => with_unfolding_all rfl); k_whole; intro _ _))) | ((k_here; (with_reducible show wpAny _ _ (subscriptTail _ _ (Value.ref _) (Value.int (_ - 1) _)) _ _ _); k_dflt (refine' lab_pred ?k1 ?k2 ?k3 ?k4 ?k5 ?_ ?k7; (case k1 => k_asm); (case k2 => k_mem); (case k3 => with_reducible assumption); (case k4 => assumption); (case k5 => omega); (case k7 => with_unfolding_all rfl); k_whole; intro _))) | ((k_here; (with_reducible show wpAny _ _ (call (Value.builtin "len") [Value.ref _]) _ _ _); refine' KM.len_K ?k1 ?k2 ?k3 ?k4 ?_; (case k1 => k_asm); (case k2 => k_mem); (case k3 => assumption); (case k4 => omega))) | ((k_here; (with_reducible show wpAny _ _ (subscriptTail _ _ (Value.ref _) (Value.int _ _)) _ _ _); k_dflt (first | (refine' dep_sub ?k1 ?k2 ?k3 ?k4 ?k5 ?k6 ?_ ?k7; (case k1 => k_asm); (case k2 => k_mem); (case k3 => with_reducible assumption); (case k4 => with_reducible assumption); (case k5 => omega); (case k6 => omega); (case k7 => with_unfolding_all rfl); k_whole; intro _) | (refine' lab_sub ?k1 ?k2 ?k3 ?k4 ?k5 ?_ ?k7; (case k1 => k_asm); (case k2 => k_mem); (case k3 => with_reducible assumption); (case k4 => omega); (case k5 => omega); (case k7 => with_unfolding_all rfl); k_whole; intro _)))) | (((with_reducible show wpAny _ _ (call (Value.ref 83) _) _ _ _); refine halt ?_)) | walk1)))) | ((first | (k_unfold; (try dsimp only); (try clear qk); (try clear ek)) | ((with_reducible show wpAny _ _ (exec _ _) _ _ _); k_fold) | ((fail_if_success (with_reducible show wpAny _ _ (exec (Stmt.For _ _ _ _ _) _) _ _ _)); (first | ((k_here; (with_reducible show wpAny _ _ (subscriptTail _ _ (Value.ref _) (Value.int _ _)) _ _ _); k_dflt (refine' obj_sub ?k1 ?k2 ?k3 ?k4 ?k5 ?_ ?k7; (case k1 => k_asm); (case k2 => k_mem); (case k3 => with_reducible assumption); (case k4 => omega); (case k5 => omega); (case k7 => with_unfolding_all rfl); k_whole; intro _ _))) | ((k_here; (with_reducible show wpAny _ _ (subscriptTail _ _ (Value.ref _) (Value.int (_ - 1) _)) _ _ _); k_dflt (refine' lab_pred ?k1 ?k2 ?k3 ?k4 ?k5 ?_ ?k7; (case k1 => k_asm); (case k2 => k_mem); (case k3 => with_reducible assumption); (case k4 => assumption); (case k5 => omega); (case k7 => with_unfolding_all rfl); k_whole; intro _))) | ((k_here; (with_reducible show wpAny _ _ (call (Value.builtin "len") [Value.ref _]) _ _ _); refine' KM.len_K ?k1 ?k2 ?k3 ?k4 ?_; (case k1 => k_asm); (case k2 => k_mem); (case k3 => assumption); (case k4 => omega))) | ((k_here; (with_reducible show wpAny _ _ (subscriptTail _ _ (Value.ref _) (Value.int _ _)) _ _ _); k_dflt (first | (refine' dep_sub ?k1 ?k2 ?k3 ?k4 ?k5 ?k6 ?_ ?k7; (case k1 => k_asm); (case k2 => k_mem); (case k3 => with_reducible assumption); (case k4 => with_reducible assumption); (case k5 => omega); (case k6 => omega); (case k7 => with_unfolding_all rfl); k_whole; intro _) | (refine' lab_sub ?k1 ?k2 ?k3 ?k4 ?k5 ?_ ?k7; (case k1 => k_asm); (case k2 => k_mem); (case k3 => with_reducible assumption); (case k4 => omega); (case k5 => omega); (case k7 => with_unfolding_all rfl); k_whole; intro _)))) | (((with_reducible show wpAny _ _ (call (Value.ref 83) _) _ _ _); refine halt ?_)) | walk1)) | (dsimp only; (fail_if_success (with_reducible show wpAny _ _ (exec (Stmt.For _ _ _ _ _) _) _ _ _)); (first | ((k_here; (with_reducible show wpAny _ _ (subscriptTail _ _ (Value.ref _) (Value.int _ _)) _ _ _); k_dflt (refine' obj_sub ?k1 ?k2 ?k3 ?k4 ?k5 ?_ ?k7; (case k1 => k_asm); (case k2 => k_mem); (case k3 => with_reducible assumption); (case k4 => omega); (case k5 => omega); (case k7 => with_unfolding_all rfl); k_whole; intro _ _))) | ((k_here; (with_reducible show wpAny _ _ (subscriptTail _ _ (Value.ref _) (Value.int (_ - 1) _)) _ _ _); k_dflt (refine' lab_pred ?k1 ?k2 ?k3 ?k4 ?k5 ?_ ?k7; (case k1 => k_asm); (case k2 => k_mem); (case k3 => with_reducible assumption); (case k4 => assumption); (case k5 => omega); (case k7 => with_unfolding_all rfl); k_whole; intro _))) | ((k_here; (with_reducible show wpAny _ _ (call (Value.builtin "len") [Value.ref _]) _ _ _); refine' KM.len_K ?k1 ?k2 ?k3 ?k4 ?_; (case k1 => k_asm); (case k2 => k_mem); (case k3 => assumption); (case k4 => omega))) | ((k_here; (with_reducible show wpAny _ _ (subscriptTail _ _ (Value.ref _) (Value.int _ _)) _ _ _); k_dflt (first | (refine' dep_sub ?k1 ?k2 ?k3 ?k4 ?k5 ?k6 ?_ ?k7; (case k1 => k_asm); (case k2 => k_mem); (case k3 => with_reducible assumption); (case k4 => with_reducible assumption); (case k5 => omega); (case k6 => omega); (case k7 => with_unfolding_all rfl); k_whole; intro _) | (refine' lab_sub ?k1 ?k2 ?k3 ?k4 ?k5 ?_ ?k7; (case k1 => k_asm); (case k2 => k_mem); (case k3 => with_reducible assumption); (case k4 => omega); (case k5 => omega); (case k7 => with_unfolding_all rfl); k_whole; intro _)))) | (((with_reducible show wpAny _ _ (call (Value.ref 83) _) _ _ _); refine halt ?_)) | walk1)))))))
      all_goals first
        | exact ⟨rfl, LCg.CompEnd.intro (by assumption) (by assumption) _ (fun p hp => hp) off' (.inr ⟨_, List.Mem.tail _ (List.Mem.tail _ (List.Mem.head _)), rfl, _, rfl⟩) rfl⟩
        | rfl
        | exact LCg.CompEnd.intro (by assumption) (by assumption) _ (fun p hp => hp) off' (.inr ⟨_, List.Mem.tail _ (List.Mem.tail _ (List.Mem.head _)), rfl, _, rfl⟩) rfl
    · intro D8 h8 tk8 F8 N8 off8
      repeat' ((first | ((with_reducible show wpAny _ _ (compareOp CmpOp.Eq _ _) _ _ _); refine halt ?_) | (first | ((first | (k_unfold; (try dsimp only); (try clear qk); (try clear ek)) | ((with_reducible show wpAny _ _ (exec _ _) _ _ _); k_fold) | (first | ((k_here; (with_reducible show wpAny _ _ (subscriptTail _ _ (Value.ref _) (Value.int _ _)) _ _ _); k_dflt (refine' obj_sub ?k1 ?k2 ?k3 ?k4 ?k5 ?_ ?k7; (case k1 => k_asm); (case k2 => k_mem); (case k3 => with_reducible assumption); (case k4 => omega); (case k5 => omega); (case k7 => with_unfolding_all rfl); k_whole; intro _ _))) | ((k_here; (with_reducible show wpAny _ _ (subscriptTail _ _ (Value.ref _) (Value.int (_ - 1) _)) _ _ _); k_dflt (refine' lab_pred ?k1 ?k2 ?k3 ?k4 ?k5 ?_ ?k7; (case k1 => k_asm); (case k2 => k_mem); (case k3 => with_reducible assumption); (case k4 => assumption); (case k5 => omega); (case k7 => with_unfolding_all rfl); k_whole; intro _))) | ((k_here; (with_reducible show wpAny _ _ (call (Value.builtin "len") [Value.ref _]) _ _ _); refine' KM.len_K ?k1 ?k2 ?k3 ?k4 ?_; (case k1 => k_asm); (case k2 => k_mem); (case k3 => assumption); (case k4 => omega))) | ((k_here; (with_reducible show wpAny _ _ (subscriptTail _ _ (Value.ref _) (Value.int _ _)) _ _ _); k_dflt (first | (refine' dep_sub ?k1 ?k2 ?k3 ?k4 ?k5 ?k6 ?_ ?k7; (case k1 => k_asm); (case k2 => k_mem); (case k3 => with_reducible assumption); (case k4 => with_reducible assumption); (case k5 => omega); (case k6 => omega); (case k7 => with_unfolding_all rfl); k_whole; intro _) | (refine' lab_sub ?k1 ?k2 ?k3 ?k4 ?k5 ?_ ?k7; (case k1 => k_asm); (case k2 => k_mem); (case k3 => with_reducible assumption); (case k4 => omega); (case k5 => omega); (case k7 => with_unfolding_all rfl); k_whole; intro _)))) | (((with_reducible show wpAny _ _ (call (Value.ref 83) _) _ _ _); refine halt ?_)) | walk1) | (dsimp only; (first | ((k_here; (with_reducible show wpAny _ _ (subscriptTail _ _ (Value.ref _) (Value.int _ _)) _ _ _); k_dflt (refine' obj_sub ?k1 ?k2 ?k3 ?k4 ?k5 ?_ ?k7; (case k1 => k_asm); (case k2 => k_mem); (case k3 => with_reducible assumption); (case k4 => omega); (case k5 => omega); (case k7 => with_unfolding_all rfl); k_whole; intro _ _))) | ((k_here; (with_reducible show wpAny _ _ (subscriptTail _ _ (Value.ref _) (Value.int (_ - 1) _)) _ _ _); k_dflt (refine' lab_pred ?k1 ?k2 ?k3 ?k4 ?k5 ?_ ?k7; (case k1 => k_asm); (case k2 => k_mem); (case k3 => with_reducible assumption); (case k4 => assumption); (case k5 => omega); (case k7 => with_unfolding_all rfl); k_whole; intro _))) | ((k_here; (with_reducible show wpAny _ _ (call (Value.builtin "len") [Value.ref _]) _ _ _); refine' KM.len_K ?k1 ?k2 ?k3 ?k4 ?_; (case k1 => k_asm); (case k2 => k_mem); (case k3 => assumption); (case k4 => omega))) | ((k_here; (with_reducible show wpAny _ _ (subscriptTail _ _ (Value.ref _) (Value.int _ _)) _ _ _); k_dflt (first | (refine' dep_sub ?k1 ?k2 ?k3 ?k4 ?k5 ?k6 ?_ ?k7; (case k1 => k_asm); (case k2 => k_mem); (case k3 => with_reducible assumption); (case k4 => with_reducible assumption); (case k5 => omega); (case k6 => omega); (case k7 => with_unfolding_all rfl); k_whole; intro _) | (refine' lab_sub ?k1 ?k2 ?k3 ?k4 ?k5 ?_ ?k7; (case k1 => k_asm); (case k2 => k_mem); (case k3 => with_reducible assumption); (case k4 => omega); (case k5 => omega); (case k7 => with_unfolding_all rfl); k_whole; intro _)))) | (((with_reducible show wpAny _ _ (call (Value.ref 83) _) _ _ _); refine halt ?_)) | walk1)))) | ((first | (k_unfold; (try dsimp only); (try clear qk); (try clear ek)) | ((with_reducible show wpAny _ _ (exec _ _) _ _ _); k_fold) | ((fail_if_success (with_reducible show wpAny _ _ (exec (Stmt.For _ _ _ _ _) _) _ _ _)); (first | ((k_here; (with_reducible show wpAny _ _ (subscriptTail _ _ (Value.ref _) (Value.int _ _)) _ _ _); k_dflt (refine' obj_sub ?k1 ?k2 ?k3 ?k4 ?k5 ?_ ?k7; (case k1 => k_asm); (case k2 => k_mem); (case k3 => with_reducible assumption); (case k4 => omega); (case k5 => omega); (case k7 => with_unfolding_all rfl); k_whole; intro _ _))) | ((k_here; (with_reducible show wpAny _ _ (subscriptTail _ _ (Value.ref _) (Value.int (_ - 1) _)) _ _ _); k_dflt (refine' lab_pred ?k1 ?k2 ?k3 ?k4 ?k5 ?_ ?k7; (case k1 => k_asm); (case k2 => k_mem); (case k3 => with_reducible assumption); (case k4 => assumption); (case k5 => omega); (case k7 => with_unfolding_all rfl); k_whole; intro _))) | ((k_here; (with_reducible show wpAny _ _ (call (Value.builtin "len") [Value.ref _]) _ _ _); refine' KM.len_K ?k1 ?k2 ?k3 ?k4 ?_; (case k1 => k_asm); (case k2 => k_mem); (case k3 => assumption); (case k4 => omega))) | ((k_here; (with_reducible show wpAny _ _ (subscriptTail _ _ (Value.ref _) (Value.int _ _)) _ _ _); k_dflt (first | (refine' dep_sub ?k1 ?k2 ?k3 ?k4 ?k5 ?k6 ?_ ?k7; (case k1 => k_asm); (case k2 => k_mem); (case k3 => with_reducible assumption); (case k4 => with_reducible assumption); (case k5 => omega); (case k6 => omega); (case k7 => with_unfolding_all rfl); k_whole; intro _) | (refine' lab_sub ?k1 ?k2 ?k3 ?k4 ?k5 ?_ ?k7; (case k1 => k_asm); (case k2 => k_mem); (case k3 => with_reducible assumption); (case k4 => omega); (case k5 => omega); (case k7 => with_unfolding_all rfl); k_whole; intro _)))) | (((with_reducible show wpAny _ _ (call (Value.ref 83) _) _ _ _); refine halt ?_)) | walk1)) | (dsimp only; (fail_if_success (with_reducible show wpAny _ _ (exec (Stmt.For _ _ _ _ _) _) _ _ _)); (first | ((k_here; (with_reducible show wpAny _ _ (subscriptTail _ _ (Value.ref _) (Value.int _ _)) _ _ _); k_dflt (refine' obj_sub ?k1 ?k2 ?k3 ?k4 ?k5 ?_ ?k7; (case k1 => k_asm); (case k2 => k_mem); (case k3 => with_reducible assumption); (case k4 => omega); (case k5 => omega); (case k7 => with_unfolding_all rfl); k_whole; intro _ _))) | ((k_here; (with_reducible show wpAny _ _ (subscriptTail _ _ (Value.ref _) (Value.int (_ - 1) _)) _ _ _); k_dflt (refine' lab_pred ?k1 ?k2 ?k3 ?k4 ?k5 ?_ ?k7; (case k1 => k_asm); (case k2 => k_mem); (case k3 => with_reducible assumption); (case k4 => assumption); (case k5 => omega); (case k7 => with_unfolding_all rfl); k_whole; intro _))) | ((k_here; (with_reducible show wpAny _ _ (call (Value.builtin "len") [Value.ref _]) _ _ _); refine' KM.len_K ?k1 ?k2 ?k3 ?k4 ?_; (case k1 => k_asm); (case k2 => k_mem); (case k3 => assumption); (case k4 => omega))) | ((k_here; (with_reducible show wpAny _ _ (subscriptTail _ _ (Value.ref _) (Value.int _ _)) _ _ _); k_dflt (first | (refine' dep_sub ?k1 ?k2 ?k3 ?k4 ?k5 ?k6 ?_ ?k7; (case k1 => k_asm); (case k2 => k_mem); (case k3 => with_reducible assumption); (case k4 => with_reducible assumption); (case k5 => omega); (case k6 => omega); (case k7 => with_unfolding_all rfl); k_whole; intro _) | (refine' lab_sub ?k1 ?k2 ?k3 ?k4 ?k5 ?_ ?k7; (case k1 => k_asm); (case k2 => k_mem); (case k3 => with_reducible assumption); (case k4 => omega); (case k5 => omega); (case k7 => with_unfolding_all rfl); k_whole; intro _)))) | (((with_reducible show wpAny _ _ (call (Value.ref 83) _) _ _ _); refine halt ?_)) | walk1)))))))
      with_reducible rename News s1.heap _ _ _ => N9
      with_reducible rename Fr s1.heap _ _ _ => F9
      dsimp only [ForStepR]
      obtain ⟨ex', hex'⟩ := cons_ex hE3 (cons_ex hE2 (cons_ex hE1 ⟨ex3, hEW.symm⟩))
      ((try clear hE3))
      subst hex'
      refine ⟨_, _, _, _, rfl, F9, kst_newsOf N9 (fun p hp => List.Mem.tail _ (List.Mem.tail _ (List.Mem.tail _ (List.Mem.tail _ (List.Mem.tail _ hp))))), ?_, _, _, ex', rfl, hckk, gn0, gn3, gn2, gn1, rfl, rfl, rfl, rfl, trivial⟩
      have hI3' : @LT.lt Nat _ (s1.heap.objs.size + 1 + 1 + 1) I := Nat.lt_trans hlR1 hIR
      have hI2' : @LT.lt Nat _ (s1.heap.objs.size + 1 + 1) I := Nat.lt_trans (Nat.lt_succ_self _) hI3'
      have hI1' : @LT.lt Nat _ (s1.heap.objs.size + 1) I := Nat.lt_trans (Nat.lt_succ_self _) hI2'
      exact List.forall_mem_cons.mpr ⟨Nat.ne_of_lt hIR, List.forall_mem_cons.mpr ⟨Nat.ne_of_lt hI3', List.forall_mem_cons.mpr ⟨Nat.ne_of_lt hI2', List.forall_mem_cons.mpr ⟨Nat.ne_of_lt hI1', gI⟩⟩⟩⟩
  · intro l k
    dsimp only
    split
    · simp
    · omega⟩
end Mine
end

example : 1 = 1 ∧ 2 = 2 := by
  w_top off
  walk1 <;> rfl
section
set_option maxRecDepth 100000
set_option Elab.async false
open PySem PySem.W PyProof.Rows PySem.Calls
namespace Mine
local macro_rules | `(tactic| k_mem) => `(tactic| (refine mt4 ?_; assumption))
local macro_rules | `(tactic| k_all) => `(tactic| (refine' List.forall_mem_cons.mpr (And.intro ?a ?b); (case a => k_ne); (case b => k_all)))
local macro_rules | `(tactic| k_all) => `(tactic| assumption)
local macro_rules | `(tactic| k_mem) => `(tactic| assumption)
local macro_rules | `(tactic| k_mem) => `(tactic| (refine List.Mem.tail _ ?_; assumption))
theorem bool_end {qk : Flow → Shared → Prop} {b : Bool} {s : Shared} (h : qk (.ret (.bool true)) s) (e : b = true) : qk (.ret (.bool b)) s := e ▸ h
theorem fin_bool {n6 n7 : Nat} {p q : Prop} [Decidable p] [Decidable q] (h : n6 = 7 ∧ p ↔ n7 = 7 ∧ q) :
    (n6 = 7 → n7 = 7 → (decide p == decide q) = true) ∧ (n6 = 7 → n7 ≠ 7 → (decide p == ((n7 : Int) == 7)) = true) ∧ (n6 ≠ 7 → n7 = 7 → (((n6 : Int) == 7) == decide q) = true) ∧ (n6 ≠ 7 → n7 ≠ 7 → (((n6 : Int) == 7) == ((n7 : Int) == 7)) = true) := by
  have k : ∀ n : Nat, n ≠ 7 → ((n : Int) == 7) = false := fun n h => by rw [beq_eq_false_iff_ne]; omega
  refine ⟨fun a b => ?_, fun a b => ?_, fun a b => ?_, fun a b => ?_⟩
  · have : p ↔ q := ⟨fun x => (h.mp ⟨a, x⟩).2, fun x => (h.mpr ⟨b, x⟩).2⟩
    simp [this]
  · have : ¬ p := fun x => b (h.mp ⟨a, x⟩).1
    rw [k n7 b]; simp [this]
  · have : ¬ q := fun x => a (h.mpr ⟨b, x⟩).1
    rw [k n6 a]; simp [this]
  · rw [k n6 a, k n7 b]; rfl
set_option maxHeartbeats 8000000 in
theorem LawH_pf : Wr LawG_s.Q := ⟨by
  intro w _ s1 _ _ _ T _ _ qk ek hend K1 la da li lvs vvs vn Ts ds hd7 hv7 cl hcl P pa rl pvs rn EY rows0 rowL hrL hpL hpl vs0 ra rxs rk hrows hrl7 hri hrsz hv0 _ RL cr pt kfin h₂ tk₂ rvs rn k KX EZ gO4 gp4 gra gLn grw _ _ m₃ h₃ tk₃ ck ex3 hmm F₃ N₃
  revert KX; k_fill; intro KX
  replace F₃ := fr_ov F₃ hmm
  ((try clear hmm))
  refine fr_let F₃ ?_
  ((try clear F₃))
  intro M F₃
  replace gO4 := List.mem_append_right ex3 gO4
  replace gp4 := List.mem_append_right ex3 gp4
  replace gra := List.mem_append_right ex3 gra
  replace gLn := gLn.mono fun p hp => List.mem_append_right ex3 hp
  replace grw := grw.mono fun p hp => List.mem_append_right ex3 hp
  generalize hEW : ex3 ++ EZ = EW at *
  repeat' (((first | (k_unfold; (try dsimp only)) | ((fail_if_success (with_reducible show wpAny _ _ (exec (Stmt.For _ _ _ _ _) _) _ _ _)); (first | ((k_here; (with_reducible show wpAny _ _ (subscriptTail _ _ (Value.ref _) (Value.int (-1) _)) _ _ _); k_dflt (refine' last_sub ?k1 ?k2 ?k3 ?_ ?k7; (case k1 => k_asm); (case k2 => k_mem); (case k3 => omega); (case k7 => with_unfolding_all rfl); k_whole))) | (((with_reducible show wpAny _ _ (subscriptTail _ (PySem.Expr.Slice _ _ (some _) _) _ _) _ _ _); refine halt ?_)) | (((with_reducible show wpAny _ _ (subscriptTail _ (PySem.Expr.Slice _ _ (some _) _) _ _) _ _ _); refine halt ?_)) | (((with_reducible show wpAny _ _ (call (Value.ref 186) _) _ _ _); refine halt ?_)) | ((k_here; (with_reducible show wpAny _ _ (call (Value.builtin "len") [Value.ref _]) _ _ _); refine' KM.len_K ?k1 ?k2 ?k3 ?k4 ?_; (case k1 => k_asm); (case k2 => k_mem); (case k3 => assumption); (case k4 => omega))) | walk1)) | (dsimp only; (fail_if_success (with_reducible show wpAny _ _ (exec (Stmt.For _ _ _ _ _) _) _ _ _)); (first | ((k_here; (with_reducible show wpAny _ _ (subscriptTail _ _ (Value.ref _) (Value.int (-1) _)) _ _ _); k_dflt (refine' last_sub ?k1 ?k2 ?k3 ?_ ?k7; (case k1 => k_asm); (case k2 => k_mem); (case k3 => omega); (case k7 => with_unfolding_all rfl); k_whole))) | (((with_reducible show wpAny _ _ (subscriptTail _ (PySem.Expr.Slice _ _ (some _) _) _ _) _ _ _); refine halt ?_)) | (((with_reducible show wpAny _ _ (subscriptTail _ (PySem.Expr.Slice _ _ (some _) _) _ _) _ _ _); refine halt ?_)) | (((with_reducible show wpAny _ _ (call (Value.ref 186) _) _ _ _); refine halt ?_)) | ((k_here; (with_reducible show wpAny _ _ (call (Value.builtin "len") [Value.ref _]) _ _ _); refine' KM.len_K ?k1 ?k2 ?k3 ?k4 ?_; (case k1 => k_asm); (case k2 => k_mem); (case k3 => assumption); (case k4 => omega))) | walk1)))))
  refine unhalt ?_
  refine' kmk_slice3_lit (s := ⟨_, _, _, _, _⟩) (zs := vvs.reverse) (lo := none) (hi := none) (st := some (-1)) F₃ N₃ (News.isList (n := vn) N₃ (List.Mem.tail _ (List.Mem.tail _ (List.Mem.tail _ (List.Mem.tail _ gO4))))) IsPart.none IsPart.none (IsPart.int _ _) (by decide) ?e ?_ ?hs ?ht ?hz
  case e => rw [krv_pick]
  case hs => with_unfolding_all rfl
  case ht => intro _; with_unfolding_all rfl
  case hz => rw [List.size_toArray, sizeLine_eq]; omega
  intro D h4 F4 N4 l4
  repeat' (((first | (k_unfold; (try dsimp only)) | ((fail_if_success (with_reducible show wpAny _ _ (exec (Stmt.For _ _ _ _ _) _) _ _ _)); (first | ((k_here; (with_reducible show wpAny _ _ (subscriptTail _ _ (Value.ref _) (Value.int (-1) _)) _ _ _); k_dflt (refine' last_sub ?k1 ?k2 ?k3 ?_ ?k7; (case k1 => k_asm); (case k2 => k_mem); (case k3 => omega); (case k7 => with_unfolding_all rfl); k_whole))) | (((with_reducible show wpAny _ _ (subscriptTail _ (PySem.Expr.Slice _ _ (some _) _) _ _) _ _ _); refine halt ?_)) | (((with_reducible show wpAny _ _ (subscriptTail _ (PySem.Expr.Slice _ _ (some _) _) _ _) _ _ _); refine halt ?_)) | (((with_reducible show wpAny _ _ (call (Value.ref 186) _) _ _ _); refine halt ?_)) | ((k_here; (with_reducible show wpAny _ _ (call (Value.builtin "len") [Value.ref _]) _ _ _); refine' KM.len_K ?k1 ?k2 ?k3 ?k4 ?_; (case k1 => k_asm); (case k2 => k_mem); (case k3 => assumption); (case k4 => omega))) | walk1)) | (dsimp only; (fail_if_success (with_reducible show wpAny _ _ (exec (Stmt.For _ _ _ _ _) _) _ _ _)); (first | ((k_here; (with_reducible show wpAny _ _ (subscriptTail _ _ (Value.ref _) (Value.int (-1) _)) _ _ _); k_dflt (refine' last_sub ?k1 ?k2 ?k3 ?_ ?k7; (case k1 => k_asm); (case k2 => k_mem); (case k3 => omega); (case k7 => with_unfolding_all rfl); k_whole))) | (((with_reducible show wpAny _ _ (subscriptTail _ (PySem.Expr.Slice _ _ (some _) _) _ _) _ _ _); refine halt ?_)) | (((with_reducible show wpAny _ _ (subscriptTail _ (PySem.Expr.Slice _ _ (some _) _) _ _) _ _ _); refine halt ?_)) | (((with_reducible show wpAny _ _ (call (Value.ref 186) _) _ _ _); refine halt ?_)) | ((k_here; (with_reducible show wpAny _ _ (call (Value.builtin "len") [Value.ref _]) _ _ _); refine' KM.len_K ?k1 ?k2 ?k3 ?k4 ?_; (case k1 => k_asm); (case k2 => k_mem); (case k3 => assumption); (case k4 => omega))) | walk1)))))
  with_reducible rename News s1.heap _ _ _ => N5
  with_reducible rename Fr s1.heap _ _ _ => F5
  refine unhalt ?_
  refine wpAny_call ?_
  refine c_pile K1 F5 KX N5 T rfl (Around.frames_deeper K1.stack) rfl rfl ?_ ?_ (List.Mem.head _) (All2.reverse (lines_in (gLn.mono fun p hp => List.Mem.tail _ (List.Mem.tail _ (List.Mem.tail _ (List.Mem.tail _ (List.Mem.tail _ hp))))) hv7 hd7 P.bd)) (fun p hp => lsOf_bd hd7 P.bd p (List.mem_reverse.mp hp)) (by simp [lsOf]) ?_
  · simp only [depth_deeper]; decide
  · simp only [Around.deeper_units]; decide
  intro t6 pa6 rl6 vs6 pn6 dx6 u6 w6 rs6 rn6 ex6 h6 tk6 F6 N6 hA6 ht6 hp6 hd6 hr6 hrw6 hpi6
  dsimp only
  replace ht6 := List.mem_append_left ((D, W.listOf vvs.reverse.toArray 0) :: (RL, W.listOf rvs.toArray rn) :: (s1.heap.objs.size + 1 + 1 + 1, ck) :: (s1.heap.objs.size + 1 + 1, cr) :: (s1.heap.objs.size + 1, cl) :: EW) ht6
  replace hr6 := List.mem_append_left ((D, W.listOf vvs.reverse.toArray 0) :: (RL, W.listOf rvs.toArray rn) :: (s1.heap.objs.size + 1 + 1 + 1, ck) :: (s1.heap.objs.size + 1 + 1, cr) :: (s1.heap.objs.size + 1, cl) :: EW) hr6
  have gp6 := List.mem_append_right ex6 (List.Mem.tail (D, W.listOf vvs.reverse.toArray 0) (List.Mem.tail (RL, W.listOf rvs.toArray rn) (List.Mem.tail (s1.heap.objs.size + 1 + 1 + 1, ck) (List.Mem.tail (s1.heap.objs.size + 1 + 1, cr) (List.Mem.tail (s1.heap.objs.size + 1, cl) gp4)))))
  replace gra := List.mem_append_right ex6 (List.Mem.tail (D, W.listOf vvs.reverse.toArray 0) (List.Mem.tail (RL, W.listOf rvs.toArray rn) (List.Mem.tail (s1.heap.objs.size + 1 + 1 + 1, ck) (List.Mem.tail (s1.heap.objs.size + 1 + 1, cr) (List.Mem.tail (s1.heap.objs.size + 1, cl) gra)))))
  replace grw := grw.mono fun p hp => List.mem_append_right ex6 (List.Mem.tail (D, W.listOf vvs.reverse.toArray 0) (List.Mem.tail (RL, W.listOf rvs.toArray rn) (List.Mem.tail (s1.heap.objs.size + 1 + 1 + 1, ck) (List.Mem.tail (s1.heap.objs.size + 1 + 1, cr) (List.Mem.tail (s1.heap.objs.size + 1, cl) hp)))))
  ((try clear N5); (try clear F5))
  generalize ex6 ++ ((D, W.listOf vvs.reverse.toArray 0) :: (RL, W.listOf rvs.toArray rn) :: (s1.heap.objs.size + 1 + 1 + 1, ck) :: (s1.heap.objs.size + 1 + 1, cr) :: (s1.heap.objs.size + 1, cl) :: EW) = EV at *
  obtain ⟨q0, qL, hq1, hq2⟩ := P.turned
  have hql := hrw6.length
  rw [hq1] at hrw6
  obtain ⟨vs7, ra7, rxs7, rk7, rfl, hra7, hri7⟩ := hrw6.last
  have grl := grw.length
  rw [hrL] at grw
  have hsz6 : (vs7 ++ [Value.ref ra7]).toArray.size = (pileGo (lsOf Ts ds).reverse [] []).2.length := by rw [List.size_toArray, hql]
  have hsz7 : (vs0 ++ [Value.ref ra]).toArray.size = (pileGo (lsOf Ts ds) [] []).2.length := by rw [List.size_toArray, grl]
  have hf6 := P.fewT
  have hf7 := P.fewR
  have hv7' : vs7.length ≤ 1000 := by rw [List.length_append] at hql; omega
  have hrl0 : (∃ r, (pileGo (lsOf Ts ds) [] []).2 = r ++ [[0]]) ↔ rowL = [0] := by
    rw [hrL]
    constructor
    · rintro ⟨r, e⟩
      exact (List.append_inj' e rfl).2 |> fun h => (List.cons.inj h).1
    · rintro rfl; exact ⟨rows0, rfl⟩
  rw [hrl0] at hq2
  generalize hN6 : (pileGo (lsOf Ts ds).reverse [] []).2.length = n6 at *
  generalize hN7 : (pileGo (lsOf Ts ds) [] []).2.length = n7 at *
  obtain ⟨z1, z2, z3, z4⟩ := fin_bool hq2
  repeat' ((first | ((with_reducible refine' eq_intsK ?h1 ?h2 ?h3 ?h4 ?h5 ?_); (case h1 => exact News.isList (by k_asm) (by k_mem)); (case h2 => assumption); (case h3 => exact News.isList (by k_asm) (List.Mem.head _)); (case h4 => exact IntsAre.cons _ _ IntsAre.nil); (case h5 => (simp only [Around.deeper_units]; decide))) | ((first | (k_unfold; (try dsimp only)) | ((fail_if_success (with_reducible show wpAny _ _ (exec (Stmt.For _ _ _ _ _) _) _ _ _)); (first | ((k_here; (with_reducible show wpAny _ _ (subscriptTail _ _ (Value.ref _) (Value.int (-1) _)) _ _ _); k_dflt (refine' last_sub ?k1 ?k2 ?k3 ?_ ?k7; (case k1 => k_asm); (case k2 => k_mem); (case k3 => omega); (case k7 => with_unfolding_all rfl); k_whole))) | (((with_reducible show wpAny _ _ (subscriptTail _ (PySem.Expr.Slice _ _ (some _) _) _ _) _ _ _); refine halt ?_)) | (((with_reducible show wpAny _ _ (subscriptTail _ (PySem.Expr.Slice _ _ (some _) _) _ _) _ _ _); refine halt ?_)) | (((with_reducible show wpAny _ _ (call (Value.ref 186) _) _ _ _); refine halt ?_)) | ((k_here; (with_reducible show wpAny _ _ (call (Value.builtin "len") [Value.ref _]) _ _ _); refine' KM.len_K ?k1 ?k2 ?k3 ?k4 ?_; (case k1 => k_asm); (case k2 => k_mem); (case k3 => assumption); (case k4 => omega))) | walk1)) | (dsimp only; (fail_if_success (with_reducible show wpAny _ _ (exec (Stmt.For _ _ _ _ _) _) _ _ _)); (first | ((k_here; (with_reducible show wpAny _ _ (subscriptTail _ _ (Value.ref _) (Value.int (-1) _)) _ _ _); k_dflt (refine' last_sub ?k1 ?k2 ?k3 ?_ ?k7; (case k1 => k_asm); (case k2 => k_mem); (case k3 => omega); (case k7 => with_unfolding_all rfl); k_whole))) | (((with_reducible show wpAny _ _ (subscriptTail _ (PySem.Expr.Slice _ _ (some _) _) _ _) _ _ _); refine halt ?_)) | (((with_reducible show wpAny _ _ (subscriptTail _ (PySem.Expr.Slice _ _ (some _) _) _ _) _ _ _); refine halt ?_)) | (((with_reducible show wpAny _ _ (call (Value.ref 186) _) _ _ _); refine halt ?_)) | ((k_here; (with_reducible show wpAny _ _ (call (Value.builtin "len") [Value.ref _]) _ _ _); refine' KM.len_K ?k1 ?k2 ?k3 ?k4 ?_; (case k1 => k_asm); (case k2 => k_mem); (case k3 => assumption); (case k4 => omega))) | walk1))))))
  all_goals (
    with_reducible rename Fr s1.heap _ _ _ => F9
    refine bool_end (hend _ _ _ F9) ?_
    first | exact z1 (by omega) (by omega) | exact z2 (by omega) (by omega) | exact z3 (by omega) (by omega) | exact z4 (by omega) (by omega))⟩
end Mine
end

section
namespace Mine
theorem LawE_pf : Wr LawD_s.P := S1.go LawE_s LawF_pf
theorem LawI_pf : Wr LawG_s.P := S1.go LawI_s LawJ_pf
theorem LawG_pf : Wr LawD_s.Q := S2.go LawG_s LawI_pf LawH_pf
theorem LawD_pf : Wr LawC_s.P := S2.go LawD_s LawE_pf LawG_pf
theorem LawC_pf : Wr LawB_s.P := S1.go LawC_s LawD_pf
theorem LawB_pf : Wr LawA_s.P := S1.go LawB_s LawC_pf
theorem top : PySem.Challenge.rw_wr0016_01.Holds := (S1.go LawA_s LawB_pf).get
end Mine
end

theorem PySem.Challenge.cw_wr0016_01_holds : PySem.Challenge.rw_wr0016_01.Holds := by
  exact Mine.top
