import PyProof.Rows.All
import Wide.All
import OpenK.AllK
import Wide.FinOn
import PySem.Challenge.RW_pg0200_01
open PySem PySem.W PyProof.Rows
set_option Elab.async false
set_option linter.unusedVariables false
set_option compiler.extract_closed false
section
namespace Mine
set_option maxRecDepth 100000
set_option maxHeartbeats 8000000
open_top hd for PySem.Challenge.rw_pg0200_01
end Mine
end
noncomputable section
open PySem PySem.W PyProof.Rows
namespace Mine
abbrev PR : PySem.Program := PySem.Challenge.rw_pg0200_01.row.prog
def CallOk (w : World) (f : Addr) (vs : List Value) (news : List (Addr × Obj)) (Ret : Value → List (Addr × Obj) → Prop) : Prop :=
  ∀ (mean : ExcName → Option Value) (mg mb : Str → Option Value) (cn : Str) (cs : Scope) (a : Addr) (ccd : Value) (cl : List (Str × Addr)) (A₀ : Around) (base h₀ : Heap) (L : Addr) (m : Str → Option Value) (s : Shared) (Q E : Value → Shared → Prop),
  Below A₀ base [] h₀ → Fr h₀ L s.heap m → (hd.heap_39 w.params).In h₀ → News h₀ L s.heap news → Top hd.view_39 (looseW hd.view_39 [Str.ofString "EXACT_TOKEN_TYPES"]) mean mg mb h₀ → cs.kind = .function → 0 < s.toks →
  (∀ (v : Value) (new : List (Addr × Obj)) (h' : Heap) (tk' : Nat), Ret v new → Fr h₀ L h' m → News h₀ L h' (new ++ news) → Q v { s with heap := h', toks := tk' }) →
  wpAny (model PySem.Challenge.rw_pg0200_01.row.prog w) (callerA.deeper (envX cn cs L a ccd cl)) (call (.ref f) vs) Q E s
theorem all_ne {news : List (Addr × Obj)} {d c : Addr} (h : ∀ p ∈ news, p.1 < d) (hc : @LE.le Nat _ d c) : ∀ p ∈ news, p.1 ≠ c := fun p hp e => by
  have h1 : @LT.lt Nat _ p.1 d := h p hp
  have h2 : @Eq Nat p.1 c := e
  omega
end Mine
end
section
open PySem PySem.W PyProof.Rows
namespace Mine
/-- a mark that no line of the walk knows: the walk stands still there -/
def Stop (P : Prop) : Prop := P
theorem Stop.of {P : Prop} (h : Stop P) : P := h
theorem Stop.go {P : Prop} (h : P) : Stop P := h
end Mine
end
section
open PySem PySem.W PyProof.Rows
namespace Mine
def subst1 (c : Nat) (z : List Nat) (l : List Nat) : List Nat := l.flatMap fun k => if k = c then z else [k]
theorem subst1_append (c : Nat) (z a b : List Nat) : subst1 c z (a ++ b) = subst1 c z a ++ subst1 c z b := by simp [subst1]
theorem subst1_free (c : Nat) (z : List Nat) : ∀ l : List Nat, c ∉ l → subst1 c z l = l
  | [], _ => rfl
  | k :: r, h => by
    have h1 : ¬ k = c := fun e => h (e ▸ List.mem_cons_self ..)
    have h2 : c ∉ r := fun m => h (List.mem_cons_of_mem _ m)
    have ih := subst1_free c z r h2
    unfold subst1 at ih ⊢
    rw [List.flatMap_cons, if_neg h1, ih]; rfl
theorem subst1_join (c : Nat) (z : Str) : ∀ parts : List Str, (∀ p ∈ parts, c ∉ p.cps.toList) → (Str.join z parts).cps.toList = subst1 c z.cps.toList (Str.join ⟨#[c]⟩ parts).cps.toList
  | [], _ => rfl
  | [p], h => (subst1_free c _ _ (h p (List.mem_singleton.mpr rfl))).symm
  | p :: q :: r, h => by
    have ih := subst1_join c z (q :: r) fun a ha => h a (List.mem_cons_of_mem _ ha)
    show (p ++ z ++ Str.join z (q :: r)).cps.toList = subst1 c z.cps.toList (p ++ ⟨#[c]⟩ ++ Str.join ⟨#[c]⟩ (q :: r)).cps.toList
    simp only [Str.cps_append, Array.toList_append]
    rw [subst1_append, subst1_append, ← ih, subst1_free c _ _ (h p (List.mem_cons_self ..))]
    simp [subst1]
theorem replace_flat (x z : Str) (c : Nat) : (Txt.replace x ⟨#[c]⟩ z).cps.toList = subst1 c z.cps.toList x.cps.toList := by
  rw [StrLaws.replace_one, subst1_join c z _ (StrLaws.split_free x c), StrLaws.join_split]
theorem str_ext {a b : Str} (h : a.cps.toList = b.cps.toList) : a = b := by
  cases a; cases b; congr 1; exact Array.toList_inj.mp h
theorem replace_absent (x z : Str) (c : Nat) (h : c ∉ x.cps.toList) : Txt.replace x ⟨#[c]⟩ z = x := str_ext (by rw [replace_flat, subst1_free _ _ _ h])

theorem subst1_length (c : Nat) (z : List Nat) (hz : 1 ≤ z.length) : ∀ l : List Nat, (subst1 c z l).length ≤ l.length * z.length
  | [] => Nat.zero_le _
  | k :: r => by
    have ih := subst1_length c z hz r
    unfold subst1 at ih ⊢
    rw [List.flatMap_cons, List.length_append, List.length_cons, Nat.succ_mul]
    by_cases h : k = c
    · rw [if_pos h]; omega
    · rw [if_neg h, List.length_singleton]; omega
theorem replace_length (x z cs : Str) (c n k : Nat) (hcs : cs = ⟨#[c]⟩) (hx : x.length ≤ n) (hz : z.length = k) (hk : 1 ≤ k) : (Txt.replace x cs z).length ≤ n * k := by
  subst hcs hz
  have h := subst1_length c z.cps.toList (by simpa [Str.length] using hk) x.cps.toList
  rw [← replace_flat] at h
  simp only [Array.length_toList] at h
  exact Nat.le_trans h (Nat.mul_le_mul_right _ hx)

structure EscC (cs z : Str) (c k : Nat) : Prop where
  hcs : cs = ⟨#[c]⟩
  hz : z.length = k
  hzk : 1 ≤ k ∧ k ≤ 14
  hcz : (cs == z) = false
theorem ec1 : EscC (Str.ofString "&") (Str.ofString "&amp;") 38 5 := ⟨by decide +kernel, by decide +kernel, by decide +kernel, by decide +kernel⟩
theorem ec2 : EscC (Str.ofString "<") (Str.ofString "&lt;") 60 4 := ⟨by decide +kernel, by decide +kernel, by decide +kernel, by decide +kernel⟩
theorem ec3 : EscC (Str.ofString ">") (Str.ofString "&gt;") 62 4 := ⟨by decide +kernel, by decide +kernel, by decide +kernel, by decide +kernel⟩
theorem ec4 : EscC (Str.ofString "\"") (Str.ofString "&quot;") 34 6 := ⟨by decide +kernel, by decide +kernel, by decide +kernel, by decide +kernel⟩
theorem ec5 : EscC (Str.ofString "\r") (Str.ofString "&#13;") 13 5 := ⟨by decide +kernel, by decide +kernel, by decide +kernel, by decide +kernel⟩
theorem ec6 : EscC (Str.ofString "\n") (Str.ofString "&#10;") 10 5 := ⟨by decide +kernel, by decide +kernel, by decide +kernel, by decide +kernel⟩
theorem ec7 : EscC (Str.ofString "\t") (Str.ofString "&#09;") 9 5 := ⟨by decide +kernel, by decide +kernel, by decide +kernel, by decide +kernel⟩
theorem ec8 : EscC (Str.ofString "\t") (Str.ofString "&#x9;") 9 5 := ⟨by decide +kernel, by decide +kernel, by decide +kernel, by decide +kernel⟩
theorem ec9 : EscC (Str.ofString "\n") (Str.ofString "&#xA;") 10 5 := ⟨by decide +kernel, by decide +kernel, by decide +kernel, by decide +kernel⟩
theorem ec10 : EscC (Str.ofString "\r") (Str.ofString "&#xD;") 13 5 := ⟨by decide +kernel, by decide +kernel, by decide +kernel, by decide +kernel⟩

set_option maxRecDepth 100000 in
set_option maxHeartbeats 4000000 in
theorem esc_if {w : World} {A : Around} {E : Value → Shared → Prop} {s : Shared} {name : Str} {scope : Scope} {f : Addr} {cd : Value} {h₀ : Heap} {L : Addr} {m : Str → Option Value} {news : List (Addr × Obj)} {Q : Flow → Shared → Prop} {text cs z : Str} {tt : Tok} {n k : Nat} {p1 p2 p3 p4 p5 p6 p7 p8 p9 p10 p11 : Pos} {c : Nat}
  (F : Fr h₀ L s.heap m) (N : News h₀ L s.heap news) (hm : m (Str.ofString "text") = some (.str text tt)) (htk : 0 < s.toks) (hx : text.length ≤ n) (hn : n ≤ 1048576) (ec : EscC cs z c k) (hk : scope.kind = .function) (hx1 : (envOf name scope L f cd).kindOf (Str.ofString "text") = some .local)
  (h : ∀ h' tk tt', 0 < tk → (Txt.replace text cs z).length ≤ n * k → Fr h₀ L h' (fun y => if y = Str.ofString "text" then some (.str (Txt.replace text cs z) tt') else m y) → News h₀ L h' news → Q .next { s with heap := h', toks := tk })
  (hs : swapsWith (.Call (.Attribute (.Name (Str.ofString "text") p5) (Str.ofString "replace") p6) [.Constant (.str cs) 0 p7, .Constant (.str z) 0 p8] [] p9) (some (.Name (Str.ofString "text") p4)) p11.line (envOf name scope L f cd) = pure false := by rfl)
  {pl : Sem Bool}
  (he : eval (.Call (.Attribute (.Name (Str.ofString "text") p5) (Str.ofString "replace") p6) [.Constant (.str cs) 0 p7, .Constant (.str z) 0 p8] [] p9) (envOf name scope L f cd) = (do
      let ov ← eval (.Name (Str.ofString "text") p5) (envOf name scope L f cd)
      standAt p6.atName
      let (f', first) ← holding [ov] (getMethod ov (Str.ofString "replace") pl)
      callWith p9 f' first (backTo p9 (starEach [.Constant (.str cs) 0 p7, .Constant (.str z) 0 p8] (envOf name scope L f cd))) []) := by rfl) :
  wpAny (model PySem.Challenge.rw_pg0200_01.row.prog w) A (exec (.If (.Compare (.Constant (.str cs) 0 p1) [.In] [.Name (Str.ofString "text") p2] p3) [.Assign [.Name (Str.ofString "text") p4] (.Call (.Attribute (.Name (Str.ofString "text") p5) (Str.ofString "replace") p6) [.Constant (.str cs) 0 p7, .Constant (.str z) 0 p8] [] p9) p11] [] p10) (envOf name scope L f cd)) Q E s := by
  obtain ⟨hcs, hz, hzk, hcz⟩ := ec
  refine wpAny_If (wpAny_isTrue_Compare1 (Calls.Constant_str (ld F hm (in_str (wpAny_truthy_bool ?_)) hk hx1)))
  split
  · refine wpAny_execs_cons (wpAny_Assign_Name ?_ hs)
    refine MethodCall_ (ld F hm (GM.replace ?_) hk hx1) he
    refine callWith_method1 (spliced_more (Calls.Constant_str (spliced_more (Calls.Constant_str (spliced_none ?_)))))
    refine SC.replaceW ?_ ?_ ?_ hcz (Nat.le_trans hx hn) (hz ▸ hzk.2) ?_
    · exact Nat.ne_of_gt (Nat.succ_pos _)
    · exact Nat.ne_of_gt (Nat.succ_pos _)
    · exact Nat.ne_of_lt (Nat.lt_succ_self _)
    · intro t' k
      refine stN F N ?_ hk hx1
      intro h' F' N'
      exact wpAny_execs_nil (h _ _ _ (Nat.succ_pos _) (replace_length _ _ _ c _ _ hcs hx hz hzk.1) F' N')
  · rename_i hin
    refine wpAny_execs_nil ?_
    have hab : c ∉ text.cps.toList := by
      subst hcs
      have := StrLaws.found_one text c
      simp only [Bool.not_eq_true] at hin
      rw [hin] at this
      simpa using this.symm
    have e : Txt.replace text cs z = text := by subst hcs; exact replace_absent _ _ _ hab
    refine h _ _ tt (Nat.succ_pos _) (replace_length _ _ _ c _ _ hcs hx hz hzk.1) ?_ N
    have em : (fun y => if y = Str.ofString "text" then some (Value.str (Txt.replace text cs z) tt) else m y) = m := by
      funext y
      by_cases hy : y = Str.ofString "text"
      · rw [if_pos hy, e, hy, hm]
      · rw [if_neg hy]
    rw [em]
    exact F
theorem execs_gen {M : Model} {A : Around} {E : Value → Shared → Prop} {s : Shared} {env : Env} {st : Stmt} {rest : List Stmt} {Q : Flow → Shared → Prop} (hp : 0 < s.toks)
  (h : ∀ tk, 0 < tk → wpAny M A (exec st env) (fun f s' => match f with | .next => wpAny M A (execs rest env) Q E s' | f => Q f s') E { s with toks := tk }) : wpAny M A (execs (st :: rest) env) Q E s :=
  wpAny_execs_cons (h s.toks hp)
theorem execs_nil_gen {M : Model} {A : Around} {E : Value → Shared → Prop} {s : Shared} {env : Env} {Q : Flow → Shared → Prop} (hp : 0 < s.toks)
  (h : ∀ tk, 0 < tk → Q .next { s with toks := tk }) : wpAny M A (execs [] env) Q E s :=
  wpAny_execs_nil (h s.toks hp)
end Mine
end
noncomputable section
open PySem PySem.W PyProof.Rows
namespace Mine
def rA (t : Str) : Str := Txt.replace t "&" "&amp;"
def rL (t : Str) : Str := Txt.replace t "<" "&lt;"
def rG (t : Str) : Str := Txt.replace t ">" "&gt;"
def rQ (t : Str) : Str := Txt.replace t "\"" "&quot;"
def escS (hand : Int) (t : Str) : Str :=
  if hand = 0 then rG (rL (rA t))
  else if hand = 1 then Txt.replace (Txt.replace (Txt.replace (rQ (rG (rL (rA t)))) "\r" "&#13;") "\n" "&#10;") "\t" "&#09;"
  else if hand = 2 then rQ (rG (rA t))
  else if hand = 3 then Txt.replace (Txt.replace (Txt.replace (rQ (rL (rA t))) "\t" "&#x9;") "\n" "&#xA;") "\r" "&#xD;"
  else Txt.replace (rG (rL (rA t))) "\r" "&#xD;"

local macro_rules | `(tactic| walk_at "exec If") => `(tactic| (k_here; (with_reducible show wpAny _ _ (exec (Stmt.If (PySem.Expr.Compare (PySem.Expr.Constant (Const.str _) _ _) [CmpOp.In] [PySem.Expr.Name _ _] _) [Stmt.Assign _ _ _] [] _) _) _ _ _); refine' Stop.of ?_))
local macro_rules | `(tactic| walk_at "execs cons") => `(tactic| (k_here; refine' execs_gen ?p ?_; (case p => ((try dsimp only); omega)); intro tk' hpos'; (try dsimp only)))
local macro_rules | `(tactic| walk_at "execs nil") => `(tactic| (k_here; refine' execs_nil_gen ?p ?_; (case p => ((try dsimp only); omega)); intro tk' hpos'; (try dsimp only)))
set_option maxRecDepth 100000 in
set_option maxHeartbeats 1000000 in
theorem write_str0 (w : World) (text : Str) (tt : Tok) (hand : Int) (th : Tok) (news : List (Addr × Obj)) (hl : text.length ≤ 60) (h0 : 0 ≤ hand) (h5 : hand < 5) :
  (hd.heap_39 w.params = hd.heap_39 w.params) ∧ CallOk w 80 [.str text tt, .int hand th] news (fun v new => new = [] ∧ ∃ t, v = .str (escS hand text) t) := by
  unfold CallOk
  k_fill
  refine ⟨rfl, ?_⟩
  intro mean mg mb cn cs a ccd cl A₀ base h₀ L m s Q E B F X N T hcs hpos hret
  refine wpAny_call ?_
  k_dflt cell_enter
  k_steps
  all_goals (repeat (
    refine' Stop.go ?_
    refine' esc_if (by with_reducible assumption) (by with_reducible assumption) (by with_unfolding_all rfl) (by (try dsimp only); omega) (by with_reducible assumption) (by decide) (by with_reducible first | exact ec1 | exact ec2 | exact ec3 | exact ec4 | exact ec5 | exact ec6 | exact ec7 | exact ec8 | exact ec9 | exact ec10) (by rfl) (by rfl) ?_ (by rfl) (by rfl)
    intro h' tk' tt' hpos' hlen' F' N'
    (try dsimp only)
    k_steps))
  all_goals
    first
    | (rename (hand = (_ : Int)) => he';  subst he')
    | (have he' : hand = 4 := (by omega)
       subst he')
    refine hret _ [] _ _ ?_ (by with_reducible assumption) (by rw [List.nil_append]; with_reducible assumption)
    exact ⟨rfl, _, rfl⟩
theorem write_str (w : World) (text : Str) (tt : Tok) (hand : Int) (th : Tok) (news : List (Addr × Obj)) (hl : text.length ≤ 60) (h0 : 0 ≤ hand) (h5 : hand < 5) :
  CallOk w 80 [.str text tt, .int hand th] news (fun v new => new = [] ∧ ∃ t, v = .str (escS hand text) t) := (write_str0 w text tt hand th news hl h0 h5).2
end Mine
end
section
open PySem PySem.W PyProof.Rows
namespace Mine
/-- what a comprehension runs over -/
inductive SrcP (h : Heap) : Value → Nat → (Nat → Value → Prop) → Prop
  | list {l : Addr} {items : Array Value} : h.IsList l items → SrcP h (.ref l) items.size (fun i v => items[i]? = some v)
  | str {x : Str} {t : Tok} : SrcP h (.str x t) x.cps.size (SignAt x)

theorem old_of_push {h h' : Heap} {o : Obj} (hk : ∀ b o', b ∉ [h.objs.size] → (h.push o).get? b = some o' → h'.get? b = some o') : ∀ b o', h.get? b = some o' → h'.get? b = some o' :=
  fun b o' e => hk b o' (old_not_new e) (Heap.get?_push_of_some _ e)

theorem src_iter {prog : Program} {w : World} {A : Around} {E : Value → Shared → Prop} {s : Shared} {xv : Value} {n : Nat} {P : Nat → Value → Prop} {Q : Value → Shared → Prop} (hh : A.handled = none) (S : SrcP s.heap xv n P)
    (k : ∀ (o : Obj) (fp : List Addr) (St : Nat → Heap → Prop), Walks prog w A s.heap.objs.size fp [s.heap.objs.size] n P St → St 0 (s.heap.push o) → (∀ b ∈ fp, b < (s.heap.push o).objs.size) → Q (.ref s.heap.objs.size) { s with heap := s.heap.push o }) :
    wpAny (model prog w) A (pyIter xv) Q E s := by
  cases S with
  | list hl =>
    rename_i l items
    have hlt : l < s.heap.objs.size := by obtain ⟨_, e, _⟩ := hl; exact Heap.lt_size e
    refine wpAny_pyIter_list hl (k _ [s.heap.objs.size, l] _ (Walks.list hh _ _ (Nat.ne_of_lt hlt) items) ⟨⟨_, Heap.get?_push_size _ rfl, rfl, rfl⟩, hl.push _⟩ ?_)
    intro b hb
    rw [Heap.size_push]
    rcases List.mem_cons.mp hb with rfl | hb
    · exact Nat.lt_succ_self _
    · rw [List.mem_singleton.mp hb]; exact Nat.lt_succ_of_lt hlt
  | str =>
    refine wpAny_pyIter_str fun o St W hst => k o _ St (W A hh) hst ?_
    intro b hb
    rw [Heap.size_push, List.mem_singleton.mp hb]
    exact Nat.lt_succ_self _

section
variable {prog : Program} {w : World} {A : Around} {E : Value → Shared → Prop} {s : Shared} {h₀ : Heap} {L : Addr} {m : Str → Option Value} {env : Env}

def LcTest (prog : Program) (w : World) (A : Around) (env : Env) (scope : Scope) (cl : List (Str × Addr)) (x : Str) (ifs : List Expr) (P : Nat → Value → Prop) (p : Value → Bool) (h₁ : Heap) : Prop :=
  ∀ C i v s₃ m₃ E', P i v → s₃.heap.Ns C m₃ → m₃ x = some v → (∀ b o, h₁.get? b = some o → s₃.heap.get? b = some o) →
    wpAny (model prog w) A (forIn ifs true fun c r => if r = true then do let ok ← isTrue c (compEnvC scope cl C env) (eval c (compEnvC scope cl C env)); pure (ForInStep.yield ok) else pure (ForInStep.yield r))
      (fun ok s₄ => ok = p v ∧ Keeps s₃ s₄) E' s₃
def LcElt (prog : Program) (w : World) (A : Around) (env : Env) (scope : Scope) (cl : List (Str × Addr)) (x : Str) (elt : Expr) (P : Nat → Value → Prop) (p : Value → Bool) (R : Value → Value → Prop) (h₁ : Heap) : Prop :=
  ∀ C i v s₃ m₃ E', P i v → p v = true → s₃.heap.Ns C m₃ → m₃ x = some v → (∀ b o, h₁.get? b = some o → s₃.heap.get? b = some o) →
    wpAny (model prog w) A (eval elt (compEnvC scope cl C env)) (fun y s₄ => R v y ∧ Keeps s₃ s₄) E' s₃
def LcFin (h₀ : Heap) (L : Addr) (m : Str → Option Value) (n : Nat) (P : Nat → Value → Prop) (p : Value → Bool) (R : Value → Value → Prop) (news : List (Addr × Obj)) (Q : Value → Shared → Prop) (s₁ : Shared) : Prop :=
  ∀ (D : Addr) (h' : Heap) (tk k : Nat) (ys vs : List Value), vs.length = n → (∀ j v, vs[j]? = some v → P j v) → Paired R (vs.filter p) ys → Fr h₀ L h' m → News h₀ L h' ((D, W.listOf ys.toArray k) :: news) → LCg.Off1 D news → (∀ b o, s₁.heap.get? b = some o → h'.get? b = some o) → Q (.ref D) { s₁ with heap := h', toks := tk }
def LcSrc (prog : Program) (w : World) (A : Around) (h₀ : Heap) (L : Addr) (m : Str → Option Value) (env : Env) (scope : Scope) (cl : List (Str × Addr)) (x : Str) (ifs : List Expr) (elt : Expr) (p : Value → Bool) (R : Value → Value → Prop) (Q : Value → Shared → Prop) (xv : Value) (s₁ : Shared) : Prop :=
  ∃ n P news, SrcP s₁.heap xv n P ∧ n ≤ sizeLine ∧ Fr h₀ L s₁.heap m ∧ News h₀ L s₁.heap news ∧ LcTest prog w A env scope cl x ifs P p s₁.heap ∧ LcElt prog w A env scope cl x elt P p R s₁.heap ∧ LcFin h₀ L m n P p R news Q s₁
theorem LcSrc.intro {scope : Scope} {cl : List (Str × Addr)} {x : Str} {ifs : List Expr} {elt : Expr} {p : Value → Bool} {R : Value → Value → Prop} {Q : Value → Shared → Prop} {xv : Value} {s₁ : Shared} {n : Nat} {P : Nat → Value → Prop} {news : List (Addr × Obj)}
   (S : SrcP s₁.heap xv n P) (hn : n ≤ sizeLine) (F : Fr h₀ L s₁.heap m) (N : News h₀ L s₁.heap news) (t : LcTest prog w A env scope cl x ifs P p s₁.heap) (e : LcElt prog w A env scope cl x elt P p R s₁.heap) (f : LcFin h₀ L m n P p R news Q s₁) :
   LcSrc prog w A h₀ L m env scope cl x ifs elt p R Q xv s₁ := ⟨n, P, news, S, hn, F, N, t, e, f⟩
theorem lcTest_nil {scope : Scope} {cl : List (Str × Addr)} {x : Str} {P : Nat → Value → Prop} {h₁ : Heap} : LcTest prog w A env scope cl x [] P (fun _ => true) h₁ := by
  intro C i v s₃ m₃ E' hP hn hm hk
  exact wpAny_tests_nil ⟨rfl, s₃.heap, s₃.toks, rfl, fun _ _ e => e⟩

theorem lc {elt iter : Expr} {x : Str} {px : Pos} {ifs : List Expr} {scope : Scope} {cl : List (Str × Addr)} {pos : Pos} {Q : Value → Shared → Prop} (p : Value → Bool) (R : Value → Value → Prop) (hh : A.handled = none)
    (hclos : closureFor scope env = pure cl) (hcell : ∀ y ∈ scope.names, y.2 ≠ .cell) (hkind : scope.kind = .function)
    (hnames : ∀ y ∈ scope.names, y.2 = .local → scope.names.lookup y.1 = some .local) (hx : scope.names.lookup x = some .local)
    (h : wpAny (model prog w) A (eval iter env) (LcSrc prog w A h₀ L m env scope cl x ifs elt p R Q) E s)
    (hs : ∀ x, foldedSetIterable iter env x = pure x := by intro _; rfl) :
    wpAny (model prog w) A (eval (.ListComp elt [⟨.Name x px, iter, ifs, 0⟩] scope pos) env) Q E s := by
  refine wpAny_ListComp_free p R hclos hcell hkind hnames hx (wpAny_mono h (fun xv s₁ h₁ => ?_) fun _ _ e => e) hs
  obtain ⟨n, P, news, S, hn, F, N, ht, he, hf⟩ := h₁
  refine src_iter hh S fun o fp St W hst hfp => ?_
  have up : ∀ (h' : Heap), (∀ b o', b ∉ [s₁.heap.objs.size] → (s₁.heap.push o).get? b = some o' → h'.get? b = some o') → ∀ b o', s₁.heap.get? b = some o' → h'.get? b = some o' := fun h' hk => old_of_push hk
  refine ⟨_, fp, _, n, P, St, rfl, W, hn, hst, hfp, ⟨?_, ?_⟩, ?_⟩
  · intro C i v s₃ m₃ E' _ hP hns hm hk _
    exact ht C i v s₃ m₃ E' hP hns hm (up _ hk)
  · intro C i v s₃ m₃ E' _ hP hp hns hm hk _
    exact he C i v s₃ m₃ E' hP hp hns hm (up _ hk)
  · intro D h' tk ys vs hnew hlD hplD hlen hP hF hk
    obtain ⟨k, hpl⟩ := hplD
    have keep := up h' hk
    have hD1 : s₁.heap.get? D = none := by
      cases e : s₁.heap.get? D with
      | none => rfl
      | some o' => rw [Heap.get?_push_of_some _ e] at hnew; cases hnew
    have hD0 : h₀.get? D = none := by
      cases e : h₀.get? D with
      | none => rfl
      | some o' => rw [F.keep _ _ e] at hD1; cases hD1
    have hDL : D ≠ L := fun e => by
      obtain ⟨oL, _, _, hL, _⟩ := F.ns
      rw [e, hL] at hD1; cases hD1
    have hoff : ∀ q ∈ news, q.1 ≠ D := fun q hq e => by rw [← e, (N q hq).1] at hD1; cases hD1
    have off1 : ∀ l : List (Addr × Obj), (∀ q ∈ l, q.1 ≠ D) → LCg.Off1 D l := by
      intro l
      induction l with
      | nil => intro _; trivial
      | cons a r ih => intro hl; exact ⟨hl a (List.mem_cons_self ..), ih fun q hq => hl q (List.mem_cons_of_mem _ hq)⟩
    refine hf D h' tk k ys.toList vs hlen hP hF (F.keeps keep) (fun q hq => ?_) (off1 _ hoff) keep
    rcases List.mem_cons.mp hq with rfl | hq
    · exact ⟨by rw [Array.toArray_toList]; exact hpl, hDL, hD0⟩
    · exact ⟨keep _ _ (N q hq).1, (N q hq).2⟩

/-- a dict comprehension -/
def DcElt {K : Type} [DecidableEq K] (knd : KeyKind prog w K) (A : Around) (env : Env) (scope : Scope) (cl : List (Str × Addr)) (x : Str) (kx vx : Expr) (P : Nat → Value → Prop) (FK : Value → K → Prop) (FV : Value → Value → Prop) (h₁ : Heap) : Prop :=
  ∀ C i v s₃ m₃ E', P i v → s₃.heap.Ns C m₃ → m₃ x = some v → (∀ b o, h₁.get? b = some o → s₃.heap.get? b = some o) →
    wpAny (model prog w) A (eval kx (compEnvC scope cl C env)) (fun key s₄ => (∃ k, knd.is k key = true ∧ FK v k) ∧ Keeps s₃ s₄) E' s₃ ∧
    wpAny (model prog w) A (eval vx (compEnvC scope cl C env)) (fun y s₄ => FV v y ∧ Keeps s₃ s₄) E' s₃
theorem dc {K : Type} [DecidableEq K] (knd : KeyKind prog w K) {kx vx iter : Expr} {x : Str} {px : Pos} {scope : Scope} {cl : List (Str × Addr)} {pos : Pos} {Q : Value → Shared → Prop} (FK : Value → K → Prop) (FV : Value → Value → Prop) (hh : A.handled = none)
    (hclos : closureFor scope env = pure cl) (hcell : ∀ y ∈ scope.names, y.2 ≠ .cell) (hkind : scope.kind = .function)
    (hnames : ∀ y ∈ scope.names, y.2 = .local → scope.names.lookup y.1 = some .local) (hx : scope.names.lookup x = some .local)
    (h : wpAny (model prog w) A (eval iter env) (fun xv s₁ => ∃ n P news, SrcP s₁.heap xv n P ∧ n ≤ sizeLine ∧ Fr h₀ L s₁.heap m ∧ News h₀ L s₁.heap news ∧ DcElt knd A env scope cl x kx vx P FK FV s₁.heap ∧
      (∀ (D : Addr) (o : Obj) (h' : Heap) (tk : Nat) (vs : List Value) (kvs : List (K × Value)), vs.length = n → (∀ j v, vs[j]? = some v → P j v) → StoredAll FK FV vs kvs → o.IsDictOf knd kvs → Fr h₀ L h' m → News h₀ L h' ((D, o) :: news) → LCg.Off1 D news → Q (.ref D) { s₁ with heap := h', toks := tk })) E s)
    (hs : ∀ x, foldedSetIterable iter env x = pure x := by intro _; rfl) :
    wpAny (model prog w) A (eval (.DictComp kx vx [⟨.Name x px, iter, [], 0⟩] scope pos) env) Q E s := by
  refine wpAny_DictComp_free knd (fun _ => true) FK FV hclos hcell hkind hnames hx (wpAny_mono h (fun xv s₁ h₁ => ?_) fun _ _ e => e) hs
  obtain ⟨n, P, news, S, hn, F, N, he, hf⟩ := h₁
  refine src_iter hh S fun o fp St W hst hfp => ?_
  have up : ∀ (h' : Heap), (∀ b o', b ∉ [s₁.heap.objs.size] → (s₁.heap.push o).get? b = some o' → h'.get? b = some o') → ∀ b o', s₁.heap.get? b = some o' → h'.get? b = some o' := fun h' hk => old_of_push hk
  refine ⟨_, fp, _, n, P, St, rfl, W, hn, hst, hfp, ⟨?_, ?_, ?_⟩, ?_⟩
  · intro C i v s₃ m₃ E' hP hns hm hk
    exact wpAny_tests_nil ⟨rfl, s₃.heap, s₃.toks, rfl, fun _ _ e => e⟩
  · intro C i v s₃ m₃ E' hP _ hns hm hk
    exact (he C i v s₃ m₃ E' hP hns hm (up _ hk)).1
  · intro C i v s₃ m₃ E' hP _ hns hm hk
    exact (he C i v s₃ m₃ E' hP hns hm (up _ hk)).2
  · intro D h' tk kvs vs hnew hD hlen hP hF hk
    rw [List.filter_eq_self.mpr (fun _ _ => rfl)] at hF
    obtain ⟨oD, hoD, hdD⟩ := Heap.dictOf_iff.mp hD
    have keep := up h' hk
    have hD1 : s₁.heap.get? D = none := by
      cases e : s₁.heap.get? D with
      | none => rfl
      | some o' => rw [Heap.get?_push_of_some _ e] at hnew; cases hnew
    have hD0 : h₀.get? D = none := by
      cases e : h₀.get? D with
      | none => rfl
      | some o' => rw [F.keep _ _ e] at hD1; cases hD1
    have hDL : D ≠ L := fun e => by
      obtain ⟨oL, _, _, hL, _⟩ := F.ns
      rw [e, hL] at hD1; cases hD1
    have hoff : ∀ q ∈ news, q.1 ≠ D := fun q hq e => by rw [← e, (N q hq).1] at hD1; cases hD1
    have off1 : ∀ l : List (Addr × Obj), (∀ q ∈ l, q.1 ≠ D) → LCg.Off1 D l := by
      intro l
      induction l with
      | nil => intro _; trivial
      | cons a r ih => intro hl; exact ⟨hl a (List.mem_cons_self ..), ih fun q hq => hl q (List.mem_cons_of_mem _ hq)⟩
    refine hf D oD h' tk vs kvs hlen hP hF hdD (F.keeps keep) (fun q hq => ?_) (off1 _ hoff)
    rcases List.mem_cons.mp hq with rfl | hq
    · exact ⟨hoD, hDL, hD0⟩
    · exact ⟨keep _ _ (N q hq).1, (N q hq).2⟩
end
end Mine
end
section
open PySem PySem.W PyProof.Rows
namespace Mine
/-- a table of texts by texts -/
def tabS (T : List (Str × Str)) : List (PyData × PyData) := T.map fun p => (PyData.str p.1, PyData.str p.2)
def lkS (T : List (Str × Str)) (c : Str) : Option Str := (T.find? fun p => decide (p.1 = c)).map (·.2)
theorem lookup_tabS (c : Str) : ∀ T : List (Str × Str), PySem.Spec.lookup (PyData.str c) (tabS T) = (lkS T c).map PyData.str
  | [] => rfl
  | (a, b) :: T => by
    show (if PySem.Spec.same (PyData.str a) (PyData.str c) = true then some (PyData.str b) else PySem.Spec.lookup (PyData.str c) (tabS T)) = _
    rw [PyProof.V.same_str, lookup_tabS c T]
    unfold lkS
    rw [List.find?_cons]
    by_cases h : a = c
    · simp [h]
    · simp [h]
theorem flat_str_inv {v : Value} {x : Str} (h : PyProof.V.Flat v (PyData.str x)) : ∃ t, v = .str x t := by
  have h1 := h {}
  cases h1; exact ⟨_, rfl⟩
section
variable {prog : Program} {w : World} {A : Around} {E : Value → Shared → Prop} {s : Shared} {env : Env} {scope : Scope} {cl : List (Str × Addr)} {C : Addr} {m₂ : Str → Option Value} {x : Str} {pos : Pos} {v : Value} {Q : Value → Shared → Prop}
theorem leaf_local (hn : s.heap.Ns C m₂) (hm : m₂ x = some v) (h : Q v s) (hk : (compEnvC scope cl C env).scope.kind = .function := by rfl) (hx : (compEnvC scope cl C env).kindOf x = some .local := by rfl) (hb : (x == ("__debug__" : Str)) = false := by decide) :
    wpAny (model prog w) A (eval (.Name x pos) (compEnvC scope cl C env)) Q E s := wpAny_Name (wpAny_loadName_local (env := compEnvC scope cl C env) hk hx hn hm h) hb
theorem leaf_cell {c : Addr} {o : Obj} (hc : (compEnvC scope cl C env).cells.lookup x = some c) (ho : s.heap.get? c = some o) (hd : o.data = .cell (some v)) (h : Q v s) (hk : (compEnvC scope cl C env).scope.kind = .function := by rfl) (hx : (compEnvC scope cl C env).kindOf x = some .cell := by rfl) (hb : (x == ("__debug__" : Str)) = false := by decide) :
    wpAny (model prog w) A (eval (.Name x pos) (compEnvC scope cl C env)) Q E s := wpAny_Name (wpAny_loadName_cell (env := compEnvC scope cl C env) hk hx hc ⟨o, ho, hd⟩ h) hb
end
theorem keeps_refl (s : Shared) (h : Heap) (tk : Nat) (e : ∀ b o, s.heap.get? b = some o → h.get? b = some o) : Keeps s { s with heap := h, toks := tk } := ⟨h, tk, rfl, e⟩
end Mine
end
noncomputable section
open PySem PySem.W PyProof.Rows
namespace Mine
def spTab (hand : Int) : List (Str × Str) :=
  if hand = 0 then [("&", "&amp;"), ("<", "&lt;"), (">", "&gt;")]
  else if hand = 1 then [("&", "&amp;"), ("<", "&lt;"), (">", "&gt;"), ("\"", "&quot;"), ("\r", "&#13;"), ("\n", "&#10;"), ("\t", "&#09;")]
  else if hand = 2 then [("&", "&amp;"), (">", "&gt;"), ("\"", "&quot;")]
  else if hand = 3 then [("&", "&amp;"), ("<", "&lt;"), ("\"", "&quot;"), ("\r", "&#xD;"), ("\n", "&#xA;"), ("\t", "&#x9;")]
  else [("&", "&amp;"), ("<", "&lt;"), (">", "&gt;"), ("\r", "&#xD;")]
def toldTab : List (Str × Str) := [("&", "&amp;"), ("<", "&lt;"), (">", "&gt;"), ("\"", "&quot;"), ("\r", "&#13;"), ("\n", "&#10;"), ("\t", "&#09;")]
def toldF (c : Str) : Str := (lkS toldTab c).getD Str.empty
local macro_rules | `(tactic| walk_at "execs cons") => `(tactic| (k_here; refine' execs_gen ?p ?_; (case p => ((try dsimp only); omega)); intro tk' hpos'; (try dsimp only)))
local macro_rules | `(tactic| walk_at "execs nil") => `(tactic| (k_here; refine' execs_nil_gen ?p ?_; (case p => ((try dsimp only); omega)); intro tk' hpos'; (try dsimp only)))
local macro_rules | `(tactic| k_all) => `(tactic| exact all_ne (by assumption) (by omega))

def ToldSrc (prog : Program) (w : World) (h₀ : Heap) (L : Addr) (m : Str → Option Value) (c : Addr) (Q : Value → Shared → Prop) (xv : Value) (s₁ : Shared) : Prop :=
  ∃ y t news d o od kvs₀, xv = .str y t ∧ y.length ≤ sizeLine ∧ (∀ c ∈ y.cps.toList, (lkS toldTab ⟨#[c]⟩).isSome = true) ∧ Fr h₀ L s₁.heap m ∧ News h₀ L s₁.heap news ∧ (c, o) ∈ news ∧ o.data = .cell (some (.ref d)) ∧ (d, od) ∈ news ∧ od.IsDictOf (PySem.strKind prog w) kvs₀ ∧ PyProof.V.FlatPairs PyData.str kvs₀ (tabS toldTab) ∧ (d == sysModules) = false ∧
     ∀ D o' h' tk kvs, Fr h₀ L h' m → News h₀ L h' ((D, o') :: news) → LCg.Off1 D news → o'.IsDictOf (PySem.strKind prog w) kvs → PyProof.V.FlatPairs PyData.str kvs (putAll PyData.str id (fun a => PyData.str (toldF a)) (signs y)) → Q (.ref D) { s₁ with heap := h', toks := tk }
theorem ToldSrc.intro {prog : Program} {w : World} {h₀ : Heap} {L : Addr} {m : Str → Option Value} {y : Str} {c d : Addr} {o od : Obj} {kvs₀ : List (Str × Value)} {Q : Value → Shared → Prop} {t : Tok} {s₁ : Shared} {news : List (Addr × Obj)}
  (hlen : y.length ≤ sizeLine) (hy : ∀ c ∈ y.cps.toList, (lkS toldTab ⟨#[c]⟩).isSome = true)
  (F : Fr h₀ L s₁.heap m) (N : News h₀ L s₁.heap news) (hc : (c, o) ∈ news) (ho : o.data = .cell (some (.ref d))) (hd : (d, od) ∈ news) (hk : od.IsDictOf (PySem.strKind prog w) kvs₀) (hf : PyProof.V.FlatPairs PyData.str kvs₀ (tabS toldTab)) (lo : (d == sysModules) = false)
  (fin : ∀ D o' h' tk kvs, Fr h₀ L h' m → News h₀ L h' ((D, o') :: news) → LCg.Off1 D news → o'.IsDictOf (PySem.strKind prog w) kvs → PyProof.V.FlatPairs PyData.str kvs (putAll PyData.str id (fun a => PyData.str (toldF a)) (signs y)) → Q (.ref D) { s₁ with heap := h', toks := tk }) :
  ToldSrc prog w h₀ L m c Q (.str y t) s₁ := ⟨y, t, news, d, o, od, kvs₀, rfl, hlen, hy, F, N, hc, ho, hd, hk, hf, lo, fin⟩
theorem dc_told {prog : Program} {w : World} {A : Around} {E : Value → Shared → Prop} {s : Shared} {h₀ : Heap} {L : Addr} {m : Str → Option Value} {env : Env} {scope : Scope} {cl : List (Str × Addr)} {c : Addr} {iter : Expr}
  {px p1 p2 p3 p4 pos : Pos} {Q : Value → Shared → Prop} (F₀ : Fr h₀ L s.heap m)
  (hh : A.handled = none) (hclos : closureFor scope env = pure cl) (hcell : ∀ y ∈ scope.names, y.2 ≠ .cell) (hkind : scope.kind = .function)
  (hnames : ∀ y ∈ scope.names, y.2 = .local → scope.names.lookup y.1 = some .local) (hx : scope.names.lookup (Str.ofString "sign") = some .local)
  (hc : cl.lookup (Str.ofString "told") = some c)
  (h : wpAny (model prog w) A (eval iter env) (ToldSrc prog w h₀ L m c Q) E s)
  (k1 : ∀ C, (compEnvC scope cl C env).scope.kind = .function) (k2 : ∀ C, (compEnvC scope cl C env).kindOf (Str.ofString "sign") = some .local) (k3 : ∀ C, (compEnvC scope cl C env).kindOf (Str.ofString "told") = some .cell) (k4 : ∀ C, (compEnvC scope cl C env).cells = cl)
  (hs : ∀ x, foldedSetIterable iter env x = pure x := by intro _; rfl) :
  wpAny (model prog w) A (eval (.DictComp (.Name (Str.ofString "sign") p1) (.Subscript (.Name (Str.ofString "told") p2) (.Name (Str.ofString "sign") p3) p4) [⟨.Name (Str.ofString "sign") px, iter, [], 0⟩] scope pos) env) Q E s := by
  refine dc (PySem.strKind prog w) (h₀ := h₀) (L := L) (m := m) (fun v k => ∃ a, ItemKind.str.is a v ∧ k = id a) (fun v y => ∃ a, ItemKind.str.is a v ∧ Carried y (PyData.str (toldF a))) hh hclos hcell hkind hnames hx (wpAny_mono h (fun xv s₁ h₁ => ?_) fun _ _ e => e) hs
  obtain ⟨y, t, news, d, o, od, kvs₀, rfl, hlen, hy, F, N, hmc, hdc, hmd, hod, hfp, lo, fin⟩ := h₁
  refine ⟨_, _, news, SrcP.str, hlen, F, N, ?_, ?_⟩
  · intro C i v s₃ m₃ E' hP hns hm hk
    obtain ⟨c', u, hci, rfl⟩ := hP
    have hmem : c' ∈ y.cps.toList := by
      rw [Array.mem_toList_iff]; exact Array.mem_of_getElem? hci
    have hsome := hy c' hmem
    refine ⟨leaf_local hns hm ?_ (k1 C) (k2 C), ?_⟩
    · exact ⟨⟨⟨#[c']⟩, strKind_is _ _ _ _, _, ⟨u, rfl⟩, rfl⟩, s₃.heap, s₃.toks, rfl, fun _ _ e => e⟩
    · have T : StrTab prog w s₃.heap d (tabS toldTab) := ⟨lo, kvs₀, Heap.dictOf_iff.mpr ⟨od, hk _ _ (N _ hmd).1, hod⟩, hfp⟩
      refine Subscript_ (leaf_cell (by rw [k4]; exact hc) (hk _ _ (N _ hmc).1) hdc (leaf_local hns hm ?_ (k1 C) (k2 C)) (k1 C) (k3 C))
      obtain ⟨z, hz⟩ := Option.isSome_iff_exists.mp hsome
      refine item_strTab T (dv := PyData.str z) (by rw [lookup_tabS, hz]; rfl) fun v hv => ?_
      obtain ⟨t', rfl⟩ := flat_str_inv hv
      refine ⟨⟨⟨#[c']⟩, ⟨u, rfl⟩, ?_⟩, s₃.heap, _, rfl, fun _ _ e => e⟩
      have : toldF ⟨#[c']⟩ = z := by unfold toldF; rw [hz]; rfl
      rw [this]
      exact .str z t'
  · intro D o' h' tk vs kvs hlv hP hS hD F' N' off
    exact fin D o' h' tk kvs F' N' off hD (storedAll_flat (K := ItemKind.str) (enc := PyData.str) PyProof.V.same_str hS _ (areOf_signs hlv hP))
local macro_rules | `(tactic| walk_at "ite") => `(tactic| (k_closed; k_dflt (first | (refine' ite_pos ?c ?_; (case c => decide)) | (refine' ite_neg ?c ?_; (case c => decide)))))
theorem told_ok1 : ∀ c ∈ (Str.ofString "&<>").cps.toList, (lkS toldTab ⟨#[c]⟩).isSome = true := by decide +kernel
theorem told_ok2 : ∀ c ∈ (Str.ofString "&<>\"\r\n\t").cps.toList, (lkS toldTab ⟨#[c]⟩).isSome = true := by decide +kernel
theorem told_ok3 : ∀ c ∈ (Str.ofString "&>\"").cps.toList, (lkS toldTab ⟨#[c]⟩).isSome = true := by decide +kernel
theorem told_len {y : Str} (h : y.length ≤ 100) : y.length ≤ sizeLine := by rw [sizeLine_eq]; omega
theorem told_len1 : (Str.ofString "&<>").length ≤ sizeLine := told_len (by decide +kernel)
theorem told_len2 : (Str.ofString "&<>\"\r\n\t").length ≤ sizeLine := told_len (by decide +kernel)
theorem told_len3 : (Str.ofString "&>\"").length ≤ sizeLine := told_len (by decide +kernel)
theorem sp_eq0 : putAll PyData.str id (fun a => PyData.str (toldF a)) (signs (Str.ofString "&<>")) = tabS (spTab 0) := by kernel_rfl
theorem sp_eq1 : putAll PyData.str id (fun a => PyData.str (toldF a)) (signs (Str.ofString "&<>\"\r\n\t")) = tabS (spTab 1) := by kernel_rfl
theorem sp_eq2 : putAll PyData.str id (fun a => PyData.str (toldF a)) (signs (Str.ofString "&>\"")) = tabS (spTab 2) := by kernel_rfl
theorem sp_eq3 : tabS (spTab 3) = [(PyData.str (Str.ofString "&"), PyData.str (Str.ofString "&amp;")), (PyData.str (Str.ofString "<"), PyData.str (Str.ofString "&lt;")), (PyData.str (Str.ofString "\""), PyData.str (Str.ofString "&quot;")), (PyData.str (Str.ofString "\r"), PyData.str (Str.ofString "&#xD;")), (PyData.str (Str.ofString "\n"), PyData.str (Str.ofString "&#xA;")), (PyData.str (Str.ofString "\t"), PyData.str (Str.ofString "&#x9;"))] := by kernel_rfl
theorem sp_eq4 : tabS (spTab 4) = [(PyData.str (Str.ofString "&"), PyData.str (Str.ofString "&amp;")), (PyData.str (Str.ofString "<"), PyData.str (Str.ofString "&lt;")), (PyData.str (Str.ofString ">"), PyData.str (Str.ofString "&gt;")), (PyData.str (Str.ofString "\r"), PyData.str (Str.ofString "&#xD;"))] := by kernel_rfl
local macro_rules | `(tactic| walk_at "eval DictComp") => `(tactic| (k_here; refine' Stop.of ?_))
set_option maxRecDepth 100000 in
set_option maxHeartbeats 1000000 in
theorem spelled0 (w : World) (hand : Int) (th : Tok) (news : List (Addr × Obj)) (h0 : 0 ≤ hand) (h5 : hand < 5) :
  (hd.heap_39 w.params = hd.heap_39 w.params) ∧ CallOk w 85 [.int hand th] news (fun v new => ∃ D o kvs, v = .ref D ∧ new = [(D, o)] ∧ o.IsDictOf (PySem.strKind PySem.Challenge.rw_pg0200_01.row.prog w) kvs ∧ PyProof.V.FlatPairs PyData.str kvs (tabS (spTab hand))) := by
  unfold CallOk
  k_fill
  refine ⟨rfl, ?_⟩
  intro mean mg mb cn cs a ccd cl A₀ base h₀ L m s Q E B F X N T hcs hpos hret
  obtain ⟨ck, cnn, cg, cc, cm⟩ := cs
  obtain rfl : ck = .function := hcs
  k_steps
  · obtain rfl : hand = 3 := by assumption
    (rename PyProof.V.FlatPairs _ _ _ => hff)
    (rename Obj.IsDictOf _ _ _ => hdd)
    (try dsimp only at hff hdd)
    refine hret _ [(_, _)] _ _ ⟨_, _, _, rfl, rfl, hdd, ?_⟩ (by with_reducible assumption) ?_
    · (rw [sp_eq3]; exact hff)
    · (rename News _ _ _ (_ :: _ :: _) => kN; intro p hp; exact kN p (by (rcases List.mem_cons.mp hp with rfl | hp); (· exact List.Mem.head _); (repeat first | exact hp | refine List.Mem.tail _ ?_)))
  · obtain rfl : hand = 4 := by assumption
    (rename PyProof.V.FlatPairs _ _ _ => hff)
    (rename Obj.IsDictOf _ _ _ => hdd)
    (try dsimp only at hff hdd)
    refine hret _ [(_, _)] _ _ ⟨_, _, _, rfl, rfl, hdd, ?_⟩ (by with_reducible assumption) ?_
    · (rw [sp_eq4]; exact hff)
    · (rename News _ _ _ (_ :: _ :: _) => kN; intro p hp; exact kN p (by (rcases List.mem_cons.mp hp with rfl | hp); (· exact List.Mem.head _); (repeat first | exact hp | refine List.Mem.tail _ ?_)))
  refine' Stop.go ?_
  refine' dc_told ?Fx1 ?hhx1 ?hclosx1 ?hcellx1 ?hkindx1 ?hnamesx1 ?hxx1 ?hcx1 ?_ ?k1x1 ?k2x1 ?k3x1 ?k4x1 ?hsx1
  (case Fx1 => k_asm)
  (case hhx1 => rfl)
  (case hclosx1 => with_unfolding_all rfl)
  (case hcellx1 => decide)
  (case hkindx1 => rfl)
  (case hnamesx1 => decide)
  (case hxx1 => rfl)
  (case hcx1 => rfl)
  (case k1x1 => exact fun _ => rfl)
  (case k2x1 => exact fun _ => rfl)
  (case k3x1 => exact fun _ => rfl)
  (case k4x1 => exact fun _ => rfl)
  (case hsx1 => exact fun _ => rfl)
  k_steps
  have hh : hand = 0 ∨ hand = 1 ∨ hand = 2 := by omega
  rcases hh with rfl | rfl | rfl
  · k_steps
    refine' ToldSrc.intro ?hlenx2 ?hyx2 ?Fx2 ?Nx2 ?hcx2 ?hox2 ?hdx2 ?hkx2 ?hfx2 ?lox2 ?_
    (case hlenx2 => with_reducible first | exact told_len1 | exact told_len2 | exact told_len3)
    (case hyx2 => with_reducible first | exact told_ok1 | exact told_ok2 | exact told_ok3)
    (case Fx2 => k_asm)
    (case Nx2 => k_asm)
    (case hcx2 => k_mem)
    (case hox2 => k_asm)
    (case hdx2 => k_mem)
    (case hkx2 => k_asm)
    (case hfx2 => k_asm)
    (case lox2 => k_asm)
    intro D' o' h' tk' kvs' F' N' off' hd' hf'
    (try simp only [LCg.Off1, and_true] at off')
    k_steps
    (rename PyProof.V.FlatPairs _ _ _ => hff)
    (rename Obj.IsDictOf _ _ _ => hdd)
    (try dsimp only at hff hdd)
    refine hret _ [(_, _)] _ _ ⟨_, _, _, rfl, rfl, hdd, ?_⟩ (by with_reducible assumption) ?_
    · (rw [← sp_eq0]; exact hff)
    · (rename News _ _ _ (_ :: _ :: _) => kN; intro p hp; exact kN p (by (rcases List.mem_cons.mp hp with rfl | hp); (· exact List.Mem.head _); (repeat first | exact hp | refine List.Mem.tail _ ?_)))
  · k_steps
    refine' ToldSrc.intro ?hlenx3 ?hyx3 ?Fx3 ?Nx3 ?hcx3 ?hox3 ?hdx3 ?hkx3 ?hfx3 ?lox3 ?_
    (case hlenx3 => with_reducible first | exact told_len1 | exact told_len2 | exact told_len3)
    (case hyx3 => with_reducible first | exact told_ok1 | exact told_ok2 | exact told_ok3)
    (case Fx3 => k_asm)
    (case Nx3 => k_asm)
    (case hcx3 => k_mem)
    (case hox3 => k_asm)
    (case hdx3 => k_mem)
    (case hkx3 => k_asm)
    (case hfx3 => k_asm)
    (case lox3 => k_asm)
    intro D' o' h' tk' kvs' F' N' off' hd' hf'
    (try simp only [LCg.Off1, and_true] at off')
    k_steps
    (rename PyProof.V.FlatPairs _ _ _ => hff)
    (rename Obj.IsDictOf _ _ _ => hdd)
    (try dsimp only at hff hdd)
    refine hret _ [(_, _)] _ _ ⟨_, _, _, rfl, rfl, hdd, ?_⟩ (by with_reducible assumption) ?_
    · (rw [← sp_eq1]; exact hff)
    · (rename News _ _ _ (_ :: _ :: _) => kN; intro p hp; exact kN p (by (rcases List.mem_cons.mp hp with rfl | hp); (· exact List.Mem.head _); (repeat first | exact hp | refine List.Mem.tail _ ?_)))
  · k_steps
    refine' ToldSrc.intro ?hlenx4 ?hyx4 ?Fx4 ?Nx4 ?hcx4 ?hox4 ?hdx4 ?hkx4 ?hfx4 ?lox4 ?_
    (case hlenx4 => with_reducible first | exact told_len1 | exact told_len2 | exact told_len3)
    (case hyx4 => with_reducible first | exact told_ok1 | exact told_ok2 | exact told_ok3)
    (case Fx4 => k_asm)
    (case Nx4 => k_asm)
    (case hcx4 => k_mem)
    (case hox4 => k_asm)
    (case hdx4 => k_mem)
    (case hkx4 => k_asm)
    (case hfx4 => k_asm)
    (case lox4 => k_asm)
    intro D' o' h' tk' kvs' F' N' off' hd' hf'
    (try simp only [LCg.Off1, and_true] at off')
    k_steps
    (rename PyProof.V.FlatPairs _ _ _ => hff)
    (rename Obj.IsDictOf _ _ _ => hdd)
    (try dsimp only at hff hdd)
    refine hret _ [(_, _)] _ _ ⟨_, _, _, rfl, rfl, hdd, ?_⟩ (by with_reducible assumption) ?_
    · (rw [← sp_eq2]; exact hff)
    · (rename News _ _ _ (_ :: _ :: _) => kN; intro p hp; exact kN p (by (rcases List.mem_cons.mp hp with rfl | hp); (· exact List.Mem.head _); (repeat first | exact hp | refine List.Mem.tail _ ?_)))
theorem spelled_ok (w : World) (hand : Int) (th : Tok) (news : List (Addr × Obj)) (h0 : 0 ≤ hand) (h5 : hand < 5) :
  CallOk w 85 [.int hand th] news (fun v new => ∃ D o kvs, v = .ref D ∧ new = [(D, o)] ∧ o.IsDictOf (PySem.strKind PySem.Challenge.rw_pg0200_01.row.prog w) kvs ∧ PyProof.V.FlatPairs PyData.str kvs (tabS (spTab hand))) := (spelled0 w hand th news h0 h5).2
end Mine
end
section
open PySem PySem.W PyProof.Rows
namespace Mine
/-- the table of the operators: EXACT_TOKEN_TYPES -/
def tokTab : List (Str × Int) := ([("!", 54), ("!=", 28), ("%", 24), ("%=", 40), ("&", 19), ("&=", 41), ("(", 7), (")", 8), ("*", 16), ("**", 35), ("**=", 46), ("*=", 38), ("+", 14), ("+=", 36), (",", 12), ("-", 15), ("-=", 37), ("->", 51), (".", 23), ("...", 52), ("/", 17), ("//", 47), ("//=", 48), ("/=", 39), (":", 11), (":=", 53), (";", 13), ("<", 20), ("<<", 33), ("<<=", 44), ("<=", 29), ("=", 22), ("==", 27), (">", 21), (">=", 30), (">>", 34), (">>=", 45), ("@", 49), ("@=", 50), ("[", 9), ("]", 10), ("^", 32), ("^=", 43), ("{", 25), ("|", 18), ("|=", 42), ("}", 26), ("~", 31)] : List (String × Int)).map fun p => (Str.ofString p.1, p.2)
def cutEnd (p : Str) : Str := Txt.slice p none (some (-1))
def shr : Nat → Str → Str
  | 0, p => p
  | n + 1, p => if decide (1 < p.length) && !kdpHas tokTab p then shr n (cutEnd p) else p
theorem cutEnd_toList (p : Str) (h : 1 ≤ p.length) : (cutEnd p).cps.toList = p.cps.toList.take (p.length - 1) := by
  have h1 : cutEnd p = StrLaws.sliceText p none (some (-1)) := rfl
  rw [h1, StrLaws.sliceText_neg_hi p none (by omega) (by omega), StrLaws.sliceText_to ⟨by omega, by simp only [Array.length_toList]; show -1 + (p.length : Int) ≤ (p.length : Int); omega⟩]
  have h2 : ((-1 : Int) + (p.length : Int) - 0).toNat = p.length - 1 := by omega
  rw [h2]; simp
theorem cutEnd_length (p : Str) (h : 1 ≤ p.length) : (cutEnd p).length = p.length - 1 := by
  have := congrArg List.length (cutEnd_toList p h)
  simp only [List.length_take, Array.length_toList] at this
  show (cutEnd p).cps.size = _
  rw [this]
  have : p.cps.size = p.length := rfl
  omega
theorem shr_stop (n : Nat) (p : Str) (h : (decide (1 < p.length) && !kdpHas tokTab p) = false) : shr n p = p := by
  cases n with
  | zero => rfl
  | succ n => unfold shr; rw [if_neg (by rw [h]; exact Bool.false_ne_true)]
section
variable {prog : Program} {w : World} {A : Around} {E : Value → Shared → Prop} {s : Shared} {name : Str} {scope : Scope} {f : Addr} {cd : Value} {h₀ : Heap} {L : Addr} {m : Str → Option Value} {news : List (Addr × Obj)} {Q : Flow → Shared → Prop}
abbrev pieceAt (m : Str → Option Value) (p : Str) (tp : Tok) : Str → Option Value := fun y => if y = Str.ofString "piece" then some (.str p tp) else m y
theorem found_while {p₀ : Str} {tp₀ : Tok} {lenE sliceE : Expr} {px1 px2 px3 px4 px5 px6 pst ppn pw : Pos} (F : Fr h₀ L s.heap m) (N : News h₀ L s.heap news) (hm : m (Str.ofString "piece") = some (.str p₀ tp₀)) (hl₀ : p₀.length ≤ 400)
  (T : StrTab prog w h₀ 57 (kdpD tokTab))
  (hk : scope.kind = .function) (hx1 : (envOf name scope L f cd).kindOf (Str.ofString "piece") = some .local)
  (hlen : ∀ (h : Heap) (tk : Nat) (p : Str) (tp : Tok) (E' : Value → Shared → Prop) (Q' : Value → Shared → Prop), p.length ≤ 400 → Fr h₀ L h (pieceAt m p tp) → News h₀ L h news → (∀ t tk', Q' (.int p.length t) { s with heap := h, toks := tk' }) → wpAny (model prog w) A (eval lenE (envOf name scope L f cd)) Q' E' { s with heap := h, toks := tk })
  (hslice : ∀ (h : Heap) (tk : Nat) (p : Str) (tp : Tok) (E' : Value → Shared → Prop) (Q' : Value → Shared → Prop), p.length ≤ 400 → Fr h₀ L h (pieceAt m p tp) → News h₀ L h news → (∀ h' t tk', Fr h₀ L h' (pieceAt m p tp) → News h₀ L h' news → Q' (.str (Txt.slice p none (some (-1))) t) { s with heap := h', toks := tk' }) → wpAny (model prog w) A (eval sliceE (envOf name scope L f cd)) Q' E' { s with heap := h, toks := tk })
  (hex : ∀ (h : Heap) (tk : Nat) (p : Str) (tp : Tok) (E' : Value → Shared → Prop) (Q' : Value → Shared → Prop), Fr h₀ L h (pieceAt m p tp) → Q' (.ref 57) { s with heap := h, toks := tk } → wpAny (model prog w) A (eval (.Name (Str.ofString "EXACT_TOKEN_TYPES") px2) (envOf name scope L f cd)) Q' E' { s with heap := h, toks := tk })
  (h : ∀ h' tk tp', Fr h₀ L h' (pieceAt m (shr p₀.length p₀) tp') → News h₀ L h' news → Q .next { s with heap := h', toks := tk })
  (hsw : swapsWith sliceE (some (.Name (Str.ofString "piece") ppn)) pst.line (envOf name scope L f cd) = pure false := by rfl)
  (hbm : behindInMarks .NotIn (.Name (Str.ofString "EXACT_TOKEN_TYPES") px2) = false := by with_unfolding_all rfl)
  (hbm2 : behindInMarks .Gt (.Constant (.int 1) 0 px5) = false := by with_unfolding_all rfl) :
  wpAny (model prog w) A (exec (.While (.BoolOp .And [.Compare lenE [.Gt] [.Constant (.int 1) 0 px5] px4, .Compare (.Name (Str.ofString "piece") px1) [.NotIn] [.Name (Str.ofString "EXACT_TOKEN_TYPES") px2] px3] px6) [.Assign [.Name (Str.ofString "piece") ppn] sliceE pst] [] pw) (envOf name scope L f cd)) Q E s := by
  have em : ∀ p tp p' tp', (fun y => if y = Str.ofString "piece" then some (Value.str p' tp') else pieceAt m p tp y) = pieceAt m p' tp' := fun p tp p' tp' => by
    funext y; unfold pieceAt; split <;> rfl
  have em0 : m = pieceAt m p₀ tp₀ := by
    funext y; unfold pieceAt; split
    · rename_i hy; rw [hy, hm]
    · rfl
  let I : Nat → Shared → Prop := fun n s₁ => ∃ h' tk p tp, s₁ = { s with heap := h', toks := tk } ∧ p.length = n ∧ n ≤ 400 ∧ shr n p = shr p₀.length p₀ ∧ Fr h₀ L h' (pieceAt m p tp) ∧ News h₀ L h' news
  refine wpAny_While (codeAny_whileLoop I ?_ p₀.length ⟨s.heap, s.toks, p₀, tp₀, rfl, rfl, hl₀, rfl, em0 ▸ F, N⟩)
  rintro n s₁ ⟨h', tk, p, tp, rfl, hp, hn, hs, F', N'⟩
  have leave : ∀ tk2, (decide (1 < p.length) && !kdpHas tokTab p) = false → Q .next { s with heap := h', toks := tk2 } := by
    intro tk2 hc
    rw [shr_stop n p hc] at hs
    rw [hs] at F'
    exact h h' tk2 tp F' N'
  have ex : kdpHas tokTab p = (PySem.Spec.lookup (PyData.str p) (kdpD tokTab)).isSome := (kdpD_isSome p tokTab).symm
  refine isTrue_and (wpAny_isTrue_Compare1 (hlen h' tk p tp _ _ (by omega) F' N' fun t tk' => wpAny_Constant_int (PyProof.Rows.gt_int (wpAny_truthy_bool ?_))) hbm2)
  by_cases h1 : (1 : Int) < (p.length : Int)
  · rw [if_pos (by simpa using h1)]
    refine isTrue_and (wpAny_isTrue_Compare1 (ld F' (if_pos rfl) (hex h' _ p tp _ _ F' (notin_strTab (T.keep F'.keep) (wpAny_truthy_bool ?_))) hk hx1) hbm)
    rw [← ex]
    cases hc : kdpHas tokTab p with
    | true =>
      simp only [Bool.not_true, Bool.false_eq_true, if_false]
      exact wpAny_execs_nil (leave _ (by rw [hc]; simp))
    | false =>
      simp only [Bool.not_false, if_true]
      refine isTrue_and_nil ?_
      simp only [if_true]
      refine wpAny_execs_cons (wpAny_Assign_Name (hslice h' _ p tp _ _ (by omega) F' N' fun h2 t2 tk2 F2 N2 => stN F2 N2 (fun h3 F3 N3 => wpAny_execs_nil ?_) hk hx1) hsw)
      have hlen1 : (cutEnd p).length = p.length - 1 := cutEnd_length p (by omega)
      refine ⟨n - 1, by omega, h3, _, cutEnd p, t2, rfl, by omega, by omega, ?_, ?_, N3⟩
      · rw [← hs]
        obtain ⟨j, rfl⟩ : ∃ j, n = j + 1 := ⟨n - 1, by omega⟩
        show shr j (cutEnd p) = _
        conv => rhs; unfold shr
        rw [if_pos (by rw [hc]; simp; omega)]
      · rw [em] at F3; exact F3
  · rw [if_neg (by simpa using h1)]
    simp only [Bool.false_eq_true, if_false]
    exact wpAny_execs_nil (leave _ (by rw [decide_eq_false (by omega)]; rfl))
theorem kdpLook_mem {c : List (Str × Int)} {k : Str} (h : kdpHas c k = true) : (k, kdpLook c k 0) ∈ c := by
  unfold kdpHas at h
  unfold kdpLook
  cases hf : c.find? (fun p => decide (p.1 = k)) with
  | none =>
    obtain ⟨p, hp, hk⟩ := List.any_eq_true.mp h
    exact absurd hk (by simpa using List.find?_eq_none.mp hf p hp)
  | some p =>
    have h1 := List.find?_some hf
    have h2 := List.mem_of_find?_eq_some hf
    simp only [decide_eq_true_eq] at h1
    show (k, p.2) ∈ c
    rw [← h1]; exact h2
theorem tokTab_range : ∀ q ∈ tokTab, (7 : Int) ≤ q.2 ∧ q.2 < 55 := by decide +kernel
theorem tok_range {p : Str} (h : kdpHas tokTab p = true) : (7 : Int) ≤ kdpLook tokTab p 0 ∧ kdpLook tokTab p 0 < 55 := tokTab_range _ (kdpLook_mem h)

theorem found_if {p : Str} {tp : Tok} {D : Addr} {vs : List Value} {ns : List Int} {nn : Nat} {rest : List (Addr × Obj)} {q1 q2 q3 q4 q5 q6 q7 q8 q9 q10 q11 q12 q13 q14 q15 q16 q17 q18 q19 q20 : Pos}
  (F : Fr h₀ L s.heap m) (N : News h₀ L s.heap ((D, W.listOf vs.toArray nn) :: rest)) (hoff : ∀ q ∈ rest, q.1 ≠ D) (hi : IntsAre vs ns) (hn : ns.length = 48)
  (hm : m (Str.ofString "piece") = some (.str p tp)) (hmD : m (Str.ofString "found") = some (.ref D))
  (T : StrTab prog w h₀ 57 (kdpD tokTab))
  (hk : scope.kind = .function) (hx1 : (envOf name scope L f cd).kindOf (Str.ofString "piece") = some .local) (hx2 : (envOf name scope L f cd).kindOf (Str.ofString "found") = some .local) (hx3 : (envOf name scope L f cd).kindOf (Str.ofString "kind") = some .local)
  (hex : ∀ (px : Pos) (h : Heap) (tk : Nat) (E' : Value → Shared → Prop) (Q' : Value → Shared → Prop), Fr h₀ L h m → Q' (.ref 57) { s with heap := h, toks := tk } → wpAny (model prog w) A (eval (.Name (Str.ofString "EXACT_TOKEN_TYPES") px) (envOf name scope L f cd)) Q' E' { s with heap := h, toks := tk })
  (h1 : kdpHas tokTab p = true → ∀ h' tk tkd u, Fr h₀ L h' (fun y => if y = Str.ofString "kind" then some (.int (kdpLook tokTab p 0 - 7) tkd) else m y) →
     News h₀ L h' ((D, W.listOf (vs.set (kdpLook tokTab p 0 - 7).toNat (.int (ns.getD (kdpLook tokTab p 0 - 7).toNat 0 + 1) u)).toArray nn) :: rest) →
     IntsAre (vs.set (kdpLook tokTab p 0 - 7).toNat (.int (ns.getD (kdpLook tokTab p 0 - 7).toNat 0 + 1) u)) (ns.set (kdpLook tokTab p 0 - 7).toNat (ns.getD (kdpLook tokTab p 0 - 7).toNat 0 + 1)) → Q .next { s with heap := h', toks := tk })
  (h2 : kdpHas tokTab p = false → ∀ tk, Q .next { s with toks := tk })
  (hbm : behindInMarks .In (.Name (Str.ofString "EXACT_TOKEN_TYPES") q2) = false := by with_unfolding_all rfl)
  (hsw1 : swapsWith (.BinOp (.Subscript (.Name (Str.ofString "EXACT_TOKEN_TYPES") q5) (.Name (Str.ofString "piece") q6) q7) .Sub (.Constant (.int 7) 0 q8) q9) (some (.Name (Str.ofString "kind") q4)) q10.line (envOf name scope L f cd) = pure false := by rfl)
  (hsw2 : swapsWith (.BinOp (.Subscript (.Name (Str.ofString "found") q14) (.Name (Str.ofString "kind") q15) q16) .Add (.Constant (.int 1) 0 q17) q18) (some (.Subscript (.Name (Str.ofString "found") q11) (.Name (Str.ofString "kind") q12) q13)) q19.line (envOf name scope L f cd) = pure false := by rfl) :
  wpAny (model prog w) A (exec (.If (.Compare (.Name (Str.ofString "piece") q1) [.In] [.Name (Str.ofString "EXACT_TOKEN_TYPES") q2] q3)
    [.Assign [.Name (Str.ofString "kind") q4] (.BinOp (.Subscript (.Name (Str.ofString "EXACT_TOKEN_TYPES") q5) (.Name (Str.ofString "piece") q6) q7) .Sub (.Constant (.int 7) 0 q8) q9) q10,
     .Assign [.Subscript (.Name (Str.ofString "found") q11) (.Name (Str.ofString "kind") q12) q13] (.BinOp (.Subscript (.Name (Str.ofString "found") q14) (.Name (Str.ofString "kind") q15) q16) .Add (.Constant (.int 1) 0 q17) q18) q19] [] q20) (envOf name scope L f cd)) Q E s := by
  have ex : kdpHas tokTab p = (PySem.Spec.lookup (PyData.str p) (kdpD tokTab)).isSome := (kdpD_isSome p tokTab).symm
  refine wpAny_If (wpAny_isTrue_Compare1 (ld F hm (hex q2 s.heap s.toks _ _ F (in_strTab (T.keep F.keep) (wpAny_truthy_bool ?_))) hk hx1) hbm)
  rw [← ex]
  cases hc : kdpHas tokTab p with
  | false =>
    simp only [Bool.false_eq_true, if_false]
    exact wpAny_execs_nil (h2 hc _)
  | true =>
    simp only [if_true]
    obtain ⟨r1, r2⟩ := tok_range hc
    have b0 : (0 : Int) ≤ kdpLook tokTab p 0 - 7 := by omega
    have b1 : kdpLook tokTab p 0 - 7 < (ns.length : Int) := by rw [hn]; omega
    have b2 : kdpLook tokTab p 0 - 7 < 2 ^ 63 := by omega
    refine wpAny_execs_cons (wpAny_Assign_Name (wpAny_BinOp (Subscript_ (hex q5 s.heap _ _ _ F (ld F hm (kdp_item (T.keep F.keep) hc fun t => wpAny_Constant_int (sub_int ?_)) hk hx1)))) hsw1)
    refine stN F N (fun h3 F3 N3 => wpAny_execs_cons ?_) hk hx3
    refine wpAny_Assign_Subscript (wpAny_BinOp (Subscript_ (ld F3 ((if_neg (by decide +kernel)).trans hmD) (ld F3 (if_pos rfl) (ksa_sub N3 (.head _) hi b0 b1 b2 fun t => wpAny_Constant_int (add_int ?_)) hk hx3) hk hx2))) hsw2
    refine ld F3 ((if_neg (by decide +kernel)).trans hmD) (ld F3 (if_pos rfl) (ksa_set F3 N3 (.head hoff) hi b0 b1 b2 fun h4 F4 N4 hi4 _ _ => ?_) hk hx3) hk hx2
    exact wpAny_execs_nil (h1 hc h4 _ _ _ F4 N4 hi4)
end
end Mine
end
section
open PySem PySem.W PyProof.Rows
namespace Mine
def PageIs (x : Str) : Prop := x = x
def slice3 (x : Str) (k : Int) : Str := Txt.slice x (some k) (some (k + 3))
def shrP (p : Str) : Str := shr p.length p
def bumpAt (ns : List Int) (i : Nat) (d : Int) : List Int := ns.set i (ns.getD i 0 + d)
def fStep (page : Str) (ns : List Int) (k : Int) : List Int :=
  if kdpHas tokTab (shrP (slice3 page k)) = true then bumpAt ns (kdpLook tokTab (shrP (slice3 page k)) 0 - 7).toNat 1 else ns
def foundF (page : Str) : List Int := (rangeKs 0 page.length).foldl (fStep page) (List.replicate 48 0)
theorem bumpAt_length (ns : List Int) (i : Nat) (d : Int) : (bumpAt ns i d).length = ns.length := List.length_set ..
theorem fStep_length (page : Str) (ns : List Int) (k : Int) : (fStep page ns k).length = ns.length := by
  unfold fStep; split
  · exact bumpAt_length ..
  · rfl
section
variable {prog : Program} {w : World} {A : Around} {E : Value → Shared → Prop} {s : Shared} {env : Env} {h₀ : Heap} {body : List Stmt} {Q : Flow → Shared → Prop}
def foundStored : List Str := [Str.ofString "piece", Str.ofString "kind"]
def FoundEnd (h₀ : Heap) (L : Addr) (m₀ : Str → Option Value) (D : Addr) (nn : Nat) (rest own : List (Addr × Obj)) (ns' : List Int) (s₁ : Shared) (f : Flow) (s' : Shared) : Prop :=
  f = .next ∧ ∃ vs' m' h' tk', s' = { s₁ with heap := h', toks := tk' } ∧ IntsAre vs' ns' ∧ Fr h₀ L h' m' ∧ News h₀ L h' ((D, W.listOf vs'.toArray nn) :: (rest ++ own)) ∧ ∀ z, z ≠ Str.ofString "k" → foundStored.contains z = false → m' z = m₀ z
theorem FoundEnd.intro {L : Addr} {m₀ m' : Str → Option Value} {D : Addr} {nn : Nat} {rest own : List (Addr × Obj)} {ns' : List Int} {s₁ : Shared} {vs' : List Value} {h' : Heap} {tk' : Nat} (hi : IntsAre vs' ns') (F : Fr h₀ L h' m') (N : News h₀ L h' ((D, W.listOf vs'.toArray nn) :: (rest ++ own)))
  (hz : ∀ z, z ≠ Str.ofString "k" → z ≠ Str.ofString "piece" → z ≠ Str.ofString "kind" → m' z = m₀ z) : FoundEnd h₀ L m₀ D nn rest own ns' s₁ .next { s₁ with heap := h', toks := tk' } :=
  ⟨rfl, vs', m', h', tk', rfl, hi, F, N, fun z h1 h2 => by
    simp only [foundStored, List.contains_cons, List.contains_nil, Bool.or_false, Bool.or_eq_false_iff, beq_eq_false_iff_ne] at h2
    exact hz z h1 h2.1 h2.2⟩
theorem fStep_has {page : Str} {ns : List Int} {k : Int} {vs : List Value} (hc : kdpHas tokTab (shrP (slice3 page k)) = true) (hi : IntsAre vs (ns.set (kdpLook tokTab (shrP (slice3 page k)) 0 - 7).toNat (ns.getD (kdpLook tokTab (shrP (slice3 page k)) 0 - 7).toNat 0 + 1))) : IntsAre vs (fStep page ns k) := by
  unfold fStep; rw [if_pos hc]; exact hi
theorem fStep_not {page : Str} {ns : List Int} {k : Int} {vs : List Value} (hc : kdpHas tokTab (shrP (slice3 page k)) = false) (hi : IntsAre vs ns) : IntsAre vs (fStep page ns k) := by
  unfold fStep; rw [if_neg (by rw [hc]; exact Bool.false_ne_true)]; exact hi
theorem fs_no {z : Str} (h2 : z ≠ Str.ofString "piece") (h3 : z ≠ Str.ofString "kind") : foundStored.contains z = false := by
  simp only [foundStored, List.contains_cons, List.contains_nil, Bool.or_false, Bool.or_eq_false_iff, beq_eq_false_iff_ne]
  exact ⟨h2, h3⟩
theorem found_range {page : Str} (hpg : PageIs page) {r D : Addr} {t₀ u₀ v₀ : Tok} {vs₀ : List Value} {ns₀ : List Int} {nn : Nat} {rest : List (Addr × Obj)} {m₀ : Str → Option Value}
  (hh : A.handled = none) (hr : IsRange s.heap r 0 (page.length : Nat) 1 t₀ u₀ v₀) (hl : page.length ≤ 400) (F : Fr h₀ env.locals s.heap m₀) (N : News h₀ env.locals s.heap ((D, W.listOf vs₀.toArray nn) :: rest)) (hrest : ∀ q ∈ rest, q.1 ≠ D) (hi : IntsAre vs₀ ns₀) (h0 : ns₀ = List.replicate 48 0)
  (turn : ∀ (vs : List Value) (ns : List Int) (k : Int) (t : Tok) (u : Str → Option Value) (h : Heap) (tk : Nat) (own : List (Addr × Obj)), 0 ≤ k → k < (page.length : Nat) → IntsAre vs ns → ns.length = 48 → (∀ q ∈ rest ++ own, q.1 ≠ D) →
     Fr h₀ env.locals h (fun y => if y = Str.ofString "k" then some (.int k t) else if foundStored.contains y then u y else m₀ y) → News h₀ env.locals h ((D, W.listOf vs.toArray nn) :: (rest ++ own)) →
     wpAny (model prog w) A (execs body env) (FoundEnd h₀ env.locals m₀ D nn rest own (fStep page ns k) { s with heap := h, toks := tk }) E { s with heap := h, toks := tk })
  (done : ∀ (vs : List Value) (u : Str → Option Value) (h : Heap) (tk : Nat), IntsAre vs (foundF page) → Fr h₀ env.locals h (fun y => if y = Str.ofString "k" then u y else if foundStored.contains y then u y else m₀ y) → News h₀ env.locals h ((D, W.listOf vs.toArray nn) :: rest) → Q .next { s with heap := h, toks := tk }) :
  wpAny (model prog w) A (pyIter (.ref r)) (fun it s₂ => LoopAtV prog w A h₀ env (Str.ofString "k") body Q E it s₂) E s := by
  subst h0
  have hn : Builtin.Range.rangeSize 0 (page.length : Nat) 1 = ((page.length : Nat) : Int) := rangeSize_nat _ _
  have hsm : Builtin.Range.small 0 (page.length : Nat) 1 = true := small_one (by omega) (by omega) (by omega) (by omega)
  refine kst_range (σ := List Value × List Int) (n := page.length) (fun c => (D, W.listOf c.1.toArray nn) :: rest) (fun _ => []) (fun c => IntsAre c.1 c.2 ∧ c.2.length = 48) foundStored
    (fun pre c => c.2 = pre.foldl (fStep page) (List.replicate 48 0)) (vs₀, List.replicate 48 0) hh hr hsm hn F N ⟨hi, by simp⟩ (by intro p hp; cases hp) rfl ?_ ?_
  · rintro ⟨vs, ns⟩ pre k t u h tk own hk hpl hoff ⟨hi', hlen⟩ hP F' N'
    have hoffD : ∀ q ∈ rest ++ own, q.1 ≠ D := fun q hq => (List.mem_append.mp hq).elim (hrest q) (hoff.ne (.head _) q)
    refine wpAny_mono (turn vs ns k t u h tk own (by omega) (by omega) hi' hlen hoffD F' N') (fun f s' hE => ?_) fun _ _ e => e
    obtain ⟨rfl, vs', m', h', tk', rfl, hi2, F2, N2, hz⟩ := hE
    refine kst_end (x := Str.ofString "k") (vs', fStep page ns k) F2 N2 ?_ ?_ rfl ⟨hi2, by rw [fStep_length]; exact hlen⟩ (by intro p hp; cases hp) (fun z h1 _ h3 => hz z h1 h3) ?_
    · intro p hp
      rcases List.mem_cons.mp hp with rfl | hp
      · exact .head _
      · exact .tail _ (List.mem_append_left _ hp)
    · intro p hp; exact .tail _ (List.mem_append_right _ hp)
    · show fStep page ns k = _
      rw [List.foldl_append]
      have : ns = _ := hP
      rw [this]; rfl
  · rintro ⟨vs, ns⟩ u h tk ⟨hi', _⟩ hP F' N'
    have : ns = foundF page := hP
    subst this
    exact done vs u h tk hi' F' N'
end
end Mine
end
noncomputable section
open PySem PySem.W PyProof.Rows
namespace Mine
local macro_rules | `(tactic| walk_at "none") => `(tactic| fail)
theorem tokStr (w : World) {h : Heap} (X : (hd.heap_39 w.params).In h) : StrTab PySem.Challenge.rw_pg0200_01.row.prog w h 57 (kdpD tokTab) := by
  have e : kdpD tokTab = (tokTab.map fun p => (p.1, PyData.int p.2)).map fun p => (PyData.str p.1, p.2) := by
    unfold kdpD; rw [List.map_map]; rfl
  rw [e]
  exact KTD.strTab_of_look _ w (get := fun a => (hd.heap_39 w.params).lookup a) (fun a o ho => X a o ho) (by kernel_rfl) (by decide +kernel) (by kernel_rfl)
local macro_rules | `(tactic| walk_at "ite") => `(tactic| (k_closed; k_dflt (first | (refine' ite_pos ?c ?_; (case c => decide)) | (refine' ite_neg ?c ?_; (case c => decide)))))
local macro_rules | `(tactic| k_all) => `(tactic| exact all_ne (by assumption) (by omega))
local macro_rules | `(tactic| walk_at "pyIter ref") => `(tactic| (k_here; refine' Stop.of ?_))
local macro_rules | `(tactic| walk_at "exec If") => `(tactic| (k_here; refine' Stop.of ?_))
local macro_rules | `(tactic| walk_at "exec") => `(tactic| (k_here; (with_reducible show wpAny _ _ (exec (Stmt.While _ _ _ _) _) _ _ _); refine' Stop.of ?_))
set_option maxRecDepth 100000 in
set_option maxHeartbeats 400000 in
theorem found0 (w : World) (page : Str) (th : Tok) (news : List (Addr × Obj)) (hl : page.length ≤ 400) (hpg : PageIs page) :
  (hd.heap_39 w.params = hd.heap_39 w.params) ∧ CallOk w 92 [.str page th] news (fun v new => ∃ D vs nn, v = .ref D ∧ new = [(D, W.listOf vs.toArray nn)] ∧ IntsAre vs (foundF page)) := by
  unfold CallOk
  k_fill
  refine ⟨rfl, ?_⟩
  intro mean mg mb cn cs a ccd cl A₀ base h₀ L m s Q E B F X N T hcs hpos hret
  obtain ⟨ck, cnn, cg, cc, cm⟩ := cs
  obtain rfl : ck = .function := hcs
  k_steps
  refine' Stop.go ?_
  refine' found_range ?pgx8 ?hhx8 ?hrx8 ?hlx8 ?Fx8 ?Nx8 ?hrestx8 ?hix8 ?h0x8 (fun vs' ns' k' t' u' h' tk' own' hk0' hk1' hi' hn' hoff' F' N' => ?_) (fun vs' u' h' tk' hi' F' N' => ?_)
  (case pgx8 => with_reducible assumption)
  (case hhx8 => rfl)
  (case hrx8 => k_asm)
  (case hlx8 => with_reducible assumption)
  (case Fx8 => k_asm)
  (case Nx8 => k_asm)
  (case hrestx8 => first | k_all | fail)
  (case hix8 => with_reducible assumption)
  (case h0x8 => decide +kernel)
  (all_goals (try k_fold))
  · k_steps
    refine' Stop.go ?_
    refine' found_while ?Fx9 ?Nx9 ?hmx9 ?hlx9 ?Tx9 ?hkx9 ?hx1x9 ?hlenx9 ?hslicex9 ?hexx9 (fun h' tk' tp' F' N' => ?_) ?hswx9 ?hbmx9 ?hbm2x9
    (case Fx9 => k_asm)
    (case Nx9 => k_asm)
    (case hmx9 => with_unfolding_all rfl)
    (case hlx9 => exact Nat.le_trans (PyProof.Txt.length_slice_le _ _ _) (by with_reducible assumption))
    (case Tx9 => exact tokStr _ (by assumption))
    (case hkx9 => rfl)
    (case hx1x9 => rfl)
    (case hlenx9 => intro h' tk' p' tp' E' Q' hl' F' N' hq'; k_steps; apply hq')
    (case hslicex9 => intro h' tk' p' tp' E' Q' hl' F' N' hq'; k_steps; (apply hq' <;> assumption))
    (case hexx9 => intro h' tk' p' tp' E' Q' F' hq'; k_steps; exact hq')
    (case hswx9 => rfl)
    (case hbmx9 => with_unfolding_all rfl)
    (case hbm2x9 => with_unfolding_all rfl)
    k_steps
    refine' Stop.go ?_
    refine' found_if ?Fx10 ?Nx10 ?hoffx10 ?hix10 ?hnx10 ?hmx10 ?hmDx10 ?Tx10 ?hkx10 ?hx1x10 ?hx2x10 ?hx3x10 ?hexx10 (fun hc' h' tk' tkd' u' F' N' hi' => ?_) (fun hc' tk' => ?_) ?hbmx10 ?hsw1x10 ?hsw2x10
    (case Fx10 => k_asm)
    (case Nx10 => k_asm)
    (case hoffx10 => with_reducible assumption)
    (case hix10 => with_reducible assumption)
    (case hnx10 => with_reducible assumption)
    (case hmx10 => exact if_pos rfl)
    (case hmDx10 => with_unfolding_all rfl)
    (case Tx10 => exact tokStr _ (by assumption))
    (case hkx10 => rfl)
    (case hx1x10 => rfl)
    (case hx2x10 => rfl)
    (case hx3x10 => rfl)
    (case hexx10 => intro px' h' tk' E' Q' F' hq'; k_steps; exact hq')
    (case hbmx10 => with_unfolding_all rfl)
    (case hsw1x10 => rfl)
    (case hsw2x10 => rfl)
    · k_steps
      refine' FoundEnd.intro ?hix11 ?Fx11 ?Nx11 ?hzx11
      (case hix11 => exact fStep_has (by assumption) (by assumption))
      (case Fx11 => k_asm)
      (case Nx11 => k_asm)
      (case hzx11 => intro z h1 h2 h3; simp only [pieceAt, if_neg h1, if_neg h2, if_neg h3, fs_no h2 h3, Bool.false_eq_true, if_false])
    · k_steps
      refine' FoundEnd.intro ?hix12 ?Fx12 ?Nx12 ?hzx12
      (case hix12 => exact fStep_not (by assumption) (by assumption))
      (case Fx12 => k_asm)
      (case Nx12 => k_asm)
      (case hzx12 => intro z h1 h2 h3; simp only [pieceAt, if_neg h1, if_neg h2, if_neg h3, fs_no h2 h3, Bool.false_eq_true, if_false])
  k_steps
  refine hret _ [(_, _)] _ _ ⟨_, _, 0, rfl, rfl, by with_reducible assumption⟩ (by with_reducible assumption) ?_
  rename News _ _ _ (_ :: _ :: _) => kN
  intro p hp
  exact kN p (by (rcases List.mem_cons.mp hp with rfl | hp); (· exact List.Mem.head _); (repeat first | exact hp | refine List.Mem.tail _ ?_))
theorem found_ok (w : World) (page : Str) (th : Tok) (news : List (Addr × Obj)) (hl : page.length ≤ 400) :
  CallOk w 92 [.str page th] news (fun v new => ∃ D vs nn, v = .ref D ∧ new = [(D, W.listOf vs.toArray nn)] ∧ IntsAre vs (foundF page)) := (found0 w page th news hl rfl).2
end Mine
end
section
open PySem PySem.W PyProof.Rows
namespace Mine
def opsL : List Str := (["(", ")", "[", "]", ":", ",", ";", "+", "-", "*", "/", "|", "&", "<", ">", "=", ".", "%", "{", "}", "==", "!=", "<=", ">=", "~", "^", "<<", ">>", "**", "+=", "-=", "*=", "/=", "%=", "&=", "|=", "^=", "<<=", ">>=", "**=", "//", "//=", "@", "@=", "->", "...", ":=", "!"] : List String).map Str.ofString
def opsTab : List (Str × Int) := opsL.zipIdx.map fun p => (p.1, (p.2 : Int))
def sgn (n : Int) : Str := ⟨#[n.toNat]⟩
/-- the inner loop: what the signs of a window add -/
def innerF (tb : List (Str × Str)) : List Int → Str → List Int → List Int
  | [], _, ns => ns
  | n :: r, p, ns => if (lkS tb (sgn n)).isSome = true then ns
      else innerF tb r (p ++ sgn n) (if kdpHas opsTab (p ++ sgn n) = true then bumpAt ns (kdpLook opsTab (p ++ sgn n) 0).toNat 1 else ns)
theorem opsTab_range : ∀ q ∈ opsTab, (0 : Int) ≤ q.2 ∧ q.2 < 48 := by decide +kernel
theorem op_range {p : Str} (h : kdpHas opsTab p = true) : (0 : Int) ≤ kdpLook opsTab p 0 ∧ kdpLook opsTab p 0 < 48 := opsTab_range _ (kdpLook_mem h)
theorem innerF_length (tb : List (Str × Str)) : ∀ (l : List Int) (p : Str) (ns : List Int), (innerF tb l p ns).length = ns.length
  | [], _, _ => rfl
  | n :: r, p, ns => by
    unfold innerF
    split
    · rfl
    · rw [innerF_length tb r]
      split
      · exact bumpAt_length ..
      · rfl
section
variable {prog : Program} {w : World} {A : Around} {E : Value → Shared → Prop} {s : Shared} {name : Str} {scope : Scope} {f : Addr} {cd : Value} {h₀ : Heap} {L : Addr} {m : Str → Option Value} {Q : Flow → Shared → Prop}
/-- `X[places[e]] = X[places[e]] + 1` -/
theorem bump_tab {X : Str} {D Dp : Addr} {vs : List Value} {ns : List Int} {nn : Nat} {rest : List (Addr × Obj)} {p : Str} {e1 e2 : Expr} {q1 q2 q3 q4 q5 q6 q7 q8 q9 q10 q11 : Pos} {env : Env}
  (F : Fr h₀ L s.heap m) (N : News h₀ L s.heap ((D, W.listOf vs.toArray nn) :: rest)) (hoff : ∀ q ∈ rest, q.1 ≠ D) (hi : IntsAre vs ns) (hn : ns.length = 48) (hp : kdpHas opsTab p = true)
  (hX : ∀ (px : Pos) (h : Heap) (tk : Nat) (Q' E' : Value → Shared → Prop), Fr h₀ L h m → Q' (.ref D) { s with heap := h, toks := tk } → wpAny (model prog w) A (eval (.Name X px) env) Q' E' { s with heap := h, toks := tk })
  (hP : ∀ (px : Pos) (h : Heap) (tk : Nat) (Q' E' : Value → Shared → Prop), Fr h₀ L h m → Q' (.ref Dp) { s with heap := h, toks := tk } → wpAny (model prog w) A (eval (.Name (Str.ofString "places") px) env) Q' E' { s with heap := h, toks := tk })
  (TP : ∀ h, News h₀ L h rest → StrTab prog w h Dp (kdpD opsTab))
  (he1 : ∀ (h : Heap) (tk : Nat) (Q' E' : Value → Shared → Prop), Fr h₀ L h m → (∀ t tk', Q' (.str p t) { s with heap := h, toks := tk' }) → wpAny (model prog w) A (eval e1 env) Q' E' { s with heap := h, toks := tk })
  (he2 : ∀ (h : Heap) (tk : Nat) (Q' E' : Value → Shared → Prop), Fr h₀ L h m → (∀ t tk', Q' (.str p t) { s with heap := h, toks := tk' }) → wpAny (model prog w) A (eval e2 env) Q' E' { s with heap := h, toks := tk })
  (hret : ∀ h' tk u, Fr h₀ L h' m → News h₀ L h' ((D, W.listOf (vs.set (kdpLook opsTab p 0).toNat (.int (ns.getD (kdpLook opsTab p 0).toNat 0 + 1) u)).toArray nn) :: rest) →
     IntsAre (vs.set (kdpLook opsTab p 0).toNat (.int (ns.getD (kdpLook opsTab p 0).toNat 0 + 1) u)) (bumpAt ns (kdpLook opsTab p 0).toNat 1) → Q .next { s with heap := h', toks := tk })
  (hsw : swapsWith (.BinOp (.Subscript (.Name X q1) (.Subscript (.Name (Str.ofString "places") q2) e1 q3) q4) .Add (.Constant (.int 1) 0 q5) q6) (some (.Subscript (.Name X q7) (.Subscript (.Name (Str.ofString "places") q8) e2 q9) q10)) q11.line env = pure false)
  (hs1 : ∀ t, subscripted e1 false (.ref Dp) (.str p t) = operate [.ref Dp, .str p t] (getItem (.ref Dp) (.str p t)))
  (hs2 : ∀ t, subscripted e2 false (.ref Dp) (.str p t) = operate [.ref Dp, .str p t] (getItem (.ref Dp) (.str p t))) :
  wpAny (model prog w) A (exec (.Assign [.Subscript (.Name X q7) (.Subscript (.Name (Str.ofString "places") q8) e2 q9) q10] (.BinOp (.Subscript (.Name X q1) (.Subscript (.Name (Str.ofString "places") q2) e1 q3) q4) .Add (.Constant (.int 1) 0 q5) q6) q11) env) Q E s := by
  obtain ⟨r1, r2⟩ := op_range hp
  have b1 : kdpLook opsTab p 0 < (ns.length : Int) := by rw [hn]; exact r2
  have b2 : kdpLook opsTab p 0 < 2 ^ 63 := by omega
  have Nr : News h₀ L s.heap rest := fun q hq => N q (.tail _ hq)
  have T := TP s.heap Nr
  refine wpAny_Assign_Subscript (wpAny_BinOp (Subscript_ (hX q1 s.heap s.toks _ _ F (Subscript_ (hP q2 s.heap s.toks _ _ F (he1 s.heap s.toks _ _ F fun t tk' => ?_)))))) hsw
  refine kdp_item T hp (fun t2 => ?_) (hs1 _)
  refine ksa_sub N (.head _) hi r1 b1 b2 fun t3 => wpAny_Constant_int (add_int ?_)
  refine hX q7 s.heap _ _ _ F (Subscript_ (hP q8 s.heap _ _ _ F (he2 s.heap _ _ _ F fun t4 tk4 => ?_)))
  refine kdp_item T hp (fun t5 => ?_) (hs2 _)
  exact ksa_set F N (.head hoff) hi r1 b1 b2 fun h4 F4 N4 hi4 _ _ => hret h4 _ _ F4 N4 hi4
theorem fr_canon {h : Heap} {m' : Str → Option Value} (a b : Str) (hz : ∀ z, z ≠ a → z ≠ b → m' z = m z) (F : Fr h₀ L h m') : Fr h₀ L h (fun y => if y = a then m' y else if y = b then m' y else m y) := by
  have e : (fun y => if y = a then m' y else if y = b then m' y else m y) = m' := by
    funext y
    by_cases h1 : y = a
    · rw [if_pos h1]
    · rw [if_neg h1]
      by_cases h2 : y = b
      · rw [if_pos h2]
      · rw [if_neg h2]; exact (hz y h1 h2).symm
  rw [e]; exact F
open KStt in
theorem due_inner {cl : List (Str × Addr)} {D Dp Ds : Addr} {tb : List (Str × Str)} {vs : List Value} {ns : List Int} {nn : Nat} {rest : List (Addr × Obj)} {p₀ w3 : Str} {tp₀ : Tok} {iterE : Expr} {q1 q2 q3 q4 q5 q6 q7 q8 q9 q10 q11 q12 q13 q14 q15 q16 q17 q18 q19 q20 q21 q22 q23 q24 q25 q26 q27 q28 q29 : Pos}
  (F : Fr h₀ L s.heap m) (N : News h₀ L s.heap ((D, W.listOf vs.toArray nn) :: rest)) (hoff : ∀ q ∈ rest, q.1 ≠ D) (hi : IntsAre vs ns) (hn : ns.length = 48)
  (hpc : m (Str.ofString "piece") = some (.str p₀ tp₀)) (hp₀ : p₀ = Str.empty) (hsp : m (Str.ofString "spelled") = some (.ref Ds)) (hpl : m (Str.ofString "places") = some (.ref Dp)) (hst : m (Str.ofString "stands") = some (.ref D))
  (TS : ∀ h, News h₀ L h rest → StrTab prog w h Ds (tabS tb)) (TP : ∀ h, News h₀ L h rest → StrTab prog w h Dp (kdpD opsTab)) (hw : w3.length ≤ 400) (hh : A.handled = none)
  (hk : scope.kind = .function) (k1 : (envX name scope L f cd cl).kindOf (Str.ofString "sign") = some .local) (k2 : (envX name scope L f cd cl).kindOf (Str.ofString "piece") = some .local) (k3 : (envX name scope L f cd cl).kindOf (Str.ofString "spelled") = some .local)
  (k4 : (envX name scope L f cd cl).kindOf (Str.ofString "places") = some .local) (k5 : (envX name scope L f cd cl).kindOf (Str.ofString "stands") = some .local)
  (hit : ∀ Q' : Value → Shared → Prop, (∀ h' t tk', Fr h₀ L h' m → News h₀ L h' ((D, W.listOf vs.toArray nn) :: rest) → Q' (.str w3 t) { s with heap := h', toks := tk' }) → wpAny (model prog w) A (eval iterE (envX name scope L f cd cl)) Q' E s)
  (hret : ∀ (vs' : List Value) (u : Str → Option Value) (h' : Heap) (tk : Nat), IntsAre vs' (innerF tb (codes w3) Str.empty ns) → Fr h₀ L h' (fun y => if y = Str.ofString "sign" then u y else if y = Str.ofString "piece" then u y else m y) → News h₀ L h' ((D, W.listOf vs'.toArray nn) :: rest) → Q .next { s with heap := h', toks := tk })
  (hE : PassesOwn (model prog w) A (envX name scope L f cd cl) E)
  (hs : ∀ x, foldedSetIterable iterE (envX name scope L f cd cl) x = pure x)
  (hb1 : behindInMarks .In (.Name (Str.ofString "spelled") q2) = false) (hb2 : behindInMarks .In (.Name (Str.ofString "places") q11) = false)
  (hw1 : swapsWith (.BinOp (.Name (Str.ofString "piece") q6) .Add (.Name (Str.ofString "sign") q7) q8) (some (.Name (Str.ofString "piece") q5)) q9.line (envX name scope L f cd cl) = pure false)
  (hw2 : swapsWith (.BinOp (.Subscript (.Name (Str.ofString "stands") q13) (.Subscript (.Name (Str.ofString "places") q14) (.Name (Str.ofString "piece") q15) q16) q17) .Add (.Constant (.int 1) 0 q18) q19) (some (.Subscript (.Name (Str.ofString "stands") q20) (.Subscript (.Name (Str.ofString "places") q21) (.Name (Str.ofString "piece") q22) q23) q24)) q25.line (envX name scope L f cd cl) = pure false) :
  wpAny (model prog w) A (exec (.For (.Name (Str.ofString "sign") q26) iterE
    [.If (.Compare (.Name (Str.ofString "sign") q1) [.In] [.Name (Str.ofString "spelled") q2] q3) [.Break q4] [] q27,
     .Assign [.Name (Str.ofString "piece") q5] (.BinOp (.Name (Str.ofString "piece") q6) .Add (.Name (Str.ofString "sign") q7) q8) q9,
     .If (.Compare (.Name (Str.ofString "piece") q10) [.In] [.Name (Str.ofString "places") q11] q12)
       [.Assign [.Subscript (.Name (Str.ofString "stands") q20) (.Subscript (.Name (Str.ofString "places") q21) (.Name (Str.ofString "piece") q22) q23) q24] (.BinOp (.Subscript (.Name (Str.ofString "stands") q13) (.Subscript (.Name (Str.ofString "places") q14) (.Name (Str.ofString "piece") q15) q16) q17) .Add (.Constant (.int 1) 0 q18) q19) q25] [] q28] [] q29) (envX name scope L f cd cl)) Q E s := by
  subst hp₀
  have hp1 : ((envX name scope L f cd cl).scope.kind == .class || ((envX name scope L f cd cl).scope.kind == .module && (envX name scope L f cd cl).locals != (envX name scope L f cd cl).globals)) = false := by
    show (scope.kind == .class || (scope.kind == .module && L != mainGlobals)) = false
    rw [hk]; rfl
  refine For_invVF (h₀ := h₀) (m := m) F k1 hp1 (hit _ fun h₁ t₁ tk₁ F₁ N₁ => ?_) hs hE
  refine kst_text (σ := List Value × List Int × Str × Tok) (env := envX name scope L f cd cl) (m₀ := m) (fun c => (D, W.listOf c.1.toArray nn) :: rest) (fun c => [(Str.ofString "piece", .str c.2.2.1 c.2.2.2)])
    (fun c => IntsAre c.1 c.2.1 ∧ c.2.1.length = 48) [Str.ofString "piece"]
    (fun pre c => c.2.2.1.length = pre.length ∧ ∀ r, codes w3 = pre ++ r → innerF tb (codes w3) Str.empty ns = innerF tb r c.2.2.1 c.2.1) (vs, ns, Str.empty, tp₀) hh F₁ N₁ ⟨hi, hn⟩ ?_ ⟨rfl, ?_⟩ ?_ ?_
  · intro p hp
    rw [List.mem_singleton.mp hp]; exact hpc
  · intro r hr
    rw [List.nil_append] at hr
    rw [hr]
  · rintro ⟨vs1, ns1, p1, tp1⟩ pre post n t u h2 tk2 own hcw hoff2 ⟨hi1, hn1⟩ ⟨hpl1, hinv⟩ F2 N2
    have hofft : ∀ q ∈ rest ++ own, q.1 ≠ D := fun q hq => (List.mem_append.mp hq).elim (hoff q) (hoff2.ne (.head _) q)
    have Nrest : ∀ h, News h₀ L h (rest ++ own) → News h₀ L h rest := fun h Nh q hq => Nh q (List.mem_append_left _ hq)
    have Nr : News h₀ L h2 rest := fun q hq => N2 q (.tail _ (List.mem_append_left _ hq))
    have hlen : p1.length ≤ 400 := by
      have h1 := congrArg List.length hcw
      rw [codes_length, List.length_append, List.length_cons] at h1
      have h2 : p1.length = pre.length := hpl1
      omega
    generalize hM : (fun y => if y = Str.ofString "sign" then some (Value.str ⟨#[n]⟩ t) else kstB (fun z => if List.contains [Str.ofString "piece"] z = true then u z else m z) [(Str.ofString "piece", Value.str p1 tp1)] y) = M2 at F2
    have hMs : M2 (Str.ofString "sign") = some (.str (sgn (n : Int)) t) := by rw [← hM]; rfl
    have hMp : M2 (Str.ofString "piece") = some (.str p1 tp1) := by
      rw [← hM]
      show (if Str.ofString "piece" = Str.ofString "sign" then _ else _) = _
      rw [if_neg (by decide +kernel)]; unfold kstB; exact if_pos rfl
    have hMz : ∀ z, z ≠ Str.ofString "sign" → z ≠ Str.ofString "piece" → M2 z = m z := by
      intro z h1 h2
      rw [← hM]
      show (if z = Str.ofString "sign" then _ else (if z = Str.ofString "piece" then _ else (if List.contains [Str.ofString "piece"] z = true then u z else m z))) = m z
      rw [if_neg h1, if_neg h2]
      have : List.contains [Str.ofString "piece"] z = false := by simp [h2]
      simp only [this, Bool.false_eq_true, if_false]
    have hM1 : M2 (Str.ofString "spelled") = some (.ref Ds) := (hMz _ (by decide +kernel) (by decide +kernel)).trans hsp
    have hM2 : M2 (Str.ofString "places") = some (.ref Dp) := (hMz _ (by decide +kernel) (by decide +kernel)).trans hpl
    have hM3 : M2 (Str.ofString "stands") = some (.ref D) := (hMz _ (by decide +kernel) (by decide +kernel)).trans hst
    refine wpAny_execs_cons (wpAny_If (wpAny_isTrue_Compare1 (nameX_L F2 hMs (nameX_L F2 hM1 (in_strTab (TS h2 Nr) (wpAny_truthy_bool ?_)) hk k3) hk k1) hb1))
    rw [lookup_tabS, Option.isSome_map]
    cases hc : (lkS tb (sgn (n : Int))).isSome with
    | true =>
      simp only [if_true]
      refine wpAny_execs_cons (wpAny_Break ?_)
      have hfin : innerF tb (codes w3) Str.empty ns = ns1 := by
        rw [hinv _ hcw]
        unfold innerF
        rw [if_pos hc]
      exact hret vs1 _ h2 _ (by rw [hfin]; exact hi1) (fr_canon (Str.ofString "sign") (Str.ofString "piece") hMz F2) (fun q hq => N2 q (List.mem_append_left _ hq))
    | false =>
      simp only [Bool.false_eq_true, if_false]
      refine wpAny_execs_nil (wpAny_execs_cons (wpAny_Assign_Name (wpAny_BinOp (nameX_L F2 hMp (nameX_L F2 hMs (PyProof.Rows.add_str (fun t3 tk3 => ?_) ?_) hk k1) hk k2)) hw1))
      · refine storeX_L F2 N2 (fun h4 F4 N4 => ?_) hk k2
        have eP : (fun y => if y = Str.ofString "piece" then some (Value.str (p1 ++ sgn (n : Int)) t3) else M2 y) (Str.ofString "places") = some (.ref Dp) := (if_neg (by decide +kernel)).trans hM2
        have eS : (fun y => if y = Str.ofString "piece" then some (Value.str (p1 ++ sgn (n : Int)) t3) else M2 y) (Str.ofString "stands") = some (.ref D) := (if_neg (by decide +kernel)).trans hM3
        have ex : kdpHas opsTab (p1 ++ sgn (n : Int)) = (PySem.Spec.lookup (PyData.str (p1 ++ sgn (n : Int))) (kdpD opsTab)).isSome := (kdpD_isSome _ opsTab).symm
        have hlp : (p1 ++ sgn (n : Int)).length = pre.length + 1 := by
          have h2 : p1.length = pre.length := hpl1
          show (p1.cps ++ (sgn (n : Int)).cps).size = _
          rw [Array.size_append]
          have h3 : p1.cps.size = p1.length := rfl
          rw [h3, h2]; rfl
        have hz4 : ∀ z, z ≠ Str.ofString "sign" → (∀ p ∈ [(Str.ofString "piece", Value.str (p1 ++ sgn (n : Int)) t3)], z ≠ p.1) → List.contains [Str.ofString "piece"] z = false → (fun y => if y = Str.ofString "piece" then some (Value.str (p1 ++ sgn (n : Int)) t3) else M2 y) z = m z := by
          intro z h1 h2 _
          have h2' := h2 _ (.head _)
          exact (if_neg h2').trans (hMz z h1 h2')
        have hinv' : ∀ (ns2 : List Int), (if kdpHas opsTab (p1 ++ sgn (n : Int)) = true then bumpAt ns1 (kdpLook opsTab (p1 ++ sgn (n : Int)) 0).toNat 1 else ns1) = ns2 → ∀ r, codes w3 = (pre ++ [(n : Int)]) ++ r → innerF tb (codes w3) Str.empty ns = innerF tb r (p1 ++ sgn (n : Int)) ns2 := by
          intro ns2 e2 r hr
          rw [List.append_assoc] at hr
          rw [hinv _ hr, ← e2]
          show innerF tb ((n : Int) :: r) p1 ns1 = _
          conv => lhs; unfold innerF
          rw [if_neg (by rw [hc]; exact Bool.false_ne_true)]
        refine wpAny_execs_cons (wpAny_If (wpAny_isTrue_Compare1 (nameX_L F4 (if_pos rfl) (nameX_L F4 eP (in_strTab (TP h4 (fun q hq => N4 q (.tail _ (List.mem_append_left _ hq)))) (wpAny_truthy_bool ?_)) hk k4) hk k2) hb2))
        rw [← ex]
        cases hc2 : kdpHas opsTab (p1 ++ sgn (n : Int)) with
        | false =>
          simp only [Bool.false_eq_true, if_false]
          refine wpAny_execs_nil (wpAny_execs_nil ?_)
          refine kst_end (x := Str.ofString "sign") (vs1, ns1, p1 ++ sgn (n : Int), t3) F4 N4 ?_ ?_ rfl ⟨hi1, hn1⟩ ?_ hz4 ⟨by simpa using hlp, hinv' ns1 (by rw [hc2]; rfl)⟩
          · exact fun q hq => List.mem_append_left _ hq
          · exact fun q hq => List.mem_append_right _ hq
          · intro q hq; rw [List.mem_singleton.mp hq]; exact if_pos rfl
        | true =>
          simp only [if_true]
          refine wpAny_execs_cons (bump_tab (D := D) (Dp := Dp) (rest := rest ++ own) F4 N4 hofft hi1 hn1 hc2 ?_ ?_ ?_ ?_ ?_ ?_ hw2 (fun _ => by with_unfolding_all rfl) (fun _ => by with_unfolding_all rfl))
          · intro px h5 tk5 Q' E' F5 hq; exact nameX_L F5 eS hq hk k5
          · intro px h5 tk5 Q' E' F5 hq; exact nameX_L F5 eP hq hk k4
          · intro h5 N5; exact TP h5 (Nrest h5 N5)
          · intro h5 tk5 Q' E' F5 hq; exact nameX_L F5 (if_pos rfl) (hq _ _) hk k2
          · intro h5 tk5 Q' E' F5 hq; exact nameX_L F5 (if_pos rfl) (hq _ _) hk k2
          · intro h5 tk5 u5 F5 N5 hi5
            refine wpAny_execs_nil (wpAny_execs_nil ?_)
            refine kst_end (x := Str.ofString "sign") (vs1.set (kdpLook opsTab (p1 ++ sgn (n : Int)) 0).toNat (.int (ns1.getD (kdpLook opsTab (p1 ++ sgn (n : Int)) 0).toNat 0 + 1) u5), bumpAt ns1 (kdpLook opsTab (p1 ++ sgn (n : Int)) 0).toNat 1, p1 ++ sgn (n : Int), t3) F5 N5 ?_ ?_ rfl ⟨hi5, by rw [bumpAt_length]; exact hn1⟩ ?_ hz4 ⟨by simpa using hlp, hinv' _ (by rw [hc2]; rfl)⟩
            · exact fun q hq => (List.mem_cons.mp hq).elim (fun e => e ▸ .head _) fun hq => .tail _ (List.mem_append_left _ hq)
            · exact fun q hq => .tail _ (List.mem_append_right _ hq)
            · intro q hq; rw [List.mem_singleton.mp hq]; exact if_pos rfl
      · show p1.length + 1 ≤ sizeLine
        rw [sizeLine_eq]; omega
  · rintro ⟨vs1, ns1, p1, tp1⟩ u h2 tk2 ⟨hi1, hn1⟩ ⟨hpl1, hinv⟩ F2 N2
    have hfin : innerF tb (codes w3) Str.empty ns = ns1 := hinv [] (by rw [List.append_nil])
    refine hret vs1 _ h2 tk2 (by rw [hfin]; exact hi1) (fr_canon (Str.ofString "sign") (Str.ofString "piece") (fun z h1 h2 => ?_) F2) N2
    rw [if_neg h1]
    show (if z = Str.ofString "piece" then _ else (fun z => if List.contains [Str.ofString "piece"] z = true then u z else m z) z) = m z
    rw [if_neg h2]
    have : List.contains [Str.ofString "piece"] z = false := by simp [h2]
    simp only [this, Bool.false_eq_true, if_false]
/-- the escaped sign's own two -/
theorem due_esc {cl : List (Str × Addr)} {D Dp Ds : Addr} {tb : List (Str × Str)} {vs : List Value} {ns : List Int} {nn : Nat} {rest : List (Addr × Obj)} {c : Str} {signE : Expr} {q1 q2 q3 q4 q5 q6 q7 q8 q9 q10 q11 q12 q13 q14 q15 q16 q17 q18 q19 q20 q21 q22 q23 q24 q25 q26 q27 q28 q29 : Pos}
  (F : Fr h₀ L s.heap m) (N : News h₀ L s.heap ((D, W.listOf vs.toArray nn) :: rest)) (hoff : ∀ q ∈ rest, q.1 ≠ D) (hi : IntsAre vs ns) (hn : ns.length = 48)
  (hsp : m (Str.ofString "spelled") = some (.ref Ds)) (hpl : m (Str.ofString "places") = some (.ref Dp)) (hst : m (Str.ofString "stands") = some (.ref D))
  (TS : ∀ h, News h₀ L h rest → StrTab prog w h Ds (tabS tb)) (TP : ∀ h, News h₀ L h rest → StrTab prog w h Dp (kdpD opsTab))
  (hk : scope.kind = .function) (k3 : (envX name scope L f cd cl).kindOf (Str.ofString "spelled") = some .local)
  (k4 : (envX name scope L f cd cl).kindOf (Str.ofString "places") = some .local) (k5 : (envX name scope L f cd cl).kindOf (Str.ofString "stands") = some .local)
  (hit : ∀ Q' E' : Value → Shared → Prop, (∀ t tk', Q' (.str c t) { s with toks := tk' }) → wpAny (model prog w) A (eval signE (envX name scope L f cd cl)) Q' E' s)
  (h1 : (lkS tb c).isSome = true → ∀ (vs' : List Value) (h' : Heap) (tk : Nat), IntsAre vs' (bumpAt (bumpAt ns (kdpLook opsTab (Str.ofString "&") 0).toNat 1) (kdpLook opsTab (Str.ofString ";") 0).toNat 1) → Fr h₀ L h' m → News h₀ L h' ((D, W.listOf vs'.toArray nn) :: rest) → Q .next { s with heap := h', toks := tk })
  (h2 : (lkS tb c).isSome = false → ∀ tk, Q .next { s with toks := tk })
  (hb1 : behindInMarks .In (.Name (Str.ofString "spelled") q2) = false)
  (hw1 : swapsWith (.BinOp (.Subscript (.Name (Str.ofString "stands") q13) (.Subscript (.Name (Str.ofString "places") q14) (.Constant (.str (Str.ofString "&")) 0 q15) q16) q17) .Add (.Constant (.int 1) 0 q18) q19) (some (.Subscript (.Name (Str.ofString "stands") q20) (.Subscript (.Name (Str.ofString "places") q21) (.Constant (.str (Str.ofString "&")) 0 q22) q23) q24)) q25.line (envX name scope L f cd cl) = pure false)
  (hw2 : swapsWith (.BinOp (.Subscript (.Name (Str.ofString "stands") q3) (.Subscript (.Name (Str.ofString "places") q4) (.Constant (.str (Str.ofString ";")) 0 q5) q6) q7) .Add (.Constant (.int 1) 0 q8) q9) (some (.Subscript (.Name (Str.ofString "stands") q10) (.Subscript (.Name (Str.ofString "places") q11) (.Constant (.str (Str.ofString ";")) 0 q12) q26) q27)) q28.line (envX name scope L f cd cl) = pure false) :
  wpAny (model prog w) A (exec (.If (.Compare signE [.In] [.Name (Str.ofString "spelled") q2] q1)
       [.Assign [.Subscript (.Name (Str.ofString "stands") q20) (.Subscript (.Name (Str.ofString "places") q21) (.Constant (.str (Str.ofString "&")) 0 q22) q23) q24] (.BinOp (.Subscript (.Name (Str.ofString "stands") q13) (.Subscript (.Name (Str.ofString "places") q14) (.Constant (.str (Str.ofString "&")) 0 q15) q16) q17) .Add (.Constant (.int 1) 0 q18) q19) q25,
        .Assign [.Subscript (.Name (Str.ofString "stands") q10) (.Subscript (.Name (Str.ofString "places") q11) (.Constant (.str (Str.ofString ";")) 0 q12) q26) q27] (.BinOp (.Subscript (.Name (Str.ofString "stands") q3) (.Subscript (.Name (Str.ofString "places") q4) (.Constant (.str (Str.ofString ";")) 0 q5) q6) q7) .Add (.Constant (.int 1) 0 q8) q9) q28] [] q29) (envX name scope L f cd cl)) Q E s := by
  have Nr : News h₀ L s.heap rest := fun q hq => N q (.tail _ hq)
  refine wpAny_If (wpAny_isTrue_Compare1 (hit _ _ fun t tk' => nameX_L F hsp (in_strTab (TS s.heap Nr) (wpAny_truthy_bool ?_)) hk k3) hb1)
  rw [lookup_tabS, Option.isSome_map]
  cases hc : (lkS tb c).isSome with
  | false =>
    simp only [Bool.false_eq_true, if_false]
    exact wpAny_execs_nil (h2 hc _)
  | true =>
    simp only [if_true]
    refine wpAny_execs_cons (bump_tab (D := D) (Dp := Dp) (p := Str.ofString "&") F N hoff hi hn (by decide +kernel) ?_ ?_ TP ?_ ?_ ?_ hw1 (fun _ => by with_unfolding_all rfl) (fun _ => by with_unfolding_all rfl))
    · intro px h5 tk5 Q' E' F5 hq; exact nameX_L F5 hst hq hk k5
    · intro px h5 tk5 Q' E' F5 hq; exact nameX_L F5 hpl hq hk k4
    · intro h5 tk5 Q' E' F5 hq; exact Calls.Constant_str (hq _ _)
    · intro h5 tk5 Q' E' F5 hq; exact Calls.Constant_str (hq _ _)
    · intro h5 tk5 u5 F5 N5 hi5
      refine wpAny_execs_cons (bump_tab (D := D) (Dp := Dp) (p := Str.ofString ";") F5 N5 hoff hi5 (by rw [bumpAt_length]; exact hn) (by decide +kernel) ?_ ?_ TP ?_ ?_ ?_ hw2 (fun _ => by with_unfolding_all rfl) (fun _ => by with_unfolding_all rfl))
      · intro px h6 tk6 Q' E' F6 hq; exact nameX_L F6 hst hq hk k5
      · intro px h6 tk6 Q' E' F6 hq; exact nameX_L F6 hpl hq hk k4
      · intro h6 tk6 Q' E' F6 hq; exact Calls.Constant_str (hq _ _)
      · intro h6 tk6 Q' E' F6 hq; exact Calls.Constant_str (hq _ _)
      · intro h6 tk6 u6 F6 N6 hi6
        exact wpAny_execs_nil (h1 hc _ h6 _ hi6 F6 N6)
end
end Mine
end
section
open PySem PySem.W PyProof.Rows
namespace Mine
def parS (o : Str) : Str := if o == Str.ofString "..." then Str.ofString "." else cutEnd o
def mStep (st : List Int) (due : List Int) (k : Int) : List Int :=
  let o := opsL.getD k.toNat Str.empty
  if 1 < o.length then bumpAt due (kdpLook opsTab (parS o) 0).toNat (-(st.getD k.toNat 0)) else due
theorem mStep_length (st due : List Int) (k : Int) : (mStep st due k).length = due.length := by
  unfold mStep; dsimp only; split
  · exact bumpAt_length ..
  · rfl
section
variable {prog : Program} {w : World} {A : Around} {E : Value → Shared → Prop} {s : Shared} {name : Str} {scope : Scope} {f : Addr} {cd : Value} {h₀ : Heap} {L : Addr} {m : Str → Option Value} {Q : Flow → Shared → Prop}
theorem due_moeb {cl : List (Str × Addr)} {D Dp Dst : Addr} {vs sv : List Value} {ns st : List Int} {nn ns' : Nat} {rest : List (Addr × Obj)} {o : Str} {k : Int} {tkk : Tok} {lenE cutE : Expr}
  {q1 q2 q3 q4 q5 q6 q7 q8 q9 q10 q11 q12 q13 q14 q15 q16 q17 q18 q19 q20 q21 q22 q23 q24 q25 : Pos}
  (F : Fr h₀ L s.heap m) (N : News h₀ L s.heap ((D, W.listOf vs.toArray nn) :: rest)) (hoff : ∀ q ∈ rest, q.1 ≠ D) (hi : IntsAre vs ns) (hn : ns.length = 48)
  (hsm : (Dst, W.listOf sv.toArray ns') ∈ rest) (hsi : IntsAre sv st) (hsn : st.length = 48)
  (hk0 : 0 ≤ k) (hk1 : k < 48) (hp : 1 < o.length → kdpHas opsTab (parS o) = true)
  (hmk : m (Str.ofString "k") = some (.int k tkk)) (hmp : m (Str.ofString "places") = some (.ref Dp)) (hmd : m (Str.ofString "due") = some (.ref D)) (hms : m (Str.ofString "stands") = some (.ref Dst))
  (TP : ∀ h, News h₀ L h rest → StrTab prog w h Dp (kdpD opsTab))
  (hk : scope.kind = .function) (k1 : (envX name scope L f cd cl).kindOf (Str.ofString "k") = some .local) (k2 : (envX name scope L f cd cl).kindOf (Str.ofString "places") = some .local)
  (k3 : (envX name scope L f cd cl).kindOf (Str.ofString "due") = some .local) (k4 : (envX name scope L f cd cl).kindOf (Str.ofString "stands") = some .local) (k5 : (envX name scope L f cd cl).kindOf (Str.ofString "shorter") = some .local)
  (hop : ∀ (p1 p2 p3 : Pos) (h : Heap) (tk : Nat) (Q' E' : Value → Shared → Prop), Fr h₀ L h m → News h₀ L h ((D, W.listOf vs.toArray nn) :: rest) → (∀ t tk', Q' (.str o t) { s with heap := h, toks := tk' }) → wpAny (model prog w) A (eval (.Subscript (.Name (Str.ofString "operators") p1) (.Name (Str.ofString "k") p2) p3) (envX name scope L f cd cl)) Q' E' { s with heap := h, toks := tk })
  (hlen : ∀ Q' E' : Value → Shared → Prop, (∀ t tk', Q' (.int o.length t) { s with toks := tk' }) → wpAny (model prog w) A (eval lenE (envX name scope L f cd cl)) Q' E' s)
  (hcut : ∀ (h : Heap) (tk : Nat) (Q' E' : Value → Shared → Prop), Fr h₀ L h m → News h₀ L h ((D, W.listOf vs.toArray nn) :: rest) → (∀ h' t tk', Fr h₀ L h' m → News h₀ L h' ((D, W.listOf vs.toArray nn) :: rest) → Q' (.str (Txt.slice o none (some (-1))) t) { s with heap := h', toks := tk' }) → wpAny (model prog w) A (eval cutE (envX name scope L f cd cl)) Q' E' { s with heap := h, toks := tk })
  (h1 : 1 < o.length → ∀ (vs' : List Value) (u : Value) (h' : Heap) (tk : Nat), IntsAre vs' (bumpAt ns (kdpLook opsTab (parS o) 0).toNat (-(st.getD k.toNat 0))) → Fr h₀ L h' (fun y => if y = Str.ofString "shorter" then some u else m y) → News h₀ L h' ((D, W.listOf vs'.toArray nn) :: rest) → Q .next { s with heap := h', toks := tk })
  (h2 : ¬ 1 < o.length → ∀ tk, Q .next { s with toks := tk })
  (hb1 : behindInMarks .Gt (.Constant (.int 1) 0 q1) = false) (hb2 : behindInMarks .Eq (.Constant (.str (Str.ofString "...")) 0 q6) = false)
  (hw1 : swapsWith (.Subscript (.Name (Str.ofString "places") q10) (.IfExp (.Compare (.Subscript (.Name (Str.ofString "operators") q3) (.Name (Str.ofString "k") q4) q5) [.Eq] [.Constant (.str (Str.ofString "...")) 0 q6] q7) (.Constant (.str (Str.ofString ".")) 0 q8) cutE q9) q11) (some (.Name (Str.ofString "shorter") q12)) q13.line (envX name scope L f cd cl) = pure false)
  (hw2 : swapsWith (.BinOp (.Subscript (.Name (Str.ofString "due") q17) (.Name (Str.ofString "shorter") q18) q19) .Sub (.Subscript (.Name (Str.ofString "stands") q20) (.Name (Str.ofString "k") q21) q22) q23) (some (.Subscript (.Name (Str.ofString "due") q14) (.Name (Str.ofString "shorter") q15) q16)) q24.line (envX name scope L f cd cl) = pure false)
  (hss : ∀ key t, subscripted (.IfExp (.Compare (.Subscript (.Name (Str.ofString "operators") q3) (.Name (Str.ofString "k") q4) q5) [.Eq] [.Constant (.str (Str.ofString "...")) 0 q6] q7) (.Constant (.str (Str.ofString ".")) 0 q8) cutE q9) false (.ref Dp) (.str key t) = operate [.ref Dp, .str key t] (getItem (.ref Dp) (.str key t))) :
  wpAny (model prog w) A (exec (.If (.Compare lenE [.Gt] [.Constant (.int 1) 0 q1] q2)
    [.Assign [.Name (Str.ofString "shorter") q12] (.Subscript (.Name (Str.ofString "places") q10) (.IfExp (.Compare (.Subscript (.Name (Str.ofString "operators") q3) (.Name (Str.ofString "k") q4) q5) [.Eq] [.Constant (.str (Str.ofString "...")) 0 q6] q7) (.Constant (.str (Str.ofString ".")) 0 q8) cutE q9) q11) q13,
     .Assign [.Subscript (.Name (Str.ofString "due") q14) (.Name (Str.ofString "shorter") q15) q16] (.BinOp (.Subscript (.Name (Str.ofString "due") q17) (.Name (Str.ofString "shorter") q18) q19) .Sub (.Subscript (.Name (Str.ofString "stands") q20) (.Name (Str.ofString "k") q21) q22) q23) q24] [] q25) (envX name scope L f cd cl)) Q E s := by
  refine wpAny_If (wpAny_isTrue_Compare1 (hlen _ _ fun t tk' => wpAny_Constant_int (PyProof.Rows.gt_int (wpAny_truthy_bool ?_))) hb1)
  by_cases hc : 1 < o.length
  · rw [if_pos (decide_eq_true (by omega))]
    have hpp := hp hc
    obtain ⟨r1, r2⟩ := op_range hpp
    have b1 : kdpLook opsTab (parS o) 0 < (ns.length : Int) := by rw [hn]; exact r2
    have b2 : kdpLook opsTab (parS o) 0 < 2 ^ 63 := by omega
    -- what stands behind the key
    have after : ∀ (h3 : Heap) (t3 : Tok) (tk3 : Nat), Fr h₀ L h3 m → News h₀ L h3 ((D, W.listOf vs.toArray nn) :: rest) →
        wpAny (model prog w) A (subscriptTail (.Name (Str.ofString "places") q10) (.IfExp (.Compare (.Subscript (.Name (Str.ofString "operators") q3) (.Name (Str.ofString "k") q4) q5) [.Eq] [.Constant (.str (Str.ofString "...")) 0 q6] q7) (.Constant (.str (Str.ofString ".")) 0 q8) cutE q9) (.ref Dp) (.str (parS o) t3))
          (fun v s₁ => wpAny (model prog w) A (storeName (envX name scope L f cd cl) (Str.ofString "shorter") v) (fun _ s₂ => wpAny (model prog w) A (execs [.Assign [.Subscript (.Name (Str.ofString "due") q14) (.Name (Str.ofString "shorter") q15) q16] (.BinOp (.Subscript (.Name (Str.ofString "due") q17) (.Name (Str.ofString "shorter") q18) q19) .Sub (.Subscript (.Name (Str.ofString "stands") q20) (.Name (Str.ofString "k") q21) q22) q23) q24] (envX name scope L f cd cl)) Q E s₂) E s₁) E { s with heap := h3, toks := tk3 } := by
      intro h3 t3 tk3 F3 N3
      refine kdp_item (TP h3 fun q hq => N3 q (.tail _ hq)) hpp (fun t4 => ?_) (hss _ _)
      refine storeX_L F3 N3 (fun h5 F5 N5 => ?_) hk k5
      have ed : (fun y => if y = Str.ofString "shorter" then some (Value.int (kdpLook opsTab (parS o) 0) t4) else m y) (Str.ofString "due") = some (.ref D) := (if_neg (by decide +kernel)).trans hmd
      have es : (fun y => if y = Str.ofString "shorter" then some (Value.int (kdpLook opsTab (parS o) 0) t4) else m y) (Str.ofString "stands") = some (.ref Dst) := (if_neg (by decide +kernel)).trans hms
      have ek : (fun y => if y = Str.ofString "shorter" then some (Value.int (kdpLook opsTab (parS o) 0) t4) else m y) (Str.ofString "k") = some (.int k tkk) := (if_neg (by decide +kernel)).trans hmk
      refine wpAny_execs_cons (wpAny_Assign_Subscript (wpAny_BinOp (Subscript_ (nameX_L F5 ed (nameX_L F5 (if_pos rfl) (ksa_sub N5 (.head _) hi r1 b1 b2 fun t6 => ?_) hk k5) hk k3))) hw2)
      refine Subscript_ (nameX_L F5 es (nameX_L F5 ek (ksa_sub N5 (.tail _ hsm) hsi hk0 (by rw [hsn]; exact hk1) (by omega) fun t7 => sub_int ?_) hk k1) hk k4)
      refine nameX_L F5 ed (nameX_L F5 (if_pos rfl) (ksa_set F5 N5 (.head hoff) hi r1 b1 b2 fun h8 F8 N8 hi8 _ _ => ?_) hk k5) hk k3
      exact wpAny_execs_nil (h1 hc _ _ h8 _ hi8 F8 N8)
    refine wpAny_execs_cons (wpAny_Assign_Name (Subscript_ (nameX_L F hmp (IfExp_ (wpAny_isTrue_Compare1 (hop q3 q4 q5 s.heap _ _ _ F N fun t2 tk2 => Calls.Constant_str (PyProof.Rows.eq_str (wpAny_truthy_bool ?_))) hb2)) hk k2)) hw1)
    cases he : (o == Str.ofString "...") with
    | true =>
      simp only [if_true]
      refine Calls.Constant_str ?_
      have hpe : parS o = Str.ofString "." := by unfold parS; rw [he]; rfl
      have ha := after s.heap (tk2 + 1) (tk2 + 1 + 1) F N
      rw [hpe] at ha
      exact ha
    | false =>
      simp only [Bool.false_eq_true, if_false]
      refine hcut s.heap _ _ _ F N fun h3 t3 tk3 F3 N3 => ?_
      have hpe : parS o = Txt.slice o none (some (-1)) := by unfold parS; rw [he]; rfl
      have ha := after h3 t3 tk3 F3 N3
      rw [hpe] at ha
      exact ha
  · rw [if_neg (by simp only [decide_eq_true_eq]; omega)]
    exact wpAny_execs_nil (h2 hc _)
end
end Mine
end
section
open PySem PySem.W PyProof.Rows
namespace Mine
theorem split_ops : Txt.split (Str.ofString "( ) [ ] : , ; + - * / | & < > = . % { } == != <= >= ~ ^ << >> ** += -= *= /= %= &= |= ^= <<= >>= **= // //= @ @= -> ... := !") (Str.ofString " ") = opsL := by kernel_rfl
theorem strs_ops {l : List (Str × Tok)} {vs : List Value} (a : StrsAre vs (l.map fun x => x.1)) (e : l.map (fun x => x.1) = Txt.split (Str.ofString "( ) [ ] : , ; + - * / | & < > = . % { } == != <= >= ~ ^ << >> ** += -= *= /= %= &= |= ^= <<= >>= **= // //= @ @= -> ... := !") (Str.ofString " ")) : StrsAre vs opsL := by
  rw [e, split_ops] at a; exact a
theorem strs_get : ∀ {vs : List Value} {ys : List Str}, StrsAre vs ys → ∀ i, i < ys.length → ∃ t, vs[i]? = some (.str (ys.getD i Str.empty) t)
  | _, _, .nil, _, h => absurd h (Nat.not_lt_zero _)
  | _, _, .cons y t _, 0, _ => ⟨t, rfl⟩
  | _, _, .cons y t r, i + 1, h => strs_get r i (Nat.lt_of_succ_lt_succ h)
theorem strs_len : ∀ {vs : List Value} {ys : List Str}, StrsAre vs ys → vs.length = ys.length
  | _, _, .nil => rfl
  | _, _, .cons _ _ r => congrArg (· + 1) (strs_len r)
theorem opsL_length : opsL.length = 48 := by decide +kernel
theorem ops_short : ∀ o ∈ opsL, o.length ≤ 3 := by decide +kernel
theorem ops_par : ∀ o ∈ opsL, 1 < o.length → kdpHas opsTab (parS o) = true := by decide +kernel
theorem ints_range : ∀ (n : Nat) (a : Int) (vs : List Value), vs.length = n → (∀ (j : Nat) v, vs[j]? = some v → ∃ t, v = Value.int (a + (j : Int)) t) → IntsAre vs (rangeKs a n)
  | 0, _, [], _, _ => .nil
  | n + 1, a, v :: vs, hl, h => by
    obtain ⟨t, rfl⟩ := h 0 v rfl
    have := ints_range n (a + 1) vs (Nat.succ.inj hl) (fun j v hj => by
      obtain ⟨t, e⟩ := h (j + 1) v hj
      exact ⟨t, by rw [e]; congr 1; push_cast; omega⟩)
    rw [show rangeKs a (n + 1) = a :: rangeKs (a + 1) n from by
      unfold rangeKs
      rw [List.range_succ_eq_map, List.map_cons, List.map_map]
      congr 1
      · omega
      · apply List.map_congr_left
        intro i _
        show a + ((i + 1 : Nat) : Int) = _
        omega]
    have e0 : a + ((0 : Nat) : Int) = a := by omega
    rw [e0]
    exact .cons a t this
section
variable {prog : Program} {w : World} {A : Around} {E : Value → Shared → Prop} {s : Shared} {h₀ : Heap} {L : Addr} {m : Str → Option Value} {env : Env}
/-- an item of the operators' list at k -/
theorem ops_item {value slice : Expr} {l : Addr} {sv : List Value} {n : Nat} {news : List (Addr × Obj)} {k : Int} {u : Tok} {Q : Value → Shared → Prop} (N : News h₀ L s.heap news) (hm : (l, W.listOf sv.toArray n) ∈ news) (hs : StrsAre sv opsL) (h0 : 0 ≤ k) (h1 : k < 48)
  (h : ∀ t, (opsL.getD k.toNat Str.empty).length ≤ 400 → Q (.str (opsL.getD k.toNat Str.empty) t) s)
  (hs1 : subscripted slice false (.ref l) (.int k u) = operate [.ref l, .int k u] (getItem (.ref l) (.int k u))) (hg : ∀ r, letTemporaryGo value (.ref l) r = pure ()) :
  wpAny (model prog w) A (subscriptTail value slice (.ref l) (.int k u)) Q E s := by
  obtain ⟨t, ht⟩ := strs_get hs k.toNat (by rw [opsL_length]; omega)
  refine kim_list N hm rfl rfl h0 (by omega) ht (h t ?_) hs1 hg
  have hk : k.toNat < opsL.length := by rw [opsL_length]; omega
  rw [List.getD_eq_getElem?_getD, List.getElem?_eq_getElem hk, Option.getD_some]
  exact Nat.le_trans (ops_short _ (List.getElem_mem hk)) (by omega)

def PlSrc (prog : Program) (w : World) (h₀ : Heap) (L : Addr) (m : Str → Option Value) (c : Addr) (Q : Flow → Shared → Prop) (xv : Value) (s₁ : Shared) : Prop :=
  ∃ r t u v news o lo sv n, xv = .ref r ∧ IsRange s₁.heap r 0 48 1 t u v ∧ Fr h₀ L s₁.heap m ∧ News h₀ L s₁.heap news ∧ (c, o) ∈ news ∧ o.data = .cell (some (.ref lo)) ∧ (lo, W.listOf sv.toArray n) ∈ news ∧ StrsAre sv opsL ∧
     ∀ D o' h' tk kvs, Fr h₀ L h' (fun z => if z = Str.ofString "places" then some (.ref D) else m z) → News h₀ L h' ((D, o') :: news) → LCg.Off1 D news → o'.IsDictOf (PySem.strKind prog w) kvs → PyProof.V.FlatPairs PyData.str kvs (kdpD opsTab) → Q .next { s₁ with heap := h', toks := tk }
theorem PlSrc.intro {c : Addr} {Q : Flow → Shared → Prop} {s₁ : Shared} {r lo : Addr} {t u v : Tok} {news : List (Addr × Obj)} {o : Obj} {sv : List Value} {n : Nat} (hr : IsRange s₁.heap r 0 48 1 t u v) (F : Fr h₀ L s₁.heap m) (N : News h₀ L s₁.heap news) (hc : (c, o) ∈ news) (ho : o.data = .cell (some (.ref lo))) (hl : (lo, W.listOf sv.toArray n) ∈ news) (hs : StrsAre sv opsL)
  (fin : ∀ D o' h' tk kvs, Fr h₀ L h' (fun z => if z = Str.ofString "places" then some (.ref D) else m z) → News h₀ L h' ((D, o') :: news) → LCg.Off1 D news → o'.IsDictOf (PySem.strKind prog w) kvs → PyProof.V.FlatPairs PyData.str kvs (kdpD opsTab) → Q .next { s₁ with heap := h', toks := tk }) :
  PlSrc prog w h₀ L m c Q (.ref r) s₁ := ⟨r, t, u, v, news, o, lo, sv, n, rfl, hr, F, N, hc, ho, hl, hs, fin⟩
theorem pl_all : putAll PyData.str (fun i : Int => opsL.getD i.toNat Str.empty) (fun i => PyData.int i) (rangeKs 0 48) = kdpD opsTab := by kernel_rfl
theorem asg_places {scope : Scope} {cl : List (Str × Addr)} {c : Addr} {iter : Expr} {px p1 p2 p3 p4 pos py spos : Pos} {Q : Flow → Shared → Prop} (F₀ : Fr h₀ L s.heap m)
  (hsw : swapsWith (.DictComp (.Subscript (.Name (Str.ofString "operators") p1) (.Name (Str.ofString "k") p2) p3) (.Name (Str.ofString "k") p4) [⟨.Name (Str.ofString "k") px, iter, [], 0⟩] scope pos) (some (.Name (Str.ofString "places") py)) spos.line env = pure true) (hL : env.locals = L)
  (hh : A.handled = none) (hclos : closureFor scope env = pure cl) (hcell : ∀ y ∈ scope.names, y.2 ≠ .cell) (hkind : scope.kind = .function)
  (hnames : ∀ y ∈ scope.names, y.2 = .local → scope.names.lookup y.1 = some .local) (hx : scope.names.lookup (Str.ofString "k") = some .local)
  (hy : env.kindOf (Str.ofString "places") = some .local) (hp : (env.scope.kind == .class || (env.scope.kind == .module && env.locals != env.globals)) = false)
  (hc : cl.lookup (Str.ofString "operators") = some c)
  (h : wpAny (model prog w) A (eval iter env) (PlSrc prog w h₀ L m c Q) E s)
  (k1 : ∀ C, (compEnvC scope cl C env).scope.kind = .function) (k2 : ∀ C, (compEnvC scope cl C env).kindOf (Str.ofString "k") = some .local) (k3 : ∀ C, (compEnvC scope cl C env).kindOf (Str.ofString "operators") = some .cell) (k4 : ∀ C, (compEnvC scope cl C env).cells = cl)
  (hs : ∀ x, foldedSetIterable iter env x = pure x := by intro _; rfl) :
  wpAny (model prog w) A (exec (.Assign [.Name (Str.ofString "places") py] (.DictComp (.Subscript (.Name (Str.ofString "operators") p1) (.Name (Str.ofString "k") p2) p3) (.Name (Str.ofString "k") p4) [⟨.Name (Str.ofString "k") px, iter, [], 0⟩] scope pos) spos) env) Q E s := by
  subst hL
  rw [exec_Assign_Name_used _ _ _ _ hsw]
  refine wpAny_bind (wpAny_standAt (wpAny_bind ?_))
  show wpAny _ A (do let _ ← comprehension (.DictComp _ _ [⟨.Name (Str.ofString "k") px, iter, [], 0⟩] scope pos) scope env _ newDict false (eval iter env) (some (assign (.Name (Str.ofString "places") py) env))) _ _ s
  refine wpAny_bind (wpAny_mono (wpAny_comprehension_free (use := some (assign (.Name (Str.ofString "places") py) env)) (Q := fun _ s' => Q .next s') rfl hs hclos hkind hnames
    (wpAny_mono h (fun xv s₁ h₁ => ?_) fun _ _ e => e)) (fun _ s' hq => wpAny_pure (wpAny_pure hq)) fun _ _ e => e)
  obtain ⟨r, t, u, v, news, o, lo, sv, n, rfl, hr, F, N, hmc, hdc, hml, hst, fin⟩ := h₁
  refine wpAny_pyIter_range hr (small_one (by omega) (by omega) (by omega) (by omega)) ?_
  have W := (Walks.range (prog := prog) (w := w) (A := A) hh s₁.heap.objs.size 0 1 48).bound
  have up : ∀ (o' : Obj) (h' : Heap), (∀ b oo, b ∉ [s₁.heap.objs.size] → (s₁.heap.push o').get? b = some oo → h'.get? b = some oo) → ∀ b oo, s₁.heap.get? b = some oo → h'.get? b = some oo := fun o' h' hk => old_of_push hk
  refine comp_block_walkCD (knd := PySem.strKind prog w) (RR := fun acc C => compPost (model prog w) A E (some (assign (.Name (Str.ofString "places") py) env)) (fun _ s' => Q .next s') acc C) W (by rw [sizeLine_eq]; omega) (fun _ => true)
    (fun v k => ∃ a, ItemKind.int.is a v ∧ k = (fun i : Int => opsL.getD i.toNat Str.empty) a) (fun v y => ∃ a, ItemKind.int.is a v ∧ Carried y (PyData.int a)) hcell hkind hx ?_ ?_ ⟨?_, ?_, ?_⟩ ?_
  · show IsRangeIter _ _ _ _ _
    rw [rangeSize_nat]
    simpa using Heap.get?_push_size _ rfl
  · intro b hb
    rw [List.mem_singleton.mp hb]
    show _ < (s₁.heap.push _).objs.size
    rw [Heap.size_push]; exact Nat.lt_succ_self _
  · intro C i v' s₃ m₃ E' hP hns hm hk
    exact wpAny_tests_nil ⟨rfl, s₃.heap, s₃.toks, rfl, fun _ _ e => e⟩
  · intro C i v' s₃ m₃ E' hP _ hns hm hk
    obtain ⟨hi, t', rfl⟩ := hP
    have N3 : News h₀ env.locals s₃.heap news := fun q hq => ⟨up _ _ hk _ _ (N q hq).1, (N q hq).2⟩
    refine Subscript_ (leaf_cell (by rw [k4]; exact hc) (N3 _ hmc).1 hdc (leaf_local hns hm ?_ (k1 C) (k2 C)) (k1 C) (k3 C))
    refine ops_item N3 hml hst (by omega) (by omega) (fun t2 _ => ?_) rfl (fun _ => rfl)
    exact ⟨⟨_, strKind_is _ _ _ t2, _, ⟨t', rfl⟩, rfl⟩, s₃.heap, s₃.toks, rfl, fun _ _ e => e⟩
  · intro C i v' s₃ m₃ E' hP _ hns hm hk
    obtain ⟨hi, t', rfl⟩ := hP
    refine leaf_local hns hm ?_ (k1 C) (k2 C)
    exact ⟨⟨_, ⟨t', rfl⟩, .int _ t'⟩, s₃.heap, s₃.toks, rfl, fun _ _ e => e⟩
  · intro D C h' tk m' kvs vs hD hC hDC hnC hlD hlen hP hF hk
    rw [List.filter_eq_self.mpr (fun _ _ => rfl)] at hF
    have keep0 := up _ h' hk
    have hns := F.ns
    have hLf : ∀ oo, s₁.heap.get? env.locals = some oo → h'.get? env.locals = some oo := fun oo e => keep0 _ _ e
    have none_of : ∀ {X : Addr} {oo : Obj}, (s₁.heap.push oo).get? X = none → s₁.heap.get? X = none := fun {X oo} hX => by
      cases e : s₁.heap.get? X with
      | none => rfl
      | some o' => rw [Heap.get?_push_of_some _ e] at hX; cases hX
    have hD1 := none_of hD
    have hC1 := none_of hC
    have hD0 : h₀.get? D = none := by
      cases e : h₀.get? D with
      | none => rfl
      | some o' => rw [F.keep _ _ e] at hD1; cases hD1
    have hLC : env.locals ≠ C := by rintro e; obtain ⟨oL, _, _, hL, _⟩ := F.ns; rw [e, hC1] at hL; cases hL
    have hLD : env.locals ≠ D := by rintro e; obtain ⟨oL, _, _, hL, _⟩ := F.ns; rw [e, hD1] at hL; cases hL
    show wpAny _ A (assign (.Name (Str.ofString "places") py) env (.ref D)) _ _ _
    refine wpAny_assign_Name (wpAny_storeName_local hy (hns.at' fun oo e => hLf oo e) (fun h₂ hn₂ hs₂ => ?_) hp)
    refine ⟨m', hnC.sameBut hs₂ (Ne.symm hLC), fun h₃ hs₃ => ?_⟩
    have keep : ∀ b o, b ≠ env.locals → s₁.heap.get? b = some o → h₃.get? b = some o := fun b o hb e =>
      hs₃.extBut b o (by rintro rfl; rw [e] at hC1; cases hC1) (hs₂.extBut b o hb (keep0 b o e))
    obtain ⟨oD, hoD, hdD⟩ := Heap.dictOf_iff.mp ((hlD.extBut hs₂.extBut (Ne.symm hLD)).extBut hs₃.extBut hDC)
    have hoff : ∀ q ∈ news, q.1 ≠ D := fun q hq e => by rw [← e, (N q hq).1] at hD1; cases hD1
    have off1 : ∀ l : List (Addr × Obj), (∀ q ∈ l, q.1 ≠ D) → LCg.Off1 D l := by
      intro l
      induction l with
      | nil => intro _; trivial
      | cons a r ih => intro hl; exact ⟨hl a (List.mem_cons_self ..), ih fun q hq => hl q (List.mem_cons_of_mem _ hq)⟩
    refine fin D oD h₃ _ kvs ⟨hn₂.sameBut hs₃ hLC, fun b o e => keep b o (Nat.ne_of_lt (Nat.lt_of_lt_of_le (Heap.lt_size e) F.above)) (F.keep b o e), F.above⟩ (fun q hq => ?_) (off1 _ hoff) hdD ?_
    · rcases List.mem_cons.mp hq with rfl | hq
      · exact ⟨hoD, Ne.symm hLD, hD0⟩
      · exact ⟨keep _ _ (N q hq).2.1 (N q hq).1, (N q hq).2⟩
    · have := storedAll_flat (K := ItemKind.int) PyProof.V.same_str hF (rangeKs 0 48) (ints_range 48 0 vs hlen (fun j v hj => by obtain ⟨_, t, e⟩ := hP j v hj; exact ⟨t, by rw [e, Int.mul_one]⟩)).areOf
      rw [pl_all] at this
      exact this
end
end Mine
end
section
open PySem PySem.W PyProof.Rows
namespace Mine
theorem not_mods {p : Program} {loose : List Str} {mean : ExcName → Option Value} {mg mb : Str → Option Value} {h₀ h : Heap} {L d : Addr} {o : Obj} {news : List (Addr × Obj)} (T : Top p loose mean mg mb h₀) (hi : importsNone p = true) (N : News h₀ L h news) (hm : (d, o) ∈ news) : (d == sysModules) = false := by
  obtain ⟨mm, ⟨o', es, ep, e, r⟩, _⟩ := (T.seer hi).mods
  have h2 := (N _ hm).2.2
  rw [beq_eq_false_iff_ne]
  rintro rfl
  rw [e] at h2
  cases h2
theorem tab_news {prog : Program} {w : World} {h₀ : Heap} {L d : Addr} {o : Obj} {news : List (Addr × Obj)} {kvs : List (Str × Value)} {D : List (PyData × PyData)} (hm : (d, o) ∈ news) (hd : o.IsDictOf (PySem.strKind prog w) kvs) (hf : PyProof.V.FlatPairs PyData.str kvs D) (lo : (d == sysModules) = false) :
   ∀ h, News h₀ L h news → StrTab prog w h d D := fun h N => ⟨lo, kvs, Heap.dictOf_iff.mpr ⟨o, (N _ hm).1, hd⟩, hf⟩
section
variable {prog : Program} {w : World} {A : Around} {E : Value → Shared → Prop} {s : Shared} {env : Env} {h₀ : Heap} {body : List Stmt} {Q : Flow → Shared → Prop}
def VecEnd (h₀ : Heap) (L : Addr) (m₀ : Str → Option Value) (stored : List Str) (D : Addr) (nn : Nat) (rest own : List (Addr × Obj)) (ns' : List Int) (s₁ : Shared) (f : Flow) (s' : Shared) : Prop :=
  f = .next ∧ ∃ vs' m' h' tk', s' = { s₁ with heap := h', toks := tk' } ∧ IntsAre vs' ns' ∧ Fr h₀ L h' m' ∧ News h₀ L h' ((D, W.listOf vs'.toArray nn) :: (rest ++ own)) ∧ ∀ z, z ≠ Str.ofString "k" → stored.contains z = false → m' z = m₀ z
theorem VecEnd.intro {L : Addr} {m₀ m' : Str → Option Value} {stored : List Str} {D : Addr} {nn : Nat} {rest own : List (Addr × Obj)} {ns' : List Int} {s₁ : Shared} {vs' : List Value} {h' : Heap} {tk' : Nat} (hi : IntsAre vs' ns') (F : Fr h₀ L h' m') (N : News h₀ L h' ((D, W.listOf vs'.toArray nn) :: (rest ++ own)))
  (hz : ∀ z, z ≠ Str.ofString "k" → stored.contains z = false → m' z = m₀ z) : VecEnd h₀ L m₀ stored D nn rest own ns' s₁ .next { s₁ with heap := h', toks := tk' } :=
  ⟨rfl, vs', m', h', tk', rfl, hi, F, N, hz⟩
theorem vec_range (g : List Int → Int → List Int) (hg : ∀ ns k, (g ns k).length = ns.length) (stored : List Str) {n : Nat} {r D : Addr} {t₀ u₀ v₀ : Tok} {vs₀ : List Value} {ns₀ : List Int} {nn : Nat} {rest : List (Addr × Obj)} {m₀ : Str → Option Value}
  (hh : A.handled = none) (hr : IsRange s.heap r 0 (n : Nat) 1 t₀ u₀ v₀) (hl : n ≤ 400) (F : Fr h₀ env.locals s.heap m₀) (N : News h₀ env.locals s.heap ((D, W.listOf vs₀.toArray nn) :: rest)) (hrest : ∀ q ∈ rest, q.1 ≠ D) (hi : IntsAre vs₀ ns₀) (h0 : ns₀.length = 48)
  (turn : ∀ (vs : List Value) (ns : List Int) (k : Int) (t : Tok) (u : Str → Option Value) (h : Heap) (tk : Nat) (own : List (Addr × Obj)), 0 ≤ k → k < (n : Nat) → IntsAre vs ns → ns.length = 48 → (∀ q ∈ rest ++ own, q.1 ≠ D) →
     Fr h₀ env.locals h (fun y => if y = Str.ofString "k" then some (.int k t) else if stored.contains y then u y else m₀ y) → News h₀ env.locals h ((D, W.listOf vs.toArray nn) :: (rest ++ own)) →
     wpAny (model prog w) A (execs body env) (VecEnd h₀ env.locals m₀ stored D nn rest own (g ns k) { s with heap := h, toks := tk }) E { s with heap := h, toks := tk })
  (done : ∀ (vs : List Value) (u : Str → Option Value) (h : Heap) (tk : Nat), IntsAre vs ((rangeKs 0 n).foldl g ns₀) → Fr h₀ env.locals h (fun y => if y = Str.ofString "k" then u y else if stored.contains y then u y else m₀ y) → News h₀ env.locals h ((D, W.listOf vs.toArray nn) :: rest) → Q .next { s with heap := h, toks := tk }) :
  wpAny (model prog w) A (pyIter (.ref r)) (fun it s₂ => LoopAtV prog w A h₀ env (Str.ofString "k") body Q E it s₂) E s := by
  have hn : Builtin.Range.rangeSize 0 (n : Nat) 1 = ((n : Nat) : Int) := by rw [rangeSize_nat]; omega
  have hsm : Builtin.Range.small 0 (n : Nat) 1 = true := small_one (by omega) (by omega) (by omega) (by omega)
  refine kst_range (σ := List Value × List Int) (n := n) (fun c => (D, W.listOf c.1.toArray nn) :: rest) (fun _ => []) (fun c => IntsAre c.1 c.2 ∧ c.2.length = 48) stored
    (fun pre c => c.2 = pre.foldl g ns₀) (vs₀, ns₀) hh hr hsm hn F N ⟨hi, h0⟩ (by intro p hp; cases hp) rfl ?_ ?_
  · rintro ⟨vs, ns⟩ pre k t u h tk own hk hpl hoff ⟨hi', hlen⟩ hP F' N'
    have hoffD : ∀ q ∈ rest ++ own, q.1 ≠ D := fun q hq => (List.mem_append.mp hq).elim (hrest q) (hoff.ne (.head _) q)
    refine wpAny_mono (turn vs ns k t u h tk own (by omega) (by omega) hi' hlen hoffD F' N') (fun f s' hE => ?_) fun _ _ e => e
    obtain ⟨rfl, vs', m', h', tk', rfl, hi2, F2, N2, hz⟩ := hE
    refine kst_end (x := Str.ofString "k") (vs', g ns k) F2 N2 ?_ ?_ rfl ⟨hi2, by rw [hg]; exact hlen⟩ (by intro p hp; cases hp) (fun z h1 _ h3 => hz z h1 h3) ?_
    · intro p hp
      rcases List.mem_cons.mp hp with rfl | hp
      · exact .head _
      · exact .tail _ (List.mem_append_left _ hp)
    · intro p hp; exact .tail _ (List.mem_append_right _ hp)
    · show g ns k = _
      rw [List.foldl_append]
      have : ns = _ := hP
      rw [this]; rfl
  · rintro ⟨vs, ns⟩ u h tk ⟨hi', _⟩ hP F' N'
    have : ns = (rangeKs 0 n).foldl g ns₀ := hP
    subst this
    exact done vs u h tk hi' F' N'
end
open KStt in
/-- what the place k of the text adds -/
def dStep (tb : List (Str × Str)) (x : Str) (ns : List Int) (k : Int) : List Int :=
  if (lkS tb (Txt.item x k)).isSome = true then bumpAt (bumpAt (innerF tb (codes (slice3 x k)) Str.empty ns) (kdpLook opsTab (Str.ofString "&") 0).toNat 1) (kdpLook opsTab (Str.ofString ";") 0).toNat 1
  else innerF tb (codes (slice3 x k)) Str.empty ns
theorem dStep_length (tb : List (Str × Str)) (x : Str) (ns : List Int) (k : Int) : (dStep tb x ns k).length = ns.length := by
  unfold dStep; split
  · rw [bumpAt_length, bumpAt_length, innerF_length]
  · rw [innerF_length]
def standsF (tb : List (Str × Str)) (x : Str) : List Int := (rangeKs 0 x.length).foldl (dStep tb x) (List.replicate 48 0)
def dueF (tb : List (Str × Str)) (x : Str) : List Int := (rangeKs 0 48).foldl (mStep (standsF tb x)) (standsF tb x)
theorem foldl_len {α : Type} (g : List Int → α → List Int) (hg : ∀ ns k, (g ns k).length = ns.length) : ∀ (l : List α) (ns : List Int), (l.foldl g ns).length = ns.length
  | [], _ => rfl
  | a :: l, ns => by rw [List.foldl_cons, foldl_len g hg l, hg]
theorem standsF_length (tb : List (Str × Str)) (x : Str) : (standsF tb x).length = 48 := by
  unfold standsF; rw [foldl_len _ (dStep_length tb x)]; simp
theorem dueF_length (tb : List (Str × Str)) (x : Str) : (dueF tb x).length = 48 := by
  unfold dueF; rw [foldl_len _ (mStep_length _), standsF_length]
end Mine
end
noncomputable section
open PySem PySem.W PyProof.Rows
namespace Mine
def DuoIs (tb : List (Str × Str)) (x : Str) : Prop := tb.length ≤ 100 ∧ x = x
local macro_rules | `(tactic| walk_at "ite") => `(tactic| (k_closed; k_dflt (first | (refine' ite_pos ?c ?_; (case c => decide)) | (refine' ite_neg ?c ?_; (case c => decide)))))
local macro_rules | `(tactic| k_all) => `(tactic| exact all_ne (by assumption) (by omega))
theorem vec_range1 {prog : Program} {w : World} {A : Around} {E : Value → Shared → Prop} {s : Shared} {env : Env} {h₀ : Heap} {body : List Stmt} {Q : Flow → Shared → Prop} {tb : List (Str × Str)} {x : Str} {r D : Addr} {t₀ u₀ v₀ : Tok} {vs₀ : List Value} {ns₀ : List Int} {nn : Nat} {rest : List (Addr × Obj)} {m₀ : Str → Option Value}
  (hd : DuoIs tb x) (hh : A.handled = none) (hr : IsRange s.heap r 0 (x.length : Nat) 1 t₀ u₀ v₀) (hl : x.length ≤ 400) (F : Fr h₀ env.locals s.heap m₀) (N : News h₀ env.locals s.heap ((D, W.listOf vs₀.toArray nn) :: rest)) (hrest : ∀ q ∈ rest, q.1 ≠ D) (hi : IntsAre vs₀ ns₀) (h0 : ns₀ = List.replicate 48 0)
  (turn : ∀ (vs : List Value) (ns : List Int) (k : Int) (t : Tok) (u : Str → Option Value) (h : Heap) (tk : Nat) (own : List (Addr × Obj)), 0 ≤ k → k < (x.length : Nat) → IntsAre vs ns → ns.length = 48 → (∀ q ∈ rest ++ own, q.1 ≠ D) →
     Fr h₀ env.locals h (fun y => if y = Str.ofString "k" then some (.int k t) else if [Str.ofString "piece", Str.ofString "sign"].contains y then u y else m₀ y) → News h₀ env.locals h ((D, W.listOf vs.toArray nn) :: (rest ++ own)) →
     wpAny (model prog w) A (execs body env) (VecEnd h₀ env.locals m₀ [Str.ofString "piece", Str.ofString "sign"] D nn rest own (dStep tb x ns k) { s with heap := h, toks := tk }) E { s with heap := h, toks := tk })
  (done : ∀ (vs : List Value) (u : Str → Option Value) (h : Heap) (tk : Nat), IntsAre vs (standsF tb x) → Fr h₀ env.locals h (fun y => if y = Str.ofString "k" then u y else if [Str.ofString "piece", Str.ofString "sign"].contains y then u y else m₀ y) → News h₀ env.locals h ((D, W.listOf vs.toArray nn) :: rest) → Q .next { s with heap := h, toks := tk }) :
  wpAny (model prog w) A (pyIter (.ref r)) (fun it s₂ => LoopAtV prog w A h₀ env (Str.ofString "k") body Q E it s₂) E s := by
  subst h0
  exact vec_range (dStep tb x) (dStep_length tb x) _ hh hr hl F N hrest hi (by simp) turn done
theorem vec_range2 {prog : Program} {w : World} {A : Around} {E : Value → Shared → Prop} {s : Shared} {env : Env} {h₀ : Heap} {body : List Stmt} {Q : Flow → Shared → Prop} {tb : List (Str × Str)} {x : Str} {r D : Addr} {t₀ u₀ v₀ : Tok} {vs₀ : List Value} {nn : Nat} {rest : List (Addr × Obj)} {m₀ : Str → Option Value}
  (hd : DuoIs tb x) (hh : A.handled = none) (hr : IsRange s.heap r 0 48 1 t₀ u₀ v₀) (F : Fr h₀ env.locals s.heap m₀) (N : News h₀ env.locals s.heap ((D, W.listOf vs₀.toArray nn) :: rest)) (hrest : ∀ q ∈ rest, q.1 ≠ D) (hi : IntsAre vs₀ (standsF tb x))
  (turn : ∀ (vs : List Value) (ns : List Int) (k : Int) (t : Tok) (u : Str → Option Value) (h : Heap) (tk : Nat) (own : List (Addr × Obj)), 0 ≤ k → k < 48 → IntsAre vs ns → ns.length = 48 → (∀ q ∈ rest ++ own, q.1 ≠ D) →
     Fr h₀ env.locals h (fun y => if y = Str.ofString "k" then some (.int k t) else if [Str.ofString "shorter"].contains y then u y else m₀ y) → News h₀ env.locals h ((D, W.listOf vs.toArray nn) :: (rest ++ own)) →
     wpAny (model prog w) A (execs body env) (VecEnd h₀ env.locals m₀ [Str.ofString "shorter"] D nn rest own (mStep (standsF tb x) ns k) { s with heap := h, toks := tk }) E { s with heap := h, toks := tk })
  (done : ∀ (vs : List Value) (u : Str → Option Value) (h : Heap) (tk : Nat), IntsAre vs (dueF tb x) → Fr h₀ env.locals h (fun y => if y = Str.ofString "k" then u y else if [Str.ofString "shorter"].contains y then u y else m₀ y) → News h₀ env.locals h ((D, W.listOf vs.toArray nn) :: rest) → Q .next { s with heap := h, toks := tk }) :
  wpAny (model prog w) A (pyIter (.ref r)) (fun it s₂ => LoopAtV prog w A h₀ env (Str.ofString "k") body Q E it s₂) E s :=
  vec_range (n := 48) (mStep (standsF tb x)) (mStep_length _) _ hh hr (by decide) F N hrest hi (standsF_length tb x) turn done
theorem noImp : importsNone hd.view_39 = true := by decide +kernel
def TabAt (prog : Program) (w : World) (Ds : Addr) (news : List (Addr × Obj)) (tb : List (Str × Str)) : Prop := ∀ h₁ L₁ h, News h₁ L₁ h news → StrTab prog w h Ds (tabS tb)
theorem TabAt.sub {prog : Program} {w : World} {Ds : Addr} {news rest : List (Addr × Obj)} {tb : List (Str × Str)} (T : TabAt prog w Ds news tb) (hs : ∀ q ∈ news, q ∈ rest) {h₀ : Heap} {L : Addr} : ∀ h, News h₀ L h rest → StrTab prog w h Ds (tabS tb) :=
  fun h N => T h₀ L h fun q hq => N q (hs q hq)
theorem dStep_has {tb : List (Str × Str)} {x : Str} {ns : List Int} {k : Int} {vs : List Value} (hc : (lkS tb (Txt.item x k)).isSome = true) (hi : IntsAre vs (bumpAt (bumpAt (innerF tb (KStt.codes (slice3 x k)) Str.empty ns) (kdpLook opsTab (Str.ofString "&") 0).toNat 1) (kdpLook opsTab (Str.ofString ";") 0).toNat 1)) : IntsAre vs (dStep tb x ns k) := by
  unfold dStep; rw [if_pos hc]; exact hi
theorem dStep_not {tb : List (Str × Str)} {x : Str} {ns : List Int} {k : Int} {vs : List Value} (hc : (lkS tb (Txt.item x k)).isSome = false) (hi : IntsAre vs (innerF tb (KStt.codes (slice3 x k)) Str.empty ns)) : IntsAre vs (dStep tb x ns k) := by
  unfold dStep; rw [if_neg (by rw [hc]; exact Bool.false_ne_true)]; exact hi
theorem mStep_has {st ns : List Int} {k : Int} {vs : List Value} (hc : 1 < (opsL.getD k.toNat Str.empty).length) (hi : IntsAre vs (bumpAt ns (kdpLook opsTab (parS (opsL.getD k.toNat Str.empty)) 0).toNat (-(st.getD k.toNat 0)))) : IntsAre vs (mStep st ns k) := by
  unfold mStep; dsimp only; rw [if_pos hc]; exact hi
theorem mStep_not {st ns : List Int} {k : Int} {vs : List Value} (hc : ¬ 1 < (opsL.getD k.toNat Str.empty).length) (hi : IntsAre vs ns) : IntsAre vs (mStep st ns k) := by
  unfold mStep; dsimp only; rw [if_neg hc]; exact hi
theorem ops_par_at {k : Int} (h0 : 0 ≤ k) (h1 : k < 48) : 1 < (opsL.getD k.toNat Str.empty).length → kdpHas opsTab (parS (opsL.getD k.toNat Str.empty)) = true := by
  refine ops_par _ ?_
  have hk : k.toNat < opsL.length := by rw [opsL_length]; omega
  rw [List.getD_eq_getElem?_getD, List.getElem?_eq_getElem hk, Option.getD_some]
  exact List.getElem_mem hk
theorem innerF_len (tb : List (Str × Str)) {l : List Int} {p : Str} {ns : List Int} (h : ns.length = 48) : (innerF tb l p ns).length = 48 := by rw [innerF_length]; exact h
local macro_rules | `(tactic| walk_at "eval Subscript") => `(tactic| (
  k_here
  (with_reducible show wpAny _ _ (eval (PySem.Expr.Subscript (PySem.Expr.Name (Str.ofString "operators") _) (PySem.Expr.Name (Str.ofString "k") _) _) _) _ _ _)
  k_dflt (
    refine' Subscript_ (nameX_C (x := Str.ofString "operators") ?N ?hc ?hm ?hd (nameX_L (x := Str.ofString "k") ?F ?hv (ops_item ?N ?hl ?hs ?h0 ?h1 (fun t' l1' => ?_) ?r1 ?r2) ?hk ?hx) ?hk ?hx2)
    (case N => k_asm)
    (case hc => rfl)
    (case hm => (repeat (first | exact List.Mem.head _ | refine List.Mem.tail _ ?_ | refine List.mem_append_left _ ?_)))
    (case hd => with_reducible assumption)
    (case F => k_asm)
    (case hv => with_unfolding_all rfl)
    (case hl => (repeat (first | exact List.Mem.head _ | refine List.Mem.tail _ ?_ | refine List.mem_append_left _ ?_)))
    (case hs => exact strs_ops (by assumption) (by assumption))
    (case h0 => with_reducible assumption)
    (case h1 => with_reducible assumption)
    (case r1 => rfl)
    (case r2 => exact fun _ => rfl)
    (case hk => rfl)
    (case hx => rfl)
    (case hx2 => rfl))))
theorem ints_len {vs : List Value} {ns : List Int} (h : IntsAre vs ns) : vs.length = ns.length := by
  induction h with
  | nil => rfl
  | cons _ _ _ ih => exact congrArg (· + 1) ih
theorem list_stands {prog : Program} {w : World} {A : Around} {E : Value → Shared → Prop} {s : Shared} {h₀ : Heap} {L : Addr} {m : Str → Option Value} {news : List (Addr × Obj)} {Q : Value → Shared → Prop} {l : Addr} {vs : List Value} {n : Nat} {tb : List (Str × Str)} {x : Str}
    (F : Fr h₀ L s.heap m) (N : News h₀ L s.heap news) (hm : (l, W.listOf vs.toArray n) ∈ news) (hi : IntsAre vs (standsF tb x))
    (h : ∀ D c h', Fr h₀ L h' m → News h₀ L h' ((D, W.listOf vs.toArray c) :: news) → (∀ q ∈ news, q.1 < D) → Q (.ref D) { s with heap := h' }) :
    wpAny (model prog w) A (call (.type "list") [.ref l]) Q E s := by
  refine list_copyK F N (N.isList hm) h ?_
  have := ints_len hi
  rw [List.size_toArray, this, standsF_length, sizeLine_eq]; omega
local macro_rules | `(tactic| walk_at "exec Assign cons DictComp") => `(tactic| (k_here; refine' Stop.of ?_))
local macro_rules | `(tactic| walk_at "exec For Name Subscript cons nil") => `(tactic| (k_here; refine' Stop.of ?_))
local macro_rules | `(tactic| walk_at "exec If") => `(tactic| (k_here; refine' Stop.of ?_))
local macro_rules | `(tactic| walk_at "call type:list") => `(tactic| (k_here; refine' Stop.of ?_))
local macro_rules | `(tactic| walk_at "pyIter ref") => `(tactic| (k_here; refine' Stop.of ?_))
set_option maxRecDepth 100000 in
set_option maxHeartbeats 800000 in
theorem due0 (w : World) (text : Str) (tt : Tok) (Ds : Addr) (od : Obj) (kvs : List (Str × Value)) (tb : List (Str × Str)) (news : List (Addr × Obj)) (hl : text.length ≤ 400) (hm : (Ds, od) ∈ news)
  (hdi : od.IsDictOf (PySem.strKind PySem.Challenge.rw_pg0200_01.row.prog w) kvs) (hf : PyProof.V.FlatPairs PyData.str kvs (tabS tb)) (hduo : DuoIs tb text) :
  (hd.heap_39 w.params = hd.heap_39 w.params) ∧ CallOk w 97 [.str text tt, .ref Ds] news (fun v new => ∃ D vs nn, v = .ref D ∧ new = [(D, W.listOf vs.toArray nn)] ∧ IntsAre vs (dueF tb text)) := by
  unfold CallOk
  k_fill
  refine ⟨rfl, ?_⟩
  intro mean mg mb cn cs a ccd cl A₀ base h₀ L m s Q E B F X N T hcs hpos hret
  obtain ⟨ck, cnn, cg, cc, cm⟩ := cs
  obtain rfl : ck = .function := hcs
  have TS : TabAt PySem.Challenge.rw_pg0200_01.row.prog w Ds news tb := fun _ _ => tab_news hm hdi hf (not_mods T noImp N hm)
  clear hdi hf
  k_steps
  refine' Stop.go ?_
  refine' asg_places ?Fx1 ?hswx1 ?hLx1 ?hhx1 ?hclosx1 ?hcellx1 ?hkindx1 ?hnamesx1 ?hxx1 ?hyx1 ?hpx1 ?hcx1 ?_ ?k1x1 ?k2x1 ?k3x1 ?k4x1 ?hsx1
  (case Fx1 => k_asm)
  (case hswx1 => with_unfolding_all rfl)
  (case hLx1 => rfl)
  (case hhx1 => rfl)
  (case hclosx1 => with_unfolding_all rfl)
  (case hcellx1 => decide)
  (case hkindx1 => rfl)
  (case hnamesx1 => decide)
  (case hxx1 => rfl)
  (case hyx1 => rfl)
  (case hpx1 => rfl)
  (case hcx1 => rfl)
  (case k1x1 => exact fun _ => rfl)
  (case k2x1 => exact fun _ => rfl)
  (case k3x1 => exact fun _ => rfl)
  (case k4x1 => exact fun _ => rfl)
  (case hsx1 => exact fun _ => rfl)
  k_steps
  refine' PlSrc.intro ?hrx2 ?Fx2 ?Nx2 ?hcx2 ?hox2 ?hlx2 ?hsx2 ?_
  (case hrx2 => k_asm)
  (case Fx2 => k_asm)
  (case Nx2 => k_asm)
  (case hcx2 => k_mem)
  (case hox2 => with_reducible assumption)
  (case hlx2 => k_mem)
  (case hsx2 => exact strs_ops (by assumption) (by assumption))
  intro D' o' h' tk' kvs' F' N' off' hd' hf'
  (try simp only [LCg.Off1, and_true] at off')
  k_steps
  refine' Stop.go ?_
  refine' vec_range1 ?pgx3 ?hhx3 ?hrx3 ?hlx3 ?Fx3 ?Nx3 ?hrestx3 ?hix3 ?h0x3 (fun vs' ns' k' t' u' h' tk' own' hk0' hk1' hi' hn' hoff' F' N' => ?_) (fun vs' u' h' tk' hi' F' N' => ?_)
  (case pgx3 => with_reducible assumption)
  (case hhx3 => rfl)
  (case hrx3 => with_reducible assumption)
  (case hlx3 => with_reducible assumption)
  (case Fx3 => k_asm)
  (case Nx3 => k_asm)
  (case hrestx3 => exact fun q hq => Nat.ne_of_lt (kst_ltOf (by (try simp only [AllLt, and_true]); with_reducible assumption) q hq))
  (case hix3 => with_reducible assumption)
  (case h0x3 => decide +kernel)
  · k_steps
    refine' Stop.go ?_
    refine' due_inner (w3 := slice3 _ _) ?Fx4 ?Nx4 ?hoffx4 ?hix4 ?hnx4 ?hpcx4 ?hp0x4 ?hspx4 ?hplx4 ?hstx4 ?TSx4 ?TPx4 ?hwx4 ?hhx4 ?hkx4 ?k1x4 ?k2x4 ?k3x4 ?k4x4 ?k5x4 ?hitx4 (fun vs' u' h' tk' hi' F' N' => ?_) ?hEx4 ?hsx4 ?hb1x4 ?hb2x4 ?hw1x4 ?hw2x4
    (case Fx4 => k_asm)
    (case Nx4 => k_asm)
    (case hoffx4 => with_reducible assumption)
    (case hix4 => with_reducible assumption)
    (case hnx4 => with_reducible assumption)
    (case hpcx4 => exact if_pos rfl)
    (case hp0x4 => rfl)
    (case hspx4 => with_unfolding_all rfl)
    (case hplx4 => with_unfolding_all rfl)
    (case hstx4 => with_unfolding_all rfl)
    (case TSx4 => exact TabAt.sub (by assumption) (by intro q hq; (repeat first | exact hq | refine List.Mem.tail _ ?_ | refine List.mem_append_left _ ?_)))
    (case TPx4 => exact tab_news (by repeat (first | exact List.Mem.head _ | refine List.Mem.tail _ ?_ | refine List.mem_append_left _ ?_)) (by assumption) (by assumption) (not_mods (by assumption) noImp (by assumption) (by repeat (first | exact List.Mem.head _ | refine List.Mem.tail _ ?_ | refine List.mem_append_left _ ?_))))
    (case hitx4 => intro Q' hq'; k_steps; (refine' hq' _ _ _ ?_ ?_) <;> k_asm)
    (case hwx4 => exact Nat.le_trans (PyProof.Txt.length_slice_le _ _ _) (by with_reducible assumption))
    (case hhx4 => rfl)
    (case hkx4 => rfl)
    (case k1x4 => rfl)
    (case k2x4 => rfl)
    (case k3x4 => rfl)
    (case k4x4 => rfl)
    (case k5x4 => rfl)
    (case hEx4 => passes_own)
    (case hsx4 => exact fun _ => rfl)
    (case hb1x4 => with_unfolding_all rfl)
    (case hb2x4 => with_unfolding_all rfl)
    (case hw1x4 => rfl)
    (case hw2x4 => rfl)
    k_steps
    refine' Stop.go ?_
    refine' due_esc (c := Txt.item _ _) ?Fx5 ?Nx5 ?hoffx5 ?hix5 ?hnx5 ?hspx5 ?hplx5 ?hstx5 ?TSx5 ?TPx5 ?hkx5 ?k3x5 ?k4x5 ?k5x5 ?hitx5 (fun hc' vs' h' tk' hi' F' N' => ?_) (fun hc' tk' => ?_) ?hb1x5 ?hw1x5 ?hw2x5
    (case Fx5 => k_asm)
    (case Nx5 => k_asm)
    (case hoffx5 => with_reducible assumption)
    (case hix5 => with_reducible assumption)
    (case hnx5 => exact innerF_len _ (by with_reducible assumption))
    (case hspx5 => with_unfolding_all rfl)
    (case hplx5 => with_unfolding_all rfl)
    (case hstx5 => with_unfolding_all rfl)
    (case TSx5 => exact TabAt.sub (by assumption) (by intro q hq; (repeat first | exact hq | refine List.Mem.tail _ ?_ | refine List.mem_append_left _ ?_)))
    (case TPx5 => exact tab_news (by repeat (first | exact List.Mem.head _ | refine List.Mem.tail _ ?_ | refine List.mem_append_left _ ?_)) (by assumption) (by assumption) (not_mods (by assumption) noImp (by assumption) (by repeat (first | exact List.Mem.head _ | refine List.Mem.tail _ ?_ | refine List.mem_append_left _ ?_))))
    (case hkx5 => rfl)
    (case k3x5 => rfl)
    (case k4x5 => rfl)
    (case k5x5 => rfl)
    (case hitx5 => intro Q' E' hq'; k_steps; refine' hq' _ _)
    (case hb1x5 => with_unfolding_all rfl)
    (case hw1x5 => rfl)
    (case hw2x5 => rfl)
    · k_steps
      refine' VecEnd.intro ?hix6 ?Fx6 ?Nx6 ?hzx6
      (case hix6 => exact dStep_has (by assumption) (by assumption))
      (case Fx6 => k_asm)
      (case Nx6 => k_asm)
      (case hzx6 => intro z h1 h2; (have h2' := h2); simp only [List.contains_cons, List.contains_nil, Bool.or_false, Bool.or_eq_false_iff, beq_eq_false_iff_ne] at h2'; simp only [h1, h2, h2', Bool.false_eq_true, if_false])
    · k_steps
      refine' VecEnd.intro ?hix7 ?Fx7 ?Nx7 ?hzx7
      (case hix7 => exact dStep_not (by assumption) (by assumption))
      (case Fx7 => k_asm)
      (case Nx7 => k_asm)
      (case hzx7 => intro z h1 h2; (have h2' := h2); simp only [List.contains_cons, List.contains_nil, Bool.or_false, Bool.or_eq_false_iff, beq_eq_false_iff_ne] at h2'; simp only [h1, h2, h2', Bool.false_eq_true, if_false])
  k_steps
  refine' Stop.go ?_
  refine' list_stands ?Fx8 ?Nx8 ?hmx8 ?hix8 ?_
  (case Fx8 => k_asm)
  (case Nx8 => k_asm)
  (case hix8 => with_reducible assumption)
  (case hmx8 => k_mem)
  intro D' c' h' F' N' l1
  (try k_lt l1)
  (try k_sweep)
  k_steps
  refine' Stop.go ?_
  refine' vec_range2 ?pgx9 ?hhx9 ?hrx9 ?Fx9 ?Nx9 ?hrestx9 ?hix9 (fun vs' ns' k' t' u' h' tk' own' hk0' hk1' hi' hn' hoff' F' N' => ?_) (fun vs' u' h' tk' hi' F' N' => ?_)
  (case pgx9 => with_reducible assumption)
  (case hhx9 => rfl)
  (case hrx9 => with_reducible assumption)
  (case Fx9 => k_asm)
  (case Nx9 => k_asm)
  (case hrestx9 => exact fun q hq => Nat.ne_of_lt (kst_ltOf (by (try simp only [AllLt, and_true]); with_reducible assumption) q hq))
  (case hix9 => with_reducible assumption)
  · k_steps
    refine' Stop.go ?_
    refine' due_moeb (o := opsL.getD _ Str.empty) ?Fx10 ?Nx10 ?hoffx10 ?hix10 ?hnx10 ?hsmx10 ?hsix10 ?hsnx10 ?hk0x10 ?hk1x10 ?hpx10 ?hmkx10 ?hmpx10 ?hmdx10 ?hmsx10 ?TPx10 ?hkx10 ?k1x10 ?k2x10 ?k3x10 ?k4x10 ?k5x10 ?hopx10 ?hlenx10 ?hcutx10 (fun hc' vs' u' h' tk' hi' F' N' => ?_) (fun hc' tk' => ?_) ?hb1x10 ?hb2x10 ?hw1x10 ?hw2x10 ?hssx10
    (case Fx10 => k_asm)
    (case Nx10 => k_asm)
    (case hoffx10 => with_reducible assumption)
    (case hix10 => with_reducible assumption)
    (case hnx10 => with_reducible assumption)
    (case hmdx10 => with_unfolding_all rfl)
    (case hmsx10 => with_unfolding_all rfl)
    (case hsmx10 => (repeat (first | exact List.Mem.head _ | refine List.Mem.tail _ ?_ | refine List.mem_append_left _ ?_)))
    (case hsix10 => with_reducible assumption)
    (case hsnx10 => exact standsF_length _ _)
    (case hmkx10 => with_unfolding_all rfl)
    (case hk0x10 => with_reducible assumption)
    (case hk1x10 => with_reducible assumption)
    (case hpx10 => exact ops_par_at (by with_reducible assumption) (by with_reducible assumption))
    (case hmpx10 => with_unfolding_all rfl)
    (case TPx10 => exact tab_news (by repeat (first | exact List.Mem.head _ | refine List.Mem.tail _ ?_ | refine List.mem_append_left _ ?_)) (by assumption) (by assumption) (not_mods (by assumption) noImp (by assumption) (by repeat (first | exact List.Mem.head _ | refine List.Mem.tail _ ?_ | refine List.mem_append_left _ ?_))))
    (case hkx10 => rfl)
    (case k1x10 => rfl)
    (case k2x10 => rfl)
    (case k3x10 => rfl)
    (case k4x10 => rfl)
    (case k5x10 => rfl)
    (case hopx10 => intro p1' p2' p3' h' tk' Q' E' F' N' hq'; k_steps; refine' hq' _ _)
    (case hlenx10 => intro Q' E' hq'; k_steps; refine' hq' _ _)
    (case hcutx10 => intro h' tk' Q' E' F' N' hq'; k_steps; (refine' hq' _ _ _ ?_ ?_) <;> k_asm)
    (case hb1x10 => with_unfolding_all rfl)
    (case hb2x10 => with_unfolding_all rfl)
    (case hw1x10 => rfl)
    (case hw2x10 => rfl)
    (case hssx10 => intro _ _; rfl)
    · k_steps
      refine' VecEnd.intro ?hix11 ?Fx11 ?Nx11 ?hzx11
      (case hix11 => exact mStep_has (by assumption) (by assumption))
      (case Fx11 => k_asm)
      (case Nx11 => k_asm)
      (case hzx11 => intro z h1 h2; (have h2' := h2); simp only [List.contains_cons, List.contains_nil, Bool.or_false, Bool.or_eq_false_iff, beq_eq_false_iff_ne] at h2'; simp only [h1, h2, h2', Bool.false_eq_true, if_false])
    · k_steps
      refine' VecEnd.intro ?hix12 ?Fx12 ?Nx12 ?hzx12
      (case hix12 => exact mStep_not (by assumption) (by assumption))
      (case Fx12 => k_asm)
      (case Nx12 => k_asm)
      (case hzx12 => intro z h1 h2; (have h2' := h2); simp only [List.contains_cons, List.contains_nil, Bool.or_false, Bool.or_eq_false_iff, beq_eq_false_iff_ne] at h2'; simp only [h1, h2, h2', Bool.false_eq_true, if_false])
  k_steps
  refine' hret _ [(_, _)] _ _ ⟨_, _, _, rfl, rfl, ?i⟩ ?f ?n
  case n =>
    rename News _ _ _ (_ :: _ :: _) => kN
    intro p hp
    exact kN p (by (rcases List.mem_cons.mp hp with rfl | hp); (· exact List.Mem.head _); (repeat first | exact hp | refine List.Mem.tail _ ?_))
  case i => with_reducible assumption
  case f => with_reducible assumption
theorem due_ok (w : World) (text : Str) (tt : Tok) (Ds : Addr) (od : Obj) (kvs : List (Str × Value)) (tb : List (Str × Str)) (news : List (Addr × Obj)) (hl : text.length ≤ 400) (hm : (Ds, od) ∈ news)
  (hdi : od.IsDictOf (PySem.strKind PySem.Challenge.rw_pg0200_01.row.prog w) kvs) (hf : PyProof.V.FlatPairs PyData.str kvs (tabS tb)) (ht : tb.length ≤ 100) :
  CallOk w 97 [.str text tt, .ref Ds] news (fun v new => ∃ D vs nn, v = .ref D ∧ new = [(D, W.listOf vs.toArray nn)] ∧ IntsAre vs (dueF tb text)) := (due0 w text tt Ds od kvs tb news hl hm hdi hf ⟨ht, rfl⟩).2
end Mine
end
section
open PySem PySem.W PyProof.Rows
namespace Mine
open Builtin.Str in
theorem sliceIdx_clip (l : Option Int) (u : Int) (len : Nat) (h : (len : Int) ≤ u) : strSliceIndices l (some u) 1 len = strSliceIndices l (some (len : Int)) 1 len := by
  have a : ¬ u < 0 := by omega
  have b : ¬ ((len : Int) < 0) := by omega
  have c : min u (len : Int) = (len : Int) := by omega
  have d : max (0 : Int) (min (len : Int) (len : Int)) = (len : Int) := by omega
  have e : (if (len : Int) < 0 then (len : Int) + (len : Int) else (len : Int)) = (len : Int) := if_neg b
  simp [strSliceIndices, a, c]
  rw [e, d]
def win (l : List Nat) (k : Nat) : List Nat := (l.drop k).take 3
theorem slice3_toList (x : Str) (k : Nat) (h : k ≤ x.length) : (slice3 x (k : Int)).cps.toList = win x.cps.toList k := by
  have e : slice3 x (k : Int) = StrLaws.sliceText x (some (k : Int)) (some ((k : Int) + 3)) := rfl
  rw [e]
  have hx : x.cps.toList.length = x.length := by simp [Str.length]
  by_cases hc : k + 3 ≤ x.length
  · have := StrLaws.sliceText_nat x (a := k) (b := k + 3) (by omega) hc
    rw [show ((k : Int) + 3) = ((k + 3 : Nat) : Int) by omega, this]
    simp [win]
  · have e2 : StrLaws.sliceText x (some (k : Int)) (some ((k : Int) + 3)) = StrLaws.sliceText x (some (k : Int)) (some (x.length : Int)) := by
      unfold StrLaws.sliceText
      rw [sliceIdx_clip _ _ _ (by omega)]
    rw [e2, StrLaws.sliceText_nat x h (Nat.le_refl _)]
    show (x.cps.toList.drop k).take (x.length - k) = win x.cps.toList k
    unfold win
    rw [List.take_of_length_le (by rw [List.length_drop]; omega), List.take_of_length_le (by rw [List.length_drop]; omega)]
theorem item_toList (x : Str) (k : Nat) (c : Nat) (h : x.cps.toList[k]? = some c) : Txt.item x (k : Int) = ⟨#[c]⟩ := by
  unfold Txt.item Txt.charAt
  have h2 : x.cps[((k : Int)).toNat]? = some c := by simpa using h
  rw [StrLaws.at_nonneg (by omega) h2]; rfl
/-- how many of the places of l satisfy: the sum over the windows -/
def sumW (φ : List Nat → Int) : List Nat → Int
  | [] => 0
  | c :: r => φ ((c :: r).take 3) + sumW φ r
theorem sum_windows (φ : List Nat → Int) : ∀ l : List Nat, ((List.range l.length).map fun k => φ (win l k)).sum = sumW φ l
  | [] => rfl
  | c :: r => by
    rw [List.length_cons, List.range_succ_eq_map, List.map_cons, List.sum_cons, List.map_map]
    have : ((fun k => φ (win (c :: r) k)) ∘ Nat.succ) = fun k => φ (win r k) := by funext k; rfl
    rw [this, sum_windows φ r]; rfl
theorem bump_get (ns : List Int) (i : Nat) (d : Int) (j : Nat) (hi : i < ns.length) : (bumpAt ns i d).getD j 0 = ns.getD j 0 + if i = j then d else 0 := by
  unfold bumpAt
  rw [List.getD_eq_getElem?_getD, List.getElem?_set]
  by_cases h : i = j
  · subst h; simp [hi, List.getD_eq_getElem?_getD]
  · simp [h, List.getD_eq_getElem?_getD]
theorem fold_get {α : Type} (g : List Int → α → List Int) (c : α → Int) (j : Nat) (hlen : ∀ ns k, (g ns k).length = ns.length) : ∀ (ks : List α) (ns : List Int), ns.length = 48 →
   (∀ k ∈ ks, ∀ ns : List Int, ns.length = 48 → (g ns k).getD j 0 = ns.getD j 0 + c k) → (ks.foldl g ns).getD j 0 = ns.getD j 0 + (ks.map c).sum
  | [], ns, _, _ => by simp
  | k :: ks, ns, h, hc => by
    rw [List.foldl_cons, fold_get g c j hlen ks (g ns k) (by rw [hlen]; exact h) (fun k' hk' => hc k' (.tail _ hk')), hc k (.head _) ns h, List.map_cons, List.sum_cons]
    omega
theorem list_ext48 {a b : List Int} (ha : a.length = 48) (hb : b.length = 48) (h : ∀ j, j < 48 → a.getD j 0 = b.getD j 0) : a = b := by
  apply List.ext_getElem? 
  intro j
  by_cases hj : j < 48
  · have := h j hj
    rw [List.getD_eq_getElem?_getD, List.getD_eq_getElem?_getD, List.getElem?_eq_getElem (by omega), List.getElem?_eq_getElem (by omega)] at this
    rw [List.getElem?_eq_getElem (by omega), List.getElem?_eq_getElem (by omega)]
    simpa using this
  · rw [List.getElem?_eq_none (by omega), List.getElem?_eq_none (by omega)]
def opAt (j : Nat) : Str := opsL.getD j Str.empty
theorem ops_at : ∀ j < 48, kdpHas opsTab (opAt j) = true ∧ kdpLook opsTab (opAt j) 0 = (j : Int) := by decide +kernel
theorem has_at {p : Str} (h : kdpHas opsTab p = true) : opAt (kdpLook opsTab p 0).toNat = p := by
  have key : ∀ q ∈ opsTab, opAt q.2.toNat = q.1 := by decide +kernel
  exact key _ (kdpLook_mem h)
/-- the bump of a word at j -/
theorem bump_word {p : Str} (hp : kdpHas opsTab p = true) {ns : List Int} (hn : ns.length = 48) (d : Int) {j : Nat} (hj : j < 48) :
   (bumpAt ns (kdpLook opsTab p 0).toNat d).getD j 0 = ns.getD j 0 + if p = opAt j then d else 0 := by
  obtain ⟨r1, r2⟩ := op_range hp
  rw [bump_get _ _ _ _ (by omega)]
  have : ((kdpLook opsTab p 0).toNat = j) ↔ p = opAt j := by
    constructor
    · intro e; rw [← e, has_at hp]
    · intro e; rw [e, (ops_at j hj).2]; rfl
  by_cases h : p = opAt j
  · rw [if_pos h, if_pos (this.mpr h)]
  · rw [if_neg h, if_neg (fun e => h (this.mp e))]
end Mine
end
section
open PySem PySem.W PyProof.Rows
namespace Mine
def opsN : List (List Nat) := opsL.map fun o => o.cps.toList
def isOp (w : List Nat) : Bool := opsN.contains w
def lgW : Nat → List Nat → List Nat
  | 0, p => p
  | n + 1, p => if decide (1 < p.length) && !isOp p then lgW n (p.take (p.length - 1)) else p
def lg (w : List Nat) : List Nat := lgW w.length w
def ind (a b : List Nat) : Int := if a = b then 1 else 0
def parN (o : List Nat) : List Nat := if o = [46, 46, 46] then [46] else o.take (o.length - 1)
def Mw (f : List Nat → Int) (o : List Nat) : Int := f o - (opsN.map fun o' => if 1 < o'.length ∧ parN o' = o then f o' else 0).sum
def dd (o : List Nat) : Int := ind [38] o + ind [59] o
def pcN (sp : Nat → Bool) (o : List Nat) : List Nat → List Nat → Int
  | [], _ => 0
  | c :: r, p => if sp c = true then 0 else ind (p ++ [c]) o + pcN sp o r (p ++ [c])
def phi (sp : Nat → Bool) (o : List Nat) : List Nat → Int
  | [] => 0
  | c :: r => if sp c = true then dd o else pcN sp o (c :: r) []
theorem opsN_nodup : opsN.Nodup := by decide +kernel
theorem opsN_short : ∀ o ∈ opsN, 1 ≤ o.length ∧ o.length ≤ 3 := by decide +kernel
theorem opsN_par2 : ∀ o ∈ opsN, o.length = 2 → isOp (o.take 1) = true := by decide +kernel
theorem opsN_par3 : ∀ o ∈ opsN, o.length = 3 → o = [46, 46, 46] ∨ isOp (o.take 2) = true := by decide +kernel
theorem opsN_amp : ∀ o ∈ opsN, 38 ∉ o.drop 1 := by decide +kernel
theorem dots : isOp [46, 46, 46] = true ∧ isOp [46, 46] = false ∧ isOp [46] = true := by decide +kernel
theorem isOp_mem {w : List Nat} : isOp w = true ↔ w ∈ opsN := by unfold isOp; rw [List.contains_iff_mem]
theorem lg1 (a : Nat) : lg [a] = [a] := by
  unfold lg lgW
  simp
theorem lg2 (a b : Nat) : lg [a, b] = if isOp [a, b] = true then [a, b] else [a] := by
  show lgW 2 [a, b] = _
  unfold lgW
  cases h : isOp [a, b]
  · simp [lgW]
  · simp
theorem lg3 (a b c : Nat) : lg [a, b, c] = if isOp [a, b, c] = true then [a, b, c] else if isOp [a, b] = true then [a, b] else [a] := by
  show lgW 3 [a, b, c] = _
  unfold lgW
  cases h : isOp [a, b, c]
  · simp only [List.length_cons, List.length_nil, Bool.not_false, Bool.and_true, Bool.false_eq_true, if_false]
    rw [if_pos (by simp)]
    show lgW 2 [a, b] = _
    exact lg2 a b
  · simp
theorem sum_ind {l : List (List Nat)} (hn : l.Nodup) (P : List Nat → Prop) [DecidablePred P] (q : List Nat) : (l.map fun o' => if P o' then ind q o' else 0).sum = if q ∈ l ∧ P q then 1 else 0 := by
  induction l with
  | nil => simp
  | cons a l ih =>
    rw [List.map_cons, List.sum_cons, ih hn.of_cons]
    have ha : a ∉ l := (List.nodup_cons.mp hn).1
    unfold ind
    by_cases h : q = a
    · subst h
      by_cases hp : P q
      · simp [hp, ha]
      · simp [hp, ha]
    · simp [h]
theorem sum_add {α : Type} (l : List α) (f g : α → Int) : (l.map fun x => f x + g x).sum = (l.map f).sum + (l.map g).sum := by
  induction l with
  | nil => rfl
  | cons a l ih => simp only [List.map_cons, List.sum_cons, ih]; omega
theorem Mw_add (f g : List Nat → Int) (o : List Nat) : Mw (fun x => f x + g x) o = Mw f o + Mw g o := by
  unfold Mw
  have : (opsN.map fun o' => if 1 < o'.length ∧ parN o' = o then f o' + g o' else 0) = opsN.map fun o' => (if 1 < o'.length ∧ parN o' = o then f o' else 0) + (if 1 < o'.length ∧ parN o' = o then g o' else 0) := by
    apply List.map_congr_left
    intro o' _
    split <;> omega
  rw [this, sum_add]
  show f o + g o - _ = _
  omega
theorem Mw_ind (q o : List Nat) : Mw (ind q) o = ind q o - if q ∈ opsN ∧ (1 < q.length ∧ parN q = o) then 1 else 0 := by
  unfold Mw
  rw [sum_ind opsN_nodup]
theorem Mw_congr {f g : List Nat → Int} (h : ∀ o, f o = g o) (o : List Nat) : Mw f o = Mw g o := by
  have : f = g := funext h
  rw [this]
theorem Mw_zero (o : List Nat) : Mw (fun _ => 0) o = 0 := by
  unfold Mw
  have : (opsN.map fun o' => if 1 < o'.length ∧ parN o' = o then (0 : Int) else 0) = opsN.map fun _ => 0 := by
    apply List.map_congr_left; intro _ _; split <;> rfl
  rw [this]
  have : ∀ l : List (List Nat), (l.map fun _ => (0 : Int)).sum = 0 := by
    intro l; induction l with
    | nil => rfl
    | cons a l ih => simp [ih]
  rw [this]; rfl
theorem Mw_ind1 (a : Nat) (o : List Nat) : Mw (ind [a]) o = ind [a] o := by
  rw [Mw_ind, if_neg (by rintro ⟨_, h, _⟩; exact absurd h (by simp))]; omega
theorem Mw_dd (o : List Nat) : Mw dd o = dd o := by
  show Mw (fun x => ind [38] x + ind [59] x) o = _
  rw [Mw_add, Mw_ind1, Mw_ind1]; rfl
theorem ind_no {q o : List Nat} (ho : o ∈ opsN) (h : ¬ q ∈ opsN) : ind q o = 0 := by
  unfold ind
  rw [if_neg]
  intro e; exact h (e ▸ ho)
theorem not_mem {q : List Nat} (h : ¬ isOp q = true) : ¬ q ∈ opsN := fun m => h (isOp_mem.mpr m)
/-- the longest stretch, told by all stretches -/
theorem K1 (o : List Nat) (ho : o ∈ opsN) (t : List Nat) (h1 : 1 ≤ t.length) (h3 : t.length ≤ 3) : Mw (fun x => pcN (fun _ => false) x t []) o = ind (lg t) o := by
  match t, h1, h3 with
  | [a], _, _ =>
    rw [lg1, ← Mw_ind1 a o]
    apply Mw_congr; intro x
    simp [pcN]
  | [a, b], _, _ =>
    have e : Mw (fun x => pcN (fun _ => false) x [a, b] []) o = Mw (fun x => ind [a] x + ind [a, b] x) o := by
      apply Mw_congr; intro x; simp [pcN]
    rw [e, Mw_add, Mw_ind1, Mw_ind, lg2]
    by_cases hab : isOp [a, b] = true
    · rw [if_pos hab]
      have hm := isOp_mem.mp hab
      have hp : parN [a, b] = [a] := by unfold parN; rw [if_neg (by simp)]; rfl
      rw [hp]
      by_cases hao : [a] = o
      · rw [if_pos ⟨hm, by simp, hao⟩]; unfold ind; rw [if_pos hao]; omega
      · rw [if_neg (fun h => hao h.2.2)]; unfold ind; rw [if_neg hao]; omega
    · rw [if_neg hab, if_neg (fun h => hab (isOp_mem.mpr h.1))]
      have : ind [a, b] o = 0 := ind_no ho (not_mem hab)
      omega
  | [a, b, c], _, _ =>
    have e : Mw (fun x => pcN (fun _ => false) x [a, b, c] []) o = Mw (fun x => (ind [a] x + ind [a, b] x) + ind [a, b, c] x) o := by
      apply Mw_congr; intro x; simp [pcN]; omega
    rw [e, Mw_add, Mw_add, Mw_ind1, Mw_ind, Mw_ind, lg3]
    have hp2 : parN [a, b] = [a] := by unfold parN; rw [if_neg (by simp)]; rfl
    rw [hp2]
    by_cases habc : isOp [a, b, c] = true
    · rw [if_pos habc]
      have hm := isOp_mem.mp habc
      rcases opsN_par3 _ hm rfl with hd | hd
      · obtain ⟨rfl, rfl, rfl⟩ : a = 46 ∧ b = 46 ∧ c = 46 := by simpa using hd
        have hp3 : parN [46, 46, 46] = [46] := rfl
        have hn : ¬ [46, 46] ∈ opsN := fun h => by have := isOp_mem.mpr h; rw [dots.2.1] at this; cases this
        rw [hp3, if_neg (fun h => hn h.1)]
        have : ind [46, 46] o = 0 := ind_no ho hn
        by_cases hao : [46] = o
        · rw [if_pos ⟨hm, by simp, hao⟩]; unfold ind at *; rw [if_pos hao]; omega
        · rw [if_neg (fun h => hao h.2.2)]; unfold ind at *; rw [if_neg hao]; omega
      · have hab : [a, b] ∈ opsN := isOp_mem.mp hd
        have hne : ¬ ([a, b, c] = [46, 46, 46]) := fun h => by
          obtain ⟨rfl, rfl, rfl⟩ : a = 46 ∧ b = 46 ∧ c = 46 := by simpa using h
          have := isOp_mem.mpr hab; rw [dots.2.1] at this; cases this
        have hp3 : parN [a, b, c] = [a, b] := by unfold parN; rw [if_neg hne]; rfl
        rw [hp3]
        have e1 : (if [a, b] ∈ opsN ∧ (1 < [a, b].length ∧ [a] = o) then (1 : Int) else 0) = ind [a] o := by
          unfold ind
          by_cases h : [a] = o
          · rw [if_pos ⟨hab, by simp, h⟩, if_pos h]
          · rw [if_neg (fun q => h q.2.2), if_neg h]
        have e2 : (if [a, b, c] ∈ opsN ∧ (1 < [a, b, c].length ∧ [a, b] = o) then (1 : Int) else 0) = ind [a, b] o := by
          unfold ind
          by_cases h : [a, b] = o
          · rw [if_pos ⟨hm, by simp, h⟩, if_pos h]
          · rw [if_neg (fun q => h q.2.2), if_neg h]
        rw [e1, e2]; omega
    · rw [if_neg habc, if_neg (c := [a, b, c] ∈ opsN ∧ _) (fun h => habc (isOp_mem.mpr h.1))]
      have h0 : ind [a, b, c] o = 0 := ind_no ho (not_mem habc)
      by_cases hab : isOp [a, b] = true
      · rw [if_pos hab]
        have hm := isOp_mem.mp hab
        by_cases hao : [a] = o
        · rw [if_pos ⟨hm, by simp, hao⟩]; unfold ind at *; rw [if_pos hao]; omega
        · rw [if_neg (fun h => hao h.2.2)]; unfold ind at *; rw [if_neg hao]; omega
      · rw [if_neg hab, if_neg (fun h => hab (isOp_mem.mpr h.1))]
        have : ind [a, b] o = 0 := ind_no ho (not_mem hab)
        omega
end Mine
end
section
open PySem PySem.W PyProof.Rows
namespace Mine
def noStart (m : Nat) : Bool := opsN.all fun o => o.head? != some m
theorem st59 : ∀ o ∈ opsN, o.head? = some 59 → o = [59] := by decide +kernel
theorem st38 : ∀ o ∈ opsN, o.head? = some 38 → o = [38] ∨ o.drop 1 = [61] := by decide +kernel
theorem noStart_op {m : Nat} (h : noStart m = true) (r : List Nat) : isOp (m :: r) = false := by
  cases e : isOp (m :: r) with
  | false => rfl
  | true =>
    have hm := isOp_mem.mp e
    have := List.all_eq_true.mp h _ hm
    simp at this
theorem lg_of_no {a : Nat} (r : List Nat) (h : ∀ q, q ≠ [] → isOp (a :: q) = false) (hr : r.length ≤ 2) : lg (a :: r) = [a] := by
  match r, hr with
  | [], _ => exact lg1 a
  | [b], _ => rw [lg2, h [b] (by simp)]; rfl
  | [b, c], _ => rw [lg3, h [b, c] (by simp), h [b] (by simp)]; rfl
theorem take2_len (X : List Nat) : (X.take 2).length ≤ 2 := by rw [List.length_take]; omega
def lam (o : List Nat) (w : List Nat) : Int := ind (lg w) o
theorem sum_noStart {m : Nat} (h : noStart m = true) {o : List Nat} (ho : o ∈ opsN) (X : List Nat) : sumW (lam o) (m :: X) = sumW (lam o) X := by
  show lam o (m :: X.take 2) + sumW (lam o) X = _
  have : lam o (m :: X.take 2) = 0 := by
    unfold lam
    rw [lg_of_no _ (fun q _ => noStart_op h q) (take2_len X)]
    exact ind_no ho (not_mem (by rw [noStart_op h]; exact Bool.false_ne_true))
  omega
theorem sum_mid {mid : List Nat} (h : ∀ m ∈ mid, noStart m = true) {o : List Nat} (ho : o ∈ opsN) (X : List Nat) : sumW (lam o) (mid ++ X) = sumW (lam o) X := by
  induction mid with
  | nil => rfl
  | cons a r ih =>
    rw [List.cons_append, sum_noStart (h a (.head _)) ho, ih fun m hm => h m (.tail _ hm)]
theorem sum59 {o : List Nat} (ho : o ∈ opsN) (X : List Nat) : sumW (lam o) (59 :: X) = ind [59] o + sumW (lam o) X := by
  show lam o (59 :: X.take 2) + sumW (lam o) X = _
  unfold lam
  rw [lg_of_no _ (fun q hq => ?_) (take2_len X)]
  cases e : isOp (59 :: q) with
  | false => rfl
  | true =>
    have := st59 _ (isOp_mem.mp e) rfl
    simp at this; exact absurd this hq
theorem sum38 {o : List Nat} (ho : o ∈ opsN) (m : Nat) (hm : m ≠ 61) (X : List Nat) : sumW (lam o) (38 :: m :: X) = ind [38] o + sumW (lam o) (m :: X) := by
  show lam o (38 :: m :: X.take 1) + sumW (lam o) (m :: X) = _
  have e : lg (38 :: m :: X.take 1) = [38] := by
    have no : ∀ q, isOp (38 :: m :: q) = false := fun q => by
      cases e : isOp (38 :: m :: q) with
      | false => rfl
      | true =>
        rcases st38 _ (isOp_mem.mp e) rfl with h | h
        · simp at h
        · simp at h; exact absurd h.1 hm
    cases X with
    | nil => rw [show List.take 1 ([] : List Nat) = [] from rfl, lg2, no]; rfl
    | cons x X => rw [show List.take 1 (x :: X) = [x] from rfl, lg3, no, no]; rfl
  unfold lam
  rw [e]
structure Esc (sp : Nat → Bool) (g : Nat → List Nat) : Prop where
  plain : ∀ c, sp c = false → g c = [c]
  amp : sp 38 = true
  told : ∀ c, sp c = true → ∃ m mid, g c = 38 :: m :: (mid ++ [59]) ∧ m ≠ 61 ∧ noStart m = true ∧ ∀ x ∈ mid, noStart x = true
theorem op_amp2 (a : Nat) (q : List Nat) : isOp (a :: 38 :: q) = false := by
  cases e : isOp (a :: 38 :: q) with
  | false => rfl
  | true => exact absurd (opsN_amp _ (isOp_mem.mp e)) (by simp)
theorem op_amp3 (a b : Nat) : isOp [a, b, 38] = false := by
  cases e : isOp [a, b, 38] with
  | false => rfl
  | true => exact absurd (opsN_amp _ (isOp_mem.mp e)) (by simp)
theorem win_plain {sp : Nat → Bool} {g : Nat → List Nat} (G : Esc sp g) {o : List Nat} (ho : o ∈ opsN) (c : Nat) (hc : sp c = false) (r : List Nat) :
   lam o ((c :: r.flatMap g).take 3) = Mw (fun x => phi sp x ((c :: r).take 3)) o := by
  have K := fun t h1 h3 => K1 o ho t h1 h3
  cases r with
  | nil =>
    show lam o [c] = Mw (fun x => phi sp x [c]) o
    unfold lam; rw [← K [c] (by simp) (by simp)]
    apply Mw_congr; intro x; simp [phi, pcN, hc]
  | cons d r =>
    cases hd : sp d with
    | true =>
      obtain ⟨m, mid, hg, _, _, _⟩ := G.told d hd
      rw [List.flatMap_cons, hg]
      show lam o [c, 38, m] = _
      have e : lg [c, 38, m] = lg [c] := by rw [lg3, lg1, op_amp2, op_amp2]; rfl
      unfold lam; rw [e, ← K [c] (by simp) (by simp)]
      apply Mw_congr; intro x; simp [phi, pcN, hc, hd]
    | false =>
      rw [List.flatMap_cons, G.plain d hd]
      cases r with
      | nil =>
        show lam o [c, d] = Mw (fun x => phi sp x [c, d]) o
        unfold lam; rw [← K [c, d] (by simp) (by simp)]
        apply Mw_congr; intro x; simp [phi, pcN, hc, hd]
      | cons e r =>
        cases he : sp e with
        | true =>
          obtain ⟨m, mid, hg, _, _, _⟩ := G.told e he
          rw [List.flatMap_cons, hg]
          show lam o [c, d, 38] = Mw (fun x => phi sp x [c, d, e]) o
          have e2 : lg [c, d, 38] = lg [c, d] := by rw [lg3, lg2, op_amp3]; rfl
          unfold lam; rw [e2, ← K [c, d] (by simp) (by simp)]
          apply Mw_congr; intro x; simp [phi, pcN, hc, hd, he]
        | false =>
          rw [List.flatMap_cons, G.plain e he]
          show lam o [c, d, e] = Mw (fun x => phi sp x [c, d, e]) o
          unfold lam; rw [← K [c, d, e] (by simp) (by simp)]
          apply Mw_congr; intro x; simp [phi, pcN, hc, hd, he]
theorem main_law {sp : Nat → Bool} {g : Nat → List Nat} (G : Esc sp g) {o : List Nat} (ho : o ∈ opsN) : ∀ l : List Nat, sumW (lam o) (l.flatMap g) = Mw (fun x => sumW (phi sp x) l) o
  | [] => (Mw_zero o).symm
  | c :: r => by
    have ih := main_law G ho r
    have e : Mw (fun x => sumW (phi sp x) (c :: r)) o = Mw (fun x => phi sp x ((c :: r).take 3)) o + Mw (fun x => sumW (phi sp x) r) o := by
      rw [← Mw_add]; rfl
    rw [e, ← ih]
    cases hc : sp c with
    | false =>
      rw [← win_plain G ho c hc r, List.flatMap_cons, G.plain c hc]
      rfl
    | true =>
      obtain ⟨m, mid, hg, h61, hm, hmid⟩ := G.told c hc
      rw [List.flatMap_cons, hg]
      have e1 : Mw (fun x => phi sp x ((c :: r).take 3)) o = dd o := by
        rw [← Mw_dd]; apply Mw_congr; intro x; simp [phi, hc]
      rw [e1]
      show sumW (lam o) (38 :: m :: (mid ++ [59] ++ r.flatMap g)) = _
      rw [sum38 ho m h61, sum_noStart hm ho, List.append_assoc, sum_mid hmid ho, List.singleton_append, sum59 ho]
      unfold dd; omega
end Mine
end
section
open PySem PySem.W PyProof.Rows
namespace Mine
theorem str_eq_iff {a b : Str} : a = b ↔ a.cps.toList = b.cps.toList := ⟨fun h => h ▸ rfl, str_ext⟩
theorem opsTab_fst : opsTab.map (·.1) = opsL := by decide +kernel
theorem has_iff (p : Str) : kdpHas opsTab p = true ↔ p ∈ opsL := by
  rw [← opsTab_fst]
  unfold kdpHas
  rw [List.any_eq_true, List.mem_map]
  simp
theorem isOp_has (p : Str) : isOp p.cps.toList = kdpHas opsTab p := by
  have h1 : isOp p.cps.toList = true ↔ kdpHas opsTab p = true := by
    rw [isOp_mem, has_iff]
    unfold opsN
    rw [List.mem_map]
    constructor
    · rintro ⟨q, hq, e⟩; rw [← str_ext e]; exact hq
    · intro h; exact ⟨p, h, rfl⟩
  cases h : isOp p.cps.toList <;> cases h' : kdpHas opsTab p <;> simp_all
theorem tok_has (p : Str) : kdpHas tokTab p = kdpHas opsTab p := by
  have h1 : ∀ q ∈ tokTab, kdpHas opsTab q.1 = true := by decide +kernel
  have h2 : ∀ q ∈ opsTab, kdpHas tokTab q.1 = true := by decide +kernel
  have e : kdpHas tokTab p = true ↔ kdpHas opsTab p = true :=
    ⟨fun h => h1 _ (kdpLook_mem h), fun h => h2 _ (kdpLook_mem h)⟩
  cases h : kdpHas tokTab p <;> cases h' : kdpHas opsTab p <;> simp_all
theorem tok_look {p : Str} (h : kdpHas tokTab p = true) : kdpLook tokTab p 0 - 7 = kdpLook opsTab p 0 := by
  have h1 : ∀ q ∈ tokTab, kdpLook opsTab q.1 0 = q.2 - 7 := by decide +kernel
  exact (h1 _ (kdpLook_mem h)).symm
theorem shr_lg : ∀ (n : Nat) (p : Str), (shr n p).cps.toList = lgW n p.cps.toList
  | 0, p => rfl
  | n + 1, p => by
    unfold shr lgW
    have hl : p.cps.toList.length = p.length := by simp [Str.length]
    rw [isOp_has, ← tok_has, hl]
    split
    · rename_i hc
      have h1 : 1 < p.length := by simp at hc; exact hc.1
      rw [shr_lg n, cutEnd_toList p (by omega)]
    · rfl
theorem shrP_lg (p : Str) : (shrP p).cps.toList = lg p.cps.toList := by
  unfold shrP lg
  rw [shr_lg]; simp [Str.length]
def opN (j : Nat) : List Nat := (opAt j).cps.toList
theorem opAt_mem {j : Nat} (hj : j < 48) : opAt j ∈ opsL := (has_iff _).mp (ops_at j hj).1
theorem opN_mem {j : Nat} (hj : j < 48) : opN j ∈ opsN := List.mem_map.mpr ⟨_, opAt_mem hj, rfl⟩
theorem ind_str (p q : Str) : (if p = q then (1 : Int) else 0) = ind p.cps.toList q.cps.toList := by
  unfold ind
  by_cases h : p = q
  · rw [if_pos h, if_pos (str_eq_iff.mp h)]
  · rw [if_neg h, if_neg (fun e => h (str_ext e))]
theorem fStep_get (page : Str) (k : Nat) (hk : k < page.length) {ns : List Int} (hn : ns.length = 48) {j : Nat} (hj : j < 48) :
   (fStep page ns (k : Int)).getD j 0 = ns.getD j 0 + lam (opN j) (win page.cps.toList k) := by
  unfold fStep
  have e : (shrP (slice3 page (k : Int))).cps.toList = lg (win page.cps.toList k) := by rw [shrP_lg, slice3_toList _ _ (by omega)]
  have hl : lam (opN j) (win page.cps.toList k) = if shrP (slice3 page (k : Int)) = opAt j then 1 else 0 := by
    rw [ind_str, e]; rfl
  rw [hl]
  by_cases hc : kdpHas tokTab (shrP (slice3 page (k : Int))) = true
  · rw [if_pos hc, tok_look hc, bump_word (by rw [← tok_has]; exact hc) hn _ hj]
  · rw [if_neg hc, if_neg (fun h => hc (by rw [tok_has, h]; exact (ops_at j hj).1))]; omega
theorem rangeKs_map {β : Type} (f : Int → β) (n : Nat) : (rangeKs 0 n).map f = (List.range n).map fun i : Nat => f (i : Int) := by
  unfold rangeKs
  rw [List.map_map]
  apply List.map_congr_left
  intro i _
  show f (0 + (i : Int)) = _
  rw [Int.zero_add]
theorem mem_ks {n : Nat} {k : Int} (h : k ∈ rangeKs 0 n) : ∃ i : Nat, k = (i : Int) ∧ i < n := by
  have := mem_rangeKs h
  exact ⟨k.toNat, by omega, by omega⟩
theorem found_get (page : Str) {j : Nat} (hj : j < 48) : (foundF page).getD j 0 = sumW (lam (opN j)) page.cps.toList := by
  unfold foundF
  rw [fold_get (fStep page) (fun k => lam (opN j) (win page.cps.toList k.toNat)) j (fStep_length page) _ _ (by simp)]
  · rw [rangeKs_map]
    have : (List.replicate 48 (0 : Int)).getD j 0 = 0 := by
      rw [List.getD_eq_getElem?_getD, List.getElem?_replicate]; split <;> rfl
    rw [this, Int.zero_add]
    have hl : page.length = page.cps.toList.length := by simp [Str.length]
    rw [hl, ← sum_windows]
    rfl
  · intro k hk ns hn
    obtain ⟨i, rfl, hi⟩ := mem_ks hk
    exact fStep_get page i hi hn hj
/-- the due side -/
def spOf (tb : List (Str × Str)) (c : Nat) : Bool := (lkS tb ⟨#[c]⟩).isSome
theorem innerF_get (tb : List (Str × Str)) {j : Nat} (hj : j < 48) : ∀ (l : List Nat) (p : Str) (ns : List Int), ns.length = 48 →
   (innerF tb (l.map fun c : Nat => (c : Int)) p ns).getD j 0 = ns.getD j 0 + pcN (spOf tb) (opN j) l p.cps.toList
  | [], p, ns, _ => by show ns.getD j 0 = _; simp [pcN]
  | c :: r, p, ns, hn => by
    rw [List.map_cons]
    unfold innerF pcN
    have hs : sgn (c : Int) = ⟨#[c]⟩ := rfl
    rw [hs]
    show (if spOf tb c = true then ns else _).getD j 0 = _
    by_cases h : spOf tb c = true
    · rw [if_pos h, if_pos h]; omega
    · rw [if_neg h, if_neg h, innerF_get tb hj r]
      · have hp : (p ++ ⟨#[c]⟩ : Str).cps.toList = p.cps.toList ++ [c] := by simp [Str.cps_append]
        rw [hp, ← hp, ← ind_str_at hj]
        by_cases hc : kdpHas opsTab (p ++ ⟨#[c]⟩) = true
        · rw [if_pos hc, bump_word hc hn _ hj]; omega
        · rw [if_neg hc, if_neg (fun e => hc (by rw [e]; exact (ops_at j hj).1))]; omega
      · split
        · rw [bumpAt_length]; exact hn
        · exact hn
where
  ind_str_at {j : Nat} (hj : j < 48) {p : Str} : (if p = opAt j then (1 : Int) else 0) = ind p.cps.toList (opN j) := ind_str p (opAt j)
end Mine
end
section
open PySem PySem.W PyProof.Rows
namespace Mine
theorem amp_has : kdpHas opsTab (Str.ofString "&") = true := by decide +kernel
theorem semi_has : kdpHas opsTab (Str.ofString ";") = true := by decide +kernel
theorem amp_list : (Str.ofString "&").cps.toList = [38] := by decide +kernel
theorem semi_list : (Str.ofString ";").cps.toList = [59] := by decide +kernel
theorem win_cons {l : List Nat} {k c : Nat} (h : l[k]? = some c) : ∃ r, win l k = c :: r := by
  obtain ⟨hk, rfl⟩ := List.getElem?_eq_some_iff.mp h
  exact ⟨(l.drop (k + 1)).take 2, by unfold win; rw [List.drop_eq_getElem_cons hk]; rfl⟩
theorem dStep_get (tb : List (Str × Str)) (x : Str) (k : Nat) (hk : k < x.length) {ns : List Int} (hn : ns.length = 48) {j : Nat} (hj : j < 48) :
   (dStep tb x ns (k : Int)).getD j 0 = ns.getD j 0 + phi (spOf tb) (opN j) (win x.cps.toList k) := by
  have hl : x.cps.toList.length = x.length := by simp [Str.length]
  obtain ⟨c, hc⟩ : ∃ c, x.cps.toList[k]? = some c := ⟨_, List.getElem?_eq_getElem (by omega)⟩
  obtain ⟨r, hr⟩ := win_cons hc
  have hcodes : KStt.codes (slice3 x (k : Int)) = (win x.cps.toList k).map fun c : Nat => (c : Int) := by
    unfold KStt.codes; rw [slice3_toList _ _ (by omega)]
  have hin := innerF_get tb hj (win x.cps.toList k) Str.empty ns hn
  have hlen : (innerF tb ((win x.cps.toList k).map fun c : Nat => (c : Int)) Str.empty ns).length = 48 := by rw [innerF_length]; exact hn
  unfold dStep
  rw [item_toList x k c hc, hcodes]
  show (if spOf tb c = true then _ else _ : List Int).getD j 0 = _
  have he : (Str.empty).cps.toList = [] := rfl
  rw [he] at hin
  by_cases hs : spOf tb c = true
  · rw [if_pos hs, bump_word semi_has (by rw [bumpAt_length]; exact hlen) _ hj, bump_word amp_has hlen _ hj, hin, hr]
    show _ = ns.getD j 0 + (if spOf tb c = true then dd (opN j) else _)
    rw [if_pos hs]
    have : pcN (spOf tb) (opN j) (c :: r) [] = 0 := by unfold pcN; rw [if_pos hs]
    rw [this, ind_str, ind_str, amp_list, semi_list]
    unfold dd opN; omega
  · rw [if_neg hs, hin, hr]
    show _ = ns.getD j 0 + (if spOf tb c = true then _ else pcN (spOf tb) (opN j) (c :: r) [])
    rw [if_neg hs]
theorem zeros_get (j : Nat) : (List.replicate 48 (0 : Int)).getD j 0 = 0 := by
  rw [List.getD_eq_getElem?_getD, List.getElem?_replicate]; split <;> rfl
theorem stands_get (tb : List (Str × Str)) (x : Str) {j : Nat} (hj : j < 48) : (standsF tb x).getD j 0 = sumW (phi (spOf tb) (opN j)) x.cps.toList := by
  unfold standsF
  rw [fold_get (dStep tb x) (fun k => phi (spOf tb) (opN j) (win x.cps.toList k.toNat)) j (dStep_length tb x) _ _ (by simp)]
  · rw [rangeKs_map, zeros_get, Int.zero_add]
    have hl : x.length = x.cps.toList.length := by simp [Str.length]
    rw [hl, ← sum_windows]
    rfl
  · intro k hk ns hn
    obtain ⟨i, rfl, hi⟩ := mem_ks hk
    exact dStep_get tb x i hi hn hj
theorem parS_parN : ∀ o ∈ opsL, 1 < o.length → (parS o).cps.toList = parN o.cps.toList := by decide +kernel
theorem opN_len (k : Nat) : (opN k).length = (opAt k).length := by unfold opN; simp [Str.length]
theorem mStep_get (st : List Int) {k : Nat} (hk : k < 48) {ns : List Int} (hn : ns.length = 48) {j : Nat} (hj : j < 48) :
   (mStep st ns (k : Int)).getD j 0 = ns.getD j 0 + (if 1 < (opN k).length ∧ parN (opN k) = opN j then -(st.getD k 0) else 0) := by
  unfold mStep
  dsimp only
  rw [show ((k : Int)).toNat = k from rfl]
  show (if 1 < (opAt k).length then _ else _ : List Int).getD j 0 = _
  have hm := opAt_mem hk
  by_cases h : 1 < (opAt k).length
  · rw [if_pos h]
    show (bumpAt ns (kdpLook opsTab (parS (opAt k)) 0).toNat (-(st.getD k 0))).getD j 0 = _
    rw [bump_word (ops_par _ hm h) hn _ hj]
    have e : (parS (opAt k) = opAt j) ↔ (1 < (opN k).length ∧ parN (opN k) = opN j) := by
      rw [opN_len, str_eq_iff, parS_parN _ hm h]
      exact ⟨fun q => ⟨h, q⟩, fun q => q.2⟩
    by_cases hp : parS (opAt k) = opAt j
    · rw [if_pos hp, if_pos (e.mp hp)]
    · rw [if_neg hp, if_neg (fun q => hp (e.mpr q))]
  · rw [if_neg h, if_neg (fun q => h (by rw [← opN_len]; exact q.1))]; omega
theorem opsN_range : opsN = (List.range 48).map opN := by decide +kernel
theorem sum_neg {α : Type} (l : List α) (f : α → Int) : (l.map fun x => -(f x)).sum = -((l.map f).sum) := by
  induction l with
  | nil => rfl
  | cons a l ih => simp only [List.map_cons, List.sum_cons, ih]; omega
theorem due_get (tb : List (Str × Str)) (x : Str) {j : Nat} (hj : j < 48) : (dueF tb x).getD j 0 = Mw (fun o => sumW (phi (spOf tb) o) x.cps.toList) (opN j) := by
  unfold dueF
  rw [fold_get (mStep (standsF tb x)) (fun k => if 1 < (opN k.toNat).length ∧ parN (opN k.toNat) = opN j then -((standsF tb x).getD k.toNat 0) else 0) j (mStep_length _) _ _ (standsF_length tb x)]
  · rw [rangeKs_map, stands_get tb x hj]
    unfold Mw
    rw [opsN_range, List.map_map]
    have : ((List.range 48).map fun i : Nat => if 1 < (opN ((i : Int)).toNat).length ∧ parN (opN ((i : Int)).toNat) = opN j then -((standsF tb x).getD ((i : Int)).toNat 0) else 0)
        = (List.range 48).map fun i => -(((fun o' => if 1 < o'.length ∧ parN o' = opN j then sumW (phi (spOf tb) o') x.cps.toList else 0) ∘ opN) i) := by
      apply List.map_congr_left
      intro i hi
      have hi' : i < 48 := List.mem_range.mp hi
      show (if 1 < (opN i).length ∧ parN (opN i) = opN j then -((standsF tb x).getD i 0) else 0) = -(if 1 < (opN i).length ∧ parN (opN i) = opN j then sumW (phi (spOf tb) (opN i)) x.cps.toList else 0)
      rw [stands_get tb x hi']
      split <;> omega
    rw [this, sum_neg]
    exact (Int.sub_eq_add_neg).symm
  · intro k hk ns hn
    obtain ⟨i, rfl, hi⟩ := mem_ks hk
    exact mStep_get _ hi hn hj
theorem foundF_length (page : Str) : (foundF page).length = 48 := by
  unfold foundF; rw [foldl_len _ (fStep_length page)]; simp
theorem found_due (tb : List (Str × Str)) (g : Nat → List Nat) (G : Esc (spOf tb) g) (x page : Str) (hp : page.cps.toList = x.cps.toList.flatMap g) : foundF page = dueF tb x := by
  refine list_ext48 (foundF_length page) (dueF_length tb x) fun j hj => ?_
  rw [found_get page hj, due_get tb x hj, hp, main_law G (opN_mem hj)]
end Mine
end
section
open PySem PySem.W PyProof.Rows
namespace Mine
def gE (tb : List (Str × Str)) (c : Nat) : List Nat := ((lkS tb ⟨#[c]⟩).map fun z => z.cps.toList).getD [c]
def okE : List Nat → Bool
  | 38 :: m :: r => (m != 61) && noStart m && (r.getLast? == some 59) && r.dropLast.all noStart
  | _ => false
theorem okE_inv : ∀ {w : List Nat}, okE w = true → ∃ m mid, w = 38 :: m :: (mid ++ [59]) ∧ m ≠ 61 ∧ noStart m = true ∧ ∀ x ∈ mid, noStart x = true
  | w, h => by
    unfold okE at h
    split at h
    · rename_i m r
      simp only [Bool.and_eq_true, bne_iff_ne, ne_eq, beq_iff_eq, List.all_eq_true] at h
      obtain ⟨⟨⟨h1, h2⟩, h3⟩, h4⟩ := h
      refine ⟨m, r.dropLast, ?_, h1, h2, h4⟩
      obtain ⟨hne, e⟩ := List.getLast?_eq_some_iff.mp h3
      rw [e]; simp
    · cases h
def tbOk (tb : List (Str × Str)) : Bool := tb.all (fun q => okE q.2.cps.toList && q.1.cps.toList.all (fun d => decide (d < 128))) && (lkS tb ⟨#[38]⟩).isSome
theorem lkS_mem {tb : List (Str × Str)} {k z : Str} (h : lkS tb k = some z) : (k, z) ∈ tb := by
  unfold lkS at h
  cases e : tb.find? fun p => decide (p.1 = k) with
  | none => rw [e] at h; cases h
  | some q =>
    rw [e] at h
    have h1 := List.mem_of_find?_eq_some e
    have h2 := List.find?_some e
    simp at h2
    obtain ⟨a, b⟩ := q
    simp at h h2
    subst h2 h
    exact h1
theorem esc_of {tb : List (Str × Str)} (h : tbOk tb = true) : Esc (spOf tb) (gE tb) := by
  unfold tbOk at h
  rw [Bool.and_eq_true, List.all_eq_true] at h
  obtain ⟨h1, h2⟩ := h
  refine ⟨fun c hc => ?_, h2, fun c hc => ?_⟩
  · unfold spOf at hc
    unfold gE
    cases e : lkS tb ⟨#[c]⟩ with
    | none => rfl
    | some z => rw [e] at hc; cases hc
  · unfold spOf at hc
    obtain ⟨z, hz⟩ := Option.isSome_iff_exists.mp hc
    have hm := h1 _ (lkS_mem hz)
    rw [Bool.and_eq_true] at hm
    obtain ⟨m, mid, e, r⟩ := okE_inv hm.1
    exact ⟨m, mid, by unfold gE; rw [hz]; exact e, r⟩
theorem gE_high {tb : List (Str × Str)} (h : tbOk tb = true) {c : Nat} (hc : 128 ≤ c) : gE tb c = [c] := by
  unfold gE
  cases e : lkS tb ⟨#[c]⟩ with
  | none => rfl
  | some z =>
    unfold tbOk at h
    rw [Bool.and_eq_true, List.all_eq_true] at h
    have hm := h.1 _ (lkS_mem e)
    simp at hm
    omega
theorem tb_ok0 : tbOk (spTab 0) = true := by decide +kernel
theorem tb_ok1 : tbOk (spTab 1) = true := by decide +kernel
theorem tb_ok2 : tbOk (spTab 2) = true := by decide +kernel
theorem tb_ok3 : tbOk (spTab 3) = true := by decide +kernel
theorem tb_ok4 : tbOk (spTab 4) = true := by decide +kernel
theorem tb_ok {hand : Int} (h0 : 0 ≤ hand) (h5 : hand < 5) : tbOk (spTab hand) = true := by
  have : hand = 0 ∨ hand = 1 ∨ hand = 2 ∨ hand = 3 ∨ hand = 4 := by omega
  rcases this with rfl | rfl | rfl | rfl | rfl
  · exact tb_ok0
  · exact tb_ok1
  · exact tb_ok2
  · exact tb_ok3
  · exact tb_ok4
def sb (c : Nat) (z : Str) (k : Nat) : List Nat := if k = c then z.cps.toList else [k]
theorem rep_flat (x : Str) (cs z : Str) (c : Nat) (h : cs = ⟨#[c]⟩) : (Txt.replace x cs z).cps.toList = x.cps.toList.flatMap (sb c z) := by
  subst h; exact replace_flat x z c
theorem flat_ext {l : List Nat} {f g : Nat → List Nat} (h : ∀ c, f c = g c) : l.flatMap f = l.flatMap g := by rw [funext h]
theorem sb_high {c k : Nat} {z : Str} (hc : c < 128) (h : 128 ≤ k) : sb c z k = [k] := if_neg (by omega)
theorem comp_ext {tb : List (Str × Str)} (ht : tbOk tb = true) (f : Nat → List Nat) (lo : ∀ c < 128, f c = gE tb c) (hi : ∀ c, 128 ≤ c → f c = [c]) : ∀ c, f c = gE tb c := fun c => by
  by_cases h : c < 128
  · exact lo c h
  · rw [hi c (by omega), gE_high ht (by omega)]
theorem c38 : Str.ofString "&" = ⟨#[38]⟩ := by decide +kernel
theorem c60 : Str.ofString "<" = ⟨#[60]⟩ := by decide +kernel
theorem c62 : Str.ofString ">" = ⟨#[62]⟩ := by decide +kernel
theorem c34 : Str.ofString "\"" = ⟨#[34]⟩ := by decide +kernel
theorem c13 : Str.ofString "\r" = ⟨#[13]⟩ := by decide +kernel
theorem c10 : Str.ofString "\n" = ⟨#[10]⟩ := by decide +kernel
theorem c9 : Str.ofString "\t" = ⟨#[9]⟩ := by decide +kernel
theorem esc0 (t : Str) : (escS 0 t).cps.toList = t.cps.toList.flatMap (gE (spTab 0)) := by
  unfold escS rA rL rG
  rw [if_pos rfl, rep_flat _ _ _ 62 c62, rep_flat _ _ _ 60 c60, rep_flat _ _ _ 38 c38, List.flatMap_assoc, List.flatMap_assoc]
  refine flat_ext (comp_ext tb_ok0 _ (by decide +kernel) fun c hc => ?_)
  simp [sb_high, hc]
theorem esc1 (t : Str) : (escS 1 t).cps.toList = t.cps.toList.flatMap (gE (spTab 1)) := by
  unfold escS rA rL rG rQ
  rw [if_neg (by decide), if_pos rfl, rep_flat _ _ _ 9 c9, rep_flat _ _ _ 10 c10, rep_flat _ _ _ 13 c13, rep_flat _ _ _ 34 c34, rep_flat _ _ _ 62 c62, rep_flat _ _ _ 60 c60, rep_flat _ _ _ 38 c38]
  simp only [List.flatMap_assoc]
  refine flat_ext (comp_ext tb_ok1 _ (by decide +kernel) fun c hc => ?_)
  simp [sb_high, hc]
theorem esc2 (t : Str) : (escS 2 t).cps.toList = t.cps.toList.flatMap (gE (spTab 2)) := by
  unfold escS rA rG rQ
  rw [if_neg (by decide), if_neg (by decide), if_pos rfl, rep_flat _ _ _ 34 c34, rep_flat _ _ _ 62 c62, rep_flat _ _ _ 38 c38]
  simp only [List.flatMap_assoc]
  refine flat_ext (comp_ext tb_ok2 _ (by decide +kernel) fun c hc => ?_)
  simp [sb_high, hc]
theorem esc3 (t : Str) : (escS 3 t).cps.toList = t.cps.toList.flatMap (gE (spTab 3)) := by
  unfold escS rA rL rQ
  rw [if_neg (by decide), if_neg (by decide), if_neg (by decide), if_pos rfl, rep_flat _ _ _ 13 c13, rep_flat _ _ _ 10 c10, rep_flat _ _ _ 9 c9, rep_flat _ _ _ 34 c34, rep_flat _ _ _ 60 c60, rep_flat _ _ _ 38 c38]
  simp only [List.flatMap_assoc]
  refine flat_ext (comp_ext tb_ok3 _ (by decide +kernel) fun c hc => ?_)
  simp [sb_high, hc]
theorem esc4 (t : Str) : (escS 4 t).cps.toList = t.cps.toList.flatMap (gE (spTab 4)) := by
  unfold escS rA rL rG
  rw [if_neg (by decide), if_neg (by decide), if_neg (by decide), if_neg (by decide), rep_flat _ _ _ 13 c13, rep_flat _ _ _ 62 c62, rep_flat _ _ _ 60 c60, rep_flat _ _ _ 38 c38]
  simp only [List.flatMap_assoc]
  refine flat_ext (comp_ext tb_ok4 _ (by decide +kernel) fun c hc => ?_)
  simp [sb_high, hc]
theorem esc_flat {hand : Int} (h0 : 0 ≤ hand) (h5 : hand < 5) (t : Str) : (escS hand t).cps.toList = t.cps.toList.flatMap (gE (spTab hand)) := by
  have : hand = 0 ∨ hand = 1 ∨ hand = 2 ∨ hand = 3 ∨ hand = 4 := by omega
  rcases this with rfl | rfl | rfl | rfl | rfl
  · exact esc0 t
  · exact esc1 t
  · exact esc2 t
  · exact esc3 t
  · exact esc4 t
theorem pure_law {hand : Int} (h0 : 0 ≤ hand) (h5 : hand < 5) (t : Str) : foundF (escS hand t) = dueF (spTab hand) t :=
  found_due _ _ (esc_of (tb_ok h0 h5)) t _ (esc_flat h0 h5 t)
theorem flat_len (g : Nat → List Nat) (n : Nat) (h : ∀ c, (g c).length ≤ n) : ∀ l : List Nat, (l.flatMap g).length ≤ l.length * n
  | [] => by simp
  | c :: r => by
    rw [List.flatMap_cons, List.length_append, List.length_cons, Nat.succ_mul]
    have := flat_len g n h r
    have := h c
    omega
theorem gE_len {hand : Int} (h0 : 0 ≤ hand) (h5 : hand < 5) (c : Nat) : (gE (spTab hand) c).length ≤ 6 := by
  have key : ∀ q ∈ spTab hand, q.2.cps.toList.length ≤ 6 := by
    have : hand = 0 ∨ hand = 1 ∨ hand = 2 ∨ hand = 3 ∨ hand = 4 := by omega
    rcases this with rfl | rfl | rfl | rfl | rfl <;> decide +kernel
  unfold gE
  cases e : lkS (spTab hand) ⟨#[c]⟩ with
  | none => simp
  | some z => exact key _ (lkS_mem e)
theorem esc_length {hand : Int} (h0 : 0 ≤ hand) (h5 : hand < 5) (t : Str) : (escS hand t).length ≤ t.length * 6 := by
  have := flat_len (gE (spTab hand)) 6 (gE_len h0 h5) t.cps.toList
  rw [← esc_flat h0 h5] at this
  simpa [Str.length] using this
end Mine
end
section
open PySem PySem.W PyProof.Rows
namespace Mine
theorem no_replace : typeLookup (.type "list") (Str.ofString "replace") = pure none := am_miss_of_fast (by decide +kernel)
theorem rep_name : (["__module__", "__name__", "__qualname__", "__doc__", "__annotations__"] : List Str).contains (Str.ofString "replace") = false := by decide +kernel
theorem rep_len : (Str.ofString "replace").length ≤ 7 := by decide +kernel
theorem rep_sz : (Str.ofString "replace").length + 100 ≤ sizeLine := by
  rw [sizeLine_eq]
  exact Nat.le_trans (Nat.add_le_add_right rep_len 100) (by omega)
theorem lo_cls (vs : List Value) (nn : Nat) : (W.listOf vs.toArray nn).cls = .type "list" := rfl
theorem lo_data (vs : List Value) (nn : Nat) : (W.listOf vs.toArray nn).data = .seq vs.toArray nn := rfl
theorem lo_dict (vs : List Value) (nn : Nat) : (W.listOf vs.toArray nn).dict = none := rfl
theorem getAttr_repA {prog : Program} {w : World} {A : Around} {E : Value → Shared → Prop} {s : Shared} {a : Addr} {xs : Array Value} {k : Nat} {Q : Value → Shared → Prop} {sl : Array (Option Value)}
    (hx : s.heap.get? a = some { cls := .type "list", dict := none, data := .seq xs k, slots := sl }) (hA : A.handled = none)
    (h : ∀ h' tk e, Heap.NewAttrErr s.heap h' e (.ref a) (Str.ofString "replace") → E (.ref e) { s with heap := h', toks := tk }) :
    wpAny (model prog w) A (getAttr (.ref a) (Str.ofString "replace") false) Q E s := by
  have hmiss := no_replace
  have hname := rep_name
  have hsz := rep_sz
  generalize (Str.ofString "replace") = name at hmiss hname hsz h ⊢
  obtain ⟨hp, g, d, tk, os⟩ := s
  have hT : ∀ tk', (⟨hp, g, d, tk', os⟩ : Shared).TypeIs (.ref a) "list" := fun _ => ⟨_, hx, rfl⟩
  have f1 := sub_AttributeError
  have f3 := F.slot_list_getattribute.lookup
  have f4 := F.slot_list_getattribute.bind (.ref a)
  have f5 := am_list_getattr_none
  unfold getAttr getAttrBy
  repeat (any_goals (first | assumption | exact hT _ | ((with_reducible show wpAny _ _ (call (Value.builtin "list.__getattribute__") _ _) _ _ _); refine call_meets F.slot_list_getattribute (hT _) am_entry_list_getattribute (F.args_list_getattribute_2 _ _) (meets_getattribute_miss_list a xs k sl name _ hmiss hname hsz) ⟨hx, hA, fun h' tk' e hx' => ?_⟩) | wp_step))
  obtain ⟨t', u', he⟩ := hx'.there
  show wpAny _ _ (getattributeRaised _ _ _ _ _ _ _) _ _ _
  unfold getattributeRaised
  repeat (any_goals (first | assumption | wp_step))
  exact h _ _ _ hx'
theorem rep_missA {prog : Program} {w : World} {A : Around} {E : Value → Shared → Prop} {s : Shared} {h₀ : Heap} {L l : Addr} {vs : List Value} {nn : Nat} {news : List (Addr × Obj)} {Q : Value × List Value → Shared → Prop} {pl : Sem Bool}
  (N : News h₀ L s.heap news) (hm : (l, W.listOf vs.toArray nn) ∈ news) (hA : A.handled = none)
  (h : ∀ h' tk e, Heap.NewAttrErr s.heap h' e (.ref l) (Str.ofString "replace") → E (.ref e) { s with heap := h', toks := tk }) :
  wpAny (model prog w) A (getMethod (.ref l) (Str.ofString "replace") pl) Q E s := by
  have ho : s.heap.get? l = some (W.listOf vs.toArray nn) := (N _ hm).1
  have hT : s.TypeIs (.ref l) "list" := ⟨_, ho, rfl⟩
  unfold getMethod
  refine wpAny_bind (wpAny_specialOf hT PySem.list_getattribute ?_)
  show wpAny _ A (if (Manifest.canonical "list.__getattribute__" != "object.__getattribute__") = true then _ else _) Q E s
  rw [PySem.canon_list_getattribute, if_neg Bool.false_ne_true]
  refine wpAny_bind (wpAny_specialOf hT PySem.list_getattr_none ?_)
  refine wpAny_bind (wpAny_specialOf hT no_replace ?_)
  show wpAny _ A (do let r ← getAttr (.ref l) (Str.ofString "replace"); pure (r, [])) Q E s
  refine wpAny_bind ?_
  exact getAttr_repA ho hA h
end Mine
end
section
open PySem PySem.W PyProof.Rows
namespace Mine
def othersL : List Str := (["\"", "\r", "\n", "\t", " ", "lt;", "amp;", "#13;", "&lt;", "&#10;", "x", "<>", "..", ""] : List String).map Str.ofString
def knownL : List Str := opsL ++ othersL
theorem knownL_length : knownL.length = 62 := by decide +kernel
def knF (i : Int) : Str := knownL.getD (i.fmod 62).toNat Str.empty
section
variable {prog : Program} {w : World} {A : Around} {E : Value → Shared → Prop} {s : Shared} {h₀ : Heap} {L : Addr} {m : Str → Option Value} {env : Env}
def KnSrc (h₀ : Heap) (L : Addr) (m : Str → Option Value) (c : Addr) (Q : Value → Shared → Prop) (xv : Value) (s₁ : Shared) : Prop :=
  ∃ l n vs is news o lk kv nk, xv = .ref l ∧ (l, W.listOf vs.toArray n) ∈ news ∧ IntsAre vs is ∧ is.length ≤ 1000 ∧ Fr h₀ L s₁.heap m ∧ News h₀ L s₁.heap news ∧ (c, o) ∈ news ∧ o.data = .cell (some (.ref lk)) ∧ (lk, W.listOf kv.toArray nk) ∈ news ∧ StrsAre kv knownL ∧
    ∀ D h' tk k ys, Fr h₀ L h' m → News h₀ L h' ((D, W.listOf ys.toArray k) :: news) → LCg.Off1 D news → StrsAre ys (is.map knF) → Q (.ref D) { s₁ with heap := h', toks := tk }
theorem KnSrc.intro {c : Addr} {Q : Value → Shared → Prop} {s₁ : Shared} {l : Addr} {n : Nat} {vs : List Value} {is : List Int} {news : List (Addr × Obj)} {o : Obj} {lk : Addr} {kv : List Value} {nk : Nat}
  (hl : (l, W.listOf vs.toArray n) ∈ news) (hi : IntsAre vs is) (hn : is.length ≤ 1000) (F : Fr h₀ L s₁.heap m) (N : News h₀ L s₁.heap news) (hc : (c, o) ∈ news) (ho : o.data = .cell (some (.ref lk))) (hk : (lk, W.listOf kv.toArray nk) ∈ news) (hs : StrsAre kv knownL)
  (fin : ∀ D h' tk k ys, Fr h₀ L h' m → News h₀ L h' ((D, W.listOf ys.toArray k) :: news) → LCg.Off1 D news → StrsAre ys (is.map knF) → Q (.ref D) { s₁ with heap := h', toks := tk }) :
  KnSrc h₀ L m c Q (.ref l) s₁ := ⟨l, n, vs, is, news, o, lk, kv, nk, rfl, hl, hi, hn, F, N, hc, ho, hk, hs, fin⟩
theorem ints_at : ∀ {vs : List Value} {is : List Int} {i : Nat} {v : Value}, IntsAre vs is → vs[i]? = some v → ∃ a t, v = .int a t
  | _, _, _, _, .nil, h => by simp at h
  | _, _, 0, _, .cons a t _, h => ⟨a, t, by simpa using h.symm⟩
  | _, _, i + 1, _, .cons a t r, h => ints_at r (by simpa using h)
theorem paired_kn {vs ys : List Value} {is : List Int} (hi : IntsAre vs is) (hp : Paired (fun v y => ∀ a t, v = Value.int a t → ∃ u, y = Value.str (knF a) u) vs ys) : StrsAre ys (is.map knF) := by
  induction hi generalizing ys with
  | nil => cases hp; exact .nil
  | cons a t _ ih =>
    cases hp with
    | cons hf hr =>
      obtain ⟨u, rfl⟩ := hf a t rfl
      exact .cons _ u (ih hr)
theorem lc_known {scope : Scope} {cl : List (Str × Addr)} {c : Addr} {iter : Expr} {px p1 p2 p3 p4 p5 pos : Pos} {Q : Value → Shared → Prop} (F₀ : Fr h₀ L s.heap m)
  (hh : A.handled = none) (hclos : closureFor scope env = pure cl) (hcell : ∀ y ∈ scope.names, y.2 ≠ .cell) (hkind : scope.kind = .function)
  (hnames : ∀ y ∈ scope.names, y.2 = .local → scope.names.lookup y.1 = some .local) (hx : scope.names.lookup (Str.ofString "x") = some .local)
  (hc : cl.lookup (Str.ofString "known") = some c)
  (h : wpAny (model prog w) A (eval iter env) (KnSrc h₀ L m c Q) E s)
  (k1 : ∀ C, (compEnvC scope cl C env).scope.kind = .function) (k2 : ∀ C, (compEnvC scope cl C env).kindOf (Str.ofString "x") = some .local) (k3 : ∀ C, (compEnvC scope cl C env).kindOf (Str.ofString "known") = some .cell) (k4 : ∀ C, (compEnvC scope cl C env).cells = cl)
  (hs : ∀ x, foldedSetIterable iter env x = pure x := by intro _; rfl) :
  wpAny (model prog w) A (eval (.ListComp (.Subscript (.Name (Str.ofString "known") p1) (.BinOp (.Name (Str.ofString "x") p2) .Mod (.Constant (.int 62) 0 p3) p4) p5) [⟨.Name (Str.ofString "x") px, iter, [], 0⟩] scope pos) env) Q E s := by
  refine lc (h₀ := h₀) (L := L) (m := m) (fun _ => true) (fun v y => ∀ a t, v = Value.int a t → ∃ u, y = Value.str (knF a) u) hh hclos hcell hkind hnames hx (wpAny_mono h (fun xv s₁ h₁ => ?_) fun _ _ e => e) hs
  obtain ⟨l, n, vs, is, news, o, lk, kv, nk, rfl, hml, hi, hn, F, N, hmc, hdc, hmk, hst, fin⟩ := h₁
  have hlen : vs.length = is.length := by
    clear hml fin
    induction hi with
    | nil => rfl
    | cons _ _ _ ih => simp only [List.length_cons] at hn ⊢; rw [ih (by omega)]
  refine LcSrc.intro (SrcP.list (N.isList hml)) (by rw [List.size_toArray, hlen, sizeLine_eq]; omega) F N lcTest_nil ?_ ?_
  · intro C i v s₃ m₃ E' hP _ hns hm hk
    have hv : vs[i]? = some v := by simpa using hP
    obtain ⟨a, t, rfl⟩ := ints_at hi hv
    have N3 : News h₀ L s₃.heap news := fun q hq => ⟨hk _ _ (N q hq).1, (N q hq).2⟩
    refine Subscript_ (leaf_cell (by rw [k4]; exact hc) (N3 _ hmc).1 hdc ?_ (k1 C) (k3 C))
    refine wpAny_BinOp (leaf_local hns hm ?_ (k1 C) (k2 C))
    refine wpAny_Constant_int (mod_int (by decide) ?_)
    have h0 : 0 ≤ a.fmod 62 := Int.fmod_nonneg_of_pos a (by decide)
    have h1 : a.fmod 62 < 62 := Int.fmod_lt_of_pos a (by decide)
    obtain ⟨u, hu⟩ := strs_get hst (a.fmod 62).toNat (by rw [knownL_length]; omega)
    refine kim_list N3 hmk rfl rfl h0 (by omega) hu ?_ rfl (fun _ => rfl)
    exact ⟨fun a' t' e => by cases e; exact ⟨u, rfl⟩, s₃.heap, _, rfl, fun _ _ e => e⟩
  · intro D h' tk k ys vs' hlv hP hpair F' N' off keep
    rw [List.filter_eq_self.mpr (fun _ _ => rfl)] at hpair
    have e : vs' = vs := by simpa using list_of_places hlv hP
    subst e
    exact fin D h' tk k ys F' N' off (paired_kn hi hpair)
end
end Mine
end
section
open PySem PySem.W PyProof.Rows
namespace Mine
/-- an exception that has no context, traced, in flight or held -/
def FlyC (B : Heap) (l : List Env) (e : Addr) (X : String) (c fl : Value) (h : Heap) : Prop :=
  B.StaysIn h ∧ B.get? e = none ∧ h.FunFrames B l ∧ ∃ oe vs T oT ts, h.get? e = some oe ∧ oe.cls = .type X ∧ oe.data = .fields vs ∧ vs[1]? = some (.ref T) ∧ vs[2]? = some c ∧ B.get? T = none ∧ T ≠ e ∧ h.get? T = some oT ∧ oT.data = .fields ts ∧ ts[3]? = some fl
theorem FlyC.up {B h h' : Heap} {l : List Env} {e : Addr} {X : String} {c fl : Value} (H : FlyC B l e X c fl h) (k : ∀ b o, h.get? b = some o → h'.get? b = some o) : FlyC B l e X c fl h' := by
  obtain ⟨f1, f2, f3, oe, vs, T, oT, ts, he, a⟩ := H
  obtain ⟨a1, a2, a3, a4, a5, a6, hT, a8⟩ := a
  exact ⟨fun b o q => k b o (f1 b o q), f2, f3.of_keeps fun b o q _ => ⟨o, k b o q, rfl⟩, oe, vs, T, oT, ts, k _ _ he, a1, a2, a3, a4, a5, a6, k _ _ hT, a8⟩
theorem flyC_set {B h : Heap} {l : List Env} {e : Addr} {X : String} {c fl : Value} {oe : Obj} {vs : Array Value} {T : Addr} {oT : Obj} {ts : Array Value} (f1 : B.StaysIn h) (f2 : B.get? e = none) (f3 : h.FunFrames B l) (he : h.get? e = some oe) (hc : oe.cls = .type X) (hd : oe.data = .fields vs)
    (h1 : vs[1]? = some (.ref T)) (h2 : vs[2]? = some c) (hnT : B.get? T = none) (hTe : T ≠ e) (hT : h.get? T = some oT) (hdT : oT.data = .fields ts) (h3 : ts[3]? = some fl) :
    FlyC B l e X c .none (h.update T (Obj.mapFields (·.setIfInBounds 3 .none))) ∧ h.UpToSlots (h.update T (Obj.mapFields (·.setIfInBounds 3 .none))) ∧ (h.update T (Obj.mapFields (·.setIfInBounds 3 .none))).get? e = some oe := by
  have sz : 3 < ts.size := (Array.getElem?_eq_some_iff.mp h3).1
  have off : ∀ b, b ≠ T → (h.update T (Obj.mapFields (·.setIfInBounds 3 .none))).get? b = h.get? b := fun b hb => Heap.get?_update_other _ _ (Ne.symm hb)
  have nrec : ∀ b o, h.get? b = some o → (∀ vs, o.data ≠ .fields vs) → b ≠ T := by
    rintro b o hb hn rfl
    rw [hT] at hb; cases hb
    exact hn ts hdT
  have dT := Obj.data_mapFields hdT (·.setIfInBounds 3 Value.none)
  refine ⟨⟨fun b o q => (off b ?_).trans (f1 b o q), f2, f3.of_keeps fun b o hb hn => ⟨o, (off b (nrec b o hb hn)).trans hb, rfl⟩, oe, vs, T, _, _, (off e hTe.symm).trans he, hc, hd, h1, h2, hnT, hTe,
    Heap.get?_update_self _ hT (Obj.isFreed_of_fields dT), dT, by simp [sz]⟩, fun b o hb hn => ⟨o.slots, (off b (nrec b o hb hn)).trans hb⟩, (off e hTe.symm).trans he⟩
  rintro rfl
  rw [hnT] at q; cases q
section
variable {M : Model} {A : Around} {E : Value → Shared → Prop} {s : Shared} {B : Heap} {e : Addr} {X : String} {c : Value} {Q : Unit → Shared → Prop}
theorem landC {l : List Env} {fl : Value} (H : FlyC B l e X c fl s.heap) (hQ : ∀ h', FlyC B l e X c .none h' → s.heap.UpToSlots h' → Q () { s with heap := h' }) : wpAny M A (setFlight (.ref e) none) Q E s := by
  obtain ⟨f1, f2, f3, oe, vs, T, oT, ts, he, hc, hd, h1, h2, hnT, hTe, hT, hdT, h3⟩ := H
  obtain ⟨z1, z2, _⟩ := flyC_set f1 f2 f3 he hc hd h1 h2 hnT hTe hT hdT h3
  exact wpAny_setFlight_none he hd h1 hT hdT (Array.getElem?_eq_some_iff.mp h3).1 (hQ _ z1 z2)
theorem entryC {env : Env} {outer : List Env} {L : Addr} {oe : Obj} {vs : Array Value} {head : Value} {hadNext : Bool} (hfr : A.frames = some (env :: outer)) (hl : s.heap.FunFrames B (env :: outer)) (hf : env.frame = some L) (he : s.heap.get? e = some oe) (hc : oe.cls = .type X) (hd : oe.data = .fields vs)
    (sz : 1 < vs.size) (h2 : vs[2]? = some c) (hB : B.StaysIn s.heap) (hen : B.get? e = none) (hQ : ∀ h', FlyC B (env :: outer) e X c (rawInt L) h' → s.heap.UpToSlots h' → Q () { s with heap := h' }) :
    wpAny M A (do let a ← frameOf env; let pl ← entryPlaceOf L hadNext; let b ← EntryCells.newEntry head a .none (rawInt L) .none pl; setField (.ref e) 1 b) Q E s := by
  have nof : e ∉ (env :: outer).filterMap (·.frame) := by
    intro hm
    obtain ⟨_, o, ho, hn⟩ := hl.mem hm
    rw [he] at ho; cases ho
    exact hn vs hd
  refine wpAny_bind (wpAny_frameOf_fun hfr hl hf fun g hs => ?_)
  refine wpAny_bind (wpAny_entryPlaceOf fun pl hpl => ?_)
  unfold EntryCells.newEntry newFields
  refine wpAny_bind (wpAny_newObj_type ?_ (hpl.sizeOk5 _ _ _ _ _))
  generalize hto : ({ cls := .type "traceback", dict := none, data := .fields ([head, .ref L, .none, rawInt L, .none] ++ (if pl.isEmpty then List.replicate 6 Value.none else pl)).toArray } : Obj) = ot
  have dt : ∃ ts, ot.data = .fields ts ∧ ts[3]? = some (rawInt L) := by
    subst hto
    exact ⟨_, rfl, by simp⟩
  obtain ⟨ts, dt, t3⟩ := dt
  have eg : g.get? e = some oe := (hs.2.1 e nof).trans he
  have ep := Heap.get?_push_of_some ot eg
  have Bg : B.StaysIn g := fun b o q => (hs.2.1 b fun hm => by rw [(hl.mem hm).1] at q; cases q).trans (hB b o q)
  have nTe : g.objs.size ≠ e := Nat.ne_of_gt (Heap.lt_size eg)
  have d1 := Obj.data_mapFields hd (·.setIfInBounds 1 (Value.ref g.objs.size))
  refine wpAny_setField ep hd sz (hQ _ ?_ ?_)
  · have keep : ∀ b o, b ≠ e → g.get? b = some o → ((g.push ot).update e (Obj.mapFields (·.setIfInBounds 1 (Value.ref g.objs.size)))).get? b = some o := fun b o hb q =>
      (Heap.get?_update_other _ _ (Ne.symm hb)).trans (Heap.get?_push_of_some ot q)
    have nrec : ∀ b o, s.heap.get? b = some o → (∀ vs, o.data ≠ .fields vs) → b ≠ e := by
      rintro b o hb hn rfl
      rw [he] at hb; cases hb
      exact hn vs hd
    refine ⟨fun b o q => keep b o (by rintro rfl; rw [hen] at q; cases q) (Bg b o q), hen, hl.of_keeps fun b o hb hn => ?_, _, _, g.objs.size, ot, ts, Heap.get?_update_self _ ep (Obj.isFreed_of_fields d1), (Obj.cls_mapFields _ _).trans hc, d1, by simp [sz], ?_, Bg.fresh, nTe,
      (Heap.get?_update_other _ _ (Ne.symm nTe)).trans (Heap.get?_push_size g (Obj.isFreed_of_fields dt)), dt, t3⟩
    · obtain ⟨sl, q⟩ := hs.2.2 b o hb
      exact ⟨_, keep b _ (nrec b o hb hn) q, rfl⟩
    · rw [Array.getElem?_setIfInBounds_ne (by decide)]; exact h2
  · intro b o hb hn
    obtain ⟨sl, q⟩ := hs.2.2 b o hb
    refine ⟨sl, (Heap.get?_update_other _ _ ?_).trans (Heap.get?_push_of_some ot q)⟩
    rintro rfl
    rw [he] at hb; cases hb
    exact hn vs hd
theorem noteC {env : Env} {outer : List Env} {L : Addr} {oe : Obj} {vs : Array Value} (hfr : A.frames = some (env :: outer)) (hl : s.heap.FunFrames B (env :: outer)) (hf : env.frame = some L) (he : s.heap.get? e = some oe) (hc : oe.cls = .type X) (hd : oe.data = .fields vs)
    (h1 : vs[1]? = some .none) (h2 : vs[2]? = some c) (hB : B.StaysIn s.heap) (hen : B.get? e = none) (hQ : ∀ h', FlyC B (env :: outer) e X c (rawInt L) h' → s.heap.UpToSlots h' → Q () { s with heap := h' }) : wpAny M A (noteFrame (.ref e) env) Q E s := by
  unfold noteFrame
  simp only [hf]
  refine wpAny_bind (wpAny_field he hd h1 ?_)
  rw [if_neg (by decide)]
  exact entryC hfr hl hf he hc hd (Array.getElem?_eq_some_iff.mp h1).1 h2 hB hen hQ
theorem noteOnC {env : Env} {outer : List Env} {L : Addr} (hfr : A.frames = some (env :: outer)) (hf : env.frame = some L) (H : FlyC B (env :: outer) e X c .none s.heap) (hQ : ∀ h', FlyC B (env :: outer) e X c (rawInt L) h' → s.heap.UpToSlots h' → Q () { s with heap := h' }) : wpAny M A (noteFrame (.ref e) env) Q E s := by
  obtain ⟨f1, f2, f3, oe, vs, T, oT, ts, he, hc, hd, h1, h2, hnT, hTe, hT, hdT, h3⟩ := H
  obtain ⟨z1, z2, z3⟩ := flyC_set f1 f2 f3 he hc hd h1 h2 hnT hTe hT hdT h3
  unfold noteFrame
  simp only [hf]
  refine wpAny_bind (wpAny_field he hd h1 ?_)
  rw [if_pos (show (Value.ref T != Value.none) = true from by simp)]
  refine wpAny_bind (wpAny_field hT hdT h3 ?_)
  rw [if_neg (show ¬ ((Value.none == rawInt L) = true) from by simp [rawInt])]
  refine wpAny_bind (wpAny_setField hT hdT (Array.getElem?_eq_some_iff.mp h3).1 ?_)
  exact entryC hfr z1.2.2.1 hf z3 hc hd (Array.getElem?_eq_some_iff.mp h1).1 h2 z1.1 f2 fun h' a b => hQ h' a (z2.trans b)
theorem FlyC.looks {l : List Env} {fl : Value} {h : Heap} (H : FlyC B l e X c fl h) : Looks M h (typeOf (.ref e)) (.type X) := by
  obtain ⟨_, _, _, oe, _, _, _, _, he, hc, _⟩ := H
  rw [← hc]
  exact (Looks.ld he).andThen .now
end
section
variable {prog : Program} {w : World} {A₀ : Around} {E : Value → Shared → Prop} {s' : Shared} {base g h : Heap} {outer : List Env} {L a e : Addr} {m : Str → Option Value} {name : Str} {scope : Scope} {cd : Value}
  {b₀ : Stmt} {suite : List Stmt} {pos : Pos} {rest : List ExceptHandler} {Q : Flow → Shared → Prop} {news : List (Addr × Obj)} {KF : Frag} {tt : Expr}
  {p : Program} {loose : List Str} {mean : ExcName → Option Value} {mg mb : Str → Option Value}
/-- an AttributeError of the frame's own, met by the frame's own clause, at any depth -/
theorem catchC {ov : Value} {nm : Str} (K : Below A₀ base outer g) (hx : Heap.NewAttrErr h s'.heap e ov nm) (F : Fr g L h m) (N : News g L h news) (XB : KF.In base) (TB : Top p loose mean mg mb base)
    (T : KtsTest prog w KF p loose mg mb name scope L a cd (.type "AttributeError") tt true)
    (k : ∀ h' g' oe vs, Fr g' L h' m → News g' L h' ((e, oe) :: news) → (∀ q ∈ news, q.1 ≠ e) → oe.data = .fields vs → vs[2]? = some .none → g.UpToSlots g' → Below A₀ base outer g' → KF.In g' → Top p loose mean mg mb g' →
      wpAny (model prog w) ((A₀.deeper (envOf name scope L a cd)).mark (some (.ref e))) (execs (b₀ :: suite) (envOf name scope L a cd)) Q E { s' with heap := h' })
    (hk : scope.kind = .function)
    (hE : PassesOwnAt (model prog w) ((A₀.deeper (envOf name scope L a cd)).mark (some (.ref e))) (A₀.deeper (envOf name scope L a cd)) (envOf name scope L a cd) E) :
    wpAny (model prog w) (A₀.deeper (envOf name scope L a cd)) (noteFrame (.ref e) (envOf name scope L a cd))
      (fun _ s₂ => wpAny (model prog w) (A₀.deeper (envOf name scope L a cd)) (setFlight (.ref e) none) (fun _ s₃ =>
        wpAny (model prog w) (A₀.deeper (envOf name scope L a cd)) (handleBy (.ref e) (envOf name scope L a cd) (.ExceptHandler (some tt) none (b₀ :: suite) pos :: rest)) Q E s₃) E s₂) E s' := by
  have K' := K.push (name := name) (a := a) (cd := cd) F hk
  have hin : ∀ env ∈ (envOf name scope L a cd :: outer), ∀ b, env.frame = some b → b ∈ (envOf name scope L a cd :: outer).filterMap (·.frame) := fun env he b hb => List.mem_filterMap.mpr ⟨env, he, hb⟩
  have hl : ∀ q ∈ news, (hideAll h ((envOf name scope L a cd :: outer).filterMap (·.frame))).get? q.1 = some q.2 := fun q hq => by
    refine hideAll_get _ (N q hq).1 fun hm => ?_
    rcases kts_mem hm with z | z
    · exact (N q hq).2.1 z
    · obtain ⟨o, ho, _⟩ := (K.frames.mem z).2
      rw [(N q hq).2.2] at ho; cases ho
  obtain ⟨tp, u, he⟩ := hx.there
  have hen : (hideAll h ((envOf name scope L a cd :: outer).filterMap (·.frame))).get? e = none := by
    cases q : (hideAll h ((envOf name scope L a cd :: outer).filterMap (·.frame))).get? e with
    | none => rfl
    | some o => have := of_hideAll _ q; rw [hx.new] at this; cases this
  have hBG : ∀ b o, h.get? b = some o → b ∉ (envOf name scope L a cd :: outer).filterMap (·.frame) → (hideAll h ((envOf name scope L a cd :: outer).filterMap (·.frame))).get? b = some o := fun b o q nm => hideAll_get _ q nm
  have up₀ : h.UpToSlots s'.heap := Heap.UpToSlots.of_keeps hx.keeps
  refine noteC (B := hideAll h ((envOf name scope L a cd :: outer).filterMap (·.frame))) (X := "AttributeError") (Around.frames_deeper K.stack) ((funFrames_hide K'.frames hin).of_keeps fun b o hb _ => ⟨o, hx.keeps b o hb, rfl⟩) rfl he rfl rfl rfl rfl (fun b o hb => hx.keeps b o (of_hideAll _ hb)) hen fun h₁ H₁ up₁ => ?_
  refine landC H₁ fun h₂ H₂ up₂ => ?_
  obtain ⟨g₅, T₅, F₅, K₅⟩ := kts_ground K F hBG H₂.1 (up₀.trans (up₁.trans up₂))
  refine wpAny_handleBy_cons (codeAny_handlers_test (T _ _ _ _ g₅ e m F₅ (XB.keeps K₅.stays) (topRead_of (TB.keeps K₅.stays)) H₂.looks fun h₃ kp => ?_)) (by intro q; cases q)
  have H₃ := H₂.up kp
  refine codeAny_handlers_suite ?_
  refine landC H₃ fun h₄ H₄ up₄ => ?_
  have up : h.UpToSlots h₄ := up₀.trans (up₁.trans (up₂.trans ((Heap.UpToSlots.of_keeps kp).trans up₄)))
  obtain ⟨g₆, T₆, F₆, K₆⟩ := kts_ground K F hBG H₄.1 up
  obtain ⟨f1, _, f3, oe, vs, T, oT, ts, he₄, hc₄, hd₄, _, h2, _⟩ := H₄
  have neL : e ≠ L := fun q => by
    obtain ⟨oL, _, _, hL, _⟩ := F.ns
    have n := hx.new
    rw [q, hL] at n
    cases n
  refine wpAny_passesOwnAt hE (k h₄ g₆ oe vs F₆ (fun q hq => ?_) (fun q hq z => ?_) hd₄ h2 (fun b o q _ => T₆.up q) K₆ (XB.keeps K₆.stays) (TB.keeps K₆.stays))
  · rcases List.mem_cons.mp hq with rfl | hq
    · exact ⟨he₄, neL, T₆.none_ _ (kts_none F.keep hx.new)⟩
    · exact ⟨f1 _ _ (hl q hq), (N q hq).2.1, T₆.none_ _ (N q hq).2.2⟩
  · have := (N q hq).1
    rw [z, hx.new] at this; cases this
end
end Mine
end
section
open PySem PySem.W PyProof.Rows
namespace Mine
theorem entry_unchain : entryFor table "proto.unchain" = some Builtin.«proto.unchain» := entryFor_of_tree (by kernel_rfl)
section
variable {prog : Program} {w : World} {A : Around} {E : Value → Shared → Prop} {s : Shared} {env : Env}
theorem raiseNewC {α : Type} {x e : Addr} {oe ox : Obj} {vs xs : Array Value} {Q : α → Shared → Prop} (hh : A.handled = some (.ref e)) (hne : e ≠ x) (he : s.heap.get? e = some oe) (hd : oe.data = .fields vs) (h2 : vs[2]? = some .none)
    (hx : s.heap.get? x = some ox) (hdx : ox.data = .fields xs) (sz : 2 < xs.size) (h : E (.ref x) { s with heap := s.heap.update x (Obj.mapFields (·.setIfInBounds 2 (.ref e))) }) :
    wpAny (model prog w) A (raiseNew (.ref x) : Sem α) Q E s := by
  unfold raiseNew
  refine wpAny_bind (wpAny_handled ?_)
  rw [hh]
  dsimp only
  have hb : (Value.ref e != Value.ref x) = true := by simp [hne]
  rw [if_pos hb]
  refine wpAny_bind (wpAny_holding (wpAny_runValue (codeAny_builtin entry_unchain ?_)))
  unfold Builtin.«proto.unchain»
  dsimp only
  refine wpAny_bind (wpAny_field he hd h2 ?_)
  rw [if_pos (by decide)]
  refine wpAny_pure ?_
  unfold updateField
  refine wpAny_bind (wpAny_bind (wpAny_load hx ?_))
  rw [hdx]
  dsimp only
  rw [if_pos sz]
  exact wpAny_update hx (wpAny_throw h)
theorem raiseStmtC {cls : String} (F : ExcRaiseFacts cls) {x : Sem Value} {e₀ : Addr} {Q : Flow → Shared → Prop} (hh : A.handled = some (.ref e₀))
    (h : wpAny (model prog w) A x (fun v s₁ => ∃ e t oe vs, v = .ref e ∧ e₀ ≠ e ∧ s₁.heap.get? e₀ = some oe ∧ oe.data = .fields vs ∧ vs[2]? = some .none ∧ s₁.heap.get? e = some { cls := .type cls, data := .fields #[.ref t, .none, .none, .none, .bool false, .none] } ∧
      E (.ref e) { s₁ with heap := s₁.heap.update e (Obj.mapFields (·.setIfInBounds 2 (.ref e₀))) }) E s) :
    wpAny (model prog w) A (raiseStmt env (some x) none) Q E s := by
  unfold raiseStmt
  refine wpAny_bind (wpAny_mono h (fun v s₁ h₁ => ?_) fun _ _ x => x)
  obtain ⟨e, t, oe, vs, rfl, hne, he₀, hd, h2, he, hE⟩ := h₁
  obtain ⟨hp, g, d, tk, os⟩ := s₁
  have hsub := F.isExc
  have hmeta := F.plainMeta
  repeat (first | refine wpAny_loadPart he ?_ | wp_step)
  exact raiseNewC hh hne he₀ hd h2 he rfl (by simp) hE
theorem Raise_madeC {cls : String} (F : ExcRaiseFacts cls) {x : Expr} {pos : Pos} {e₀ : Addr} {Q : Flow → Shared → Prop} (hh : A.handled = some (.ref e₀))
    (h : wpAny (model prog w) A (eval x env) (fun v s₁ => ∃ e t oe vs, v = .ref e ∧ e₀ ≠ e ∧ s₁.heap.get? e₀ = some oe ∧ oe.data = .fields vs ∧ vs[2]? = some .none ∧ s₁.heap.get? e = some { cls := .type cls, data := .fields #[.ref t, .none, .none, .none, .bool false, .none] } ∧
      E (.ref e) { s₁ with heap := s₁.heap.update e (Obj.mapFields (·.setIfInBounds 2 (.ref e₀))) }) E s) :
    wpAny (model prog w) A (exec (.Raise (some x) none pos) env) Q E s := by
  rw [arm_exec_Raise]
  show wpAny _ A (do standAt pos; raiseStmt env (some (do let v ← eval x env; standAt pos; pure v)) none) Q E s
  exact wpAny_bind (wpAny_standAt (raiseStmtC F hh (wpAny_bind (wpAny_mono h (fun v s₁ h₁ => wpAny_bind (wpAny_standAt (wpAny_pure h₁))) fun _ _ x => x))))
end
end Mine
end
section
open PySem PySem.W PyProof.Rows
namespace Mine
theorem sum_le_mul {l : List Nat} {n : Nat} (h : ∀ x ∈ l, x ≤ n) : l.sum ≤ l.length * n := by
  induction l with
  | nil => exact Nat.zero_le _
  | cons a r ih =>
    rw [List.sum_cons, List.length_cons, Nat.succ_mul]
    have := ih fun x hx => h x (.tail _ hx)
    have := h a (.head _)
    omega
theorem list_text_le {ys : List Str} (h1 : ys.length ≤ 12) (h2 : ∀ p ∈ ys, (reprText p).length ≤ 60) : (listText (ys.map reprText)).length ≤ 1000 := by
  have h := listText_len_le (ys.map reprText)
  have h3 : ((ys.map reprText).map (·.length)).sum ≤ ((ys.map reprText).map (·.length)).length * 60 := sum_le_mul fun x hx => by
    rw [List.map_map] at hx
    obtain ⟨p, hp, rfl⟩ := List.mem_map.mp hx
    exact h2 p hp
  simp only [List.length_map] at h h3
  omega
theorem strs_repr {prog : Program} {w : World} {h₀ : Heap} : ∀ {vs : List Value} {ys : List Str}, StrsAre vs ys → (∀ p ∈ ys, (reprText p).length ≤ 60) → ∀ (i : Nat) (y : Value), vs[i]? = some y → ∃ t, (ys.map reprText)[i]? = some t ∧ ReprK prog w [] h₀ 0 y t
  | _, _, .nil, _, i, y, h => by simp at h
  | _, _, .cons x t r, hb, 0, y, h => by
    cases h
    refine ⟨reprText x, rfl, ReprK.of_is (ReprIs.str x t ?_) _ _ _⟩
    have := hb x (.head _)
    rw [sizeLine_eq]; omega
  | _, _, .cons x t r, hb, i + 1, y, h => strs_repr r (fun p hp => hb p (.tail _ hp)) i y h
theorem strs_size : ∀ {vs : List Value} {ys : List Str}, StrsAre vs ys → vs.length = ys.length
  | _, _, .nil => rfl
  | _, _, .cons _ _ r => congrArg (· + 1) (strs_size r)
section
variable {prog : Program} {w : World} {A : Around} {E : Value → Shared → Prop} {s : Shared}
theorem repr_strs {h₀ : Heap} {L : Addr} {m : Str → Option Value} {news : List (Addr × Obj)} {l : Addr} {vs : List Value} {nn : Nat} {ys : List Str} {Q : Value → Shared → Prop} (F : Fr h₀ L s.heap m) (N : News h₀ L s.heap news) (hl : (l, W.listOf vs.toArray nn) ∈ news)
  (sv : StrsAre vs ys) (h0 : 1 ≤ ys.length) (h1 : ys.length ≤ 12) (h2 : ∀ p ∈ ys, (reprText p).length ≤ 60)
  (hg : A.guards = some []) (hu : A.units + 1 < cLine)
  (hQ : ∀ h' x u tk, Fr h₀ L h' m → News h₀ L h' news → x.length ≤ 1000 → Q (.str x u) { s with heap := h', toks := tk }) :
  wpAny (model prog w) A (pyReprObj (.ref l)) Q E s := by
  have hlt := list_text_le h1 h2
  have hlen := strs_size sv
  cases vs with
  | nil => simp at hlen; omega
  | cons x r =>
    exact wpAny_pyReprObj_listK (as := []) (h₀ := s.heap) (d := 0) (ts := ys.map reprText) (N.get hl) rfl rfl (by simp) (by simpa using hlen.symm) (fun i y hy => strs_repr sv h2 i y (by simpa using hy)) hg (fun b _ => Clear.nil b) hu (fun _ _ e => e)
      (fun h' u tk k => hQ h' _ u tk (F.keptAll k) (N.grown k) hlt) (by rw [sizeLine_eq]; omega)
end
end Mine
end
noncomputable section
open PySem PySem.W PyProof.Rows
namespace Mine
theorem FlyC.tail {B h : Heap} {env : Env} {l : List Env} {e : Addr} {X : String} {c fl : Value} (H : FlyC B (env :: l) e X c fl h) : FlyC B l e X c fl h := by
  obtain ⟨f1, f2, ⟨_, _, f3⟩, r⟩ := H
  exact ⟨f1, f2, f3, r⟩
/-- an exception in flight above the frames l, its context c, the ledger news untouched -/
def RaisedC (base : Heap) (l : List Env) (e : Addr) (X : String) (c : Value) (news : List (Addr × Obj)) (h : Heap) : Prop :=
  ∃ B, base.StaysIn B ∧ (∀ q ∈ news, B.get? q.1 = some q.2 ∧ base.get? q.1 = none) ∧ FlyC B l e X c .none h
theorem RaisedC.some {base : Heap} {l : List Env} {e : Addr} {X : String} {c : Value} {n n' : List (Addr × Obj)} {h : Heap} (R : RaisedC base l e X c n h) (k : ∀ q ∈ n', q ∈ n) : RaisedC base l e X c n' h := by
  obtain ⟨B, hB, hl, hf⟩ := R
  exact ⟨B, hB, fun q hq => hl q (k q hq), hf⟩
section
variable {M : Model} {A : Around} {E : Value → Shared → Prop} {s' : Shared} {base g g₂ h h₁ : Heap} {outer : List Env} {L a x e₀ : Addr} {m : Str → Option Value} {name : Str} {scope : Scope} {cd : Value} {Q : Unit → Shared → Prop} {news : List (Addr × Obj)}
/-- the exception raised while another is handled leaves the frame that raised it -/
theorem leaveC {cls : String} {vs : List Value} (K : Below A base outer g) (hx : Heap.MadeExc h h₁ x cls vs) (hs : s'.heap = h₁.update x (Obj.mapFields (·.setIfInBounds 2 (.ref e₀)))) (F : Fr g L h m) (N : News g L h news)
    (hQ : ∀ h', RaisedC base outer x cls (.ref e₀) news h' → g.UpToSlots h' → Q () { s' with heap := h' }) (hk : scope.kind = .function) :
    wpAny M (A.deeper (envOf name scope L a cd)) (leaving (envOf name scope L a cd) (.ref x)) Q E s' := by
  have K' := K.push (name := name) (a := a) (cd := cd) F hk
  have hin : ∀ env ∈ (envOf name scope L a cd :: outer), ∀ b, env.frame = some b → b ∈ (envOf name scope L a cd :: outer).filterMap (·.frame) := fun env he b hb => List.mem_filterMap.mpr ⟨env, he, hb⟩
  have st : base.StaysIn (hideAll h ((envOf name scope L a cd :: outer).filterMap (·.frame))) := fun b o q => hideAll_get _ (K'.stays b o q) fun hm => by
    rw [(K'.frames.mem hm).1] at q; cases q
  have hl : ∀ q ∈ news, (hideAll h ((envOf name scope L a cd :: outer).filterMap (·.frame))).get? q.1 = some q.2 ∧ base.get? q.1 = none := fun q hq => by
    refine ⟨hideAll_get _ (N q hq).1 fun hm => ?_, fresh_of_stays K.stays (N q hq).2.2⟩
    rcases kts_mem hm with z | z
    · exact (N q hq).2.1 z
    · obtain ⟨o, ho, _⟩ := (K.frames.mem z).2
      rw [(N q hq).2.2] at ho; cases ho
  obtain ⟨t, ht, _, _⟩ := hx.there
  have keep : ∀ b o, h.get? b = some o → s'.heap.get? b = some o := fun b o q => by
    rw [hs, Heap.get?_update_other _ _ (fun z => by rw [← z, hx.new] at q; cases q)]
    exact hx.keeps b o q
  have hd := Obj.data_mapFields (o := { cls := .type cls, data := .fields #[.ref t, .none, .none, .none, .bool false, .none] }) rfl (·.setIfInBounds 2 (Value.ref e₀))
  have he : s'.heap.get? x = some (Obj.mapFields (·.setIfInBounds 2 (.ref e₀)) { cls := .type cls, data := .fields #[.ref t, .none, .none, .none, .bool false, .none] }) := by
    rw [hs]; exact Heap.get?_update_self _ ht (Obj.isFreed_of_fields hd)
  have hen : (hideAll h ((envOf name scope L a cd :: outer).filterMap (·.frame))).get? x = none := by
    cases q : (hideAll h ((envOf name scope L a cd :: outer).filterMap (·.frame))).get? x with
    | none => rfl
    | some o => have := of_hideAll _ q; rw [hx.new] at this; cases this
  unfold leaving
  refine wpAny_bind (noteC (B := hideAll h ((envOf name scope L a cd :: outer).filterMap (·.frame))) (X := cls) (c := .ref e₀) K'.stack ((funFrames_hide K'.frames hin).of_keeps fun b o hb _ => ⟨o, keep b o hb, rfl⟩) rfl he rfl hd rfl rfl (fun b o hb => keep b o (of_hideAll _ hb)) hen fun h₂ H₂ up₂ => ?_)
  refine landC H₂ fun h₃ H₃ up₃ => ?_
  exact hQ h₃ ⟨_, st, hl, H₃.tail⟩ ((Heap.UpToSlots.of_keeps F.keep).trans ((Heap.UpToSlots.of_keeps keep).trans (up₂.trans up₃)))
theorem leaveOnC {X : String} {c : Value} (K : Below A base outer g) (F : Fr g L g₂ m) (R : RaisedC base (envOf name scope L a cd :: outer) x X c news s'.heap) (hsm : g₂.UpToSlots s'.heap)
    (hQ : ∀ h', RaisedC base outer x X c news h' → g.UpToSlots h' → Q () { s' with heap := h' }) :
    wpAny M (A.deeper (envOf name scope L a cd)) (leaving (envOf name scope L a cd) (.ref x)) Q E s' := by
  obtain ⟨B, hB, hl, H⟩ := R
  unfold leaving
  refine wpAny_bind (noteOnC (Around.frames_deeper K.stack) rfl H fun h₂ H₂ up₂ => ?_)
  refine landC H₂ fun h₃ H₃ up₃ => ?_
  exact hQ h₃ ⟨B, hB, hl, H₃.tail⟩ ((Heap.UpToSlots.of_keeps F.keep).trans (hsm.trans (up₂.trans up₃)))
end
section
variable {prog : Program} {w : World} {A : Around} {E : Value → Shared → Prop} {s : Shared} {env : Env}
def SerArgs (e₀ : Addr) (cls : String) (E : Value → Shared → Prop) (vs : List Value) (s₂ : Shared) : Prop :=
  vs.length ≤ sizeLine ∧ ∃ oe ws, s₂.heap.get? e₀ = some oe ∧ oe.data = .fields ws ∧ ws[2]? = some .none ∧ ∀ h' e h'', Heap.MadeExc s₂.heap h' e cls vs → h'' = h'.update e (Obj.mapFields (·.setIfInBounds 2 (.ref e₀))) → E (.ref e) { s₂ with heap := h'' }
theorem SerArgs.one {e₀ : Addr} {cls : String} {v : Value} {s₂ : Shared} {oe : Obj} {ws : Array Value} (he : s₂.heap.get? e₀ = some oe) (hd : oe.data = .fields ws) (h2 : ws[2]? = some .none)
  (k : ∀ h' e h'', Heap.MadeExc s₂.heap h' e cls [v] → h'' = h'.update e (Obj.mapFields (·.setIfInBounds 2 (.ref e₀))) → E (.ref e) { s₂ with heap := h'' }) : SerArgs e₀ cls E [v] s₂ :=
  ⟨by rw [sizeLine_eq]; simp, oe, ws, he, hd, h2, k⟩
theorem Raise_serC {cls newId initId : String} (F : ExcCallFacts cls newId initId) (G : ExcRaiseFacts cls) {x : Str} {np cpos pos : Pos} {e₀ : Addr} {e₁ : Expr} {rest : List Expr} {Q : Flow → Shared → Prop} (hh : A.handled = some (.ref e₀))
    (h : wpAny (model prog w) A (eval (.Name x np) env) (fun f s₁ => f = .type cls ∧ wpAny (model prog w) A (spliced (backTo cpos (starEach (e₁ :: rest) env))) (SerArgs e₀ cls E) E s₁) E s)
    (he : starEach (e₁ :: rest) env = (false, eval e₁ env) :: starEach rest env) (hplain : (backTo cpos (starEach rest env)).any (·.1) = false) :
    wpAny (model prog w) A (exec (.Raise (some (.Call (.Name x np) (e₁ :: rest) [] cpos)) none pos) env) Q E s := by
  refine Raise_madeC G hh (wpAny_Call_ofName (wpAny_mono h (fun f s₁ h₁ => ?_) fun _ _ x => x))
  obtain ⟨rfl, h₁⟩ := h₁
  refine callWith_excType (by rw [he]; show (false || (backTo cpos (starEach rest env)).any (·.1)) = false; rw [hplain]; rfl) ?_
  rw [he] at h₁ ⊢
  refine Calls.evalArgs_plain (wpAny_mono h₁ (fun vs s₂ h₃ => ?_) fun _ _ y => y)
  obtain ⟨hlen, oe, ws, hoe, hd, h2, k⟩ := h₃
  obtain ⟨hp, g, d, tk, os⟩ := s₂
  refine wpAny_call_exc F (hrest := hlen) fun h' e hm => ?_
  obtain ⟨t, ht, _, _⟩ := hm.there
  exact ⟨e, t, oe, ws, rfl, (fun z => by have := hm.new; rw [← z, hoe] at this; cases this), hm.keeps _ _ hoe, hd, h2, ht, k h' e _ hm rfl⟩
end
end Mine
end
noncomputable section
open PySem PySem.W PyProof.Rows
namespace Mine
local macro_rules | `(tactic| walk_at "none") => `(tactic| fail)
theorem type_list {prog : Program} {w : World} {A : Around} {E : Value → Shared → Prop} {s : Shared} {h₀ : Heap} {L l : Addr} {vs : List Value} {nn : Nat} {news : List (Addr × Obj)} {Q : Value → Shared → Prop} (N : News h₀ L s.heap news) (hl : (l, W.listOf vs.toArray nn) ∈ news) (h : Q (.type "list") s) :
    wpAny (model prog w) A (call (.type "type") [.ref l]) Q E s := by
  obtain ⟨hp, g, d, tk, os⟩ := s
  exact call_type_obj (N.get hl) (show (Value.type "list" == Value.type "builtin_function_or_method") = false by decide) h
abbrev escScope : Scope := { kind := .function, names := [(Str.ofString "text", .local), (Str.ofString "TypeError", .globalImplicit), (Str.ofString "AttributeError", .globalImplicit), (Str.ofString "_raise_serialization_error", .globalImplicit)], isGenerator := false, isCoroutine := false }
/-- what an escape's clause does of the AttributeError: it raises TypeError -/
def HandlerOk (w : World) (l : Addr) (news : List (Addr × Obj)) : Prop :=
  ∀ (mean : ExcName → Option Value) (mg mb : Str → Option Value) (c1 : Str) (s1 : Scope) (L1 a1 : Addr) (cd1 : Value) (cl1 : List (Str × Addr)) (c2 : Str) (s2 : Scope) (L2 a2 : Addr) (cd2 : Value) (c3 : Str) (L3 a3 : Addr) (cd3 : Value)
    (base g h : Heap) (e : Addr) (m : Str → Option Value) (s' : Shared) (Q : Flow → Shared → Prop) (E2 E3 : Value → Shared → Prop) (p1 p2 p3 p4 p5 p6 p7 p8 : Pos) (kk : Nat) (ov : Value) (nm : Str),
  s1.kind = .function → s2.kind = .function →
  Below ((callerA.deeper (envX c1 s1 L1 a1 cd1 cl1)).deeper (envOf c2 s2 L2 a2 cd2)) base [envOf c2 s2 L2 a2 cd2, envX c1 s1 L1 a1 cd1 cl1] g → Heap.NewAttrErr h s'.heap e ov nm → Fr g L3 h m → News g L3 h news →
  (hd.heap_39 w.params).In base → Top hd.view_39 (looseW hd.view_39 [Str.ofString "EXACT_TOKEN_TYPES"]) mean mg mb base → m (Str.ofString "text") = some (.ref l) →
  (∀ (x e₀ : Addr) (o₀ : Obj) (v₀ : Array Value) (h' : Heap) (tk' : Nat), o₀.data = .fields v₀ → v₀[2]? = some .none → (∀ q ∈ news, q.1 ≠ e₀) → RaisedC base [envOf c2 s2 L2 a2 cd2, envX c1 s1 L1 a1 cd1 cl1] x "TypeError" (.ref e₀) ((e₀, o₀) :: news) h' → g.UpToSlots h' → E2 (.ref x) { s' with heap := h', toks := tk' }) →
  wpAny (model PySem.Challenge.rw_pg0200_01.row.prog w) (((callerA.deeper (envX c1 s1 L1 a1 cd1 cl1)).deeper (envOf c2 s2 L2 a2 cd2)).deeper (envOf c3 escScope L3 a3 cd3)) (noteFrame (.ref e) (envOf c3 escScope L3 a3 cd3))
    (fun _ s₂ => wpAny (model PySem.Challenge.rw_pg0200_01.row.prog w) (((callerA.deeper (envX c1 s1 L1 a1 cd1 cl1)).deeper (envOf c2 s2 L2 a2 cd2)).deeper (envOf c3 escScope L3 a3 cd3)) (setFlight (.ref e) none) (fun _ s₃ =>
      wpAny (model PySem.Challenge.rw_pg0200_01.row.prog w) (((callerA.deeper (envX c1 s1 L1 a1 cd1 cl1)).deeper (envOf c2 s2 L2 a2 cd2)).deeper (envOf c3 escScope L3 a3 cd3)) (handleBy (.ref e) (envOf c3 escScope L3 a3 cd3)
        [.ExceptHandler (some (.Tuple [.Name (Str.ofString "TypeError") p1, .Name (Str.ofString "AttributeError") p2] kk p3)) none [.Expr (.Call (.Name (Str.ofString "_raise_serialization_error") p4) [.Name (Str.ofString "text") p5] [] p6) p7] p8]) Q
        (fun e s' => wpAny (model PySem.Challenge.rw_pg0200_01.row.prog w) (((callerA.deeper (envX c1 s1 L1 a1 cd1 cl1)).deeper (envOf c2 s2 L2 a2 cd2)).deeper (envOf c3 escScope L3 a3 cd3)) (leaving (envOf c3 escScope L3 a3 cd3) e) (fun _ s'' => E2 e s'') E3 s') s₃)
      (fun e s' => wpAny (model PySem.Challenge.rw_pg0200_01.row.prog w) (((callerA.deeper (envX c1 s1 L1 a1 cd1 cl1)).deeper (envOf c2 s2 L2 a2 cd2)).deeper (envOf c3 escScope L3 a3 cd3)) (leaving (envOf c3 escScope L3 a3 cd3) e) (fun _ s'' => E2 e s'') E3 s') s₂)
    (fun e s' => wpAny (model PySem.Challenge.rw_pg0200_01.row.prog w) (((callerA.deeper (envX c1 s1 L1 a1 cd1 cl1)).deeper (envOf c2 s2 L2 a2 cd2)).deeper (envOf c3 escScope L3 a3 cd3)) (leaving (envOf c3 escScope L3 a3 cd3) e) (fun _ s'' => E2 e s'') E3 s') s'
local macro_rules | `(tactic| walk_at "execs cons") => `(tactic| (k_here; refine' execs_gen ?p ?_; (case p => ((try dsimp only); omega)); intro tk' hpos'; (try dsimp only)))
local macro_rules | `(tactic| walk_at "execs nil") => `(tactic| (k_here; refine' execs_nil_gen ?p ?_; (case p => ((try dsimp only); omega)); intro tk' hpos'; (try dsimp only)))
local macro_rules | `(tactic| walk_at "eval Name") => `(tactic| (
  k_here
  (with_reducible show wpAny _ _ (eval (PySem.Expr.Name (Str.ofString "text") _) _) _ _ _)
  k_dflt (
    refine' ld ?F ?hv ?_ ?hk ?hl ?hd
    (case F => k_asm)
    (case hv => with_reducible assumption)
    (case hk => rfl)
    (case hl => rfl)
    (case hd => decide))))
local macro_rules | `(tactic| walk_at "exec Raise some none") => `(tactic| (k_here; refine' Stop.of ?_))
local macro_rules | `(tactic| walk_at "pyReprObj ref") => `(tactic| (k_here; refine' Stop.of ?_))
local macro_rules | `(tactic| walk_at "call type:type") => `(tactic| (k_here; refine' Stop.of ?_))
local macro_rules | `(tactic| walk_at "leaving ref") => `(tactic| (k_here; refine' Stop.of ?_))
set_option maxRecDepth 100000 in
set_option maxHeartbeats 4000000 in
theorem handler0 (w : World) (l : Addr) (vs : List Value) (ys : List Str) (nn : Nat) (news : List (Addr × Obj)) (hl : ys.length ≤ 12) (h0 : 1 ≤ ys.length) (hr : ∀ p ∈ ys, (reprText p).length ≤ 60) (hm : (l, W.listOf vs.toArray nn) ∈ news) (hs : StrsAre vs ys) :
  (hd.heap_39 w.params = hd.heap_39 w.params) ∧ HandlerOk w l news := by
  unfold HandlerOk
  k_fill
  refine ⟨rfl, ?_⟩
  intro mean mg mb c1 s1 L1 a1 cd1 cl1 c2 s2 L2 a2 cd2 c3 L3 a3 cd3 base g h e m s' Q E2 E3 p1 p2 p3 p4 p5 p6 p7 p8 kk ov nm k1 k2 K hx F N XB TB ht hraise
  obtain ⟨sk1, sn1, sg1, sc1, sm1⟩ := s1
  obtain rfl : sk1 = .function := k1
  obtain ⟨sk2, sn2, sg2, sc2, sm2⟩ := s2
  obtain rfl : sk2 = .function := k2
  refine' catchC ?Kx1 ?hxx1 ?Fx1 ?Nx1 ?XBx1 ?TBx1 ?Tx1 (fun h' g' oe' vs' F' N' off' hd' h2' up' K' X' T' => ?_) ?hkx1 ?hEx1
  (case Kx1 => with_reducible assumption)
  (case hxx1 => with_reducible assumption)
  (case Fx1 => with_reducible assumption)
  (case Nx1 => with_reducible assumption)
  (case XBx1 => with_reducible assumption)
  (case TBx1 => with_reducible assumption)
  (case Tx1 => kts_test)
  (case hkx1 => rfl)
  (case hEx1 => passes_own)
  (try dsimp only at K' ⊢)
  (try k_sweep)
  k_steps
  refine' Stop.go ?_
  refine' Raise_serC PySem.F.excCall_TypeError PySem.F.excRaise_TypeError ?hhx2 ?_ ?hex2 ?hpx2
  (case hhx2 => rfl)
  (case hex2 => rfl)
  (case hpx2 => rfl)
  k_steps
  refine' Stop.go ?_
  refine' repr_strs ?Fx3 ?Nx3 ?hlx3 ?svx3 ?h0x3 ?h1x3 ?h2x3 ?hgx3 ?hux3 (fun h' x' u' tk' F' N' l' => ?_)
  (case Fx3 => k_asm)
  (case Nx3 => k_asm)
  (case svx3 => with_reducible assumption)
  (case hlx3 => (repeat (first | assumption | refine List.Mem.tail _ ?_)))
  (case h0x3 => with_reducible assumption)
  (case h1x3 => with_reducible assumption)
  (case h2x3 => with_reducible assumption)
  (case hgx3 => rfl)
  (case hux3 => units_room)
  k_steps
  refine' Stop.go ?_
  refine' type_list ?Nx4 ?hlx4 ?_
  (case Nx4 => k_asm)
  (case hlx4 => (repeat (first | assumption | refine List.Mem.tail _ ?_)))
  k_steps
  refine' SerArgs.one ?hex5 ?hdx5 ?h2x5 (fun h' e' h'' X' eq' => ?_)
  (case hex5 => exact News.get (by with_reducible assumption) (by k_mem))
  (case hdx5 => with_reducible assumption)
  (case h2x5 => with_reducible assumption)
  k_steps
  refine' Stop.go ?_
  refine' leaveC ?Kx6 ?hxx6 ?hsx6 ?Fx6 ?Nx6 (fun h' R' U' => ?_) ?hkx6
  (case hsx6 => with_reducible assumption)
  (case hxx6 => with_reducible assumption)
  (case Kx6 => k_asm)
  (case Fx6 => k_asm)
  (case Nx6 => k_asm)
  (case hkx6 => rfl)
  k_steps
  refine' Stop.go ?_
  refine' leaveOnC ?Kx7 ?Fx7 ?Rx7 ?ux7 (fun h' R' U' => ?_)
  (case Rx7 => with_reducible assumption)
  (case Kx7 => with_reducible assumption)
  (case Fx7 => with_reducible assumption)
  (case ux7 => with_reducible assumption)
  k_steps
  exact hraise _ _ _ _ _ _ (by with_reducible assumption) (by with_reducible assumption) (by with_reducible assumption) (by with_reducible assumption) (Heap.UpToSlots.trans (by with_reducible assumption) (by with_reducible assumption))
theorem handler_ok (w : World) (l : Addr) (vs : List Value) (ys : List Str) (nn : Nat) (news : List (Addr × Obj)) (hl : ys.length ≤ 12) (h0 : 1 ≤ ys.length) (hr : ∀ p ∈ ys, (reprText p).length ≤ 60) (hm : (l, W.listOf vs.toArray nn) ∈ news) (hs : StrsAre vs ys) : HandlerOk w l news :=
  (handler0 w l vs ys nn news hl h0 hr hm hs).2
end Mine
end
noncomputable section
open PySem PySem.W PyProof.Rows
namespace Mine
def Free (T : List (Str × Str)) (ys : List Str) : Prop := ∀ c ∈ T.map (·.1), c ∉ ys
theorem free0 {ys : List Str} (h1 : Str.ofString "&" ∉ ys) (h2 : Str.ofString "<" ∉ ys) (h3 : Str.ofString ">" ∉ ys) : Free (spTab 0) ys := by
  intro c hc
  rw [show (spTab 0).map (·.1) = [Str.ofString "&", Str.ofString "<", Str.ofString ">"] from by kernel_rfl] at hc
  simp only [List.mem_cons, List.not_mem_nil, or_false] at hc
  rcases hc with rfl | rfl | rfl <;> assumption
theorem free1 {ys : List Str} (h1 : Str.ofString "&" ∉ ys) (h2 : Str.ofString "<" ∉ ys) (h3 : Str.ofString ">" ∉ ys) (h4 : Str.ofString "\"" ∉ ys) (h5 : Str.ofString "\r" ∉ ys) (h6 : Str.ofString "\n" ∉ ys) (h7 : Str.ofString "\t" ∉ ys) : Free (spTab 1) ys := by
  intro c hc
  rw [show (spTab 1).map (·.1) = [Str.ofString "&", Str.ofString "<", Str.ofString ">", Str.ofString "\"", Str.ofString "\r", Str.ofString "\n", Str.ofString "\t"] from by kernel_rfl] at hc
  simp only [List.mem_cons, List.not_mem_nil, or_false] at hc
  rcases hc with rfl | rfl | rfl | rfl | rfl | rfl | rfl <;> assumption
theorem free2 {ys : List Str} (h1 : Str.ofString "&" ∉ ys) (h3 : Str.ofString ">" ∉ ys) (h4 : Str.ofString "\"" ∉ ys) : Free (spTab 2) ys := by
  intro c hc
  rw [show (spTab 2).map (·.1) = [Str.ofString "&", Str.ofString ">", Str.ofString "\""] from by kernel_rfl] at hc
  simp only [List.mem_cons, List.not_mem_nil, or_false] at hc
  rcases hc with rfl | rfl | rfl <;> assumption
theorem free3 {ys : List Str} (h1 : Str.ofString "&" ∉ ys) (h2 : Str.ofString "<" ∉ ys) (h4 : Str.ofString "\"" ∉ ys) (h5 : Str.ofString "\t" ∉ ys) (h6 : Str.ofString "\n" ∉ ys) (h7 : Str.ofString "\r" ∉ ys) : Free (spTab 3) ys := by
  intro c hc
  rw [show (spTab 3).map (·.1) = [Str.ofString "&", Str.ofString "<", Str.ofString "\"", Str.ofString "\r", Str.ofString "\n", Str.ofString "\t"] from by kernel_rfl] at hc
  simp only [List.mem_cons, List.not_mem_nil, or_false] at hc
  rcases hc with rfl | rfl | rfl | rfl | rfl | rfl <;> assumption
theorem free4 {ys : List Str} (h1 : Str.ofString "&" ∉ ys) (h2 : Str.ofString "<" ∉ ys) (h3 : Str.ofString ">" ∉ ys) (h5 : Str.ofString "\r" ∉ ys) : Free (spTab 4) ys := by
  intro c hc
  rw [show (spTab 4).map (·.1) = [Str.ofString "&", Str.ofString "<", Str.ofString ">", Str.ofString "\r"] from by kernel_rfl] at hc
  simp only [List.mem_cons, List.not_mem_nil, or_false] at hc
  rcases hc with rfl | rfl | rfl | rfl <;> assumption
theorem not_free {T : List (Str × Str)} {ys : List Str} {c : Str} (h : c ∈ ys) (hc : c ∈ T.map (·.1)) : ¬ Free T ys := fun f => f c hc h
def CallOkR (w : World) (f : Addr) (vs : List Value) (news : List (Addr × Obj)) (Ret : Value → Prop) (R : Prop) : Prop :=
  ∀ (mean : ExcName → Option Value) (mg mb : Str → Option Value) (cn : Str) (cs : Scope) (a : Addr) (ccd : Value) (cl : List (Str × Addr)) (A₀ : Around) (base h₀ : Heap) (L : Addr) (m : Str → Option Value) (s : Shared) (Q E : Value → Shared → Prop),
  Below A₀ base [] h₀ → Fr h₀ L s.heap m → (hd.heap_39 w.params).In h₀ → News h₀ L s.heap news → Top hd.view_39 (looseW hd.view_39 [Str.ofString "EXACT_TOKEN_TYPES"]) mean mg mb h₀ →
  (hd.heap_39 w.params).In base → Top hd.view_39 (looseW hd.view_39 [Str.ofString "EXACT_TOKEN_TYPES"]) mean mg mb base → cs.kind = .function →
  (∀ (v : Value) (h' : Heap) (tk' : Nat), Ret v → Fr h₀ L h' m → News h₀ L h' news → Q v { s with heap := h', toks := tk' }) →
  (∀ (e e₀ : Addr) (o₀ : Obj) (v₀ : Array Value) (g' h' : Heap) (tk' : Nat), R → Fr h₀ L g' m → g'.UpToSlots h' → o₀.data = .fields v₀ → v₀[2]? = some .none → (∀ q ∈ news, q.1 ≠ e₀) → RaisedC base [envX cn cs L a ccd cl] e "TypeError" (.ref e₀) ((e₀, o₀) :: news) h' → E (.ref e) { s with heap := h', toks := tk' }) →
  wpAny (model PySem.Challenge.rw_pg0200_01.row.prog w) (callerA.deeper (envX cn cs L a ccd cl)) (call (.ref f) vs) Q E s
theorem esc_ifL {w : World} {A : Around} {E : Value → Shared → Prop} {s : Shared} {name : Str} {scope : Scope} {f : Addr} {cd : Value} {h₀ : Heap} {L : Addr} {m : Str → Option Value} {news : List (Addr × Obj)} {Q : Flow → Shared → Prop} {cs z : Str} {l : Addr} {vs : List Value} {ys : List Str} {nn : Nat} {p1 p2 p3 p4 p5 p6 p7 p8 p9 p10 p11 : Pos}
  (F : Fr h₀ L s.heap m) (N : News h₀ L s.heap news) (hm : m (Str.ofString "text") = some (.ref l)) (hl : (l, W.listOf vs.toArray nn) ∈ news) (sv : StrsAre vs ys) (hA : A.handled = none) (hk : scope.kind = .function) (hx1 : (envOf name scope L f cd).kindOf (Str.ofString "text") = some .local)
  (h : cs ∉ ys → ∀ tk, Q .next { s with toks := tk })
  (hr : cs ∈ ys → ∀ h' tk e, Heap.NewAttrErr s.heap h' e (.ref l) (Str.ofString "replace") → E (.ref e) { s with heap := h', toks := tk })
  (hs : swapsWith (.Call (.Attribute (.Name (Str.ofString "text") p5) (Str.ofString "replace") p6) [.Constant (.str cs) 0 p7, .Constant (.str z) 0 p8] [] p9) (some (.Name (Str.ofString "text") p4)) p11.line (envOf name scope L f cd) = pure false)
  {pl : Sem Bool}
  (he : eval (.Call (.Attribute (.Name (Str.ofString "text") p5) (Str.ofString "replace") p6) [.Constant (.str cs) 0 p7, .Constant (.str z) 0 p8] [] p9) (envOf name scope L f cd) = (do
      let ov ← eval (.Name (Str.ofString "text") p5) (envOf name scope L f cd)
      standAt p6.atName
      let (f', first) ← holding [ov] (getMethod ov (Str.ofString "replace") pl)
      callWith p9 f' first (backTo p9 (starEach [.Constant (.str cs) 0 p7, .Constant (.str z) 0 p8] (envOf name scope L f cd))) [])) :
  wpAny (model PySem.Challenge.rw_pg0200_01.row.prog w) A (exec (.If (.Compare (.Constant (.str cs) 0 p1) [.In] [.Name (Str.ofString "text") p2] p3) [.Assign [.Name (Str.ofString "text") p4] (.Call (.Attribute (.Name (Str.ofString "text") p5) (Str.ofString "replace") p6) [.Constant (.str cs) 0 p7, .Constant (.str z) 0 p8] [] p9) p11] [] p10) (envOf name scope L f cd)) Q E s := by
  refine wpAny_If (wpAny_isTrue_Compare1 (Calls.Constant_str (ld F hm (in_list_strs (N.isList hl) (by simpa using sv) (wpAny_truthy_bool ?_)) hk hx1)))
  split
  · rename_i hin
    refine wpAny_execs_cons (wpAny_Assign_Name ?_ hs)
    refine MethodCall_ (ld F hm (rep_missA N hl hA fun h' tk e x => hr ?_ h' tk e x) hk hx1) he
    simpa using hin
  · rename_i hin
    exact wpAny_execs_nil (h (by simpa using hin) _)
end Mine
end
noncomputable section
open PySem PySem.W PyProof.Rows
namespace Mine
local macro_rules | `(tactic| walk_at "exec If") => `(tactic| (k_here; (with_reducible show wpAny _ _ (exec (Stmt.If (PySem.Expr.Compare (PySem.Expr.Constant (Const.str _) _ _) [CmpOp.In] [PySem.Expr.Name _ _] _) [Stmt.Assign _ _ _] [] _) _) _ _ _); refine' Stop.of ?_))
local macro_rules | `(tactic| walk_at "noteFrame ref") => `(tactic| (k_here; refine' Stop.of ?_))
local macro_rules | `(tactic| walk_at "leaving ref") => `(tactic| (k_here; refine' Stop.of ?_))
set_option maxRecDepth 100000 in
set_option maxHeartbeats 2000000 in
theorem writeL0 (w : World) (l : Addr) (vs : List Value) (ys : List Str) (nn : Nat) (hand : Int) (th : Tok) (news : List (Addr × Obj)) (hl : ys.length ≤ 12) (h0 : 1 ≤ ys.length) (hr : ∀ p ∈ ys, (reprText p).length ≤ 60) (hm : (l, W.listOf vs.toArray nn) ∈ news) (hs : StrsAre vs ys)
  (hn0 : 0 ≤ hand) (hn5 : hand < 5) :
  (hd.heap_39 w.params = hd.heap_39 w.params) ∧ CallOkR w 80 [.ref l, .int hand th] news (fun v => v = .ref l ∧ Free (spTab hand) ys) (¬ Free (spTab hand) ys) := by
  unfold CallOkR
  k_fill
  refine ⟨rfl, ?_⟩
  intro mean mg mb cn cs a ccd cl A₀ base h₀ L m s Q E B F X N T XB TB hcs hret hraise
  refine wpAny_call ?_
  k_dflt cell_enter
  k_steps
  repeat' (
    refine' Stop.go ?_
    first
    | (refine' esc_ifL (by with_reducible assumption) (by with_reducible assumption) (by with_unfolding_all rfl) (by with_reducible assumption) (by with_reducible assumption) (by rfl) (by rfl) (by rfl) (fun hni' tk' => ?_) (fun hin' h' tk' e' X' => ?_) (by rfl) (by rfl)
       all_goals (try dsimp only)
       all_goals k_steps)
    | (refine' handler_ok _ _ _ _ _ _ (by with_reducible assumption) (by with_reducible assumption) (by with_reducible assumption) (by with_reducible assumption) (by with_reducible assumption) _ _ _ _ _ _ _ _ _ _ _ _ _ _ _ _ _ _ _ _ _ _ _ _ _ _ _ _ _ _ _ _ _ _ _ _ _ _ (by first | rfl | assumption) (by first | rfl | assumption) (by with_reducible assumption) (by with_reducible assumption) (by with_reducible assumption) (by with_reducible assumption) (by with_reducible assumption) (by with_reducible assumption) (by with_unfolding_all rfl) (fun x' e0' o0' v0' h' tk' d0' z0' off' R' U' => ?_)
       k_steps)
    | (refine' leaveOnC (by with_reducible assumption) (by with_reducible assumption) (by with_reducible assumption) (by with_reducible assumption) (fun h' R' U' => ?_)
       k_steps))
  all_goals
    first
    | (rename (hand = (_ : Int)) => he'; subst he')
    | (have he' : hand = 4 := (by omega)
       subst he')
    first
    | (refine hret _ _ _ ⟨rfl, ?_⟩ (by with_reducible assumption) (by with_reducible assumption)
       with_reducible first
       | exact free0 (by assumption) (by assumption) (by assumption)
       | exact free1 (by assumption) (by assumption) (by assumption) (by assumption) (by assumption) (by assumption) (by assumption)
       | exact free2 (by assumption) (by assumption) (by assumption)
       | exact free3 (by assumption) (by assumption) (by assumption) (by assumption) (by assumption) (by assumption)
       | exact free4 (by assumption) (by assumption) (by assumption) (by assumption))
    | (refine' hraise _ _ _ _ _ _ _ (not_free ?i ?c) ?f ?u ?d ?z ?o ?r
       (case r => with_reducible assumption)
       (case u => with_reducible assumption)
       (case f => with_reducible assumption)
       (case d => with_reducible assumption)
       (case z => with_reducible assumption)
       (case o => with_reducible assumption)
       (case i => with_reducible assumption)
       (case c => decide +kernel))
theorem writeL_ok (w : World) (l : Addr) (vs : List Value) (ys : List Str) (nn : Nat) (hand : Int) (th : Tok) (news : List (Addr × Obj)) (hl : ys.length ≤ 12) (h0 : 1 ≤ ys.length) (hr : ∀ p ∈ ys, (reprText p).length ≤ 60) (hm : (l, W.listOf vs.toArray nn) ∈ news) (hs : StrsAre vs ys)
  (hn0 : 0 ≤ hand) (hn5 : hand < 5) : CallOkR w 80 [.ref l, .int hand th] news (fun v => v = .ref l ∧ Free (spTab hand) ys) (¬ Free (spTab hand) ys) := (writeL0 w l vs ys nn hand th news hl h0 hr hm hs hn0 hn5).2
end Mine
end
noncomputable section
open PySem PySem.W PyProof.Rows
namespace Mine
theorem CallOk.use {w : World} {f : Addr} {vs : List Value} {news : List (Addr × Obj)} {Ret : Value → List (Addr × Obj) → Prop} (C : CallOk w f vs news Ret)
  {mean : ExcName → Option Value} {mg mb : Str → Option Value} {cn : Str} {cs : Scope} {a : Addr} {ccd : Value} {cl : List (Str × Addr)} {A₀ : Around} {base h₀ : Heap} {L : Addr} {m : Str → Option Value} {s : Shared} {Q E : Value → Shared → Prop}
  (B : Below A₀ base [] h₀) (F : Fr h₀ L s.heap m) (X : (hd.heap_39 w.params).In h₀) (N : News h₀ L s.heap news) (T : Top hd.view_39 (looseW hd.view_39 [Str.ofString "EXACT_TOKEN_TYPES"]) mean mg mb h₀) (ck : cs.kind = .function) (p : 0 < s.toks)
  (k : ∀ (v : Value) (new : List (Addr × Obj)) (h' : Heap) (tk' : Nat), 0 < tk' → Ret v new → Fr h₀ L h' m → News h₀ L h' (new ++ news) → Q v { s with heap := h', toks := tk' }) :
  wpAny (model PySem.Challenge.rw_pg0200_01.row.prog w) (callerA.deeper (envX cn cs L a ccd cl)) (call (.ref f) vs) Q E s :=
  wpAny_with_toks (n := 1) p (C mean mg mb cn cs a ccd cl A₀ base h₀ L m s _ _ B F X N T ck p fun v new h' tk' r F' N' hp => k v new h' tk' hp r F' N')
theorem CallOkR.use {w : World} {f : Addr} {vs : List Value} {news : List (Addr × Obj)} {Ret : Value → Prop} {R : Prop} (C : CallOkR w f vs news Ret R)
  {mean : ExcName → Option Value} {mg mb : Str → Option Value} {cn : Str} {cs : Scope} {a : Addr} {ccd : Value} {cl : List (Str × Addr)} {A₀ : Around} {h₀ : Heap} {L : Addr} {m : Str → Option Value} {s : Shared} {Q E : Value → Shared → Prop}
  (B : Below A₀ h₀ [] h₀) (F : Fr h₀ L s.heap m) (X : (hd.heap_39 w.params).In h₀) (N : News h₀ L s.heap news) (T : Top hd.view_39 (looseW hd.view_39 [Str.ofString "EXACT_TOKEN_TYPES"]) mean mg mb h₀) (ck : cs.kind = .function)
  (k : ∀ (v : Value) (h' : Heap) (tk' : Nat), Ret v → Fr h₀ L h' m → News h₀ L h' news → Q v { s with heap := h', toks := tk' })
  (kr : ∀ (e e₀ : Addr) (o₀ : Obj) (v₀ : Array Value) (g' h' : Heap) (tk' : Nat), R → Fr h₀ L g' m → g'.UpToSlots h' → o₀.data = .fields v₀ → v₀[2]? = some .none → (∀ q ∈ news, q.1 ≠ e₀) → RaisedC h₀ [envX cn cs L a ccd cl] e "TypeError" (.ref e₀) ((e₀, o₀) :: news) h' → E (.ref e) { s with heap := h', toks := tk' }) :
  wpAny (model PySem.Challenge.rw_pg0200_01.row.prog w) (callerA.deeper (envX cn cs L a ccd cl)) (call (.ref f) vs) Q E s :=
  C mean mg mb cn cs a ccd cl A₀ h₀ h₀ L m s Q E B F X N T X T ck k kr
def PiecesOk (ps : List Str) : Prop := ps.length ≤ 12 ∧ 1 ≤ ps.length ∧ ∀ p ∈ ps, p.length ≤ 5 ∧ (reprText p).length ≤ 60 ∧ PyData.strOk p = true
theorem add_listsK {prog : Program} {w : World} {A : Around} {E : Value → Shared → Prop} {s : Shared} {h₀ : Heap} {L : Addr} {m : Str → Option Value} {news : List (Addr × Obj)} {l b : Addr} {vs ws : List Value} {n1 n2 : Nat} {ys zs : List Str} {Q : Value → Shared → Prop}
  (F : Fr h₀ L s.heap m) (N : News h₀ L s.heap news) (hl : (l, W.listOf vs.toArray n1) ∈ news) (hb : (b, W.listOf ws.toArray n2) ∈ news) (sl : StrsAre vs ys) (sw : StrsAre ws zs) (h1 : ys.length + zs.length ≤ 1000)
  (h : ∀ D c h' us, Fr h₀ L h' m → News h₀ L h' ((D, W.listOf us.toArray c) :: news) → (∀ q ∈ news, q.1 < D) → StrsAre us (ys ++ zs) → Q (.ref D) { s with heap := h' }) :
  wpAny (model prog w) A (binaryOp .Add (.ref l) (.ref b)) Q E s := by
  have h2 : vs.length + ws.length ≤ sizeLine := by
    rw [strs_len sl, strs_len sw, sizeLine_eq]; omega
  exact add_lists (hsz := h2) F N (N.isList hl) (N.isList hb) fun h' F' N' => h _ 0 h' _ F' N' (fun q hq => Heap.lt_size (N q hq).1) (sl.append' sw)
theorem add_known {prog : Program} {w : World} {A : Around} {E : Value → Shared → Prop} {s : Shared} {h₀ : Heap} {L : Addr} {m : Str → Option Value} {news : List (Addr × Obj)} {l b : Addr} {vs ws : List Value} {n1 n2 : Nat} {Q : Value → Shared → Prop}
  (F : Fr h₀ L s.heap m) (N : News h₀ L s.heap news) (hl : (l, W.listOf vs.toArray n1) ∈ news) (hb : (b, W.listOf ws.toArray n2) ∈ news) (sl : StrsAre vs opsL) (sw : StrsAre ws othersL)
  (h : ∀ D c h' us, Fr h₀ L h' m → News h₀ L h' ((D, W.listOf us.toArray c) :: news) → (∀ q ∈ news, q.1 < D) → StrsAre us knownL → Q (.ref D) { s with heap := h' }) :
  wpAny (model prog w) A (binaryOp .Add (.ref l) (.ref b)) Q E s := add_listsK F N hl hb sl sw (by decide +kernel) h
def tailL : List Str := (["<<=", "->", "...", "\""] : List String).map Str.ofString
theorem pieces_key : ∀ q ∈ knownL ++ tailL, q.length ≤ 5 ∧ (reprText q).length ≤ 60 ∧ PyData.strOk q = true := by decide +kernel
theorem knF_ok (i : Int) : (knF i).length ≤ 5 ∧ (reprText (knF i)).length ≤ 60 ∧ PyData.strOk (knF i) = true := by
  unfold knF
  rw [List.getD_eq_getElem?_getD]
  cases e : knownL[(i.fmod 62).toNat]? with
  | none => decide +kernel
  | some q => exact pieces_key _ (List.mem_append_left _ (List.mem_of_getElem? e))
theorem add_pieces {prog : Program} {w : World} {A : Around} {E : Value → Shared → Prop} {s : Shared} {h₀ : Heap} {L : Addr} {m : Str → Option Value} {news : List (Addr × Obj)} {l b : Addr} {vs ws : List Value} {n1 n2 : Nat} {is : List Int} {Q : Value → Shared → Prop}
  (F : Fr h₀ L s.heap m) (N : News h₀ L s.heap news) (hl : (l, W.listOf vs.toArray n1) ∈ news) (hb : (b, W.listOf ws.toArray n2) ∈ news) (sl : StrsAre vs ((is.take 8).map knF)) (sw : StrsAre ws tailL)
  (h : ∀ D c h' us ps, Fr h₀ L h' m → News h₀ L h' ((D, W.listOf us.toArray c) :: news) → (∀ q ∈ news, q.1 < D) → StrsAre us ps → PiecesOk ps → Q (.ref D) { s with heap := h' }) :
  wpAny (model prog w) A (binaryOp .Add (.ref l) (.ref b)) Q E s := by
  have hl4 : tailL.length = 4 := by decide +kernel
  have hl8 : ((is.take 8).map knF).length ≤ 8 := by rw [List.length_map, List.length_take]; omega
  refine add_listsK F N hl hb sl sw (by omega) fun D c h' us F' N' l1 hs => h D c h' us _ F' N' l1 hs ⟨by rw [List.length_append]; omega, by rw [List.length_append]; omega, fun p hp => ?_⟩
  rcases List.mem_append.mp hp with hp | hp
  · obtain ⟨i, _, rfl⟩ := List.mem_map.mp hp
    exact knF_ok i
  · exact pieces_key _ (List.mem_append_right _ hp)
theorem pieces_sum {ps : List Str} (h : ∀ p ∈ ps, p.length ≤ 5) : (ps.map (·.length)).sum ≤ ps.length * 5 := by
  induction ps with
  | nil => exact Nat.le_refl _
  | cons a r ih =>
    rw [List.map_cons, List.sum_cons, List.length_cons, Nat.succ_mul]
    have := ih fun p hp => h p (.tail _ hp)
    have := h a (.head _)
    omega
theorem txt_join (sep : Str) (ys : List Str) : Txt.join sep ys = Str.join sep ys := by
  have := join_plain_closes sep ys
  exact eq_of_beq this
theorem join_pieces {prog : Program} {w : World} {A : Around} {E : Value → Shared → Prop} {s : Shared} {h₀ : Heap} {L : Addr} {news : List (Addr × Obj)} {l : Addr} {us : List Value} {c : Nat} {ps : List Str} {t : Tok} {Q : Value → Shared → Prop}
  (N : News h₀ L s.heap news) (hl : (l, W.listOf us.toArray c) ∈ news) (sl : StrsAre us ps) (ok : PiecesOk ps)
  (h : ∀ x t' k, x.length ≤ 60 → Q (.str x t') { s with toks := k }) :
  wpAny (model prog w) A (call (.builtin "str.join") [.str (Str.ofString "") t, .ref l]) Q E s := by
  obtain ⟨o1, _, o2⟩ := ok
  have hs := pieces_sum fun p hp => (o2 p hp).1
  have h0 : (Str.ofString "").length = 0 := by decide +kernel
  refine join_list (N.isList hl) (by simpa using sl) (by rw [h0]; omega) fun t' k => h _ t' k ?_
  rw [txt_join]
  have h4 := StrLaws.join_length_le (Str.ofString "") ps
  rw [h0, Nat.mul_zero, Nat.add_zero] at h4
  have h3 : (ps.map (·.length)).sum ≤ 60 := Nat.le_trans hs (by omega)
  exact Nat.le_trans h4 h3
theorem mod5 {prog : Program} {w : World} {A : Around} {E : Value → Shared → Prop} {s : Shared} {a : Int} {t u : Tok} {Q : Value → Shared → Prop} (h : ∀ (hand : Int) t' k, 0 ≤ hand → hand < 5 → Q (.int hand t') { s with toks := k }) :
  wpAny (model prog w) A (binaryOp .Mod (.int a t) (.int 5 u)) Q E s :=
  mod_int (by decide) (h _ _ _ (Int.fmod_nonneg_of_pos a (by decide)) (Int.fmod_lt_of_pos a (by decide)))
end Mine
end
noncomputable section
open PySem PySem.W PyProof.Rows
namespace Mine
theorem code_top {prog : Program} {w : World} {A : Around} {s : Shared} {K : Frag} {p : Program} {loose : List Str} {mean : ExcName → Option Value} {mg mb : Str → Option Value}
    {R : Result → Shared → Prop} {name qual : Str} {params : Arguments} {body : List Stmt} {scope : Scope} {dV kV doc pm cdv ct oc : Value} {an od : Option Addr} {osl : Array (Option Value)} {f : Addr} {args : Args} {binds : List (Str × Value)}
    (X : K.In s.heap) (T : Top p loose mean mg mb s.heap)
    (ho : K.lookup f = some ⟨oc, od, .func (fnOf name qual params body scope dV kV doc pm an cdv ct), osl⟩) (hcd : codeIn K cdv qual = true) (hroom : A.depth < recursionLimit)
    (hbind : BindsTo s (fnOf name qual params body scope dV kV doc pm an cdv ct) args binds) (hloc : ∀ y ∈ binds, scope.names.lookup y.1 = some .local)
    (h : ∀ h₁, Fr s.heap s.heap.objs.size h₁ (fun y => binds.reverse.lookup y) →
      wpAny (model prog w) (A.deeper (envOf qual scope s.heap.objs.size f cdv)) (execs body (envOf qual scope s.heap.objs.size f cdv))
        (fun fl s' => R (.ok (.ret (match fl with | .ret v => v | _ => .none))) s')
        (fun e s' => wpAny (model prog w) (A.deeper (envOf qual scope s.heap.objs.size f cdv)) (leaving (envOf qual scope s.heap.objs.size f cdv) e) (fun _ s'' => R (.error e) s'') (fun e' s'' => R (.error e') s'') s')
        { s with heap := h₁, toks := s.toks + binds.length })
    (hco : scope.isCoroutine = false) (hgen : scope.isGenerator = false) (hk : scope.kind = .function)
    (hcell : ∀ x ∈ scope.names, x.2 ≠ .cell) : codeAny (model prog w) A (.call (.ref f) args) R s :=
  codeAny_call_def (fd := fnOf name qual params body scope dV kV doc pm an cdv ct) (body := body) (binds := binds) hroom (X _ _ ho) rfl T.nolimit (codeRec_of X hcd) rfl hbind hcell hloc
    (fun h₁ hns hk₁ => h h₁ ⟨hns, hk₁, Nat.le_refl _⟩) hco hgen hk
set_option maxRecDepth 100000 in
theorem eof0 (w : World) : (hd.heap_39 w.params = hd.heap_39 w.params) ∧ ∀ (A : Around) (s : Shared) (n : Int) (t : Tok) (E : Value → Shared → Prop) (mean : ExcName → Option Value) (mg mb : Str → Option Value), A.depth < recursionLimit → (hd.heap_39 w.params).In s.heap →
  Top hd.view_39 (looseW hd.view_39 [Str.ofString "EXACT_TOKEN_TYPES"]) mean mg mb s.heap →
  wpAny (model PySem.Challenge.rw_pg0200_01.row.prog w) A (call (.ref 66) [.int n t]) (fun v s' => v = .bool (n == 0) ∧ Keeps s s') E s := by
  k_fill
  refine ⟨rfl, ?_⟩
  intro A s n t E mean mg mb hroom X T
  refine wpAny_call ?_
  refine' code_top X T ?ho ?hcd hroom ?hbind ?hloc (fun h₁ F => ?_) ?hco ?hgen ?hk ?hcell
  case ho => k_is
  case hcd => k_is
  case hbind => first | exact binds_K (by k_in) rfl (by k_is) rfl rfl rfl | exact BindsTo.of_eq rfl
  case hcell => decide
  case hloc => exact locs rfl
  case hco => rfl
  case hgen => rfl
  case hk => rfl
  have N : News s.heap s.heap.objs.size h₁ [] := News.nil
  k_steps
  exact ⟨h₁, _, rfl, F.keep⟩
theorem eof_facts (w : World) : (hd.heap_39 w.params = hd.heap_39 w.params) ∧ nsIn (hd.heap_39 w.params) mainGlobals (Str.ofString "ISEOF") = some (some (.ref 66)) ∧ keepIn (hd.heap_39 w.params) (.ref 66) = true := by
  k_fill
  refine ⟨rfl, ?_, ?_⟩
  · k_is
  · k_is
end Mine
end
noncomputable section
open PySem PySem.W PyProof.Rows
namespace Mine
def spF (tb : List (Str × Str)) (c : Str) : Str := (lkS tb c).getD c
theorem strs_signs : ∀ {vs : List Value} {ys : List Str}, AreOf .str vs ys → StrsAre vs ys
  | _, _, .nil => .nil
  | _, _, .cons ⟨t, e⟩ r => by
    subst e
    exact .cons _ t (strs_signs r)
theorem paired_str {f : Str → Str} {vs ys : List Value} {xs : List Str} (hi : StrsAre vs xs) (hp : Paired (fun v y => ∀ a t, v = Value.str a t → ∃ u, y = Value.str (f a) u) vs ys) : StrsAre ys (xs.map f) := by
  induction hi generalizing ys with
  | nil => cases hp; exact .nil
  | cons a t _ ih =>
    cases hp with
    | cons hf hr =>
      obtain ⟨u, rfl⟩ := hf a t rfl
      exact .cons _ u (ih hr)
section
variable {prog : Program} {w : World} {A : Around} {E : Value → Shared → Prop} {s : Shared} {h₀ : Heap} {L : Addr} {m : Str → Option Value} {env : Env}
def SpSrc (prog : Program) (w : World) (h₀ : Heap) (L : Addr) (m : Str → Option Value) (c : Addr) (tb : List (Str × Str)) (Q : Value → Shared → Prop) (xv : Value) (s₁ : Shared) : Prop :=
  ∃ x t news o Ds, xv = .str x t ∧ x.length ≤ 60 ∧ Fr h₀ L s₁.heap m ∧ News h₀ L s₁.heap news ∧ (c, o) ∈ news ∧ o.data = .cell (some (.ref Ds)) ∧ (∀ h, News h₀ L h news → StrTab prog w h Ds (tabS tb)) ∧
    ∀ D h' tk k ys, Fr h₀ L h' m → News h₀ L h' ((D, W.listOf ys.toArray k) :: news) → LCg.Off1 D news → StrsAre ys ((signs x).map (spF tb)) → Q (.ref D) { s₁ with heap := h', toks := tk }
theorem SpSrc.intro {c : Addr} {Q : Value → Shared → Prop} {s₁ : Shared} {x : Str} {t : Tok} {tb : List (Str × Str)} {news : List (Addr × Obj)} {o : Obj} {Ds : Addr}
  (hx : x.length ≤ 60) (F : Fr h₀ L s₁.heap m) (N : News h₀ L s₁.heap news) (hc : (c, o) ∈ news) (ho : o.data = .cell (some (.ref Ds))) (T : ∀ h, News h₀ L h news → StrTab prog w h Ds (tabS tb))
  (fin : ∀ D h' tk k ys, Fr h₀ L h' m → News h₀ L h' ((D, W.listOf ys.toArray k) :: news) → LCg.Off1 D news → StrsAre ys ((signs x).map (spF tb)) → Q (.ref D) { s₁ with heap := h', toks := tk }) : SpSrc prog w h₀ L m c tb Q (.str x t) s₁ :=
  ⟨x, t, news, o, Ds, rfl, hx, F, N, hc, ho, T, fin⟩
theorem lc_spell {kvs : List (Str × Value)} {tb : List (Str × Str)} (hfp : PyProof.V.FlatPairs PyData.str kvs (tabS tb)) {scope : Scope} {cl : List (Str × Addr)} {c : Addr} {iter : Expr} {px p1 p2 p3 p4 p5 p6 p7 p8 pos : Pos} {Q : Value → Shared → Prop} (F₀ : Fr h₀ L s.heap m)
  (hh : A.handled = none) (hclos : closureFor scope env = pure cl) (hcell : ∀ y ∈ scope.names, y.2 ≠ .cell) (hkind : scope.kind = .function)
  (hnames : ∀ y ∈ scope.names, y.2 = .local → scope.names.lookup y.1 = some .local) (hx : scope.names.lookup (Str.ofString "sign") = some .local)
  (hc : cl.lookup (Str.ofString "spelled") = some c)
  (h : wpAny (model prog w) A (eval iter env) (SpSrc prog w h₀ L m c tb Q) E s)
  (k1 : ∀ C, (compEnvC scope cl C env).scope.kind = .function) (k2 : ∀ C, (compEnvC scope cl C env).kindOf (Str.ofString "sign") = some .local) (k3 : ∀ C, (compEnvC scope cl C env).kindOf (Str.ofString "spelled") = some .cell) (k4 : ∀ C, (compEnvC scope cl C env).cells = cl)
  (hb : behindInMarks .In (.Name (Str.ofString "spelled") p2) = false)
  (hs : ∀ x, foldedSetIterable iter env x = pure x) :
  wpAny (model prog w) A (eval (.ListComp (.IfExp (.Compare (.Name (Str.ofString "sign") p1) [.In] [.Name (Str.ofString "spelled") p2] p3) (.Subscript (.Name (Str.ofString "spelled") p4) (.Name (Str.ofString "sign") p5) p6) (.Name (Str.ofString "sign") p7) p8) [⟨.Name (Str.ofString "sign") px, iter, [], 0⟩] scope pos) env) Q E s := by
  refine lc (h₀ := h₀) (L := L) (m := m) (fun _ => true) (fun v y => ∀ a t, v = Value.str a t → ∃ u, y = Value.str (spF tb a) u) hh hclos hcell hkind hnames hx (wpAny_mono h (fun xv s₁ h₁ => ?_) fun _ _ e => e) hs
  obtain ⟨x, t, news, o, Ds, rfl, hlx, F, N, hmc, hdc, T, fin⟩ := h₁
  refine LcSrc.intro SrcP.str (by rw [sizeLine_eq]; exact Nat.le_trans hlx (by omega)) F N lcTest_nil ?_ ?_
  · intro C i v s₃ m₃ E' hP _ hns hm hk
    obtain ⟨k, u, _, rfl⟩ := hP
    have N3 : News h₀ L s₃.heap news := fun q hq => ⟨hk _ _ (N q hq).1, (N q hq).2⟩
    have T3 := T _ N3
    refine IfExp_ (wpAny_isTrue_Compare1 (leaf_local hns hm (leaf_cell (by rw [k4]; exact hc) (N3 _ hmc).1 hdc (in_strTab T3 (wpAny_truthy_bool ?_)) (k1 C) (k3 C)) (k1 C) (k2 C)) hb)
    rw [lookup_tabS, Option.isSome_map]
    cases hl : lkS tb ⟨#[k]⟩ with
    | none =>
      simp only [Option.isSome_none, Bool.false_eq_true, if_false]
      exact leaf_local (s := { s₃ with toks := _ }) hns hm ⟨fun a t' e => by cases e; exact ⟨u, by unfold spF; rw [hl]; rfl⟩, s₃.heap, _, rfl, fun _ _ e => e⟩ (k1 C) (k2 C)
    | some z =>
      simp only [Option.isSome_some, if_true]
      refine Subscript_ (leaf_cell (by rw [k4]; exact hc) (N3 _ hmc).1 hdc (leaf_local (s := { s₃ with toks := _ }) hns hm ?_ (k1 C) (k2 C)) (k1 C) (k3 C))
      refine item_strTab T3 (dv := PyData.str z) (by rw [lookup_tabS, hl]; rfl) fun v hv => ?_
      obtain ⟨t', rfl⟩ := flat_str_inv hv
      exact ⟨fun a t'' e => by cases e; exact ⟨t', by unfold spF; rw [hl]; rfl⟩, s₃.heap, _, rfl, fun _ _ e => e⟩
  · intro D h' tk k ys vs' hlv hP hpair F' N' off keep
    rw [List.filter_eq_self.mpr (fun _ _ => rfl)] at hpair
    exact fin D h' tk k ys F' N' off (paired_str (strs_signs (areOf_signs hlv hP)) hpair)
end
end Mine
end
noncomputable section
open PySem PySem.W PyProof.Rows
namespace Mine
def isSp (tb : List (Str × Str)) (p : Str) : Bool := (lkS tb p).isSome
def isSpV (tb : List (Str × Str)) : Value → Bool
  | .str a _ => isSp tb a
  | _ => false
theorem strs_filter {tb : List (Str × Str)} : ∀ {vs : List Value} {ps : List Str}, StrsAre vs ps → StrsAre (vs.filter (isSpV tb)) (ps.filter (isSp tb))
  | _, _, .nil => .nil
  | _, _, .cons x t r => by
    rw [List.filter_cons, List.filter_cons]
    show StrsAre (if isSp tb x = true then _ else _) (if isSp tb x = true then _ else _)
    split
    · exact .cons x t (strs_filter r)
    · exact strs_filter r
theorem paired_eq : ∀ {vs ys : List Value}, Paired (fun v y => y = v) vs ys → ys = vs
  | _, _, .nil => rfl
  | _, _, .cons h r => by rw [h, paired_eq r]
theorem strs_at : ∀ {vs : List Value} {ps : List Str} {i : Nat} {v : Value}, StrsAre vs ps → vs[i]? = some v → ∃ a t, v = .str a t
  | _, _, _, _, .nil, h => by simp at h
  | _, _, 0, _, .cons a t _, h => ⟨a, t, by simpa using h.symm⟩
  | _, _, i + 1, _, .cons a t r, h => strs_at r (by simpa using h)
theorem ints_len' : ∀ {vs : List Value} {ns : List Int}, IntsAre vs ns → vs.length = ns.length
  | _, _, .nil => rfl
  | _, _, .cons _ _ r => congrArg (· + 1) (ints_len' r)
section
variable {prog : Program} {w : World} {A : Around} {E : Value → Shared → Prop} {s : Shared} {h₀ : Heap} {L : Addr} {m : Str → Option Value} {env : Env}
def FlSrc (prog : Program) (w : World) (h₀ : Heap) (L : Addr) (m : Str → Option Value) (c : Addr) (tb : List (Str × Str)) (Q : Value → Shared → Prop) (xv : Value) (s₁ : Shared) : Prop :=
  ∃ l n vs ps news o Ds, xv = .ref l ∧ (l, W.listOf vs.toArray n) ∈ news ∧ StrsAre vs ps ∧ ps.length ≤ 1000 ∧ Fr h₀ L s₁.heap m ∧ News h₀ L s₁.heap news ∧ (c, o) ∈ news ∧ o.data = .cell (some (.ref Ds)) ∧ (∀ h, News h₀ L h news → StrTab prog w h Ds (tabS tb)) ∧
    ∀ D h' tk k ys, Fr h₀ L h' m → News h₀ L h' ((D, W.listOf ys.toArray k) :: news) → LCg.Off1 D news → StrsAre ys (ps.filter (isSp tb)) → Q (.ref D) { s₁ with heap := h', toks := tk }
theorem FlSrc.intro {c : Addr} {Q : Value → Shared → Prop} {s₁ : Shared} {l : Addr} {n : Nat} {vs : List Value} {ps : List Str} {tb : List (Str × Str)} {news : List (Addr × Obj)} {o : Obj} {Ds : Addr}
  (hl : (l, W.listOf vs.toArray n) ∈ news) (sv : StrsAre vs ps) (hx : ps.length ≤ 1000) (F : Fr h₀ L s₁.heap m) (N : News h₀ L s₁.heap news) (hc : (c, o) ∈ news) (ho : o.data = .cell (some (.ref Ds))) (T : ∀ h, News h₀ L h news → StrTab prog w h Ds (tabS tb))
  (fin : ∀ D h' tk k ys, Fr h₀ L h' m → News h₀ L h' ((D, W.listOf ys.toArray k) :: news) → LCg.Off1 D news → StrsAre ys (ps.filter (isSp tb)) → Q (.ref D) { s₁ with heap := h', toks := tk }) : FlSrc prog w h₀ L m c tb Q (.ref l) s₁ :=
  ⟨l, n, vs, ps, news, o, Ds, rfl, hl, sv, hx, F, N, hc, ho, T, fin⟩
theorem lc_filter {kvs : List (Str × Value)} {tb : List (Str × Str)} (hfp : PyProof.V.FlatPairs PyData.str kvs (tabS tb)) {scope : Scope} {cl : List (Str × Addr)} {c : Addr} {iter : Expr} {px p1 p2 p3 p4 pos : Pos} {Q : Value → Shared → Prop} (F₀ : Fr h₀ L s.heap m)
  (hh : A.handled = none) (hclos : closureFor scope env = pure cl) (hcell : ∀ y ∈ scope.names, y.2 ≠ .cell) (hkind : scope.kind = .function)
  (hnames : ∀ y ∈ scope.names, y.2 = .local → scope.names.lookup y.1 = some .local) (hx : scope.names.lookup (Str.ofString "piece") = some .local)
  (hc : cl.lookup (Str.ofString "spelled") = some c)
  (h : wpAny (model prog w) A (eval iter env) (FlSrc prog w h₀ L m c tb Q) E s)
  (k1 : ∀ C, (compEnvC scope cl C env).scope.kind = .function) (k2 : ∀ C, (compEnvC scope cl C env).kindOf (Str.ofString "piece") = some .local) (k3 : ∀ C, (compEnvC scope cl C env).kindOf (Str.ofString "spelled") = some .cell) (k4 : ∀ C, (compEnvC scope cl C env).cells = cl)
  (hb : behindInMarks .In (.Name (Str.ofString "spelled") p3) = false)
  (hs : ∀ x, foldedSetIterable iter env x = pure x) :
  wpAny (model prog w) A (eval (.ListComp (.Name (Str.ofString "piece") p1) [⟨.Name (Str.ofString "piece") px, iter, [.Compare (.Name (Str.ofString "piece") p2) [.In] [.Name (Str.ofString "spelled") p3] p4], 0⟩] scope pos) env) Q E s := by
  refine lc (h₀ := h₀) (L := L) (m := m) (isSpV tb) (fun v y => y = v) hh hclos hcell hkind hnames hx (wpAny_mono h (fun xv s₁ h₁ => ?_) fun _ _ e => e) hs
  obtain ⟨l, n, vs, ps, news, o, Ds, rfl, hml, sv, hlx, F, N, hmc, hdc, T, fin⟩ := h₁
  refine LcSrc.intro (SrcP.list (N.isList hml)) (by rw [List.size_toArray, strs_len sv, sizeLine_eq]; omega) F N ?_ ?_ ?_
  · intro C i v s₃ m₃ E' hP hns hm hk
    have hv : vs[i]? = some v := by simpa using hP
    obtain ⟨a, t, rfl⟩ := strs_at sv hv
    have N3 : News h₀ L s₃.heap news := fun q hq => ⟨hk _ _ (N q hq).1, (N q hq).2⟩
    refine wpAny_tests_one (wpAny_isTrue_Compare1 (leaf_local hns hm (leaf_cell (by rw [k4]; exact hc) (N3 _ hmc).1 hdc (in_strTab (T _ N3) (wpAny_truthy_bool ?_)) (k1 C) (k3 C)) (k1 C) (k2 C)) hb)
    exact ⟨by rw [lookup_tabS, Option.isSome_map]; rfl, s₃.heap, _, rfl, fun _ _ e => e⟩
  · intro C i v s₃ m₃ E' hP _ hns hm hk
    exact leaf_local hns hm ⟨rfl, s₃.heap, _, rfl, fun _ _ e => e⟩ (k1 C) (k2 C)
  · intro D h' tk k ys vs' hlv hP hpair F' N' off keep
    have e : vs' = vs := by simpa using list_of_places hlv hP
    subst e
    have e2 := paired_eq hpair
    subst e2
    exact fin D h' tk k _ F' N' off (strs_filter sv)
/-- a list of ints read item by item into truths -/
def zB (n : Int) : Value := .bool (n == 0)
theorem paired_z {vs ys : List Value} {ns : List Int} (hi : IntsAre vs ns) (hp : Paired (fun v y => ∀ a t, v = Value.int a t → y = zB a) vs ys) : ys = ns.map zB := by
  induction hi generalizing ys with
  | nil => cases hp; rfl
  | cons a t _ ih =>
    cases hp with
    | cons hf hr => rw [hf a t rfl, ih hr]; rfl
def ZSrc (h₀ : Heap) (L : Addr) (m : Str → Option Value) (Q : Value → Shared → Prop) (xv : Value) (s₁ : Shared) : Prop :=
  ∃ l n vs ns news, xv = .ref l ∧ (l, W.listOf vs.toArray n) ∈ news ∧ IntsAre vs ns ∧ ns.length ≤ 1000 ∧ Fr h₀ L s₁.heap m ∧ News h₀ L s₁.heap news ∧
    ∀ D h' tk k, Fr h₀ L h' m → News h₀ L h' ((D, W.listOf (ns.map zB).toArray k) :: news) → LCg.Off1 D news → Q (.ref D) { s₁ with heap := h', toks := tk }
theorem ZSrc.intro {Q : Value → Shared → Prop} {s₁ : Shared} {l : Addr} {n : Nat} {vs : List Value} {ns : List Int} {news : List (Addr × Obj)}
  (hl : (l, W.listOf vs.toArray n) ∈ news) (sv : IntsAre vs ns) (hx : ns.length ≤ 1000) (F : Fr h₀ L s₁.heap m) (N : News h₀ L s₁.heap news)
  (fin : ∀ D h' tk k, Fr h₀ L h' m → News h₀ L h' ((D, W.listOf (ns.map zB).toArray k) :: news) → LCg.Off1 D news → Q (.ref D) { s₁ with heap := h', toks := tk }) : ZSrc h₀ L m Q (.ref l) s₁ :=
  ⟨l, n, vs, ns, news, rfl, hl, sv, hx, F, N, fin⟩
theorem lc_zero {scope : Scope} {cl : List (Str × Addr)} {iter : Expr} {px p1 p2 p3 pos : Pos} {Q : Value → Shared → Prop} (F₀ : Fr h₀ L s.heap m)
  (hh : A.handled = none) (hclos : closureFor scope env = pure cl) (hcell : ∀ y ∈ scope.names, y.2 ≠ .cell) (hkind : scope.kind = .function)
  (hnames : ∀ y ∈ scope.names, y.2 = .local → scope.names.lookup y.1 = some .local) (hx : scope.names.lookup (Str.ofString "n") = some .local)
  (h : wpAny (model prog w) A (eval iter env) (ZSrc h₀ L m Q) E s)
  (k1 : ∀ C, (compEnvC scope cl C env).scope.kind = .function) (k2 : ∀ C, (compEnvC scope cl C env).kindOf (Str.ofString "n") = some .local) (hb0 : behindInMarks .Eq (.Constant (.int 0) 0 p2) = false)
  (hs : ∀ x, foldedSetIterable iter env x = pure x) :
  wpAny (model prog w) A (eval (.ListComp (.Compare (.Name (Str.ofString "n") p1) [.Eq] [.Constant (.int 0) 0 p2] p3) [⟨.Name (Str.ofString "n") px, iter, [], 0⟩] scope pos) env) Q E s := by
  refine lc (h₀ := h₀) (L := L) (m := m) (fun _ => true) (fun v y => ∀ a t, v = Value.int a t → y = zB a) hh hclos hcell hkind hnames hx (wpAny_mono h (fun xv s₁ h₁ => ?_) fun _ _ e => e) hs
  obtain ⟨l, n, vs, ns, news, rfl, hml, sv, hlx, F, N, fin⟩ := h₁
  refine LcSrc.intro (SrcP.list (N.isList hml)) (by rw [List.size_toArray, ints_len' sv, sizeLine_eq]; omega) F N lcTest_nil ?_ ?_
  · intro C i v s₃ m₃ E' hP _ hns hm hk
    have hv : vs[i]? = some v := by simpa using hP
    obtain ⟨a, t, rfl⟩ := ints_at sv hv
    refine wpAny_Compare1 (leaf_local hns hm (wpAny_Constant_int (eq_int ?_)) (k1 C) (k2 C)) hb0
    exact ⟨fun a' t' e => by cases e; rfl, s₃.heap, _, rfl, fun _ _ e => e⟩
  · intro D h' tk k ys vs' hlv hP hpair F' N' off keep
    rw [List.filter_eq_self.mpr (fun _ _ => rfl)] at hpair
    have e : vs' = vs := by simpa using list_of_places hlv hP
    subst e
    have e2 := paired_z sv hpair
    subst e2
    exact fin D h' tk k F' N' off
end
end Mine
end
noncomputable section
open PySem PySem.W PyProof.Rows
namespace Mine
section
variable {prog : Program} {w : World} {A : Around} {E : Value → Shared → Prop} {s : Shared} {h₀ : Heap} {L : Addr} {m : Str → Option Value} {env : Env} {news : List (Addr × Obj)} {a b : Addr} {Q : Value → Shared → Prop}
theorem join_strs {x : Str} {t : Tok} {l : Addr} {us : List Value} {c : Nat} {hand : Int} (h0 : 0 ≤ hand) (h5 : hand < 5) (hx : x.length ≤ 60)
  (N : News h₀ L s.heap news) (hl : (l, W.listOf us.toArray c) ∈ news) (sl : StrsAre us ((signs x).map (spF (spTab hand))))
  (h : ∀ t' k, Q (.str (escS hand x) t') { s with toks := k }) :
  wpAny (model prog w) A (call (.builtin "str.join") [.str (Str.ofString "") t, .ref l]) Q E s := by
  have key : ∀ l : List Nat, (((l.map fun n => (⟨#[n]⟩ : Str)).map (spF (spTab hand))).map (·.length)).sum ≤ l.length * 6 := by
    intro l
    induction l with
    | nil => exact Nat.le_refl _
    | cons c r ih =>
      simp only [List.map_cons, List.sum_cons, List.length_cons]
      have h1 : (spF (spTab hand) ⟨#[c]⟩).length ≤ 6 := by
        have h2 := gE_len h0 h5 c
        unfold gE at h2
        unfold spF
        cases e : lkS (spTab hand) ⟨#[c]⟩ with
        | none => show 1 ≤ 6; omega
        | some z => rw [e] at h2; simpa [Str.length] using h2
      simp only [List.map_map] at ih ⊢
      omega
  have flat : ∀ l : List Nat, (Str.join (Str.ofString "") ((l.map fun n => (⟨#[n]⟩ : Str)).map (spF (spTab hand)))).cps.toList = l.flatMap (gE (spTab hand)) := by
    have one : ∀ c, (spF (spTab hand) ⟨#[c]⟩).cps.toList = gE (spTab hand) c := by
      intro c
      unfold spF gE
      cases e : lkS (spTab hand) ⟨#[c]⟩ with
      | none => rfl
      | some z => rfl
    have em : (Str.ofString "").cps = #[] := by decide +kernel
    intro l
    induction l with
    | nil => rfl
    | cons c r ih =>
      cases r with
      | nil =>
        show (spF (spTab hand) ⟨#[c]⟩).cps.toList = _
        rw [one]; simp
      | cons d q =>
        show (spF (spTab hand) ⟨#[c]⟩ ++ Str.ofString "" ++ Str.join (Str.ofString "") (((d :: q).map fun n => (⟨#[n]⟩ : Str)).map (spF (spTab hand)))).cps.toList = _
        simp only [Str.cps_append, Array.toList_append]
        rw [ih, one, em]; simp
  have e : Txt.join (Str.ofString "") ((signs x).map (spF (spTab hand))) = escS hand x := by
    refine str_ext ?_
    rw [txt_join, esc_flat h0 h5]
    exact flat x.cps.toList
  have h00 : (Str.ofString "").length = 0 := by decide +kernel
  refine join_list (N.isList hl) (by simpa using sl) ?_ fun t' k => ?_
  · have := key x.cps.toList
    have e1 : x.cps.toList.length = x.length := by simp [Str.length]
    rw [h00]
    show (((signs x).map (spF (spTab hand))).map (·.length)).sum + _ ≤ _
    have e2 : (((signs x).map (spF (spTab hand))).map (·.length)).sum ≤ x.cps.toList.length * 6 := this
    omega
  · rw [e]; exact h t' k
theorem ne_str_same {x : Str} {t u : Tok} (h : Q (.bool false) s) : wpAny (model prog w) A (compareOp .NotEq (.str x t) (.str x u)) Q E s := ne_str (by simpa using h)
theorem ne_ints_same {vs us : List Value} {n1 n2 : Nat} {ns ms : List Int} (N : News h₀ L s.heap news) (ha : (a, W.listOf vs.toArray n1) ∈ news) (hb : (b, W.listOf us.toArray n2) ∈ news) (hi : IntsAre vs ns) (hj : IntsAre us ms) (e : ns = ms) (hu : A.units + 64 < cLine)
  (h : Q (.bool false) s) : wpAny (model prog w) A (compareOp .NotEq (.ref a) (.ref b)) Q E s :=
  ke_ne_ints (N.isList ha) (N.isList hb) hi hj hu (by subst e; simpa using h)
theorem zB_carried : ∀ ns : List Int, CarriedAll (ns.map zB) (ns.map fun n => PyData.bool (n == 0))
  | [] => .nil
  | n :: r => .cons (.bool _) (zB_carried r)
theorem zB_lay : ∀ ns : List Int, PyData.canLayAll0 (ns.map fun n => PyData.bool (n == 0)) = true
  | [] => rfl
  | _ :: r => by simp [PyData.canLayAll0, PyData.canLay0, zB_lay r]
theorem zB_depth : ∀ ns : List Int, PyData.depthAll (ns.map fun n => PyData.bool (n == 0)) = 0
  | [] => rfl
  | _ :: r => by simp [PyData.depthAll, PyData.depth, zB_depth r]
theorem zB_shaped (ns : List Int) : SeqAt.shaped (.list (ns.map fun n => PyData.bool (n == 0))) = true := by
  simp [SeqAt.shaped, PyData.canLay0, PyData.depth, zB_lay, zB_depth]
theorem zB_same : ∀ ns : List Int, PySem.Spec.sameAll (ns.map fun n => PyData.bool (n == 0)) (ns.map fun n => PyData.bool (n == 0)) = true
  | [] => rfl
  | n :: r => by simp [PySem.Spec.sameAll, PySem.Spec.same, zB_same r]
theorem ne_bools_same {n1 n2 : Nat} {ns ms : List Int} (N : News h₀ L s.heap news) (ha : (a, W.listOf (ns.map zB).toArray n1) ∈ news) (hb : (b, W.listOf (ms.map zB).toArray n2) ∈ news) (e : ns = ms) (hu : A.units + 64 < cLine)
  (h : Q (.bool false) s) : wpAny (model prog w) A (compareOp .NotEq (.ref a) (.ref b)) Q E s := by
  subst e
  refine ne_dataH_same (reads_newData (N.isList ha) (zB_carried ns)) (reads_newData (N.isList hb) (zB_carried ns)) (zB_shaped _) (zB_shaped _) hu (SeqAt.noMix_of_shape (.list .bool) rfl _ _ (list_map_has fun _ => rfl) (list_map_has fun _ => rfl)) ?_
  have : PySem.Spec.same (.list (ns.map fun n => PyData.bool (n == 0))) (.list (ns.map fun n => PyData.bool (n == 0))) = true := by
    simp only [PySem.Spec.same]; exact zB_same ns
  rw [this]; exact h
theorem strs_carried : ∀ {vs : List Value} {ps : List Str}, StrsAre vs ps → CarriedAll vs (ps.map PyData.str)
  | _, _, .nil => .nil
  | _, _, .cons x t r => .cons (.str x t) (strs_carried r)
theorem strs_lay : ∀ {ps : List Str}, (∀ p ∈ ps, PyData.strOk p = true) → PyData.canLayAll0 (ps.map PyData.str) = true
  | [], _ => rfl
  | p :: r, h => by simp [PyData.canLayAll0, PyData.canLay0, h p (.head _), strs_lay fun q hq => h q (.tail _ hq)]
theorem strs_depth : ∀ ps : List Str, PyData.depthAll (ps.map PyData.str) = 0
  | [] => rfl
  | _ :: r => by simp [PyData.depthAll, PyData.depth, strs_depth r]
theorem strs_shaped {ps : List Str} (h : ∀ p ∈ ps, PyData.strOk p = true) : SeqAt.shaped (.list (ps.map PyData.str)) = true := by
  simp [SeqAt.shaped, PyData.canLay0, PyData.depth, strs_lay h, strs_depth]
theorem strs_same_nil (ps : List Str) : PySem.Spec.same (.list (ps.map PyData.str)) (.list (([] : List Str).map PyData.str)) = decide (ps = []) := by
  cases ps <;> simp [PySem.Spec.same, PySem.Spec.sameAll]
theorem ne_strs_nil {vs us : List Value} {n1 n2 : Nat} {ps : List Str} (N : News h₀ L s.heap news) (ha : (a, W.listOf vs.toArray n1) ∈ news) (hb : (b, W.listOf us.toArray n2) ∈ news) (hv : StrsAre vs ps) (hn : StrsAre us []) (ok : ∀ p ∈ ps, PyData.strOk p = true) (hu : A.units + 64 < cLine)
  (h : Q (.bool (!decide (ps = []))) s) : wpAny (model prog w) A (compareOp .NotEq (.ref a) (.ref b)) Q E s :=
  ne_dataH_same (reads_newData (N.isList ha) (strs_carried hv)) (reads_newData (N.isList hb) (strs_carried hn)) (strs_shaped ok) (strs_shaped (ps := []) (fun _ h => nomatch h)) hu (SeqAt.noMix_of_shape (.list .str) rfl _ _ (list_map_has fun _ => rfl) (list_map_has fun _ => rfl)) (by rw [strs_same_nil]; exact h)
theorem eq_strs_nil {vs us : List Value} {n1 n2 : Nat} {ps : List Str} (N : News h₀ L s.heap news) (ha : (a, W.listOf vs.toArray n1) ∈ news) (hb : (b, W.listOf us.toArray n2) ∈ news) (hv : StrsAre vs ps) (hn : StrsAre us []) (ok : ∀ p ∈ ps, PyData.strOk p = true) (hu : A.units + 64 < cLine)
  (h : Q (.bool (decide (ps = []))) s) : wpAny (model prog w) A (compareOp .Eq (.ref a) (.ref b)) Q E s :=
  eq_dataH_same (reads_newData (N.isList ha) (strs_carried hv)) (reads_newData (N.isList hb) (strs_carried hn)) (strs_shaped ok) (strs_shaped (ps := []) (fun _ h => nomatch h)) hu (SeqAt.noMix_of_shape (.list .str) rfl _ _ (list_map_has fun _ => rfl) (list_map_has fun _ => rfl)) (by rw [strs_same_nil]; exact h)
theorem eq_copy {vs : List Value} {n1 n2 : Nat} (N : News h₀ L s.heap news) (ha : (a, W.listOf vs.toArray n1) ∈ news) (hb : (b, W.listOf vs.toArray n2) ∈ news) (hu : A.units < cLine)
  (h : Q (.bool true) s) : wpAny (model prog w) A (compareOp .Eq (.ref a) (.ref b)) Q E s :=
  SeqAt.eq_listAt (e := fun _ => true) (N.isList ha) (N.isList hb) rfl hu (fun j h1 h2 => SeqAt.EqAt.same _) (by
    have e : ((List.range vs.toArray.size).all fun _ => true) = true := List.all_eq_true.mpr fun _ _ => rfl
    rw [e]; exact h)
theorem free_filter {tb : List (Str × Str)} {ps : List Str} (h : Free tb ps) : ps.filter (isSp tb) = [] := by
  rw [List.filter_eq_nil_iff]
  intro p hp hs
  unfold isSp at hs
  obtain ⟨z, hz⟩ := Option.isSome_iff_exists.mp hs
  exact h p (List.mem_map.mpr ⟨_, lkS_mem hz, rfl⟩) hp
theorem not_free_filter {tb : List (Str × Str)} {ps : List Str} (h : ¬ Free tb ps) : ps.filter (isSp tb) ≠ [] := by
  intro e
  refine h fun c hc hp => ?_
  rw [List.filter_eq_nil_iff] at e
  refine e c hp ?_
  obtain ⟨q, hq, rfl⟩ := List.mem_map.mp hc
  unfold isSp lkS
  rw [Option.isSome_map, List.find?_isSome]
  exact ⟨q, hq, by simp⟩
end
section
variable {w : World} {A : Around} {E : Value → Shared → Prop} {s : Shared} {h₀ : Heap} {L : Addr} {m : Str → Option Value} {env : Env}
theorem lc_eof {mean : ExcName → Option Value} {mg mb : Str → Option Value} {scope : Scope} {cl : List (Str × Addr)} {iter : Expr} {px p1 p2 p3 pos : Pos} {Q : Value → Shared → Prop} (F₀ : Fr h₀ L s.heap m)
  (X : (hd.heap_39 w.params).In h₀) (T : Top hd.view_39 (looseW hd.view_39 [Str.ofString "EXACT_TOKEN_TYPES"]) mean mg mb h₀) (hroom : A.depth < recursionLimit) (hg : env.globals = mainGlobals)
  (hh : A.handled = none) (hclos : closureFor scope env = pure cl) (hcell : ∀ y ∈ scope.names, y.2 ≠ .cell) (hkind : scope.kind = .function)
  (hnames : ∀ y ∈ scope.names, y.2 = .local → scope.names.lookup y.1 = some .local) (hx : scope.names.lookup (Str.ofString "n") = some .local)
  (h : wpAny (model PySem.Challenge.rw_pg0200_01.row.prog w) A (eval iter env) (ZSrc h₀ L m Q) E s)
  (k1 : ∀ C, (compEnvC scope cl C env).scope.kind = .function) (k2 : ∀ C, (compEnvC scope cl C env).kindOf (Str.ofString "n") = some .local) (k3 : ∀ C, (compEnvC scope cl C env).kindOf (Str.ofString "ISEOF") = some .globalImplicit)
  (hs : ∀ x, foldedSetIterable iter env x = pure x) :
  wpAny (model PySem.Challenge.rw_pg0200_01.row.prog w) A (eval (.ListComp (.Call (.Name (Str.ofString "ISEOF") p1) [.Name (Str.ofString "n") p2] [] p3) [⟨.Name (Str.ofString "n") px, iter, [], 0⟩] scope pos) env) Q E s := by
  refine lc (h₀ := h₀) (L := L) (m := m) (fun _ => true) (fun v y => ∀ a t, v = Value.int a t → y = zB a) hh hclos hcell hkind hnames hx (wpAny_mono h (fun xv s₁ h₁ => ?_) fun _ _ e => e) hs
  obtain ⟨l, n, vs, ns, news, rfl, hml, sv, hlx, F, N, fin⟩ := h₁
  refine LcSrc.intro (SrcP.list (N.isList hml)) (by rw [List.size_toArray, ints_len' sv, sizeLine_eq]; omega) F N lcTest_nil ?_ ?_
  · intro C i v s₃ m₃ E' hP _ hns hm hk
    have hv : vs[i]? = some v := by simpa using hP
    obtain ⟨a, t, rfl⟩ := ints_at sv hv
    have st : h₀.StaysIn s₃.heap := fun b o e => hk b o (F.keep b o e)
    have X3 : (hd.heap_39 w.params).In s₃.heap := X.keeps st
    have T3 := T.keeps st
    refine wpAny_Call_ofName (Calls.Name_function_global (k1 C) (k3 C) (Calls.loadGlobal_global (env := compEnvC scope cl C env) (mg := mg) (hg ▸ T3.g) (mg_of X3 T3.g (eof_facts w).2.1) ?_))
    refine callWith_K (first := []) X3 (eof_facts w).2.2 ?_
    refine spliced_more (leaf_local hns hm (spliced_none ⟨X3, ?_⟩) (k1 C) (k2 C))
    refine wpAny_mono ((eof0 w).2 A s₃ a t E' mean mg mb hroom X3 T3) (fun y s₄ hy => ?_) (fun _ _ x => x)
    exact ⟨fun a' t' e => by cases e; exact hy.1, hy.2⟩
  · intro D h' tk k ys vs' hlv hP hpair F' N' off keep
    rw [List.filter_eq_self.mpr (fun _ _ => rfl)] at hpair
    have e : vs' = vs := by simpa using list_of_places hlv hP
    subst e
    have e2 := paired_z sv hpair
    subst e2
    exact fin D h' tk k F' N' off
end
end Mine
end
noncomputable section
open PySem PySem.W PyProof.Rows
namespace Mine
/-- an exception whose context is one that has none -/
structure Chain (e : Addr) (oe : Obj) (e₀ : Addr) (o₀ : Obj) : Prop where
  one : ∃ vs, oe.data = .fields vs ∧ vs[2]? = some (.ref e₀)
  two : ∃ vs, o₀.data = .fields vs ∧ vs[2]? = some .none
  ne : e₀ ≠ e
theorem plain_unchain : plainId "proto.unchain" = true := by decide +kernel
section
variable {prog : Program} {w : World} {A : Around} {E : Value → Shared → Prop} {s : Shared} {e e₀ : Addr} {oe o₀ : Obj}
theorem raiseNewH {α : Type} {x : Addr} {ox : Obj} {xs : Array Value} {Q : α → Shared → Prop} (hh : A.handled = some (.ref e)) (C : Chain e oe e₀ o₀) (hx1 : e ≠ x) (hx2 : e₀ ≠ x) (he : s.heap.get? e = some oe) (he₀ : s.heap.get? e₀ = some o₀)
    (hx : s.heap.get? x = some ox) (hdx : ox.data = .fields xs) (sz : 2 < xs.size) (h : E (.ref x) { s with heap := s.heap.update x (Obj.mapFields (·.setIfInBounds 2 (.ref e))) }) :
    wpAny (model prog w) A (raiseNew (.ref x) : Sem α) Q E s := by
  obtain ⟨⟨vs, hd, h2⟩, ⟨vs₀, hd₀, h20⟩, hne⟩ := C
  unfold raiseNew
  refine wpAny_bind (wpAny_handled ?_)
  rw [hh]
  dsimp only
  rw [if_pos (show (Value.ref e != Value.ref x) = true by simp [hx1])]
  refine wpAny_bind (wpAny_holding (wpAny_runValue (codeAny_builtin entry_unchain ?_)))
  unfold Builtin.«proto.unchain»
  dsimp only
  refine wpAny_bind (wpAny_field he hd h2 ?_)
  rw [if_neg (show ¬ ((Value.ref e₀ == Value.none) = true) from by simp), if_neg (show ¬ ((Value.ref e₀ == Value.ref x) = true) from by simp [hx2]), if_neg (show ¬ ((Value.ref e₀ == Value.ref e) = true) from by simp [hne])]
  refine wpAny_bind (wpAny_pure ?_)
  refine wpAny_pure ⟨plainId_quiet plain_unchain _, codeAny_builtin entry_unchain ?_⟩
  unfold Builtin.«proto.unchain»
  dsimp only
  refine wpAny_bind (wpAny_field he₀ hd₀ h20 ?_)
  rw [if_pos (by decide)]
  refine wpAny_pure ?_
  unfold updateField
  refine wpAny_bind (wpAny_bind (wpAny_load hx ?_))
  rw [hdx]
  dsimp only
  rw [if_pos sz]
  exact wpAny_update hx (wpAny_throw h)
theorem next_endH {it l : Addr} {i : Nat} {items : Array Value} {Q : Option Value → Shared → Prop} (hh : A.handled = some (.ref e)) (C : Chain e oe e₀ o₀) (he : s.heap.get? e = some oe) (he₀ : s.heap.get? e₀ = some o₀) (hie : it ≠ e) (hie₀ : it ≠ e₀)
    (hit : s.heap.IsListIter it l i) (hl : s.heap.IsList l items) (hx : items[i]? = none)
    (hQ : ∀ h', (∀ b o, b ≠ it → s.heap.get? b = some o → h'.get? b = some o) → Q none { s with heap := h' }) : wpAny (model prog w) A (pyNext (.ref it)) Q E s := by
  obtain ⟨o, ho, hc, hd⟩ := id hit
  obtain ⟨ol, hol, _, nl, hdl⟩ := hl
  unfold pyNext
  refine wpAny_bind (wpAny_attempt (wpAny_callSpecial?_slot (name := Str.ofString "__next__") hit.typeIs slot_listiter_next
    (wpAny_call_entry slot_listiter_next hit.typeIs entry_listiter_next ?_ (args_listiter_next _))))
  show wpAny _ _ (field (.ref it) 0 >>= _) _ _ s
  refine wpAny_bind (wpAny_field ho hd (x := .ref l) rfl ?_)
  show wpAny _ _ (if (Value.ref l == Value.none) = true then _ else _) _ _ s
  rw [if_neg (show ¬ ((Value.ref l == Value.none) = true) from Bool.false_ne_true)]
  show wpAny _ _ (field (.ref it) 1 >>= _) _ _ s
  refine wpAny_bind (wpAny_field ho hd (x := .int i 0) rfl ?_)
  show wpAny _ _ (seqItems? (.ref l) >>= _) _ _ s
  refine wpAny_bind (wpAny_seqItems hol hdl ?_)
  simp only [Int.toNat_natCast, hx]
  refine wpAny_bind (wpAny_rule (wpAny_bind (wpAny_setField ho hd (by simp) ?_)))
  show wpAny _ _ (newExc (.type "StopIteration") [] >>= _) _ _ _
  refine wpAny_bind ?_
  simp only [newExc, newTuple]
  refine wpAny_bind (wpAny_newObj_type ?_ (by size_fits))
  refine wpAny_bind (m := firstArgMember _ _) (wpAny_of_eq (a := Value.none) (by first | rfl | (simp only [firstArgMember]; rfl)) ?_)
  refine wpAny_newObj_type ?_ (by size_fits)
  have up : ∀ b o', b ≠ it → s.heap.get? b = some o' → (s.heap.update it (Obj.mapFields (·.setIfInBounds 0 Value.none))).get? b = some o' := fun b o' hb q => (Heap.get?_update_other _ _ (Ne.symm hb)).trans q
  refine raiseNewH (A := A.in1) hh C ?_ ?_ (Heap.get?_push_of_some _ (Heap.get?_push_of_some _ (up _ _ hie.symm he))) (Heap.get?_push_of_some _ (Heap.get?_push_of_some _ (up _ _ hie₀.symm he₀))) (Heap.get?_push_size _ rfl) rfl (by simp; omega) ?_
  · exact Nat.ne_of_lt (Heap.lt_size (Heap.get?_push_of_some _ (up _ _ hie.symm he)))
  · exact Nat.ne_of_lt (Heap.lt_size (Heap.get?_push_of_some _ (up _ _ hie₀.symm he₀)))
  refine wpAny_bind (wpAny_isInstance (T := "StopIteration") (b := true) ⟨_, Heap.get?_update_self _ (Heap.get?_push_size _ rfl) rfl, rfl⟩ isSubtype_stop ?_)
  refine wpAny_pure (hQ _ fun b o' hb q => ?_)
  have hp := Heap.get?_push_of_some (h := s.heap.update it (Obj.mapFields (·.setIfInBounds 0 Value.none))) { cls := .type "tuple", dict := none, data := .seq ([] : List Value).toArray } (up b o' hb q)
  exact (Heap.get?_update_other _ _ (Ne.symm (Nat.ne_of_lt (Heap.lt_size hp)))).trans (Heap.get?_push_of_some _ hp)
theorem walksH (hh : A.handled = some (.ref e)) (C : Chain e oe e₀ o₀) (I ax : Addr) (hne : ax ≠ I) (hie : I ≠ e) (hie₀ : I ≠ e₀) (items : Array Value) :
    Walks prog w A I [I, ax, e, e₀] [I] items.size (fun i v => items[i]? = some v) (fun i h => (h.IsListIter I ax i ∧ h.IsList ax items) ∧ h.get? e = some oe ∧ h.get? e₀ = some o₀) where
  sub := fun b hb => by simp at hb; simp [hb]
  frame := fun _ _ _ st hk => ⟨⟨st.1.1.at fun o q => hk I (by simp) o q, st.1.2.at fun o q => hk ax (by simp) o q⟩, hk e (by simp) _ st.2.1, hk e₀ (by simp) _ st.2.2⟩
  item := fun i s Q E hi st hQ => by
    refine wpAny_pyNext_list_item st.1.1 st.1.2 (x := items[i]) (by simp [hi]) fun h' hit' hs' => ?_
    have k : ∀ b o, b ∉ [I] → s.heap.get? b = some o → h'.get? b = some o := fun b o hb q => hs'.extBut b o (fun z => hb (by simp [z])) q
    exact hQ _ h' s.toks (by simp [hi]) ⟨⟨hit', st.1.2.extBut hs'.extBut hne⟩, k e _ (by simp [hie.symm]) st.2.1, k e₀ _ (by simp [hie₀.symm]) st.2.2⟩ k
  done := fun s Q E st hQ => next_endH hh C st.2.1 st.2.2 hie hie₀ st.1.1 st.1.2 (by simp) fun h' he' => hQ h' s.toks fun b o hb q => he' b o (fun z => hb (by simp [z])) q
  self := fun _ _ _ _ st hQ => wpAny_pyIter_listiter st.1.1 hQ
theorem iterH {l : Addr} {items : Array Value} {Q : Value → Shared → Prop} (hh : A.handled = some (.ref e)) (C : Chain e oe e₀ o₀) (he : s.heap.get? e = some oe) (he₀ : s.heap.get? e₀ = some o₀) (hl : s.heap.IsList l items)
    (k : ∀ (o : Obj) (fp : List Addr) (St : Nat → Heap → Prop), Walks prog w A s.heap.objs.size fp [s.heap.objs.size] items.size (fun i v => items[i]? = some v) St → St 0 (s.heap.push o) → (∀ b ∈ fp, b < (s.heap.push o).objs.size) → Q (.ref s.heap.objs.size) { s with heap := s.heap.push o }) :
    wpAny (model prog w) A (pyIter (.ref l)) Q E s := by
  have hlt : l < s.heap.objs.size := by obtain ⟨_, q, _⟩ := hl; exact Heap.lt_size q
  refine wpAny_pyIter_list hl (k _ [s.heap.objs.size, l, e, e₀] _ (walksH hh C _ _ (Nat.ne_of_lt hlt) (Nat.ne_of_gt (Heap.lt_size he)) (Nat.ne_of_gt (Heap.lt_size he₀)) items) ⟨⟨⟨_, Heap.get?_push_size _ rfl, rfl, rfl⟩, hl.push _⟩, Heap.get?_push_of_some _ he, Heap.get?_push_of_some _ he₀⟩ ?_)
  intro b hb
  rw [Heap.size_push]
  simp only [List.mem_cons, List.not_mem_nil, or_false] at hb
  rcases hb with rfl | rfl | rfl | rfl
  · exact Nat.lt_succ_self _
  · exact Nat.lt_succ_of_lt hlt
  · exact Nat.lt_succ_of_lt (Heap.lt_size he)
  · exact Nat.lt_succ_of_lt (Heap.lt_size he₀)
end
section
variable {prog : Program} {w : World} {A : Around} {E : Value → Shared → Prop} {s : Shared} {h₀ : Heap} {L : Addr} {m : Str → Option Value} {env : Env} {e e₀ : Addr} {oe o₀ : Obj}
def LcSrcH (prog : Program) (w : World) (A : Around) (h₀ : Heap) (L : Addr) (m : Str → Option Value) (env : Env) (scope : Scope) (cl : List (Str × Addr)) (x : Str) (ifs : List Expr) (elt : Expr) (p : Value → Bool) (R : Value → Value → Prop) (e : Addr) (oe : Obj) (e₀ : Addr) (o₀ : Obj) (Q : Value → Shared → Prop) (xv : Value) (s₁ : Shared) : Prop :=
  ∃ l items news, xv = .ref l ∧ s₁.heap.IsList l items ∧ items.size ≤ sizeLine ∧ s₁.heap.get? e = some oe ∧ s₁.heap.get? e₀ = some o₀ ∧ Fr h₀ L s₁.heap m ∧ News h₀ L s₁.heap news ∧ LcTest prog w A env scope cl x ifs (fun i v => items[i]? = some v) p s₁.heap ∧ LcElt prog w A env scope cl x elt (fun i v => items[i]? = some v) p R s₁.heap ∧ LcFin h₀ L m items.size (fun i v => items[i]? = some v) p R news Q s₁
theorem lcH {elt iter : Expr} {x : Str} {px : Pos} {ifs : List Expr} {scope : Scope} {cl : List (Str × Addr)} {pos : Pos} {Q : Value → Shared → Prop} (p : Value → Bool) (R : Value → Value → Prop) (hh : A.handled = some (.ref e)) (Ch : Chain e oe e₀ o₀)
    (hclos : closureFor scope env = pure cl) (hcell : ∀ y ∈ scope.names, y.2 ≠ .cell) (hkind : scope.kind = .function)
    (hnames : ∀ y ∈ scope.names, y.2 = .local → scope.names.lookup y.1 = some .local) (hx : scope.names.lookup x = some .local)
    (h : wpAny (model prog w) A (eval iter env) (LcSrcH prog w A h₀ L m env scope cl x ifs elt p R e oe e₀ o₀ Q) E s)
    (hs : ∀ x, foldedSetIterable iter env x = pure x) :
    wpAny (model prog w) A (eval (.ListComp elt [⟨.Name x px, iter, ifs, 0⟩] scope pos) env) Q E s := by
  refine wpAny_ListComp_free p R hclos hcell hkind hnames hx (wpAny_mono h (fun xv s₁ h₁ => ?_) fun _ _ e => e) hs
  obtain ⟨l, items, news, rfl, hil, hn, hoe, hoe₀, F, N, ht, he, hf⟩ := h₁
  refine iterH hh Ch hoe hoe₀ hil fun o fp St W hst hfp => ?_
  have up : ∀ (h' : Heap), (∀ b o', b ∉ [s₁.heap.objs.size] → (s₁.heap.push o).get? b = some o' → h'.get? b = some o') → ∀ b o', s₁.heap.get? b = some o' → h'.get? b = some o' := fun h' hk => old_of_push hk
  refine ⟨_, fp, _, items.size, _, St, rfl, W, hn, hst, hfp, ⟨?_, ?_⟩, ?_⟩
  · intro C i v s₃ m₃ E' _ hP hns hm hk _
    exact ht C i v s₃ m₃ E' hP hns hm (up _ hk)
  · intro C i v s₃ m₃ E' _ hP hp hns hm hk _
    exact he C i v s₃ m₃ E' hP hp hns hm (up _ hk)
  · intro D h' tk ys vs hnew hlD hplD hlen hP hF hk
    obtain ⟨k, hpl⟩ := hplD
    have keep := up h' hk
    have hD1 : s₁.heap.get? D = none := by
      cases e : s₁.heap.get? D with
      | none => rfl
      | some o' => rw [Heap.get?_push_of_some _ e] at hnew; cases hnew
    have hD0 : h₀.get? D = none := by
      cases e : h₀.get? D with
      | none => rfl
      | some o' => rw [F.keep _ _ e] at hD1; cases hD1
    have hDL : D ≠ L := fun e => by
      obtain ⟨oL, _, _, hL, _⟩ := F.ns
      rw [e, hL] at hD1; cases hD1
    have hoff : ∀ q ∈ news, q.1 ≠ D := fun q hq e => by rw [← e, (N q hq).1] at hD1; cases hD1
    have off1 : ∀ l : List (Addr × Obj), (∀ q ∈ l, q.1 ≠ D) → LCg.Off1 D l := by
      intro l
      induction l with
      | nil => intro _; trivial
      | cons a r ih => intro hl; exact ⟨hl a (List.mem_cons_self ..), ih fun q hq => hl q (List.mem_cons_of_mem _ hq)⟩
    refine hf D h' tk k ys.toList vs hlen hP hF (F.keeps keep) (fun q hq => ?_) (off1 _ hoff) keep
    rcases List.mem_cons.mp hq with rfl | hq
    · exact ⟨by rw [Array.toArray_toList]; exact hpl, hDL, hD0⟩
    · exact ⟨keep _ _ (N q hq).1, (N q hq).2⟩
def FlSrcH (prog : Program) (w : World) (h₀ : Heap) (L : Addr) (m : Str → Option Value) (c : Addr) (tb : List (Str × Str)) (e : Addr) (oe : Obj) (e₀ : Addr) (o₀ : Obj) (Q : Value → Shared → Prop) (xv : Value) (s₁ : Shared) : Prop :=
  s₁.heap.get? e = some oe ∧ s₁.heap.get? e₀ = some o₀ ∧ FlSrc prog w h₀ L m c tb Q xv s₁
theorem lc_filterH {kvs : List (Str × Value)} {tb : List (Str × Str)} (hfp : PyProof.V.FlatPairs PyData.str kvs (tabS tb)) {scope : Scope} {cl : List (Str × Addr)} {c : Addr} {iter : Expr} {px p1 p2 p3 p4 pos : Pos} {Q : Value → Shared → Prop} (Ch : Chain e oe e₀ o₀) (F₀ : Fr h₀ L s.heap m)
  (hh : A.handled = some (.ref e)) (hclos : closureFor scope env = pure cl) (hcell : ∀ y ∈ scope.names, y.2 ≠ .cell) (hkind : scope.kind = .function)
  (hnames : ∀ y ∈ scope.names, y.2 = .local → scope.names.lookup y.1 = some .local) (hx : scope.names.lookup (Str.ofString "piece") = some .local)
  (hc : cl.lookup (Str.ofString "spelled") = some c)
  (h : wpAny (model prog w) A (eval iter env) (FlSrcH prog w h₀ L m c tb e oe e₀ o₀ Q) E s)
  (k1 : ∀ C, (compEnvC scope cl C env).scope.kind = .function) (k2 : ∀ C, (compEnvC scope cl C env).kindOf (Str.ofString "piece") = some .local) (k3 : ∀ C, (compEnvC scope cl C env).kindOf (Str.ofString "spelled") = some .cell) (k4 : ∀ C, (compEnvC scope cl C env).cells = cl)
  (hb : behindInMarks .In (.Name (Str.ofString "spelled") p3) = false)
  (hs : ∀ x, foldedSetIterable iter env x = pure x) :
  wpAny (model prog w) A (eval (.ListComp (.Name (Str.ofString "piece") p1) [⟨.Name (Str.ofString "piece") px, iter, [.Compare (.Name (Str.ofString "piece") p2) [.In] [.Name (Str.ofString "spelled") p3] p4], 0⟩] scope pos) env) Q E s := by
  refine lcH (h₀ := h₀) (L := L) (m := m) (isSpV tb) (fun v y => y = v) hh Ch hclos hcell hkind hnames hx (wpAny_mono h (fun xv s₁ h₁ => ?_) fun _ _ e => e) hs
  obtain ⟨g1, g2, l, n, vs, ps, news, o, Ds, rfl, hml, sv, hlx, F, N, hmc, hdc, T, fin⟩ := h₁
  refine ⟨l, vs.toArray, news, rfl, N.isList hml, by rw [List.size_toArray, strs_len sv, sizeLine_eq]; omega, g1, g2, F, N, ?_, ?_, ?_⟩
  · intro C i v s₃ m₃ E' hP hns hm hk
    have hv : vs[i]? = some v := by simpa using hP
    obtain ⟨a, t, rfl⟩ := strs_at sv hv
    have N3 : News h₀ L s₃.heap news := fun q hq => ⟨hk _ _ (N q hq).1, (N q hq).2⟩
    refine wpAny_tests_one (wpAny_isTrue_Compare1 (leaf_local hns hm (leaf_cell (by rw [k4]; exact hc) (N3 _ hmc).1 hdc (in_strTab (T _ N3) (wpAny_truthy_bool ?_)) (k1 C) (k3 C)) (k1 C) (k2 C)) hb)
    exact ⟨by rw [lookup_tabS, Option.isSome_map]; rfl, s₃.heap, _, rfl, fun _ _ e => e⟩
  · intro C i v s₃ m₃ E' hP _ hns hm hk
    exact leaf_local hns hm ⟨rfl, s₃.heap, _, rfl, fun _ _ e => e⟩ (k1 C) (k2 C)
  · intro D h' tk k ys vs' hlv hP hpair F' N' off keep
    have e : vs' = vs := by simpa using list_of_places hlv hP
    subst e
    have e2 := paired_eq hpair
    subst e2
    exact fin D h' tk k _ F' N' off (strs_filter sv)
end
section
variable {prog : Program} {w : World} {A₀ : Around} {E : Value → Shared → Prop} {s' : Shared} {h₀ h : Heap} {L a e : Addr} {m : Str → Option Value} {name : Str} {scope : Scope} {cd : Value} {cl : List (Str × Addr)}
  {b₀ : Stmt} {suite : List Stmt} {pos np : Pos} {rest : List ExceptHandler} {Q : Flow → Shared → Prop} {news : List (Addr × Obj)} {KF : Frag}
  {p : Program} {loose : List Str} {mean : ExcName → Option Value} {mg mb : Str → Option Value} {c : Value}
/-- TypeError met by the law's own clause -/
theorem caughtC (K : Below A₀ h₀ [] h₀) (F : Fr h₀ L h m) (hsm : h.UpToSlots s'.heap) (R : RaisedC h₀ [envX name scope L a cd cl] e "TypeError" c news s'.heap) (X : KF.In h₀) (T : TopRead p loose mg mb h₀)
    (hn : nsIn KF mainGlobals (Str.ofString "TypeError") = some none) (hv : bootBuiltins (Str.ofString "TypeError") = some (.type "TypeError")) (hk : scope.kind = .function) (hx : (envX name scope L a cd cl).kindOf (Str.ofString "TypeError") = some .globalImplicit)
    (k : ∀ h' oe vs, Fr h₀ L h' m → News h₀ L h' ((e, oe) :: news) → oe.data = .fields vs → vs[2]? = some c → (∀ q ∈ news, q.1 ≠ e) →
      wpAny (model prog w) ((A₀.deeper (envX name scope L a cd cl)).mark (some (.ref e))) (execs (b₀ :: suite) (envX name scope L a cd cl)) Q E { s' with heap := h' })
    (hE : PassesOwnAt (model prog w) ((A₀.deeper (envX name scope L a cd cl)).mark (some (.ref e))) (A₀.deeper (envX name scope L a cd cl)) (envX name scope L a cd cl) E) :
    wpAny (model prog w) (A₀.deeper (envX name scope L a cd cl)) (noteFrame (.ref e) (envX name scope L a cd cl))
      (fun _ s₂ => wpAny (model prog w) (A₀.deeper (envX name scope L a cd cl)) (setFlight (.ref e) none) (fun _ s₃ =>
        wpAny (model prog w) (A₀.deeper (envX name scope L a cd cl)) (handleBy (.ref e) (envX name scope L a cd cl) (.ExceptHandler (some (.Name (Str.ofString "TypeError") np)) none (b₀ :: suite) pos :: rest)) Q E s₃) E s₂) E s' := by
  obtain ⟨B, hB, hl, H⟩ := R
  have hL : B.get? L = none := by
    obtain ⟨_, ⟨L', _, hf, hn', _⟩, _⟩ := H.2.2.1
    obtain rfl : L = L' := Option.some.inj hf
    exact hn'
  refine noteOnC (Around.frames_deeper K.stack) rfl H fun h₁ H₁ up₁ => ?_
  refine landC H₁ fun h₂ H₂ up₂ => ?_
  have F₂ : Fr h₀ L h₂ m := F.of_stays (fun b o q => H₂.1 b o (hB b o q)) (hsm.trans (up₁.trans up₂))
  obtain ⟨_, _, _, oe₂, _, _, _, _, he₂, hc₂, _⟩ := id H₂
  refine wpAny_handleBy_builtin (X := "TypeError") (T := "TypeError") (b := true) PySem.F.isExc_TypeError PySem.F.notTuple_TypeError (by rw [isSubtype_type]; kernel_rfl) (nameX_B F₂ X T hn hv (by decide) ⟨rfl, ⟨_, he₂, hc₂⟩, ?_⟩ hk hx (by decide))
  rw [if_pos rfl]
  refine landC H₂ fun h₃ H₃ up₃ => ?_
  have F₃ : Fr h₀ L h₃ m := F.of_stays (fun b o q => H₃.1 b o (hB b o q)) (hsm.trans (up₁.trans (up₂.trans up₃)))
  obtain ⟨f1, f2, f3, oe, vs, _, _, _, he, hc, hd, _, h2, _⟩ := H₃
  refine wpAny_passesOwnAt hE (k h₃ oe vs F₃ (fun q hq => ?_) hd h2 fun q hq z => by have := (hl q hq).1; rw [z, f2] at this; cases this)
  rcases List.mem_cons.mp hq with rfl | hq
  · refine ⟨he, fun z => ?_, fresh_of_stays hB f2⟩
    obtain ⟨oL, es, ep, hL', hLd, _⟩ := F₃.ns
    have z' : e = L := z
    rw [z', hL'] at he
    cases he
    rw [hLd] at hd; cases hd
  · exact ⟨f1 _ _ (hl q hq).1, (fun z => by have := (hl q hq).1; rw [z, hL] at this; cases this), (hl q hq).2⟩
theorem caughtC2 {e₀ : Addr} {o₀ : Obj} {v₀ : Array Value} (K : Below A₀ h₀ [] h₀) (F : Fr h₀ L h m) (hsm : h.UpToSlots s'.heap) (R : RaisedC h₀ [envX name scope L a cd cl] e "TypeError" (.ref e₀) ((e₀, o₀) :: news) s'.heap) (d0 : o₀.data = .fields v₀) (z0 : v₀[2]? = some .none) (X : KF.In h₀) (T : TopRead p loose mg mb h₀)
    (hn : nsIn KF mainGlobals (Str.ofString "TypeError") = some none) (hv : bootBuiltins (Str.ofString "TypeError") = some (.type "TypeError")) (hk : scope.kind = .function) (hx : (envX name scope L a cd cl).kindOf (Str.ofString "TypeError") = some .globalImplicit)
    (k : ∀ h' oe, Fr h₀ L h' m → News h₀ L h' ((e, oe) :: (e₀, o₀) :: news) → Chain e oe e₀ o₀ →
      wpAny (model prog w) ((A₀.deeper (envX name scope L a cd cl)).mark (some (.ref e))) (execs (b₀ :: suite) (envX name scope L a cd cl)) Q E { s' with heap := h' })
    (hE : PassesOwnAt (model prog w) ((A₀.deeper (envX name scope L a cd cl)).mark (some (.ref e))) (A₀.deeper (envX name scope L a cd cl)) (envX name scope L a cd cl) E) :
    wpAny (model prog w) (A₀.deeper (envX name scope L a cd cl)) (noteFrame (.ref e) (envX name scope L a cd cl))
      (fun _ s₂ => wpAny (model prog w) (A₀.deeper (envX name scope L a cd cl)) (setFlight (.ref e) none) (fun _ s₃ =>
        wpAny (model prog w) (A₀.deeper (envX name scope L a cd cl)) (handleBy (.ref e) (envX name scope L a cd cl) (.ExceptHandler (some (.Name (Str.ofString "TypeError") np)) none (b₀ :: suite) pos :: rest)) Q E s₃) E s₂) E s' :=
  caughtC K F hsm R X T hn hv hk hx (fun h' oe vs F' N' d1 z1 off => k h' oe F' N' ⟨⟨vs, d1, z1⟩, ⟨v₀, d0, z0⟩, off _ (.head _)⟩) hE
end
section
variable {prog : Program} {w : World} {A : Around} {E : Value → Shared → Prop} {s : Shared} {h₀ : Heap} {L : Addr} {news : List (Addr × Obj)} {a b : Addr} {Q : Value → Shared → Prop} {tb : List (Str × Str)} {ps : List Str}
theorem pieces_ok {f : Str → Bool} (h : PiecesOk ps) : ∀ p ∈ ps.filter f, PyData.strOk p = true := fun p hp => (h.2.2 p (List.mem_filter.mp hp).1).2.2
theorem eq_free {vs us : List Value} {n1 n2 : Nat} (N : News h₀ L s.heap news) (ha : (a, W.listOf vs.toArray n1) ∈ news) (hb : (b, W.listOf us.toArray n2) ∈ news) (hv : StrsAre vs (ps.filter (isSp tb))) (hn : StrsAre us []) (ok : PiecesOk ps) (fr : Free tb ps) (hu : A.units + 64 < cLine)
  (h : Q (.bool true) s) : wpAny (model prog w) A (compareOp .Eq (.ref a) (.ref b)) Q E s :=
  eq_strs_nil N ha hb hv hn (pieces_ok ok) hu (by rw [free_filter fr]; simpa using h)
theorem ne_not_free {vs us : List Value} {n1 n2 : Nat} (N : News h₀ L s.heap news) (ha : (a, W.listOf vs.toArray n1) ∈ news) (hb : (b, W.listOf us.toArray n2) ∈ news) (hv : StrsAre vs (ps.filter (isSp tb))) (hn : StrsAre us []) (ok : PiecesOk ps) (fr : ¬ Free tb ps) (hu : A.units + 64 < cLine)
  (h : Q (.bool true) s) : wpAny (model prog w) A (compareOp .NotEq (.ref a) (.ref b)) Q E s :=
  ne_strs_nil N ha hb hv hn (pieces_ok ok) hu (by rw [decide_eq_false (not_free_filter fr)]; exact h)
end
end Mine
end
noncomputable section
open PySem PySem.W PyProof.Rows
namespace Mine
def PosThen (s : Shared) (P : Prop) : Prop := 0 < s.toks → P
theorem PosThen.intro {s : Shared} {P : Prop} (h : 0 < s.toks → P) : PosThen s P := h
theorem execs_pos {M : Model} {A : Around} {E : Value → Shared → Prop} {s : Shared} {env : Env} {st : Stmt} {rest : List Stmt} {Q : Flow → Shared → Prop} (hp : 0 < s.toks)
  (h : ∀ tk, 0 < tk → wpAny M A (exec st env) (fun f s' => PosThen s' (match f with | .next => wpAny M A (execs rest env) Q E s' | f => Q f s')) E { s with toks := tk }) : wpAny M A (execs (st :: rest) env) Q E s :=
  wpAny_execs_cons (wpAny_with_toks (n := 1) hp (wpAny_mono (h s.toks hp) (fun f s' x hle => x hle) fun _ _ x _ => x))
theorem cell_ne_dict {prog : Program} {w : World} {h₀ h : Heap} {L c D : Addr} {oc o : Obj} {v : Option Value} {kvs : List (Str × Value)} {news : List (Addr × Obj)} (hD : o.IsDictOf (PySem.strKind prog w) kvs) (N : News h₀ L h news) (hm : (D, o) ∈ news) (hc : (c, oc) ∈ news) (ho : oc.data = .cell v) : @Ne Nat c D := by
  intro e
  have h1 := (N _ hm).1
  have h2 := (N _ hc).1
  have e' : c = D := e
  subst e'
  have h3 : h.get? c = some o := h1
  have h4 : h.get? c = some oc := h2
  rw [h3] at h4
  cases h4
  obtain ⟨es, ep, _, hde, _⟩ := hD
  rw [ho] at hde
  cases hde
theorem spTab_len (hand : Int) : (spTab hand).length ≤ 100 := by
  unfold spTab
  repeat (split; (· decide))
  decide
theorem list_strs {prog : Program} {w : World} {A : Around} {E : Value → Shared → Prop} {s : Shared} {h₀ : Heap} {L : Addr} {m : Str → Option Value} {news : List (Addr × Obj)} {Q : Value → Shared → Prop} {l : Addr} {vs : List Value} {n : Nat} {ps : List Str}
    (F : Fr h₀ L s.heap m) (N : News h₀ L s.heap news) (hm : (l, W.listOf vs.toArray n) ∈ news) (hi : StrsAre vs ps) (hn : ps.length ≤ 1000)
    (h : ∀ D c h', Fr h₀ L h' m → News h₀ L h' ((D, W.listOf vs.toArray c) :: news) → (∀ q ∈ news, q.1 < D) → Q (.ref D) { s with heap := h' }) :
    wpAny (model prog w) A (call (.type "list") [.ref l]) Q E s := by
  refine list_copyK F N (N.isList hm) h ?_
  rw [List.size_toArray, strs_len hi, sizeLine_eq]; omega
theorem known_strs {vs ws : List Value} (a : StrsAre vs opsL) (b : StrsAre ws othersL) : StrsAre (vs ++ ws) knownL := a.append' b
theorem pieces_len {ps : List Str} (h : PiecesOk ps) : ps.length ≤ 12 := h.1
theorem pieces_one {ps : List Str} (h : PiecesOk ps) : 1 ≤ ps.length := h.2.1
theorem pieces_repr {ps : List Str} (h : PiecesOk ps) : ∀ p ∈ ps, (reprText p).length ≤ 60 := fun p hp => (h.2.2 p hp).2.1
local macro_rules | `(tactic| walk_at "ite") => `(tactic| (k_closed; k_dflt (first | (refine' ite_pos ?c ?_; (case c => decide)) | (refine' ite_neg ?c ?_; (case c => decide)))))
local macro_rules | `(tactic| walk_at "execs cons") => `(tactic| (k_here; refine' execs_pos ?p ?_; (case p => ((try dsimp only); omega)); intro tk' hpos'; (try dsimp only)))
local macro_rules | `(tactic| walk_at "execs nil") => `(tactic| (k_here; refine' execs_nil_gen ?p ?_; (case p => ((try dsimp only); omega)); intro tk' hpos'; (try dsimp only)))
local macro_rules | `(tactic| walk_at "exec Try") => `(tactic| (k_here; (with_reducible show wpAny _ _ (exec (Stmt.Try _ (_ :: _) _ [] _) _) _ _ _); refine wpAny_Try_except ?_))
local macro_rules | `(tactic| walk_at "PosThen") => `(tactic| (k_here; (with_reducible show PosThen _ _); refine' PosThen.intro ?_; intro hpos'; (try dsimp only at hpos' ⊢)))
local macro_rules | `(tactic| k_all) => `(tactic| exact all_ne (by assumption) (by omega))
local macro_rules | `(tactic| walk_at "call ref") => `(tactic| (k_here; (with_reducible first | (show wpAny _ _ (call (Value.ref 85) _) _ _ _) | (show wpAny _ _ (call (Value.ref 80) _) _ _ _) | (show wpAny _ _ (call (Value.ref 92) _) _ _ _) | (show wpAny _ _ (call (Value.ref 97) _) _ _ _)); refine' Stop.of ?_))
local macro_rules | `(tactic| walk_at "call type:list") => `(tactic| (k_here; refine' Stop.of ?_))
local macro_rules | `(tactic| walk_at "call builtin:str.join") => `(tactic| (k_here; refine' Stop.of ?_))
local macro_rules | `(tactic| walk_at "eval ListComp") => `(tactic| (k_here; refine' Stop.of ?_))
local macro_rules | `(tactic| walk_at "binaryOp Add ref ref") => `(tactic| (k_here; refine' Stop.of ?_))
local macro_rules | `(tactic| walk_at "binaryOp Mod int int") => `(tactic| (k_here; (with_reducible show wpAny _ _ (binaryOp Operator.Mod (Value.int _ _) (Value.int 5 _)) _ _ _); refine' Stop.of ?_))
local macro_rules | `(tactic| walk_at "compareOp NotEq str str") => `(tactic| (k_here; refine' Stop.of ?_))
local macro_rules | `(tactic| walk_at "compareOp NotEq ref ref") => `(tactic| (k_here; refine' Stop.of ?_))
local macro_rules | `(tactic| walk_at "compareOp Eq ref ref") => `(tactic| (k_here; refine' Stop.of ?_))
local macro_rules | `(tactic| walk_at "noteFrame ref") => `(tactic| (k_here; refine' Stop.of ?_))
set_option maxRecDepth 100000 in
set_option maxHeartbeats 8000000 in
theorem lawW : PySem.Challenge.rw_pg0200_01.Holds := hd (by
  k_go0
  (all_goals try k_fold)
  k_steps
  refine' Stop.go ?_
  refine' add_known ?Fx1 ?Nx1 ?hlx1 ?hbx1 ?slx1 ?swx1 (fun D' c' h' us' F' N' l1 hs' => ?_)
  (case Fx1 => k_asm)
  (case Nx1 => k_asm)
  (case hlx1 => k_mem)
  (case hbx1 => k_mem)
  (case slx1 => exact strs_ops (by assumption) (by assumption))
  (case swx1 => repeat constructor)
  (try k_lt l1)
  (try k_sweep)
  k_steps
  refine' Stop.go ?_
  refine' lc_known ?Fx2 ?hhx2 ?hclosx2 ?hcellx2 ?hkindx2 ?hnamesx2 ?hxx2 ?hcx2 ?_ ?k1x2 ?k2x2 ?k3x2 ?k4x2 ?hsx2
  (case Fx2 => k_asm)
  (case hhx2 => rfl)
  (case hclosx2 => with_unfolding_all rfl)
  (case hcellx2 => decide)
  (case hkindx2 => rfl)
  (case hnamesx2 => decide)
  (case hxx2 => rfl)
  (case hcx2 => rfl)
  (case k1x2 => exact fun _ => rfl)
  (case k2x2 => exact fun _ => rfl)
  (case k3x2 => exact fun _ => rfl)
  (case k4x2 => exact fun _ => rfl)
  (case hsx2 => exact fun _ => rfl)
  k_steps
  refine' KnSrc.intro ?hlx3 ?hix3 ?hnx3 ?Fx3 ?Nx3 ?hcx3 ?hox3 ?hkx3 ?hsx3 ?_
  (case Fx3 => k_asm)
  (case Nx3 => k_asm)
  (case hlx3 => k_mem)
  (case hix3 => with_reducible assumption)
  (case hnx3 => omega)
  (case hcx3 => k_mem)
  (case hox3 => with_reducible assumption)
  (case hkx3 => k_mem)
  (case hsx3 => with_reducible assumption)
  intro D' h' tk' k' ys' F' N' off' hs'
  (try simp only [LCg.Off1, and_true] at off')
  k_steps
  refine' Stop.go ?_
  refine' add_pieces ?Fx4 ?Nx4 ?hlx4 ?hbx4 ?slx4 ?swx4 (fun D' c' h' us' ps' F' N' l1 hs' hok' => ?_)
  (case Fx4 => k_asm)
  (case Nx4 => k_asm)
  (case hlx4 => k_mem)
  (case hbx4 => k_mem)
  (case slx4 => with_reducible assumption)
  (case swx4 => repeat constructor)
  (try k_lt l1)
  (try k_sweep)
  k_steps
  refine' Stop.go ?_
  refine' join_pieces ?Nx5 ?hlx5 ?slx5 ?okx5 (fun x' t' k' hlen' => ?_)
  (case slx5 => with_reducible assumption)
  (case okx5 => with_reducible assumption)
  (case Nx5 => k_asm)
  (case hlx5 => k_mem)
  k_steps
  refine' Stop.go ?_
  refine' mod5 (fun hand' t' k' h0' h5' => ?_)
  k_steps
  refine' Stop.go ?_
  refine' (spelled_ok _ _ _ _ ?h0x7 ?h5x7).use ?Bx7 ?Fx7 ?Xx7 ?Nx7 ?Tx7 ?ckx7 ?px7 (fun v' new' h' tk' hpos' R' F' N' => ?_)
  (case h0x7 => with_reducible assumption)
  (case h5x7 => with_reducible assumption)
  (case Bx7 => k_asm)
  (case Fx7 => k_asm)
  (case Xx7 => k_asm)
  (case Nx7 => k_asm)
  (case Tx7 => k_asm)
  (case ckx7 => rfl)
  (case px7 => ((try dsimp only); omega))
  (obtain ⟨D', o', kvs', e1', e2', hd', hf'⟩ := R')
  (subst e1' e2')
  (try simp only [List.cons_append, List.nil_append] at N')
  (have lo' := not_mods (by k_asm) noImp N' (List.Mem.head _))
  (have ne' := cell_ne_dict hd' N' (List.Mem.head _) (by (iterate 8 refine List.Mem.tail _ ?_); exact List.Mem.head _) (by assumption))
  k_steps
  refine' Stop.go ?_
  refine' (write_str _ _ _ _ _ _ ?hlx8 ?h0x8 ?h5x8).use ?Bx8 ?Fx8 ?Xx8 ?Nx8 ?Tx8 ?ckx8 ?px8 (fun v' new' h' tk' hpos' R' F' N' => ?_)
  (case hlx8 => with_reducible assumption)
  (case h0x8 => with_reducible assumption)
  (case h5x8 => with_reducible assumption)
  (case Bx8 => k_asm)
  (case Fx8 => k_asm)
  (case Xx8 => k_asm)
  (case Nx8 => k_asm)
  (case Tx8 => k_asm)
  (case ckx8 => rfl)
  (case px8 => ((try dsimp only); omega))
  (obtain ⟨e1', t', e2'⟩ := R')
  (subst e1' e2')
  (try simp only [List.cons_append, List.nil_append] at N')
  k_steps
  refine' Stop.go ?_
  refine' lc_spell ?hfpx9 ?Fx9 ?hhx9 ?hclosx9 ?hcellx9 ?hkindx9 ?hnamesx9 ?hxx9 ?hcx9 ?_ ?k1x9 ?k2x9 ?k3x9 ?k4x9 ?hbx9 ?hsx9
  (case hfpx9 => with_reducible assumption)
  (case Fx9 => k_asm)
  (case hhx9 => rfl)
  (case hclosx9 => with_unfolding_all rfl)
  (case hcellx9 => decide)
  (case hkindx9 => rfl)
  (case hnamesx9 => decide)
  (case hxx9 => rfl)
  (case hcx9 => rfl)
  (case k1x9 => exact fun _ => rfl)
  (case k2x9 => exact fun _ => rfl)
  (case k3x9 => exact fun _ => rfl)
  (case k4x9 => exact fun _ => rfl)
  (case hbx9 => with_unfolding_all rfl)
  (case hsx9 => exact fun _ => rfl)
  k_steps
  refine' SpSrc.intro ?hxx10 ?Fx10 ?Nx10 ?hcx10 ?hox10 ?Tx10 ?_
  (case hxx10 => with_reducible assumption)
  (case Fx10 => k_asm)
  (case Nx10 => k_asm)
  (case hcx10 => k_mem)
  (case hox10 => with_reducible assumption)
  (case Tx10 =>
    refine' tab_news ?hmx10 ?hdx10 ?hfx10 ?lox10
    (case hfx10 => with_reducible assumption)
    (case hdx10 => with_reducible assumption)
    (case hmx10 => k_mem)
    (case lox10 => with_reducible assumption))
  intro D' h' tk' k' ys' F' N' off' hs'
  (try simp only [LCg.Off1, and_true] at off')
  k_steps
  refine' Stop.go ?_
  refine' join_strs ?h0x11 ?h5x11 ?hxx11 ?Nx11 ?hlx11 ?slx11 (fun t' k' => ?_)
  (case slx11 => with_reducible assumption)
  (case h0x11 => with_reducible assumption)
  (case h5x11 => with_reducible assumption)
  (case hxx11 => with_reducible assumption)
  (case Nx11 => k_asm)
  (case hlx11 => k_mem)
  k_steps
  refine' Stop.go ?_
  refine' ne_str_same ?_
  k_steps
  refine' Stop.go ?_
  refine' (found_ok _ _ _ _ ?hlx13).use ?Bx13 ?Fx13 ?Xx13 ?Nx13 ?Tx13 ?ckx13 ?px13 (fun v' new' h' tk' hpos' R' F' N' => ?_)
  (case hlx13 => exact Nat.le_trans (esc_length (by assumption) (by assumption) _) (by omega))
  (case Bx13 => k_asm)
  (case Fx13 => k_asm)
  (case Xx13 => k_asm)
  (case Nx13 => k_asm)
  (case Tx13 => k_asm)
  (case ckx13 => rfl)
  (case px13 => ((try dsimp only); omega))
  (obtain ⟨D', vs', nn', e1', e2', hi'⟩ := R')
  (subst e1' e2')
  (try simp only [List.cons_append, List.nil_append] at N')
  k_steps
  refine' Stop.go ?_
  refine' (due_ok _ _ _ _ _ _ _ _ ?hlx14 ?hmx14 ?hdix14 ?hfx14 ?htx14).use ?Bx14 ?Fx14 ?Xx14 ?Nx14 ?Tx14 ?ckx14 ?px14 (fun v' new' h' tk' hpos' R' F' N' => ?_)
  (case hlx14 => exact Nat.le_trans (by with_reducible assumption) (by decide))
  (case Nx14 => k_asm)
  (case hdix14 => with_reducible assumption)
  (case hfx14 => with_reducible assumption)
  (case hmx14 => k_mem)
  (case htx14 => exact spTab_len _)
  (case Bx14 => k_asm)
  (case Fx14 => k_asm)
  (case Xx14 => k_asm)
  (case Tx14 => k_asm)
  (case ckx14 => rfl)
  (case px14 => ((try dsimp only); omega))
  (obtain ⟨D', vs', nn', e1', e2', hi'⟩ := R')
  (subst e1' e2')
  (try simp only [List.cons_append, List.nil_append] at N')
  k_steps
  refine' Stop.go ?_
  refine' ne_ints_same (ns := foundF _) (ms := dueF _ _) ?Nx15 ?hax15 ?hbx15 ?hix15 ?hjx15 ?ex15 ?hux15 ?_
  (case Nx15 => k_asm)
  (case hax15 => k_mem)
  (case hbx15 => k_mem)
  (case hix15 => with_reducible assumption)
  (case hjx15 => with_reducible assumption)
  (case ex15 => exact pure_law (by assumption) (by assumption) _)
  (case hux15 => units_room)
  k_steps
  refine' Stop.go ?_
  refine' lc_eof ?Fx16 ?Xx16 ?Tx16 ?hroomx16 ?hgx16 ?hhx16 ?hclosx16 ?hcellx16 ?hkindx16 ?hnamesx16 ?hxx16 ?_ ?k1x16 ?k2x16 ?k3x16 ?hsx16
  (case Fx16 => k_asm)
  (case hhx16 => rfl)
  (case hclosx16 => with_unfolding_all rfl)
  (case hcellx16 => decide)
  (case hkindx16 => rfl)
  (case hnamesx16 => decide)
  (case hxx16 => rfl)
  (case Xx16 => k_asm)
  (case Tx16 => k_asm)
  (case hroomx16 => k_room)
  (case hgx16 => rfl)
  (case k1x16 => exact fun _ => rfl)
  (case k2x16 => exact fun _ => rfl)
  (case k3x16 => exact fun _ => rfl)
  (case hsx16 => exact fun _ => rfl)
  k_steps
  refine' ZSrc.intro ?hlx17 ?hix17 ?hnx17 ?Fx17 ?Nx17 ?_
  (case Fx17 => k_asm)
  (case Nx17 => k_asm)
  (case hlx17 => k_mem)
  (case hix17 => with_reducible assumption)
  (case hnx17 => first | (rw [foundF_length]; decide) | (rw [dueF_length]; decide))
  intro D' h' tk' k' F' N' off'
  (try simp only [LCg.Off1, and_true] at off')
  k_steps
  refine' Stop.go ?_
  refine' lc_zero ?Fx18 ?hhx18 ?hclosx18 ?hcellx18 ?hkindx18 ?hnamesx18 ?hxx18 ?_ ?k1x18 ?k2x18 ?hbx18 ?hsx18
  (case Fx18 => k_asm)
  (case hhx18 => rfl)
  (case hclosx18 => with_unfolding_all rfl)
  (case hcellx18 => decide)
  (case hkindx18 => rfl)
  (case hnamesx18 => decide)
  (case hxx18 => rfl)
  (case k1x18 => exact fun _ => rfl)
  (case k2x18 => exact fun _ => rfl)
  (case hbx18 => with_unfolding_all rfl)
  (case hsx18 => exact fun _ => rfl)
  k_steps
  refine' ZSrc.intro ?hlx19 ?hix19 ?hnx19 ?Fx19 ?Nx19 ?_
  (case Fx19 => k_asm)
  (case Nx19 => k_asm)
  (case hlx19 => k_mem)
  (case hix19 => with_reducible assumption)
  (case hnx19 => first | (rw [foundF_length]; decide) | (rw [dueF_length]; decide))
  intro D' h' tk' k' F' N' off'
  (try simp only [LCg.Off1, and_true] at off')
  k_steps
  refine' Stop.go ?_
  refine' ne_bools_same ?Nx20 ?hax20 ?hbx20 ?ex20 ?hux20 ?_
  (case Nx20 => k_asm)
  (case hax20 => k_mem)
  (case hbx20 => k_mem)
  (case ex20 => exact pure_law (by assumption) (by assumption) _)
  (case hux20 => units_room)
  k_steps
  refine' Stop.go ?_
  refine' list_strs ?Fx21 ?Nx21 ?hmx21 ?hix21 ?hnx21 ?_
  (case Fx21 => k_asm)
  (case Nx21 => k_asm)
  (case hmx21 => k_mem)
  (case hix21 => with_reducible assumption)
  (case hnx21 => exact Nat.le_trans (pieces_len (by assumption)) (by decide))
  intro D' c' h' F' N' l1
  (try k_lt l1)
  (try k_sweep)
  k_steps
  refine' Stop.go ?_
  refine' (writeL_ok _ _ _ _ _ _ _ _ ?hlx22 ?h1x22 ?hrx22 ?hmx22 ?hsx22 ?h0x22 ?h5x22).use ?Bx22 ?Fx22 ?Xx22 ?Nx22 ?Tx22 ?ckx22 (fun v' h' tk' R' F' N' => ?_) (fun e' e0' o0' v0' g' h' tk' nf' F' U' d0' z0' off' R' => ?_)
  (case Nx22 => k_asm)
  (case hmx22 => k_mem)
  (case hsx22 => with_reducible assumption)
  (case hlx22 => exact pieces_len (by assumption))
  (case h1x22 => exact pieces_one (by assumption))
  (case hrx22 => exact pieces_repr (by assumption))
  (case h0x22 => with_reducible assumption)
  (case h5x22 => with_reducible assumption)
  (case Bx22 => k_asm)
  (case Fx22 => k_asm)
  (case Xx22 => k_asm)
  (case Tx22 => k_asm)
  (case ckx22 => rfl)
  (obtain ⟨e1', free'⟩ := R')
  (subst e1')
  · k_steps
    refine' Stop.go ?_
    refine' eq_copy ?Nx22 ?hax22 ?hbx22 ?hux22 ?_
    (case Nx22 => k_asm)
    (case hax22 => k_mem)
    (case hbx22 => k_mem)
    (case hux22 => units_room)
    k_steps
    refine' Stop.go ?_
    refine' lc_filter ?hfpx23 ?Fx23 ?hhx23 ?hclosx23 ?hcellx23 ?hkindx23 ?hnamesx23 ?hxx23 ?hcx23 ?_ ?k1x23 ?k2x23 ?k3x23 ?k4x23 ?hbx23 ?hsx23
    (case hfpx23 => with_reducible assumption)
    (case hhx23 => rfl)
    (case Fx23 => k_asm)
    (case hclosx23 => with_unfolding_all rfl)
    (case hcellx23 => decide)
    (case hkindx23 => rfl)
    (case hnamesx23 => decide)
    (case hxx23 => rfl)
    (case hcx23 => rfl)
    (case k1x23 => exact fun _ => rfl)
    (case k2x23 => exact fun _ => rfl)
    (case k3x23 => exact fun _ => rfl)
    (case k4x23 => exact fun _ => rfl)
    (case hbx23 => with_unfolding_all rfl)
    (case hsx23 => exact fun _ => rfl)
    k_steps
    refine' FlSrc.intro ?hlx24 ?svx24 ?hxx24 ?Fx24 ?Nx24 ?hcx24 ?hox24 ?Tx24 ?_
    (case Fx24 => k_asm)
    (case Nx24 => k_asm)
    (case hlx24 => k_mem)
    (case svx24 => with_reducible assumption)
    (case hxx24 => exact Nat.le_trans (pieces_len (by assumption)) (by decide))
    (case hcx24 => k_mem)
    (case hox24 => with_reducible assumption)
    (case Tx24 =>
      refine' tab_news ?hmx24 ?hdx24 ?hfx24 ?lox24
      (case hfx24 => with_reducible assumption)
      (case hdx24 => with_reducible assumption)
      (case hmx24 => k_mem)
      (case lox24 => with_reducible assumption))
    intro D' h' tk' k' ys' F' N' off' hs'
    (try simp only [LCg.Off1, and_true] at off')
    k_steps
    refine' Stop.go ?_
    refine' eq_free ?Nx25 ?hax25 ?hbx25 ?hvx25 ?hnx25 ?okx25 ?frx25 ?hux25 ?_
    (case Nx25 => k_asm)
    (case hax25 => k_mem)
    (case hbx25 => k_mem)
    (case hvx25 => with_reducible assumption)
    (case hnx25 => exact StrsAre.nil)
    (case okx25 => with_reducible assumption)
    (case frx25 => with_reducible assumption)
    (case hux25 => units_room)
    k_steps
  · k_steps
    refine' Stop.go ?_
    refine' caughtC2 ?Kx26 ?Fx26 ?ux26 ?Rx26 ?dx26 ?zx26 ?Xx26 ?Tx26 ?hnx26 ?hvx26 ?hkx26 ?hxx26 (fun h' oe' F' N' Ch' => ?_) ?hEx26
    (case Rx26 => with_reducible assumption)
    (case Kx26 => k_asm)
    (case ux26 => with_reducible assumption)
    (case Fx26 => with_reducible assumption)
    (case dx26 => with_reducible assumption)
    (case zx26 => with_reducible assumption)
    (case Xx26 => k_asm)
    (case Tx26 => k_asm)
    (case hnx26 => k_is)
    (case hvx26 => exact PyProof.Rows.Boot.«TypeError»)
    (case hkx26 => rfl)
    (case hxx26 => rfl)
    (case hEx26 => passes_own)
    k_steps
    refine' Stop.go ?_
    refine' lc_filterH ?hfpx27 ?Chx27 ?Fx27 ?hhx27 ?hclosx27 ?hcellx27 ?hkindx27 ?hnamesx27 ?hxx27 ?hcx27 ?_ ?k1x27 ?k2x27 ?k3x27 ?k4x27 ?hbx27 ?hsx27
    (case hfpx27 => with_reducible assumption)
    (case Chx27 => with_reducible assumption)
    (case Fx27 => k_asm)
    (case hhx27 => rfl)
    (case hclosx27 => with_unfolding_all rfl)
    (case hcellx27 => decide)
    (case hkindx27 => rfl)
    (case hnamesx27 => decide)
    (case hxx27 => rfl)
    (case hcx27 => rfl)
    (case k1x27 => exact fun _ => rfl)
    (case k2x27 => exact fun _ => rfl)
    (case k3x27 => exact fun _ => rfl)
    (case k4x27 => exact fun _ => rfl)
    (case hbx27 => with_unfolding_all rfl)
    (case hsx27 => exact fun _ => rfl)
    k_steps
    refine' ⟨?g1x28, ?g2x28, ?_⟩
    (case g1x28 => exact News.get (by k_asm) (by k_mem))
    (case g2x28 => exact News.get (by k_asm) (by k_mem))
    refine' FlSrc.intro ?hlx28 ?svx28 ?hxx28 ?Fx28 ?Nx28 ?hcx28 ?hox28 ?Tx28 ?_
    (case Fx28 => k_asm)
    (case Nx28 => k_asm)
    (case hlx28 => k_mem)
    (case svx28 => with_reducible assumption)
    (case hxx28 => exact Nat.le_trans (pieces_len (by assumption)) (by decide))
    (case hcx28 => k_mem)
    (case hox28 => with_reducible assumption)
    (case Tx28 =>
      refine' tab_news ?hmx28 ?hdx28 ?hfx28 ?lox28
      (case hfx28 => with_reducible assumption)
      (case hdx28 => with_reducible assumption)
      (case hmx28 => k_mem)
      (case lox28 => with_reducible assumption))
    intro D' h' tk' k' ys' F' N' off' hs'
    (try simp only [LCg.Off1, and_true] at off')
    k_steps
    refine' Stop.go ?_
    refine' ne_not_free ?Nx29 ?hax29 ?hbx29 ?hvx29 ?hnx29 ?okx29 ?frx29 ?hux29 ?_
    (case Nx29 => k_asm)
    (case hax29 => k_mem)
    (case hbx29 => k_mem)
    (case hvx29 => with_reducible assumption)
    (case hnx29 => exact StrsAre.nil)
    (case okx29 => with_reducible assumption)
    (case frx29 => with_reducible assumption)
    (case hux29 => units_room)
    k_steps)
end Mine
end
set_option maxRecDepth 100000 in
set_option maxHeartbeats 8000000 in
theorem PySem.Challenge.cw_pg0200_01_holds : PySem.Challenge.rw_pg0200_01.Holds := by
  exact Mine.lawW
