import PyProof.Rows.All
import Wide.All
import OpenK.AllK
import Wide.FinOn
import PySem.Challenge.RW_ta0005_01
open PySem PySem.W PyProof.Rows
set_option Elab.async false
set_option maxRecDepth 100000
namespace Mine

/-- what the generator yields, from the index i on, the flag e up or down -/
def escGo : List Nat → Nat → Bool → List (Nat × List Nat)
  | [], i, e => if e then [(i - 1, [92])] else []
  | c :: cs, i, true => (i, [92, c]) :: escGo cs (i + 1) false
  | c :: cs, i, false => if c = 92 then escGo cs (i + 1) true else (i, [c]) :: escGo cs (i + 1) false

/-- the written text's statements -/
def stmAt (i : Nat) : Stmt := (PySem.Challenge.pw_ta0005_01.main.body[i]?).getD (.Pass default)
def bodyOf (s : Stmt) : List Stmt := match s with
  | .FunctionDef _ _ b .. => b
  | _ => []
def scopeOf (s : Stmt) : Scope := match s with
  | .FunctionDef _ _ _ _ _ _ sc .. => sc
  | _ => default

section
variable {prog : Program} {w : World} {A : Around} {R : GenEnd} {Y : Protocol} {n : Nat} {s₀ : Shared} {c : Code} {fs : List Frame} {s : Shared} {env : Env}
  {K : Flow → Sem Fin} {H : Value → Sem Fin} {gd : Bool → Bool} {lv : List Value → List Value}

/-- no exception is at hand -/
abbrev NoE : Value → Shared → Prop := fun _ _ => False

theorem seg_pl {α : Type} {m : Sem α} {K : α → Sem Fin} {H : Value → Sem Fin} {gd lv}
    (h : wpAny (model prog w) (A.over c fs) m (fun a s' => Seg (model prog w) A R Y n s₀ c (K a) fs s') NoE s) :
    Seg (model prog w) A R Y n s₀ c (m.wrap K H gd lv) fs s :=
  seg_wrap (wpAny_mono h (fun _ _ x => x) fun _ _ x => x.elim)

theorem seg_bw {α β : Type} {m : Sem α} {K : α → Sem β} {K' : β → Sem Fin} {H' : Value → Sem Fin} {gd lv}
    (h : wpAny (model prog w) (A.over c fs) m (fun a s' => Seg (model prog w) A R Y n s₀ c ((K a).wrap K' H' gd lv) fs s') NoE s) :
    Seg (model prog w) A R Y n s₀ c ((m >>= K).wrap K' H' gd lv) fs s :=
  seg_bind_wrap (wpAny_mono h (fun _ _ x => x) fun _ _ x => x.elim)

/-- a statement without a yield -/
theorem seg_plain {st : Stmt} {rest : List Stmt}
    (h : wpAny (model prog w) (A.over c fs) (exec st env) (fun f s' => f = .next ∧ Seg (model prog w) A R Y n s₀ c ((execs rest env).wrap K H gd lv) fs s') NoE s) :
    Seg (model prog w) A R Y n s₀ c ((execs (st :: rest) env).wrap K H gd lv) fs s := by
  rw [execs_cons_wrap]
  refine seg_pl (wpAny_mono h (fun f s' h' => ?_) fun _ _ x => x)
  obtain ⟨rfl, h'⟩ := h'
  exact h'

theorem seg_If {test : Expr} {body orelse : List Stmt} {pos : Pos}
    (h : wpAny (model prog w) (A.over c fs) (isTrue test env (eval test env)) (fun b s' => if b = true then Seg (model prog w) A R Y n s₀ c ((execs body env).wrap K H gd lv) fs s' else Seg (model prog w) A R Y n s₀ c ((execs orelse env).wrap K H gd lv) fs s') NoE s) :
    Seg (model prog w) A R Y n s₀ c ((exec (.If test body orelse pos) env).wrap K H gd lv) fs s := by
  rw [exec_If]
  refine seg_bw (wpAny_standAt ?_)
  refine seg_bw (wpAny_mono h (fun b s' h' => ?_) fun _ _ x => x)
  cases b with
  | true => rw [if_pos rfl] at h'; rw [if_pos rfl]; exact h'
  | false => rw [if_neg Bool.false_ne_true] at h'; rw [if_neg Bool.false_ne_true]; exact h'

theorem seg_For {target iter : Expr} {body orelse : List Stmt} {pos : Pos} (hs : ∀ x, foldedSetIterable iter env x = pure x)
    (h : wpAny (model prog w) (A.over c fs) (eval iter env) (fun x s₁ => wpAny (model prog w) (A.over c fs) (pyIter x) (fun it s₂ =>
      ∀ p, Seg (model prog w) A R Y n s₀ (.forLoop target it body orelse env) ((model prog w).den (.forLoop target it body orelse env))
        (.ret (fun r => ((match r with | .ok f => (.pure f : Sem Flow) | .error e => .raise e).onRaise fun (x : Value) => do
          if (← field x 1) == Value.none then unsupported "frame.own-activation:exception-without-traceback"
          setFlight x env.frame).wrap K H gd lv) none (gd false) (lv []) c p [] :: fs) s₂) NoE s₁) NoE s) :
    Seg (model prog w) A R Y n s₀ c ((exec (.For target iter body orelse pos) env).wrap K H gd lv) fs s := by
  rw [exec_For]
  refine seg_bw (wpAny_standAt ?_)
  refine seg_bw (wpAny_mono h (fun x s₁ h₁ => ?_) fun _ _ x => x)
  refine seg_bw (wpAny_of_eq (hs x) ?_)
  refine seg_bw (wpAny_standAt ?_)
  refine seg_bw (wpAny_holding (wpAny_mono h₁ (fun it s₂ h₂ => ?_) fun _ _ x => x))
  exact seg_call h₂

theorem seg_forLoop {target : Expr} {it : Value} {body orelse : List Stmt}
    (h : wpAny (model prog w) (A.over (.forLoop target it body orelse env) fs) (pyNext it) (fun r s₁ => match r with
      | none => Seg (model prog w) A R Y n s₀ (.block orelse env) ((model prog w).den (.block orelse env)) fs s₁
      | some v => wpAny (model prog w) (A.over (.forLoop target it body orelse env) fs) (letOwnedTupleGo target it v) (fun _ s₂ =>
          wpAny (model prog w) (A.over (.forLoop target it body orelse env) fs) (assign target env v) (fun _ s₃ =>
            Seg (model prog w) A R Y n s₀ (.forLoop target it body orelse env) ((execs body env).wrap (fun f => match f with
              | .next | .cont => .pure (.again (.forLoop target it body orelse env))
              | .brk => .pure (.done .next)
              | .ret v => .pure (.done (.ret v))) (fun e => (do noteFrame e env; theTreesLotGoes e : Sem Unit).wrap (fun _ => .raise e) .raise id id) id id) fs s₃) NoE s₂) NoE s₁) NoE s) :
    Seg (model prog w) A R Y n s₀ (.forLoop target it body orelse env) ((model prog w).den (.forLoop target it body orelse env)) fs s := by
  show Seg _ A R Y n s₀ _ ((forTurn target it body orelse env).onRaise (fun x => do noteFrame x env; theTreesLotGoes x)) fs s
  unfold forTurn
  rw [Sem.onRaise_eq_wrap]
  refine seg_bw (wpAny_standAt ?_)
  refine seg_bw (wpAny_onRaise (wpAny_mono h (fun r s₁ h₁ => ?_) fun _ _ x => x.elim))
  cases r with
  | none => exact seg_again rfl h₁
  | some v =>
    refine seg_bw (wpAny_mono h₁ (fun _ s₂ h₂ => ?_) fun _ _ x => x)
    refine seg_bw (wpAny_mono h₂ (fun _ s₃ h₃ => ?_) fun _ _ x => x)
    rw [Sem.bind_eq_wrap', Sem.wrap_wrap]
    rw [Sem.wrap_congr (execs body env) _ _ (K' := fun f => match f with
            | .next | .cont => .pure (.again (.forLoop target it body orelse env))
            | .brk => .pure (.done .next)
            | .ret v => .pure (.done (.ret v))) (H' := (fun e => (do noteFrame e env; theTreesLotGoes e : Sem Unit).wrap (fun _ => .raise e) .raise id id))
        (fun f => by cases f <;> rfl)
        (fun e => by first | exact Sem.bind_eq_wrap _ _ | (show (do noteFrame e env; theTreesLotGoes e : Sem Unit).bind (fun _ => .raise e) = _; rw [Sem.bind_eq_wrap]))]
    exact h₃

end
end Mine

open PySem PySem.W PyProof.Rows
open PySem.Calls (spliced_nil spliced_cons)
set_option Elab.async false
set_option maxRecDepth 100000
namespace Mine

section
variable {M : Model} {A : Around} {E : Value → Shared → Prop} {s : Shared} {name : Str} {scope : Scope} {L a : Addr} {cd : Value} {m : Str → Option Value}

theorem nm {x : Str} {pos : Pos} {v : Value} {Q : Value → Shared → Prop} (hn : s.heap.Ns L m) (hv : m x = some v) (h : Q v s)
    (hl : (envOf name scope L a cd).kindOf x = some .local := by rfl) (hk : scope.kind = .function := by rfl)
    (hd : (x == ("__debug__" : Str)) = false := by decide) :
    wpAny M A (eval (.Name x pos) (envOf name scope L a cd)) Q E s := wpAny_Name (wpAny_loadName_local hk hl hn hv h) hd

theorem stNm {x : Str} {v : Value} {Q : Unit → Shared → Prop} (hn : s.heap.Ns L m)
    (h : ∀ h', h'.Ns L (fun y => if y = x then some v else m y) → Heap.SameBut L s.heap h' → Q () { s with heap := h', toks := s.toks + 1 })
    (hl : (envOf name scope L a cd).kindOf x = some .local := by rfl) (hk : scope.kind = .function := by rfl) :
    wpAny M A (storeName (envOf name scope L a cd) x v) Q E s :=
  wpAny_storeName_local hl hn (fun h' hn hs => h h' hn hs)
    (by show (scope.kind == .class || (scope.kind == .module && L != mainGlobals)) = false; rw [hk]; rfl)
end

def KeepEx (ex : List Addr) (h h' : Heap) : Prop := ∀ b o, b ∉ ex → h.get? b = some o → h'.get? b = some o

theorem notin2 {b e it : Nat} (h1 : b ≠ e) (h2 : b ≠ it) : b ∉ [e, it] := by simp [h1, h2]
theorem neOf {b N₀ a L : Nat} (hb : b < N₀ ∨ b = a) (hL : N₀ ≤ L) (hLa : L ≠ a) : b ≠ L := by omega
/-- what the generator changes: nothing that stood when it was made, nor itself -/
def GenCh (N₀ a : Nat) (s₀ s : Shared) : Prop :=
  ∃ h' tk, s = { s₀ with heap := h', toks := tk } ∧ ∀ (b : Nat) (o : Obj), (b < N₀ ∨ b = a) → s₀.heap.get? b = some o → h'.get? b = some o
theorem GenCh.refl (N₀ a : Nat) (s : Shared) : GenCh N₀ a s s := ⟨s.heap, s.toks, rfl, fun _ _ _ e => e⟩
theorem GenCh.step {N₀ a : Nat} {s₀ s : Shared} (x : GenCh N₀ a s₀ s) {h' : Heap} {tk : Nat} (hk : ∀ (b : Nat) (o : Obj), (b < N₀ ∨ b = a) → s.heap.get? b = some o → h'.get? b = some o) :
    GenCh N₀ a s₀ { s with heap := h', toks := tk } := by
  obtain ⟨h₁, tk₁, rfl, hk₁⟩ := x
  exact ⟨h', tk, rfl, fun b o hb e => hk b o hb (hk₁ b o hb e)⟩

def proto (toks : List (Nat × List Nat)) (N₀ a : Nat) (ex : List Addr) : Protocol := fun m s₀ v s kap =>
  (∃ p cc T t u, toks[toks.length - 1 - m]? = some (p, cc) ∧ v = .ref T ∧ s.heap.IsTuple T #[.int (p : Nat) t, .str ⟨cc.toArray⟩ u]) ∧ GenCh N₀ a s₀ s ∧
    ∀ s'' : Shared, KeepEx ex s.heap s''.heap → kap (.send .none) s''

theorem tok_at {α : Type} {toks pre : List α} {y : α} {rest : List α} (h : toks = pre ++ y :: rest) : toks[toks.length - 1 - rest.length]? = some y := by
  subst h
  have : (pre ++ y :: rest).length - 1 - rest.length = pre.length := by simp
  rw [this, List.getElem?_append_right (Nat.le_refl _), Nat.sub_self]; rfl

def genR (N₀ a : Nat) : GenEnd := fun n s₀ r s₁ => r = .ok (.ret .none) ∧ (n = 0 ∧ GenCh N₀ a s₀ s₁)

def gSc : Scope := scopeOf (stmAt 1)
def gBody : List Stmt := bodyOf (stmAt 1)
def forParts (s : Stmt) : Expr × List Stmt := match s with
  | .For t _ b _ _ => (t, b)
  | _ => (.Name "" default, [])
def gFor : Expr × List Stmt := forParts (gBody[2]?.getD (.Pass default))

section
variable {prog : Program} {w : World} {A : Around} {n : Nat} {s₀ : Shared} {s : Shared}

theorem gen_loop {x : Str} {toks : List (Nat × List Nat)} {e it N₀ a L f : Nat} {ex : List Addr} {nme : Str} {cd : Value} {St : Nat → Heap → Prop} {Mid : Nat → Addr → Heap → Prop}
    {kk : Result → Sem PySem.Fin} {l0 : List Value} {c0 : Code} {p0 : Pos} {kp : List Value}
    (hh : A.handled = none) (hL : N₀ ≤ L) (hLa : L ≠ a) (he : N₀ ≤ e ∧ e ≠ a ∧ e ≠ L) (hi : N₀ ≤ it ∧ it ≠ a ∧ it ≠ L) (hex : ∀ b : Nat, b ∈ ex → b < N₀)
    (W : ∀ A' : Around, A'.handled = none → WalksT prog w A' e [e, it] [e, it] x.cps.size (fun i vals => ∃ t c u, x.cps[i]? = some c ∧ vals = #[.int i t, .str ⟨#[c]⟩ u]) St Mid)
    (hend : ∀ s₀ s m b tp, s.heap.Ns L m → m "escape" = some (.bool b) → m "pos" = some (.int ((x.cps.size - 1 : Nat)) tp) → GenCh N₀ a s₀ s → (∃ pre, toks = pre ++ escGo [] x.cps.size b) →
      Seg (model prog w) A (genR N₀ a) (proto toks N₀ a ex) (escGo [] x.cps.size b).length s₀ c0 (kk (.ok .next)) [] s) :
    ∀ (k i : Nat) (b : Bool) (pre : List (Nat × List Nat)) (s₀ s : Shared) (m : Str → Option Value) (tp : Tok), x.cps.size - i = k → i ≤ x.cps.size → toks = pre ++ escGo (x.cps.toList.drop i) i b →
      St i s.heap → s.heap.Ns L m → m "escape" = some (.bool b) → m "pos" = some (.int ((i - 1 : Nat)) tp) → GenCh N₀ a s₀ s →
      Seg (model prog w) A (genR N₀ a) (proto toks N₀ a ex) (escGo (x.cps.toList.drop i) i b).length s₀ (.forLoop gFor.1 (.ref e) gFor.2 [] (envOf nme gSc L f cd))
        ((model prog w).den (.forLoop gFor.1 (.ref e) gFor.2 [] (envOf nme gSc L f cd))) [.ret kk none false l0 c0 p0 kp] s := by
  intro k
  induction k with
  | zero =>
    intro i b pre s₀ s m tp hk hle htoks hst hn hes hpo hch
    have hiz : i = x.cps.size := by omega
    subst hiz
    have hdrop : x.cps.toList.drop x.cps.size = [] := List.drop_eq_nil_of_le (by simp)
    rw [hdrop] at htoks ⊢
    refine seg_forLoop ((W _ (by exact hh)).done s _ _ hst fun h' tk hk' => ?_)
    refine seg_leaf (.ok .next) ?_
    exact hend s₀ _ m b tp (hn.at' fun o q => hk' L o (by simp [Ne.symm he.2.2, Ne.symm hi.2.2]) q) hes hpo
      (hch.step fun b o hb q => hk' b o (notin2 (by omega) (by omega)) q) ⟨pre, htoks⟩
  | succ k ih =>
    intro i b pre s₀ s m tp hk hle htoks hst hn hes hpo hch
    have hlt : i < x.cps.size := by omega
    refine seg_forLoop ((W _ (by exact hh)).item i s _ _ hlt hst fun T vals h₁ tk₁ hP hT₀ hT hM hk₁ => ?_)
    obtain ⟨t, c, u, hc, rfl⟩ := hP
    have hTw := (W A hh).apart _ _ _ hM
    refine (W _ (by exact hh)).go _ _ _ i T _ _ _ hM fun h₂ hst₂ hk₂ => ?_
    have hT₂ : h₂.IsTuple T #[.int i t, .str ⟨#[c]⟩ u] := let ⟨o, ho, r⟩ := hT; ⟨o, hk₂ T o hTw ho, r⟩
    have hLw : L ∉ [e, it] := notin2 (by omega) (by omega)
    have hn₂ : h₂.Ns L m := (hn.at' fun o q => hk₁ L o hLw q).at' fun o q => hk₂ L o hLw q
    refine wpAny_assign_Tuple (by exact hh) hT₂ rfl rfl fun h₃ hx₃ => ?_
    have hLz : L < h₂.objs.size := hn₂.lt
    have hn₃ : h₃.Ns L m := hn₂.at' fun o q => hx₃ L o (Nat.ne_of_lt hLz) q
    refine wpAny_bind (wpAny_holding (wpAny_assign_Name (stNm hn₃ fun h₄ hn₄ hs₄ => ?_)))
    refine wpAny_bind (wpAny_holding (wpAny_assign_Name (stNm hn₄ fun h₅ hn₅ hs₅ => wpAny_pure ?_)))
    have up : ∀ (b : Nat) (o : Obj), b < s.heap.objs.size → b ∉ [e, it] → b ≠ L → s.heap.get? b = some o → h₅.get? b = some o := fun b o hb hw hbL q =>
      hs₅.extBut b o hbL (hs₄.extBut b o hbL (hx₃ b o (Nat.ne_of_lt (Heap.lt_size (hk₂ b o hw (hk₁ b o hw q)))) (hk₂ b o hw (hk₁ b o hw q))))
    have hch₅ : ∀ tk, GenCh N₀ a s₀ { s with heap := h₅, toks := tk } := fun tk => hch.step fun b o hb q =>
      up b o (Heap.lt_size q) (notin2 (by omega) (by omega)) (by omega) q
    have hst₅ : St (i + 1) h₅ := (W A hh).frame _ _ _ hst₂ fun b hb o q => by
      have hbL : b ≠ L := fun z => hLw (z ▸ hb)
      exact hs₅.extBut b o hbL (hs₄.extBut b o hbL (hx₃ b o (Nat.ne_of_lt (Heap.lt_size q)) q))
    have hdrop : x.cps.toList.drop i = c :: x.cps.toList.drop (i + 1) := by
      obtain ⟨_, he⟩ := Array.getElem?_eq_some_iff.mp hc
      rw [List.drop_eq_getElem_cons (by simpa using hlt)]
      simp [he]
    rw [hdrop] at htoks ⊢
    refine seg_execs_cons (seg_If (wpAny_isTrue_value (nm hn₅ hes (wpAny_truthy_bool ?_))))
    cases b with
    | true =>
      rw [if_pos rfl]
      refine seg_execs_cons (seg_Expr_Yield rfl rfl rfl ?_)
      refine wpAny_Tuple_spliced (spliced_cons (nm hn₅ rfl (spliced_cons (wpAny_BinOp (wpAny_Constant_str (nm hn₅ rfl (PyProof.Rows.add_str (fun t' tk' => spliced_nil ⟨by size_fits, ?_⟩) (by rw [sizeLine_eq]; show 1 + 1 ≤ _; omega))))))))
      intro kap hkap
      refine ⟨⟨i, [92, c], _, t, t', ?_, rfl, ⟨_, Heap.get?_push_size _ rfl, rfl, _, rfl⟩⟩, hch.step fun b o hb q => Heap.get?_push_of_some _ (up b o (Heap.lt_size q) (notin2 (by omega) (by omega)) (by omega) q), fun s'' hal => hkap _ _ ?_⟩
      · exact tok_at htoks
      · have hal' : ∀ (b : Nat) (o : Obj), N₀ ≤ b → h₅.get? b = some o → s''.heap.get? b = some o := fun b o hb q => hal b o (fun hm => by have := hex b hm; omega) (Heap.get?_push_of_some _ q)
        refine seg_plain (wpAny_Assign_Name (wpAny_Constant_bool (stNm (hn₅.at' fun o q => hal' L o hL q) fun h₆ hn₆ hs₆ => ⟨rfl, ?_⟩)))
        refine seg_again rfl (ih (i + 1) false (pre ++ [(i, [92, c])]) s'' _ _ t (by omega) (by omega) (by rw [htoks]; simp [escGo]) ?_ hn₆ rfl rfl ?_)
        · exact (W A hh).frame _ _ _ hst₅ fun b hb o q => hs₆.extBut b o (fun z => hLw (z ▸ hb)) (hal' b o (by rcases List.mem_cons.mp hb with rfl | hb; exact he.1; rw [List.mem_singleton.mp hb]; exact hi.1) q)
        · exact (GenCh.refl N₀ a s'').step fun b o hb q => hs₆.extBut b o (neOf hb hL hLa) q
    | false =>
      rw [if_neg Bool.false_ne_true]
      refine seg_execs_cons (seg_If (wpAny_isTrue_Compare1 (nm hn₅ rfl (wpAny_Constant_str (PyProof.Rows.eq_str (wpAny_truthy_bool ?_))))))
      by_cases hc92 : c = 92
      · subst hc92
        rw [show ((⟨#[92]⟩ : Str) == Str.ofString "\\") = true from by decide +kernel, if_pos rfl]
        refine seg_plain (wpAny_Assign_Name (wpAny_Constant_bool (stNm hn₅ fun h₆ hn₆ hs₆ => ⟨rfl, ?_⟩)))
        have e92 : escGo (92 :: x.cps.toList.drop (i + 1)) i false = escGo (x.cps.toList.drop (i + 1)) (i + 1) true := rfl
        rw [e92] at htoks ⊢
        refine seg_again rfl (ih (i + 1) true pre s₀ _ _ t (by omega) (by omega) htoks ?_ hn₆ rfl rfl ?_)
        · exact (W A hh).frame _ _ _ hst₅ fun b hb o q => hs₆.extBut b o (fun z => hLw (z ▸ hb)) q
        · exact hch.step fun b o hb q => hs₆.extBut b o (neOf hb hL hLa) (up b o (Heap.lt_size q) (notin2 (by omega) (by omega)) (by omega) q)
      · have hne : ((⟨#[c]⟩ : Str) == Str.ofString "\\") = false := by
          rw [show Str.ofString "\\" = ⟨#[92]⟩ from by decide +kernel]
          simpa using hc92
        rw [hne, if_neg Bool.false_ne_true]
        have eN : escGo (c :: x.cps.toList.drop (i + 1)) i false = (i, [c]) :: escGo (x.cps.toList.drop (i + 1)) (i + 1) false := by
          show (if c = 92 then _ else _) = _
          rw [if_neg hc92]
        rw [eN] at htoks ⊢
        refine seg_execs_cons (seg_Expr_Yield rfl rfl rfl ?_)
        refine wpAny_Tuple_spliced (spliced_cons (nm hn₅ rfl (spliced_cons (nm hn₅ rfl (spliced_nil ⟨by size_fits, ?_⟩)))))
        intro kap hkap
        refine ⟨⟨i, [c], _, t, u, tok_at htoks, rfl, ⟨_, Heap.get?_push_size _ rfl, rfl, _, rfl⟩⟩, hch.step fun b o hb q => Heap.get?_push_of_some _ (up b o (Heap.lt_size q) (notin2 (by omega) (by omega)) (by omega) q), fun s'' hal => hkap _ _ ?_⟩
        have hal' : ∀ (b : Nat) (o : Obj), N₀ ≤ b → h₅.get? b = some o → s''.heap.get? b = some o := fun b o hb q => hal b o (fun hm => by have := hex b hm; omega) (Heap.get?_push_of_some _ q)
        refine seg_again rfl (ih (i + 1) false (pre ++ [(i, [c])]) s'' _ _ t (by omega) (by omega) (by rw [htoks]; simp) ?_ (hn₅.at' fun o q => hal' L o hL q) hes rfl (GenCh.refl N₀ a s''))
        exact (W A hh).frame _ _ _ hst₅ fun b hb o q => hal' b o (by rcases List.mem_cons.mp hb with rfl | hb; exact he.1; rw [List.mem_singleton.mp hb]; exact hi.1) q
end
end Mine

open PySem PySem.W PyProof.Rows
open PySem.Calls (spliced_nil spliced_cons)
set_option Elab.async false
set_option maxRecDepth 100000
namespace Mine

def nameOf (s : Stmt) : Str := match s with
  | .FunctionDef n .. => n
  | _ => ""
def paramsOf (s : Stmt) : Arguments := match s with
  | .FunctionDef _ a .. => a
  | _ => default

/-- the def stands under its name -/
def FnAt (mg : Str → Option Value) (h : Heap) (st : Stmt) : Prop :=
  ∃ (f : Nat) (o : Obj) (pm code doc : Value), mg (nameOf st) = some (.ref f) ∧ h.get? f = some o ∧ o.data = .func (Calls.docDef (nameOf st) (paramsOf st) (bodyOf st) (scopeOf st) pm code doc) ∧ h.CodeRec code (nameOf st)

structure Gr (mg mb : Str → Option Value) (h : Heap) : Prop where
  g : h.Ns mainGlobals mg
  b : h.Ns builtinsNs mb
  nolimit : h.NoLimit
  fn : ∀ i ∈ [1, 2, 3, 4, 6, 7, 8, 9], FnAt mg h (stmAt i)
  bn : ∀ x ∈ (["enumerate", "range", "sum", "len", "list"] : List Str), mg x = none ∧ mb x = bootBuiltins x

abbrev Keep (h h' : Heap) : Prop := ∀ b o, h.get? b = some o → h'.get? b = some o

theorem FnAt.keeps {mg : Str → Option Value} {h h' : Heap} {st : Stmt} (x : FnAt mg h st) (hk : Keep h h') : FnAt mg h' st :=
  let ⟨f, o, pm, code, doc, h1, h2, h3, h4⟩ := x; ⟨f, o, pm, code, doc, h1, hk _ _ h2, h3, h4.keeps hk⟩
theorem Gr.keeps {mg mb : Str → Option Value} {h h' : Heap} (x : Gr mg mb h) (hk : Keep h h') : Gr mg mb h' :=
  ⟨x.g.keeps hk, x.b.keeps hk, x.nolimit.keeps hk, fun i hi => (x.fn i hi).keeps hk, x.bn⟩

section
variable {M : Model} {A : Around} {E : Value → Shared → Prop} {s : Shared} {name : Str} {scope : Scope} {L a : Nat} {cd : Value} {mg mb : Str → Option Value}

theorem ltL {b z N L : Nat} (hL : N ≤ L) (hz : z ≤ N) (hb : b < z) : b ≠ L := by omega
/-- a built-in's name -/
theorem bltn {x : Str} {pos : Pos} {v : Value} {Q : Value → Shared → Prop} (G : Gr mg mb s.heap) (hx : x ∈ (["enumerate", "range", "sum", "len", "list"] : List Str)) (hv : bootBuiltins x = some v) (h : Q v s)
    (hl : (envOf name scope L a cd).kindOf x = some .globalImplicit := by rfl) (hk : scope.kind = .function := by rfl)
    (hd : (x == ("__debug__" : Str)) = false := by decide) :
    wpAny M A (eval (.Name x pos) (envOf name scope L a cd)) Q E s :=
  Calls.Name_function_global hk hl (Calls.loadGlobal_builtin G.g (G.bn x hx).1 G.b ((G.bn x hx).2.trans hv) h) hd

theorem glbl {x : Str} {pos : Pos} {v : Value} {Q : Value → Shared → Prop} (G : Gr mg mb s.heap) (hv : mg x = some v) (h : Q v s)
    (hl : (envOf name scope L a cd).kindOf x = some .globalImplicit := by rfl) (hk : scope.kind = .function := by rfl)
    (hd : (x == ("__debug__" : Str)) = false := by decide) :
    wpAny M A (eval (.Name x pos) (envOf name scope L a cd)) Q E s :=
  Calls.Name_function_global hk hl (Calls.loadGlobal_global G.g hv h) hd
end

section
variable {prog : Program} {w : World} {A : Around} {s : Shared} {mg mb : Str → Option Value}

def toksOf (x : Str) : List (Nat × List Nat) := escGo x.cps.toList 0 false

theorem enumW (x : Str) (t : Tok) (e it : Nat) (hne : e ≠ it) : ∃ St Mid, (∀ A' : Around, A'.handled = none → WalksT prog w A' e [e, it] [e, it] x.cps.size (fun i vals => ∃ t c u, x.cps[i]? = some c ∧ vals = #[.int i t, .str ⟨#[c]⟩ u]) St Mid) ∧
    ∀ h : Heap, IsEnum h e it 0 .none → h.IsStrIter it (strIterType x) x t 0 → St 0 h := by
  have hP : ∀ {A' : Around} {St Mid} (W : WalksT prog w A' e (e :: [it]) [e, it] x.cps.size (fun i vals => ∃ t c, SignAt x i c ∧ vals = #[.int i t, c]) St Mid),
      WalksT prog w A' e [e, it] [e, it] x.cps.size (fun i vals => ∃ t c u, x.cps[i]? = some c ∧ vals = #[.int i t, .str ⟨#[c]⟩ u]) St Mid := fun W =>
    { sub := W.sub, frame := W.frame, go := W.go, apart := W.apart, done := W.done, self := W.self
      item := fun i s Q E hi st hQ => W.item i s Q E hi st fun T vals h' tk hP hT₀ hT hm hk => hQ T vals h' tk (let ⟨t, c, ⟨c', u, hc, hcv⟩, hv⟩ := hP; ⟨t, c', u, hc, by rw [hv, hcv]⟩) hT₀ hT hm hk }
  cases ha : x.cps.all (· < 128)
  · have hty : strIterType x = "str_iterator" := by simp [strIterType, ha]
    refine ⟨_, _, fun A' hA => hP (WalksT.enumerateD (Draws.strWide (by exact hA) it x t) e hne (by simp [hne]) (by simp)), fun h he hi => ⟨⟨_, he⟩, ?_⟩⟩
    exact hty ▸ hi
  · have hty : strIterType x = "str_ascii_iterator" := by simp [strIterType, ha]
    refine ⟨_, _, fun A' hA => hP (WalksT.enumerateD (Draws.strAscii (by exact hA) it x t) e hne (by simp [hne]) (by simp)), fun h he hi => ⟨⟨_, he⟩, ?_⟩⟩
    exact hty ▸ hi

theorem gen_seg {x : Str} {t : Tok} {N₀ a L f : Nat} {ex : List Addr} {nme : Str} {cd : Value}
    (hh : A.handled = none) (hL : N₀ ≤ L) (hLa : L ≠ a) (hex : ∀ b : Nat, b ∈ ex → b < N₀) {s₀ : Shared} {m : Str → Option Value}
    (hn : s.heap.Ns L m) (hm : m "addr" = some (.str x t)) (ha : a < s.heap.objs.size) (hN : N₀ ≤ s.heap.objs.size) {hb : Heap} (G : Gr mg mb hb) (hbk : Keep hb s.heap) (hbz : hb.objs.size ≤ N₀) (hch : GenCh N₀ a s₀ s) :
    Seg (model prog w) A (genR N₀ a) (proto (toksOf x) N₀ a ex) (toksOf x).length s₀ (.func gBody (envOf nme gSc L f cd)) ((model prog w).den (.func gBody (envOf nme gSc L f cd))) [] s := by
  refine seg_func ?_
  refine seg_plain (wpAny_Assign_Name (wpAny_Constant_int (stNm hn fun h₁ hn₁ hs₁ => ⟨rfl, ?_⟩)))
  refine seg_plain (wpAny_Assign_Name (wpAny_Constant_bool (stNm hn₁ fun h₂ hn₂ hs₂ => ⟨rfl, ?_⟩)))
  have up₂ : ∀ (b : Nat) (o : Obj), b ≠ L → s.heap.get? b = some o → h₂.get? b = some o := fun b o hb q => hs₂.extBut b o hb (hs₁.extBut b o hb q)
  have G₂ : Gr mg mb h₂ := G.keeps fun b o q => up₂ b o (ltL hL hbz (Heap.lt_size q)) (hbk b o q)
  have hz₂ : h₂.objs.size = s.heap.objs.size := hs₂.1.trans hs₁.1
  have hLz : L < s.heap.objs.size := hn.lt
  refine seg_execs_cons (seg_For (fun _ => rfl) ?_)
  refine wpAny_Call_NameR (bltn G₂ (by decide) boot_enumerate (PyProof.Rows.callWith_type rfl (Calls.evalArgs_plain (spliced_cons (nm hn₂ hm (spliced_nil ?_))))))
  refine call_enumerate_str fun h₃ he hit hz₃ hk₃ => ?_
  refine wpAny_pyIter_enum he fun p => ?_
  dsimp only at he hit hz₃ hk₃ ⊢
  obtain ⟨St, Mid, W, hst⟩ := enumW (prog := prog) (w := w) x t (h₂.objs.size + 1) h₂.objs.size (Nat.succ_ne_self _)
  refine gen_loop hh hL hLa ?_ ?_ hex W ?_ x.cps.size 0 false [] s₀ _ _ _ (Nat.sub_zero _) (Nat.zero_le _) rfl (hst _ he hit) (hn₂.keeps hk₃) rfl rfl (hch.step fun b o hb q => hk₃ b o (up₂ b o (neOf hb hL hLa) q))
  · rw [hz₂]; omega
  · rw [hz₂]; omega
  · rintro s₀ s m b tp hn hes hpo hch ⟨pre, htk⟩
    refine seg_execs_cons (seg_If (wpAny_isTrue_value (nm hn hes (wpAny_truthy_bool ?_))))
    cases b with
    | true =>
      rw [if_pos rfl]
      refine seg_execs_cons (seg_Expr_Yield rfl rfl rfl ?_)
      refine wpAny_Tuple_spliced (spliced_cons (nm hn hpo (spliced_cons (wpAny_Constant_str (k := 0) (pos := default) (spliced_nil ⟨by size_fits, ?_⟩)))))
      intro kap hkap
      refine ⟨⟨x.cps.size - 1, [92], _, tp, _, tok_at (rest := []) htk, rfl, ⟨_, Heap.get?_push_size _ rfl, rfl, _, rfl⟩⟩, hch.step fun b o hb q => Heap.get?_push_of_some _ q, fun s'' hal => hkap _ _ ?_⟩
      exact seg_end (.ok (.ret .none)) ⟨rfl, rfl, GenCh.refl _ _ _⟩
    | false =>
      rw [if_neg Bool.false_ne_true]
      exact seg_end (.ok (.ret .none)) ⟨rfl, rfl, hch⟩
end
end Mine

open PySem PySem.W PyProof.Rows
open PySem.Calls (spliced_nil spliced_cons)
set_option Elab.async false
set_option maxRecDepth 100000
namespace Mine

abbrev BareAll (gs : Array GenState) : Prop := ∀ y ∈ gs, y.bare = true
theorem bareSet {gs : Array GenState} (h : BareAll gs) (g : Nat) {x : GenState} (hx : x.bare = true) : BareAll (gs.setIfInBounds g x) := fun y hy => by
  rcases Array.mem_or_eq_of_mem_setIfInBounds hy with q | q
  · exact h y q
  · exact q ▸ hx
theorem barePush {gs : Array GenState} (h : BareAll gs) {x : GenState} (hx : x.bare = true) : BareAll (gs.push x) := fun y hy => by
  rcases Array.mem_push.mp hy with q | q
  · exact h y q
  · exact q ▸ hx

section
variable {prog : Program} {w : World} {A : Around} {s : Shared} {mg mb : Str → Option Value} {E : Value → Shared → Prop}

def GenAt (prog : Program) (w : World) (A : Around) (x : Str) (N₀ a : Nat) (ex : List Addr) (g j : Nat) (s : Shared) : Prop :=
  s.heap.IsGen a g ∧ ∃ gs, s.gens[g]? = some gs ∧ ∀ s'' : Shared, KeepEx ex s.heap s''.heap →
    gs.Goes (model prog w) A.in1 (genR N₀ a) (proto (toksOf x) N₀ a ex) ((toksOf x).length - j) (.send .none) s''

theorem GenAt.keeps {x : Str} {N₀ a : Nat} {ex : List Addr} {g j : Nat} (S : GenAt prog w A x N₀ a ex g j s) (ha : a ∉ ex) {h' : Heap} {tk : Nat} (hk : KeepEx ex s.heap h') : GenAt prog w A x N₀ a ex g j { s with heap := h', toks := tk } :=
  let ⟨⟨o, nm, qn, ho, r⟩, gs, hgs, h⟩ := S
  ⟨⟨o, nm, qn, hk a o ha ho, r⟩, gs, hgs, fun s'' hk' => h s'' fun b o hb q => hk' b o hb (hk b o hb q)⟩

/-- the next of the generator's -/
theorem gen_next {x : Str} {N₀ a : Nat} {ex : List Addr} {g j : Nat} {Q : Option Value → Shared → Prop} (hh : A.handled = none) (hl : s.heap.NoLimit) (hroom : A.depth < recursionLimit)
    (hb : BareAll s.gens) (S : GenAt prog w A x N₀ a ex g j s)
    (hmore : ∀ p cc T t u h' tk gens', j < (toksOf x).length → (toksOf x)[j]? = some (p, cc) → h'.IsTuple T #[.int (p : Nat) t, .str ⟨cc.toArray⟩ u] → (∀ (b : Nat) (o : Obj), (b < N₀ ∨ b = a) → s.heap.get? b = some o → h'.get? b = some o) →
      BareAll gens' → GenAt prog w A x N₀ a ex g (j + 1) { s with heap := h', toks := tk, gens := gens' } → Q (some (.ref T)) { s with heap := h', toks := tk, gens := gens' })
    (hdone : ∀ h' tk gens', (toksOf x).length ≤ j → (∀ (b : Nat) (o : Obj), (b < N₀ ∨ b = a) → s.heap.get? b = some o → h'.get? b = some o) → BareAll gens' → Q none { s with heap := h', toks := tk, gens := gens' }) :
    wpAny (model prog w) A (pyNext (.ref a)) Q E s := by
  obtain ⟨hg, gs, hgs, hgo⟩ := S
  have go := hgo (s.setGen g .running) fun _ _ _ q => q
  have hb₁ : BareAll (s.setGen g .running).gens := bareSet hb g rfl
  unfold pyNext
  refine wpAny_bind (wpAny_attempt (wpAny_callSpecial?_slot (name := Str.ofString "__next__") hg.typeIs slot_gen_next
    (wpAny_call_entry slot_gen_next hg.typeIs entry_gen_next ?_ (args_gen_next _))))
  show wpAny _ A.in1 (Builtin.Generator.genWake (.ref a) (.send .none)) _ _ s
  unfold Builtin.Generator.genWake
  refine wpAny_bind (wpAny_holding (wpAny_genNumber hg (wpAny_bind (wpAny_genState hgs ?_))))
  have main : ∀ {α : Type} {k : GenResult → Sem α} {Q' : α → Shared → Prop} {E' : Value → Shared → Prop},
      (∀ s₁, (toksOf x).length - j = 0 → GenCh N₀ a (s.setGen g .running) s₁ → wpAny (model prog w) A.in1 (k (.returned .none)) Q' E' (s₁.setGen g .finished)) →
      (∀ v s₁ gs', gs'.bare = true → proto (toksOf x) N₀ a ex ((toksOf x).length - j - 1) (s.setGen g .running) v s₁ (fun r' s'' => match (toksOf x).length - j with | 0 => False | m + 1 => gs'.Goes (model prog w) A.in1 (genR N₀ a) (proto (toksOf x) N₀ a ex) m r' s'') →
        wpAny (model prog w) A.in1 (k (.yielded v)) Q' E' (s₁.setGen g gs')) →
      wpAny (model prog w) A.in1 (.resume g (.send .none) [] k) Q' E' s := fun h1 h2 =>
    wpAny_resumeQ hgs go (fun r s₁ hr => by obtain ⟨rfl, h0, hc⟩ := hr; exact h1 s₁ h0 hc) h2
  have fin : ∀ s₁, (toksOf x).length - j = 0 → GenCh N₀ a (s.setGen g .running) s₁ → ∀ h', Keep s₁.heap h' → Q none { s₁.setGen g .finished with heap := h' } := by
    rintro s₁ h0 ⟨h₁, tk₁, rfl, hk₁⟩ h' hk'
    exact hdone h' tk₁ _ (by omega) (fun b o hbb q => hk' b o (hk₁ b o hbb q)) (bareSet hb₁ g rfl)
  have ys : ∀ v s₁ gs', gs'.bare = true → proto (toksOf x) N₀ a ex ((toksOf x).length - j - 1) (s.setGen g .running) v s₁ (fun r' s'' => match (toksOf x).length - j with | 0 => False | m + 1 => gs'.Goes (model prog w) A.in1 (genR N₀ a) (proto (toksOf x) N₀ a ex) m r' s'') →
      Q (some v) (s₁.setGen g gs') := by
    rintro v s₁ gs' hbare ⟨⟨p, cc, T, t, u, hp, rfl, hT⟩, ⟨h₁, tk₁, rfl, hk₁⟩, hkap⟩
    have hlt : (toksOf x).length - 1 - ((toksOf x).length - j - 1) < (toksOf x).length := by
      rcases Nat.lt_or_ge ((toksOf x).length - 1 - ((toksOf x).length - j - 1)) (toksOf x).length with q | q
      · exact q
      · rw [List.getElem?_eq_none q] at hp; cases hp
    have hj : j < (toksOf x).length := by
      rcases Nat.lt_or_ge j (toksOf x).length with q | q
      · exact q
      · have h0 : (toksOf x).length - j = 0 := by omega
        rw [h0] at hkap
        exact (hkap _ fun _ _ _ q => q).elim
    obtain ⟨m, hm⟩ : ∃ m, (toksOf x).length - j = m + 1 := ⟨(toksOf x).length - j - 1, by omega⟩
    have hidx : (toksOf x).length - 1 - ((toksOf x).length - j - 1) = j := by omega
    rw [hidx] at hp
    rw [hm] at hkap
    have e1 : (toksOf x).length - (j + 1) = m := by omega
    refine hmore p cc T t u h₁ tk₁ _ hj hp hT hk₁ (bareSet hb₁ g hbare) ⟨let ⟨o, nm, qn, ho, r⟩ := hg; ⟨o, nm, qn, hk₁ a o (.inr rfl) ho, r⟩, gs', setGen_self (gs := .running) (setGen_self hgs), fun s'' hal => ?_⟩
    rw [e1]
    exact hkap s'' hal
  cases gs with
  | running => exact go.elim
  | finished => exact go.elim
  | _ =>
    refine wpAny_bind (wpAny_roomToWake hl hroom ?_)
    show wpAny _ A.in1 (.resume g (.send .none) [] _) _ _ s
    refine main (fun s₁ h0 hc => ?_) (fun v s₁ gs' hbare hv => ?_)
    · show wpAny _ A.in1 (newExc (.type "StopIteration") [] >>= _) _ _ _
      refine wpAny_bind ?_
      simp only [newExc, newTuple]
      refine wpAny_bind (wpAny_newObj_type ?_ (by size_fits))
      refine wpAny_bind (m := firstArgMember _ _) (wpAny_of_eq (a := Value.none) (by first | rfl | (simp only [firstArgMember]; rfl)) ?_)
      refine wpAny_newObj_type ?_ (by size_fits)
      simp only [raiseNew]
      refine wpAny_bind (wpAny_bind (wpAny_handled ?_))
      rw [show A.in1.handled = none from hh]
      refine wpAny_throw ?_
      refine wpAny_bind (wpAny_isInstance (T := "StopIteration") (b := true) ⟨_, Heap.get?_push_size _ rfl, rfl⟩ isSubtype_stop ?_)
      exact wpAny_pure (fin s₁ h0 hc _ fun b o q => Heap.get?_push_of_some _ (Heap.get?_push_of_some _ q))
    · exact wpAny_pure ⟨v, rfl, wpAny_pure (ys v s₁ gs' hbare hv)⟩

/-- the generator is made -/
theorem gen_call {x : Str} {t : Tok} {ex : List Addr} {hb : Heap} {Q : Value → Shared → Prop} (G : Gr mg mb hb) (hbk : Keep hb s.heap) (hh : A.handled = none) (hroom : A.depth < recursionLimit)
    (hex : ∀ b : Nat, b ∈ ex → b < s.heap.objs.size) (hexb : ∀ b : Nat, b ∈ ex → hb.objs.size ≤ b) (hbz : hb.objs.size ≤ s.heap.objs.size) (hbare : BareAll s.gens)
    {f : Nat} (hf : mg "_iter_escaped_chars" = some (.ref f)) (hQ : ∀ h' tk gens' g, Keep s.heap h' → BareAll gens' → GenAt prog w A x s.heap.objs.size (s.heap.objs.size + 1) ex g 0 { s with heap := h', toks := tk, gens := gens' } →
      Q (.ref (s.heap.objs.size + 1)) { s with heap := h', toks := tk, gens := gens' }) :
    wpAny (model prog w) A (call (.ref f) [.str x t]) Q E s := by
  obtain ⟨f', o, pm, code, doc, hf', ho, hd, hcd⟩ := G.fn 1 (by decide)
  obtain rfl : f' = f := by have := hf.symm.trans hf'; cases this; rfl
  refine wpAny_call (codeAny_call_generator hroom (hbk _ _ ho) hd rfl rfl rfl (hcd.keeps hbk) ?_)
  refine wpAny_of_eq (a := [(("addr" : Str), .str x t)]) (by rfl) ?_
  refine wpAny_newFunctionEnv (show ∀ x ∈ (scopeOf (stmAt 1)).names, x.2 ≠ .cell by decide) (locs rfl) (fun h₁ hn₁ hs₁ => ⟨(G.nolimit.keeps hbk).fresh _ hs₁, ?_⟩) rfl
  have hz₁ : h₁.objs.size = s.heap.objs.size + 1 := by rw [hs₁.1]; exact Heap.size_push ..
  have hk₁ : Keep s.heap h₁ := fun b o' q => hs₁.extBut b o' (Nat.ne_of_lt (Heap.lt_size q)) (Heap.get?_push_of_some _ q)
  dsimp only
  rw [hz₁]
  refine hQ _ _ _ s.gens.size (fun b o' q => Heap.get?_push_of_some _ (hk₁ b o' q)) (barePush hbare rfl) ⟨⟨_, _, _, hz₁ ▸ Heap.get?_push_size _ rfl, rfl, rfl, rfl⟩, _, Array.getElem?_push_size .., fun s'' hk'' => ⟨rfl, ?_⟩⟩
  have hn₂ : s''.heap.Ns s.heap.objs.size (fun y => ([(("addr" : Str), Value.str x t)] : List (Str × Value)).reverse.lookup y) :=
    (hn₁.push _).at' fun o' q => hk'' _ o' (fun hm => absurd (hex _ hm) (Nat.lt_irrefl _)) q
  have ha : s.heap.objs.size + 1 < s''.heap.objs.size :=
    Heap.lt_size (hk'' _ _ (fun hm => absurd (hex _ hm) (by omega)) (by dsimp only; rw [← hz₁]; exact Heap.get?_push_size _ rfl))
  exact gen_seg (A := A.in1) hh (Nat.le_refl _) (by omega) hex hn₂ rfl ha (by omega) G
    (fun b o' q => hk'' b o' (fun hm => absurd (Nat.lt_of_lt_of_le (Heap.lt_size q) (hexb b hm)) (Nat.lt_irrefl _)) (Heap.get?_push_of_some _ (hk₁ b o' (hbk b o' q)))) hbz (GenCh.refl _ _ _)

end
end Mine

open PySem PySem.W PyProof.Rows
open PySem.Calls (spliced_nil spliced_cons)
set_option Elab.async false
set_option maxRecDepth 100000
namespace Mine

section
variable {prog : Program} {w : World} {A : Around} {s : Shared} {mg mb : Str → Option Value} {E : Value → Shared → Prop}

theorem letGo_gen {elts : List Expr} {k : Nat} {pos : Pos} {a g : Nat} {v : Value} {Q : Unit → Shared → Prop} (hg : s.heap.IsGen a g) (hQ : Q () s) :
    wpAny (model prog w) A (letOwnedTupleGo (.Tuple elts k pos) (.ref a) v) Q E s := by
  obtain ⟨o, nm, qn, ho, hc, hd, _⟩ := hg
  cases v <;> unfold letOwnedTupleGo <;> first
    | exact wpAny_pure hQ
    | (refine wpAny_bind (wpAny_load ho ?_)
       rw [hc, hd]
       exact wpAny_pure hQ)

/-- a for over the generator: what a turn does to the frame and to the objects of ex -/
theorem forLoop_gen {x : Str} {N₀ a L f g : Nat} {ex : List Addr} {nme : Str} {sc : Scope} {cd : Value} {hb : Heap} {R : Result → Shared → Prop} {m : Str → Option Value} {body : List Stmt} {p1 p2 p3 : Pos} {k : Nat}
    (G : Gr mg mb hb) (hbk : Keep hb s.heap) (hbz : hb.objs.size ≤ N₀) (hh : A.handled = none) (hroom : A.depth < recursionLimit) (hLx : L ∈ ex) (hex : ∀ b : Nat, b ∈ ex → b < N₀) (haN : N₀ < a) (hexb : ∀ b : Nat, b ∈ ex → hb.objs.size ≤ b) (hbare : BareAll s.gens)
    (hlp : (envOf nme sc L f cd).kindOf "pos" = some .local) (hlc : (envOf nme sc L f cd).kindOf "ch" = some .local) (hk : sc.kind = .function)
    (S : GenAt prog w A x N₀ a ex g 0 s) (hn : s.heap.Ns L m) (J : Nat → (Str → Option Value) → Heap → Prop)
    (hJ : ∀ j m h h', J j m h → (∀ (b : Nat) (o : Obj), b < N₀ → b ≠ L → h.get? b = some o → h'.get? b = some o) → J j m h') (h0 : J 0 m s.heap) (V : Value → Prop)
    (step : ∀ j p cc t u m₁ s₁ E', (toksOf x)[j]? = some (p, cc) → J j m₁ s₁.heap → s₁.heap.Ns L (fun y => if y = "ch" then some (.str ⟨cc.toArray⟩ u) else if y = "pos" then some (.int (p : Nat) t) else m₁ y) → Keep hb s₁.heap →
      wpAny (model prog w) A (execs body (envOf nme sc L f cd)) (fun fl s₂ => ∃ h' tk, s₂ = { s₁ with heap := h', toks := tk } ∧ KeepEx ex s₁.heap h' ∧
        ((fl = .next ∧ ∃ m₂, h'.Ns L m₂ ∧ J (j + 1) m₂ h') ∨ (∃ v, fl = .ret v ∧ V v))) E' s₁)
    (hR : ∀ h' tk gens' m', h'.Ns L m' → J (toksOf x).length m' h' → (∀ (b : Nat) (o : Obj), b < N₀ → b ∉ ex → s.heap.get? b = some o → h'.get? b = some o) → BareAll gens' → R (.ok .next) { s with heap := h', toks := tk, gens := gens' })
    (hRet : ∀ v h' tk gens', V v → (∀ (b : Nat) (o : Obj), b < N₀ → b ∉ ex → s.heap.get? b = some o → h'.get? b = some o) → BareAll gens' → R (.ok (.ret v)) { s with heap := h', toks := tk, gens := gens' }) :
    codeAny (model prog w) A (.forLoop (.Tuple [.Name "pos" p1, .Name "ch" p2] k p3) (.ref a) body [] (envOf nme sc L f cd)) R s := by
  have hax : ∀ b : Nat, N₀ < b → b ∉ ex := fun b h1 h2 => absurd (hex b h2) (by omega)
  have hbx : ∀ (b : Addr) (o : Obj), hb.get? b = some o → b < N₀ ∧ b ∉ ex := fun b o q =>
    ⟨Nat.lt_of_lt_of_le (Heap.lt_size q) hbz, fun hm => absurd (Nat.lt_of_lt_of_le (Heap.lt_size q) (hexb b hm)) (Nat.lt_irrefl _)⟩
  refine codeAny_forLoop_any
    (fun n s' => ∃ h' tk gens' m' j, s' = { s with heap := h', toks := tk, gens := gens' } ∧ GenAt prog w A x N₀ a ex g j { s with heap := h', toks := tk, gens := gens' } ∧ BareAll gens' ∧ h'.Ns L m' ∧ J j m' h' ∧ j ≤ (toksOf x).length ∧
      n = (toksOf x).length + 1 - j ∧ ∀ (b : Nat) (o : Obj), b < N₀ → b ∉ ex → s.heap.get? b = some o → h'.get? b = some o) ?_ ((toksOf x).length + 1)
    ⟨s.heap, s.toks, s.gens, m, 0, rfl, S, hbare, hn, h0, Nat.zero_le _, rfl, fun _ _ _ _ q => q⟩
  rintro n s' ⟨h', tk, gens', m', j, rfl, S', hb', hn', hJ', hj, rfl, hk'⟩
  have hbk' : Keep hb h' := fun b o q => hk' b o (hbx b o q).1 (hbx b o q).2 (hbk b o q)
  refine gen_next hh (G.nolimit.keeps hbk') hroom hb' S' (fun p cc T t u h₁ tk₁ g₁ hlt hp hT hk₁ hb₁ S₁ => ?_) (fun h₁ tk₁ g₁ hge hk₁ hb₁ => ?_)
  · have hLN : (L : Nat) < N₀ := hex L hLx
    refine letGo_gen S₁.1 ?_
    refine wpAny_assign_Tuple (by exact hh) hT rfl rfl fun h₂ hx₂ => ?_
    have hn₁ : h₁.Ns L m' := hn'.at' fun o q => hk₁ L o (.inl hLN) q
    have hn₂ : h₂.Ns L m' := hn₁.at' fun o q => hx₂ L o (Nat.ne_of_lt hn₁.lt) q
    refine wpAny_bind (wpAny_holding (wpAny_assign_Name (stNm hn₂ (fun h₃ hn₃ hs₃ => ?_) hlp hk)))
    refine wpAny_bind (wpAny_holding (wpAny_assign_Name (stNm hn₃ (fun h₄ hn₄ hs₄ => wpAny_pure ?_) hlc hk)))
    have k₁₄ : ∀ (b : Nat) (o : Obj), b ≠ L → h₁.get? b = some o → h₄.get? b = some o := fun b o hbL q =>
      hs₄.extBut b o hbL (hs₃.extBut b o hbL (hx₂ b o (Nat.ne_of_lt (Heap.lt_size q)) q))
    have hLn : ∀ b : Addr, b ∉ ex → b ≠ L := fun b h1 h2 => h1 (h2 ▸ hLx)
    have hbk₄ : Keep hb h₄ := fun b o q => k₁₄ b o (hLn b (hbx b o q).2) (hk₁ b o (.inl (hbx b o q).1) (hbk' b o q))
    refine wpAny_mono (step j p cc t u m' _ _ hp (hJ j m' h' h₄ hJ' fun b o h1 h2 q => k₁₄ b o h2 (hk₁ b o (.inl h1) q)) hn₄ hbk₄) (fun fl s₂ h₂ => ?_) fun _ _ q => q
    obtain ⟨h₅, tk₅, rfl, hk₅, hfl⟩ := h₂
    have kall : ∀ (b : Nat) (o : Obj), b < N₀ → b ∉ ex → s.heap.get? b = some o → h₅.get? b = some o := fun b o h1 h2 q =>
      hk₅ b o h2 (k₁₄ b o (hLn b h2) (hk₁ b o (.inl h1) (hk' b o h1 h2 q)))
    rcases hfl with ⟨rfl, m₂, hn₅, hJ₅⟩ | ⟨v, rfl, hV⟩
    · refine ⟨(toksOf x).length + 1 - (j + 1), by omega, h₅, tk₅, g₁, m₂, j + 1, rfl, ?_, hb₁, hn₅, hJ₅, by omega, rfl, kall⟩
      exact S₁.keeps (hax a haN) fun b o h1 q => hk₅ b o h1 (k₁₄ b o (hLn b h1) q)
    · exact hRet v h₅ tk₅ g₁ hV kall hb₁
  · have hje : j = (toksOf x).length := by omega
    subst hje
    have hLN : (L : Nat) < N₀ := hex L hLx
    refine wpAny_execs_nil ?_
    exact hR h₁ tk₁ g₁ m' (hn'.at' fun o q => hk₁ L o (.inl hLN) q) (hJ _ _ _ _ hJ' fun b o h1 _ q => hk₁ b o (.inl h1) q) (fun b o h1 h2 q => hk₁ b o (.inl h1) (hk' b o h1 h2 q)) hb₁
end
end Mine

open PySem PySem.W PyProof.Rows
open PySem.Calls (spliced_nil spliced_cons)
set_option Elab.async false
set_option maxRecDepth 100000
namespace Mine

section
variable {prog : Program} {w : World} {A : Around} {s : Shared} {mg mb : Str → Option Value} {E : Value → Shared → Prop}

/-- a def of the text's is called -/
theorem call_fn {st : Stmt} {hb : Heap} {f : Nat} {args : List Value} {binds : List (Str × Value)} {Q : Value → Shared → Prop} (F : FnAt mg hb st) (hf : mg (nameOf st) = some (.ref f)) (G : Gr mg mb hb) (hbk : Keep hb s.heap) (hroom : A.depth < recursionLimit)
    (hbind : ∀ pm code doc, bindArgs (Calls.docDef (nameOf st) (paramsOf st) (bodyOf st) (scopeOf st) pm code doc) ⟨args, []⟩ = pure binds)
    (hloc : ∀ x ∈ binds, (scopeOf st).names.lookup x.1 = some .local)
    (h : ∀ code h₁ tk, h₁.Ns s.heap.objs.size (fun x => binds.reverse.lookup x) → Keep s.heap h₁ →
      wpAny (model prog w) (A.deeper (envOf (nameOf st) (scopeOf st) s.heap.objs.size f code)) (execs (bodyOf st) (envOf (nameOf st) (scopeOf st) s.heap.objs.size f code))
        (fun fl s' => Q (match fl with | .ret v => v | _ => .none) s') NoE { s with heap := h₁, toks := tk })
    (hco : (scopeOf st).isCoroutine = false := by rfl) (hgen : (scopeOf st).isGenerator = false := by rfl) (hk : (scopeOf st).kind = .function := by rfl)
    (hcell : ∀ x ∈ (scopeOf st).names, x.2 ≠ .cell := by decide) :
    wpAny (model prog w) A (call (.ref f) args) Q E s := by
  obtain ⟨f', o, pm, code, doc, hf', ho, hd, hcd⟩ := F
  obtain rfl : f' = f := by rw [hf] at hf'; cases hf'; rfl
  refine wpAny_call (call_plain_ret hroom (hbk _ _ ho) hd (G.nolimit.keeps hbk) (hcd.keeps hbk) (hbind pm code doc) hloc (fun h₁ F => ?_) hco hgen hk hcell)
  exact wpAny_mono (h code h₁ _ F.ns F.keep) (fun fl s' q => by cases fl <;> exact q) fun _ _ q => q

/-- a call of a global name that is a def -/
theorem callN {nme : Str} {sc : Scope} {L a f : Nat} {cd : Value} {id : Str} {p pos : Pos} {args : List Expr} {st : Stmt} {hb : Heap} {Q : Value → Shared → Prop} (F : FnAt mg hb st) (hf : mg (nameOf st) = some (.ref f)) (hid : id = nameOf st) (G : Gr mg mb hb) (hbk : Keep hb s.heap)
    (h : wpAny (model prog w) A (evalArgs (.ref f) true (backTo pos (starEach args (envOf nme sc L a cd))) []) (fun x s₁ => Keep hb s₁.heap ∧ wpAny (model prog w) A (call (.ref f) x.pos x.kw) Q E s₁) E s)
    (hl : (envOf nme sc L a cd).kindOf id = some .globalImplicit := by rfl) (hk : sc.kind = .function := by rfl) (hd : (id == ("__debug__" : Str)) = false := by decide) :
    wpAny (model prog w) A (eval (.Call (.Name id p) args [] pos) (envOf nme sc L a cd)) Q E s := by
  obtain ⟨f', o, pm, code, doc, hf', ho, hdd, hcd⟩ := F
  obtain rfl : f' = f := by rw [hf] at hf'; cases hf'; rfl
  subst hid
  refine wpAny_Call_NameR (glbl (G.keeps hbk) hf (Calls.callWith_function (o := o) (wpAny_mono h (fun x s₁ h₁ => ⟨⟨h₁.1 _ _ ho, hdd⟩, h₁.2⟩) fun _ _ q => q)) hl hk hd)

/-- the brackets' test, over what the generator yields -/
def parGo : List (Nat × List Nat) → Int → Bool
  | [], o => o == 0
  | (_, cc) :: r, o => if cc = [40] then parGo r (o + 1) else if cc = [41] then (if o - 1 < 0 then false else parGo r (o - 1)) else parGo r o

theorem str_eq_lit (cc l : List Nat) (x : Str) (hx : x = ⟨l.toArray⟩) : ((⟨cc.toArray⟩ : Str) == x) = decide (cc = l) := by
  subst hx
  by_cases h : cc = l
  · subst h; simp
  · rw [decide_eq_false h]
    have : (⟨cc.toArray⟩ : Str) ≠ ⟨l.toArray⟩ := fun e => h (by have := congrArg (fun z : Str => z.cps.toList) e; simpa using this)
    simpa using this
end
end Mine

open PySem PySem.W PyProof.Rows
open PySem.Calls (spliced_nil spliced_cons)
set_option Elab.async false
set_option maxRecDepth 100000
namespace Mine

/-- what a call of a def gives back; what stood before stands -/
def Gives (prog : Program) (w : World) (hb : Heap) (f : Nat) (args : List Value) (k : Nat) (pre : Heap → Prop) (P : Value → Heap → Prop) : Prop :=
  ∀ (A : Around) (s : Shared) (Q E : Value → Shared → Prop), A.handled = none → A.depth + k < recursionLimit → Keep hb s.heap → hb.objs.size ≤ s.heap.objs.size → BareAll s.gens → pre s.heap →
    (∀ v h' tk gs, Keep s.heap h' → BareAll gs → P v h' → Q v { s with heap := h', toks := tk, gens := gs }) → wpAny (model prog w) A (call (.ref f) args) Q E s

theorem drop_of_get {α : Type} {l : List α} {j : Nat} {y : α} (h : l[j]? = some y) : l.drop j = y :: l.drop (j + 1) := by
  obtain ⟨hl, e⟩ := List.getElem?_eq_some_iff.mp h
  rw [List.drop_eq_getElem_cons hl, e]

section
variable {prog : Program} {w : World} {A : Around} {s : Shared} {mg mb : Str → Option Value} {E : Value → Shared → Prop}

theorem check_of_strip {hb : Heap} (G : Gr mg mb hb) {fg fs fc : Nat} (hg : mg "_iter_escaped_chars" = some (.ref fg)) (hs : mg "_strip_quoted_realnames" = some (.ref fs)) (hc : mg "_check_parenthesis" = some (.ref fc))
    {x y : Str} {t : Tok} (hstrip : Gives prog w hb fs [.str x t] 3 (fun _ => True) fun v _ => ∃ u, v = .str y u) :
    Gives prog w hb fc [.str x t] 4 (fun _ => True) fun v _ => v = .bool (parGo (toksOf y) 0) := by
  intro A s Q E hh hroom hbk hbz hbare _ hQ
  refine call_fn (st := stmAt 3) (binds := [("addr", .str x t)]) (G.fn 3 (by decide)) hc G hbk (by omega) (fun _ _ _ => rfl) (locs rfl) (fun code h₁ tk hn₁ hk₁ => ?_)
  have hbk₁ : Keep hb h₁ := fun b o q => hk₁ b o (hbk b o q)
  refine wpAny_execs_cons (wpAny_Assign_Name (callN (st := stmAt 2) (G.fn 2 (by decide)) hs rfl G hbk₁ (Calls.evalArgs_plain (spliced_cons (nm hn₁ rfl (spliced_nil ⟨hbk₁, ?_⟩))))))
  refine hstrip _ _ _ _ hh (by show A.depth + 1 + 3 < _; omega) hbk₁ (Nat.le_trans hbz (Nat.le_of_lt hn₁.lt)) hbare trivial fun v h₂ tk₂ gs₂ hk₂ hb₂ hv => ?_
  obtain ⟨u, rfl⟩ := hv
  refine stNm (hn₁.keeps hk₂) fun h₃ hn₃ hs₃ => ?_
  refine wpAny_execs_cons (wpAny_Assign_Name (wpAny_Constant_int (stNm hn₃ fun h₄ hn₄ hs₄ => ?_)))
  dsimp only at hn₃ hn₄ hs₃ hs₄ ⊢
  have hL₂ : ∀ (b : Addr) (o : Obj), s.heap.get? b = some o → h₄.get? b = some o := fun b o q => by
    have hb : b ≠ s.heap.objs.size := Nat.ne_of_lt (Heap.lt_size q)
    exact hs₄.extBut b o hb (hs₃.extBut b o hb (hk₂ b o (hk₁ b o q)))
  have hbk₄ : Keep hb h₄ := fun b o q => hL₂ b o (hbk b o q)
  have hLlt : s.heap.objs.size < h₄.objs.size := hn₄.lt
  refine wpAny_execs_cons (wpAny_For (callN (st := stmAt 1) (G.fn 1 (by decide)) hg rfl G hbk₄ (Calls.evalArgs_plain (spliced_cons (nm hn₄ rfl (spliced_nil ⟨hbk₄, ?_⟩))))) (fun _ => rfl))
  refine gen_call (ex := [s.heap.objs.size]) G hbk₄ (by exact hh) (by show A.depth + 1 < _; omega) (fun b hm => ?_) (fun b hm => ?_) (Nat.le_trans hbz (Nat.le_of_lt hLlt)) hb₂ hg fun h₅ tk₅ gs₅ g hk₅ hb₅ S₅ => ?_
  · rw [List.mem_singleton.mp hm]; exact hLlt
  · rw [List.mem_singleton.mp hm]; exact hbz
  refine wpAny_pyIter_gen S₅.1 ?_
  dsimp only at hk₅ ⊢
  refine forLoop_gen (L := s.heap.objs.size) (ex := [s.heap.objs.size]) G (fun b o q => hk₅ b o (hbk₄ b o q)) (Nat.le_trans hbz (Nat.le_of_lt hLlt)) (by exact hh) (by show A.depth + 1 < _; omega) (List.mem_singleton.mpr rfl) (fun b hm => ?_) (Nat.lt_succ_self _) (fun b hm => ?_) hb₅
    rfl rfl rfl S₅ (hn₄.keeps hk₅) (fun j m _ => ∃ o t, m "opens" = some (.int o t) ∧ parGo (toksOf y) 0 = parGo ((toksOf y).drop j) o) (fun _ _ _ _ q _ => q) ⟨0, _, rfl, by rw [List.drop_zero]⟩
    (fun v => v = .bool false ∧ parGo (toksOf y) 0 = false) ?_ ?_ ?_
  · rw [List.mem_singleton.mp hm]; exact hLlt
  · rw [List.mem_singleton.mp hm]; exact hbz
  · intro j p cc t u m₁ s₁ E' hp hJ hn hbk'
    obtain ⟨o, to, hmo, hpar⟩ := hJ
    rw [drop_of_get hp] at hpar
    refine wpAny_execs_cons (wpAny_If (wpAny_isTrue_Compare1 (nm hn rfl (wpAny_Constant_str (PyProof.Rows.eq_str (wpAny_truthy_bool ?_))))))
    rw [str_eq_lit cc [40] _ (by decide +kernel)]
    by_cases h40 : cc = [40]
    · rw [decide_eq_true h40, if_pos rfl]
      refine wpAny_execs_cons (wpAny_AugAssign_Name (wpAny_loadName_local rfl rfl hn hmo (wpAny_Constant_int (PyProof.Rows.iadd_int (stNm hn fun h' hn' hs' => wpAny_execs_nil (wpAny_execs_nil ?_))))))
      refine ⟨h', _, rfl, fun b o q1 q => hs'.extBut b o (fun z => q1 (List.mem_singleton.mpr z)) q, .inl ⟨rfl, _, hn', o + 1, _, rfl, ?_⟩⟩
      rw [hpar, parGo, if_pos h40]
    · rw [decide_eq_false h40, if_neg Bool.false_ne_true]
      refine wpAny_execs_cons (wpAny_If (wpAny_isTrue_Compare1 (nm hn rfl (wpAny_Constant_str (PyProof.Rows.eq_str (wpAny_truthy_bool ?_))))))
      rw [str_eq_lit cc [41] _ (by decide +kernel)]
      by_cases h41 : cc = [41]
      · rw [decide_eq_true h41, if_pos rfl]
        refine wpAny_execs_cons (wpAny_AugAssign_Name (wpAny_loadName_local rfl rfl hn hmo (wpAny_Constant_int (PyProof.Rows.isub_int (stNm hn fun h' hn' hs' => ?_)))))
        refine wpAny_execs_cons (wpAny_If (wpAny_isTrue_Compare1 (nm hn' rfl (wpAny_Constant_int (PyProof.Rows.lt_int (wpAny_truthy_bool ?_))))))
        have hke : KeepEx [s.heap.objs.size] s₁.heap h' := fun b o q1 q => hs'.extBut b o (fun z => q1 (List.mem_singleton.mpr z)) q
        by_cases hneg : o - 1 < 0
        · rw [decide_eq_true hneg, if_pos rfl]
          refine wpAny_execs_cons (wpAny_Return_some (wpAny_Constant_bool ?_))
          refine ⟨h', _, rfl, hke, .inr ⟨_, rfl, rfl, ?_⟩⟩
          rw [hpar, parGo, if_neg h40, if_pos h41, if_pos hneg]
        · rw [decide_eq_false hneg, if_neg Bool.false_ne_true]
          refine wpAny_execs_nil (wpAny_execs_nil (wpAny_execs_nil (wpAny_execs_nil ?_)))
          refine ⟨h', _, rfl, hke, .inl ⟨rfl, _, hn', o - 1, _, rfl, ?_⟩⟩
          rw [hpar, parGo, if_neg h40, if_pos h41, if_neg hneg]
      · rw [decide_eq_false h41, if_neg Bool.false_ne_true]
        refine wpAny_execs_nil (wpAny_execs_nil (wpAny_execs_nil ?_))
        refine ⟨_, _, rfl, fun b o _ q => q, .inl ⟨rfl, _, hn, o, _, hmo, ?_⟩⟩
        rw [hpar, parGo, if_neg h40, if_neg h41]
  · intro h' tk gens' m' hn' hJ hk' hb'
    obtain ⟨o, to, hmo, hpar⟩ := hJ
    rw [List.drop_length, parGo] at hpar
    refine wpAny_execs_cons (wpAny_Return_some (wpAny_Compare1 (nm hn' hmo (wpAny_Constant_int (PyProof.Rows.eq_int ?_)))))
    exact hQ _ h' _ gens' (fun b o q => hk' b o (Heap.lt_size (hL₂ b o q)) (fun z => Nat.ne_of_lt (Heap.lt_size q) (List.mem_singleton.mp z)) (hk₅ b o (hL₂ b o q))) hb' (by rw [hpar])
  · intro v h' tk gens' hV hk' hb'
    obtain ⟨rfl, hpar⟩ := hV
    exact hQ _ h' _ gens' (fun b o q => hk' b o (Heap.lt_size (hL₂ b o q)) (fun z => Nat.ne_of_lt (Heap.lt_size q) (List.mem_singleton.mp z)) (hk₅ b o (hL₂ b o q))) hb' (by rw [hpar])
end
end Mine

open PySem PySem.W PyProof.Rows
set_option Elab.async false
set_option maxRecDepth 100000
namespace Mine
open PySem.Builtin.Str in
theorem sl_nat (x : Str) (i j : Nat) : Txt.slice x (some (i : Int)) (some (j : Int)) = ⟨((x.cps.toList.drop i).take (j - i)).toArray⟩ := by
  have key : strSliceIndices (some (i : Int)) (some (j : Int)) 1 x.length = strSliceIndices (some ((min i x.length : Nat) : Int)) (some ((max (min i x.length) (min j x.length) : Nat) : Int)) 1 x.length := by
    have h1 : ¬ ((i : Int) < 0) := by omega
    have h2 : ¬ ((j : Int) < 0) := by omega
    have h3 : ¬ (((min i x.length : Nat) : Int) < 0) := by omega
    have h4 : ¬ (((max (min i x.length) (min j x.length) : Nat) : Int) < 0) := by omega
    simp only [strSliceIndices, show (1 : Int) > 0 by decide, if_true, h1, h2, h3, h4, if_false]
    have e1 : max (0 : Int) (min (i : Int) x.length) = ((min i x.length : Nat) : Int) := by omega
    have e2 : max (0 : Int) (min (j : Int) x.length) = ((min j x.length : Nat) : Int) := by omega
    have e3 : max (0 : Int) (min ((min i x.length : Nat) : Int) x.length) = ((min i x.length : Nat) : Int) := by omega
    have e4 : max (0 : Int) (min ((max (min i x.length) (min j x.length) : Nat) : Int) x.length) = ((max (min i x.length) (min j x.length) : Nat) : Int) := by omega
    rw [e1, e2, e3, e4]
    unfold sliceRange
    simp only [show (1 : Int) > 0 by decide, if_true]
    rcases Nat.lt_or_ge (min i x.length) (min j x.length) with q | q
    · rw [Nat.max_eq_right (Nat.le_of_lt q)]
    · rw [Nat.max_eq_left q, if_neg (by omega), if_neg (by omega)]
  have e : Txt.slice x (some (i : Int)) (some (j : Int)) = Txt.slice x (some ((min i x.length : Nat) : Int)) (some ((max (min i x.length) (min j x.length) : Nat) : Int)) := by
    unfold Txt.slice
    rw [key]
  rw [e]
  have hx : x.cps.toList.length = x.length := by simp [Str.length]
  refine (StrLaws.sliceText_nat x (Nat.le_max_left _ _) (Nat.max_le.mpr ⟨Nat.min_le_right _ _, Nat.min_le_right _ _⟩)).trans ?_
  congr 2
  rcases Nat.lt_or_ge i x.length with q | q
  · rw [Nat.min_eq_left (Nat.le_of_lt q)]
    apply List.ext_getElem?
    intro n
    simp only [List.getElem?_take, List.getElem?_drop]
    by_cases hn : n < j - i
    · rw [if_pos hn]
      by_cases hn2 : n < max i (min j x.length) - i
      · rw [if_pos hn2]
      · rw [if_neg hn2, List.getElem?_eq_none (by omega)]
    · rw [if_neg hn, if_neg (by omega)]
  · rw [Nat.min_eq_right q, List.drop_eq_nil_of_le (by omega), List.drop_eq_nil_of_le (by omega)]
    simp

open PySem.Builtin.Str in
theorem sl_from (x : Str) (i : Nat) : Txt.slice x (some (i : Int)) none = ⟨(x.cps.toList.drop i).toArray⟩ := by
  have hx : x.cps.toList.length = x.length := by simp [Str.length]
  have e : Txt.slice x (some (i : Int)) none = Txt.slice x (some (i : Int)) (some (x.length : Int)) := by
    unfold Txt.slice
    rw [StrLaws.sliceIdx_none_hi]
  rw [e, sl_nat, List.take_of_length_le (by rw [List.length_drop]; omega)]

open PySem.Builtin.Str in
theorem join_flat (acc : List (List Nat)) : Txt.join ⟨#[]⟩ (acc.map fun y => (⟨y.toArray⟩ : Str)) = ⟨acc.flatten.toArray⟩ := by
  have key : ∀ (r : List (List Nat)) (z : Array Nat), (r.map fun y => (⟨y.toArray⟩ : Str)).foldl (fun acc p => acc ++ (#[] : Array Nat) ++ p.cps) z = z ++ r.flatten.toArray := by
    intro r
    induction r with
    | nil => intro z; simp
    | cons y r ih => intro z; rw [List.map_cons, List.foldl_cons, ih]; simp [Array.append_assoc]
  cases acc with
  | nil => rfl
  | cons y r =>
    show (⟨_⟩ : Str) = _
    congr 1
    show (r.map fun y => (⟨y.toArray⟩ : Str)).foldl (fun acc p => acc ++ (#[] : Array Nat) ++ p.cps) y.toArray = _
    rw [key]; simp

/-- one turn of the stripping loop -/
def stStep (cs : List Nat) (z : Nat × Option Nat × List (List Nat)) (tk : Nat × List Nat) : Nat × Option Nat × List (List Nat) :=
  if tk.2 = [34] then match z.2.1 with
    | none => (z.1, some tk.1, z.2.2)
    | some q => (tk.1 + 1, none, if z.1 = q then z.2.2 else z.2.2 ++ [(cs.drop z.1).take (q - z.1)])
  else z

def stEnd (cs : List Nat) (z : Nat × Option Nat × List (List Nat)) : List Nat := (if z.1 < cs.length then z.2.2 ++ [cs.drop z.1] else z.2.2).flatten
def strip (cs : List Nat) : List Nat := if 34 ∈ cs then stEnd cs ((escGo cs 0 false).foldl (stStep cs) (0, none, [])) else cs
def checkP (cs : List Nat) : Bool := parGo (escGo (strip cs) 0 false) 0

theorem escGo_len : ∀ (cs : List Nat) (i : Nat) (e : Bool), (escGo cs i e).length ≤ cs.length + 1
  | [], i, e => by cases e <;> simp [escGo]
  | c :: cs, i, true => by have := escGo_len cs (i + 1) false; simp only [escGo, List.length_cons]; omega
  | c :: cs, i, false => by
    have h1 := escGo_len cs (i + 1) true
    have h2 := escGo_len cs (i + 1) false
    simp only [escGo]
    split <;> simp only [List.length_cons] <;> omega

theorem strs_snoc {vs : List Value} {ys : List Str} (h : StrsAre vs ys) (y : Str) (t : Tok) : StrsAre (vs ++ [.str y t]) (ys ++ [y]) := by
  induction h with
  | nil => exact .cons y t .nil
  | cons a b _ ih => exact .cons a b ih
theorem strs_len {vs : List Value} {ys : List Str} (h : StrsAre vs ys) : vs.length = ys.length := by
  induction h with
  | nil => rfl
  | cons a b _ ih => rw [List.length_cons, List.length_cons, ih]

end Mine

open PySem PySem.W PyProof.Rows
open PySem.Calls (spliced_nil spliced_cons)
set_option Elab.async false
set_option maxRecDepth 100000
set_option maxHeartbeats 2000000
namespace Mine
section
variable {prog : Program} {w : World} {A : Around} {s : Shared} {mg mb : Str → Option Value} {E : Value → Shared → Prop}

def opVal (op : Option Nat) (t : Tok) : Value := match op with
  | none => .none
  | some q => .int (q : Nat) t

theorem take_fold {α β : Type} (f : β → α → β) (z : β) {l : List α} {j : Nat} {y : α} (h : l[j]? = some y) : (l.take (j + 1)).foldl f z = f ((l.take j).foldl f z) y := by
  rw [List.take_add_one, h, List.foldl_append]; rfl

def StripJ (x : Str) (t : Tok) (Rl : Nat) (j : Nat) (m : Str → Option Value) (h : Heap) : Prop :=
  ∃ (st : Nat) (op : Option Nat) (acc : List (List Nat)) (t1 t2 : Tok) (vs : Array Value), m "start" = some (.int (st : Nat) t1) ∧ m "open_pos" = some (opVal op t2) ∧ m "result" = some (.ref Rl) ∧ m "addr" = some (.str x t) ∧
    PlainL h Rl vs ∧ StrsAre vs.toList (acc.map fun y => (⟨y.toArray⟩ : Str)) ∧ ((toksOf x).take j).foldl (stStep x.cps.toList) (0, none, []) = (st, op, acc) ∧ acc.length ≤ j ∧ ∀ y ∈ acc, y.length ≤ 100

theorem strip_spec {hb : Heap} (G : Gr mg mb hb) {fg fs : Nat} (hg : mg "_iter_escaped_chars" = some (.ref fg)) (hs : mg "_strip_quoted_realnames" = some (.ref fs))
    {x : Str} {t : Tok} (hx : x.cps.size ≤ 100) :
    Gives prog w hb fs [.str x t] 3 (fun _ => True) fun v _ => ∃ u, v = .str ⟨(strip x.cps.toList).toArray⟩ u := by
  intro A s Q E hh hroom hbk hbz hbare _ hQ
  refine call_fn (st := stmAt 2) (binds := [("addr", .str x t)]) (G.fn 2 (by decide)) hs G hbk (by omega) (fun _ _ _ => rfl) (locs rfl) (fun code h₁ tk hn₁ hk₁ => ?_)
  have hbk₁ : Keep hb h₁ := fun b o q => hk₁ b o (hbk b o q)
  refine wpAny_execs_cons (wpAny_If (wpAny_isTrue_Compare1 (wpAny_Constant_str (nm hn₁ rfl (PyProof.Rows.notIn_str (wpAny_truthy_bool ?_))))))
  rw [show Str.ofString "\"" = ⟨#[34]⟩ from by decide +kernel, StrLaws.found_one]
  by_cases h34 : 34 ∈ x.cps.toList
  · rw [decide_eq_true h34, Bool.not_true, if_neg Bool.false_ne_true]
    refine wpAny_execs_nil ?_
    refine wpAny_execs_cons (wpAny_Assign_Name (wpAny_Constant_int (stNm hn₁ fun h₂ hn₂ hs₂ => ?_)))
    refine wpAny_execs_cons (wpAny_Assign_Name (wpAny_Constant_none (stNm hn₂ fun h₃ hn₃ hs₃ => ?_)))
    refine wpAny_execs_cons (wpAny_Assign_Name (wpAny_List_spliced (spliced_nil ⟨by size_fits, stNm (hn₃.push _) fun h₄ hn₄ hs₄ => ?_⟩)))
    dsimp only at hn₂ hn₃ hn₄ hs₂ hs₃ hs₄ ⊢
    generalize hRl : h₃.objs.size = Rl at hn₄ hs₄ ⊢
    have hLR : s.heap.objs.size < Rl := hRl ▸ hn₃.lt
    have hkL : ∀ (b : Addr) (o : Obj), s.heap.get? b = some o → h₄.get? b = some o := fun b o q => by
      have hb : b ≠ s.heap.objs.size := Nat.ne_of_lt (Heap.lt_size q)
      exact hs₄.extBut b o hb (Heap.get?_push_of_some _ (hs₃.extBut b o hb (hs₂.extBut b o hb (hk₁ b o q))))
    have hbk₄ : Keep hb h₄ := fun b o q => hkL b o (hbk b o q)
    have hP₄ : PlainL h₄ Rl #[] := ⟨_, _, hs₄.extBut Rl _ (Nat.ne_of_gt hLR) (hRl ▸ Heap.get?_push_size _ rfl), rfl, rfl, rfl⟩
    have hRlt : Rl < h₄.objs.size := hP₄.lt
    have hLlt : s.heap.objs.size < h₄.objs.size := hn₄.lt
    refine wpAny_execs_cons (wpAny_For (callN (st := stmAt 1) (G.fn 1 (by decide)) hg rfl G hbk₄ (Calls.evalArgs_plain (spliced_cons (nm hn₄ rfl (spliced_nil ⟨hbk₄, ?_⟩))))) (fun _ => rfl))
    have hexl : ∀ b : Nat, b ∈ [s.heap.objs.size, Rl] → b < h₄.objs.size := fun b hm => by
      rcases List.mem_cons.mp hm with rfl | hm
      · exact hLlt
      · rw [List.mem_singleton.mp hm]; exact hRlt
    have hexg : ∀ b : Nat, b ∈ [s.heap.objs.size, Rl] → hb.objs.size ≤ b := fun b hm => by
      rcases List.mem_cons.mp hm with rfl | hm
      · exact hbz
      · rw [List.mem_singleton.mp hm]; omega
    refine gen_call (ex := [s.heap.objs.size, Rl]) G hbk₄ (by exact hh) (by show A.depth + 1 < _; omega) hexl hexg (Nat.le_trans hbz (Nat.le_of_lt hLlt)) (by exact hbare) hg fun h₅ tk₅ gs₅ g hk₅ hb₅ S₅ => ?_
    refine wpAny_pyIter_gen S₅.1 ?_
    dsimp only at hk₅ ⊢
    refine forLoop_gen (L := s.heap.objs.size) (ex := [s.heap.objs.size, Rl]) G (fun b o q => hk₅ b o (hbk₄ b o q)) (Nat.le_trans hbz (Nat.le_of_lt hLlt)) (by exact hh) (by show A.depth + 1 < _; omega) (by simp) hexl (Nat.lt_succ_self _) hexg hb₅
      rfl rfl rfl S₅ (hn₄.keeps hk₅) (StripJ x t Rl) (fun j m h h' hJ hkk => ?_) ⟨0, none, [], _, 0, #[], rfl, rfl, rfl, rfl, hP₄.keeps hk₅, .nil, rfl, Nat.le_refl _, by simp⟩
      (fun _ => False) ?_ ?_ ?_
    · obtain ⟨st, op, acc, t1, t2, vs, e1, e2, e3, e4, ⟨o, n, ho, r⟩, e⟩ := hJ
      exact ⟨st, op, acc, t1, t2, vs, e1, e2, e3, e4, ⟨o, n, hkk Rl o hRlt (Nat.ne_of_gt hLR) ho, r⟩, e⟩
    · intro j p cc tq u m₁ s₁ E' hp hJ hn hbk'
      obtain ⟨st, op, acc, t1, t2, vs, e1, e2, e3, e4, hPl, hS, hf, hle, hlen⟩ := hJ
      have hfold := take_fold (stStep x.cps.toList) (0, none, []) hp
      rw [hf] at hfold
      have hjlt : j < (toksOf x).length := (List.getElem?_eq_some_iff.mp hp).1
      have htl : (toksOf x).length ≤ 101 := by have := escGo_len x.cps.toList 0 false; have e : x.cps.toList.length = x.cps.size := by simp
                                               unfold toksOf; omega
      have hvs : vs.size = acc.length := by have := strs_len hS; simpa using this
      refine wpAny_execs_cons (wpAny_If (wpAny_isTrue_Compare1 (nm hn rfl (wpAny_Constant_str (PyProof.Rows.eq_str (wpAny_truthy_bool ?_))))))
      rw [str_eq_lit cc [34] _ (by decide +kernel)]
      have hRL : Rl ≠ s.heap.objs.size := Nat.ne_of_gt hLR
      by_cases h34 : cc = [34]
      · rw [decide_eq_true h34, if_pos rfl]
        refine wpAny_execs_cons (wpAny_If (wpAny_isTrue_Compare1 (nm hn e2 (wpAny_Constant_none (is_none_gen (wpAny_truthy_bool ?_))))))
        cases op with
        | none =>
          rw [show (opVal none t2 == Value.none) = true from rfl, if_pos rfl]
          refine wpAny_execs_cons (wpAny_Assign_Name (nm hn rfl (stNm hn fun h' hn' hs' => wpAny_execs_nil (wpAny_execs_nil (wpAny_execs_nil ?_)))))
          refine ⟨h', _, rfl, fun b o q1 q => hs'.extBut b o (fun z => q1 (by rw [z]; simp)) q, .inl ⟨rfl, _, hn', st, some p, acc, t1, tq, vs, e1, rfl, e3, e4, hPl.extBut hs'.extBut hRL, hS, ?_, by omega, hlen⟩⟩
          rw [hfold, stStep, if_pos h34]
        | some q =>
          rw [show (opVal (some q) t2 == Value.none) = false from rfl, if_neg Bool.false_ne_true]
          refine wpAny_execs_cons (wpAny_If (wpAny_isTrue_Compare1 (nm hn e1 (nm hn e2 (PyProof.Rows.ne_int (wpAny_truthy_bool ?_))))))
          by_cases hsq : st = q
          · subst hsq
            rw [show ((st : Int) != (st : Int)) = false from by simp, if_neg Bool.false_ne_true]
            refine wpAny_execs_nil ?_
            refine wpAny_execs_cons (wpAny_Assign_Name (wpAny_BinOp (nm hn rfl (wpAny_Constant_int (PyProof.Rows.add_int (stNm hn fun h' hn' hs' => ?_))))))
            refine wpAny_execs_cons (wpAny_Assign_Name (wpAny_Constant_none (stNm hn' fun h'' hn'' hs'' => wpAny_execs_nil (wpAny_execs_nil (wpAny_execs_nil ?_)))))
            refine ⟨h'', _, rfl, fun b o q1 q => hs''.extBut b o (fun z => q1 (by rw [z]; simp)) (hs'.extBut b o (fun z => q1 (by rw [z]; simp)) q), .inl ⟨rfl, _, hn'', p + 1, none, acc, _, 0, vs, rfl, rfl, e3, e4, (hPl.extBut hs'.extBut hRL).extBut hs''.extBut hRL, hS, ?_, by omega, hlen⟩⟩
            rw [hfold, stStep, if_pos h34]
            simp
          · rw [show ((st : Int) != (q : Int)) = true from by simpa using (fun z => hsq (by omega)), if_pos rfl]
            refine wpAny_execs_cons (wpAny_Expr (wpAny_Call_append rfl rfl rfl rfl (nm hn e3 ⟨Rl, vs, rfl, hPl, ?_⟩)))
            refine wpAny_Subscript_str_slice (nm hn e4 (by
              refine evalPart_some_step (nm hn e1 (evalPart_some_step (nm hn e2 ⟨x, t, some ((st : Int), t1), some ((q : Int), t2), rfl, rfl, rfl, ?_⟩)))
              refine post_val_or_str ⟨Nat.le_trans (Txt.slice_le x (some (st : Int)) (some (q : Int))) (by rw [sizeLine_eq]; show x.cps.size ≤ _; omega), fun t' k => ?_⟩
              refine list_append_plainL (hPl.keeps fun b o z => Heap.get?_push_of_some _ z) (fun h₆ hPl₆ hs₆ => ?_) (by rw [sizeLine_eq]; omega)
              have hn₆ : h₆.Ns s.heap.objs.size _ := (hn.push _).sameBut hs₆ (Ne.symm hRL)
              refine wpAny_execs_nil ?_
              refine wpAny_execs_cons (wpAny_Assign_Name (wpAny_BinOp (nm hn₆ rfl (wpAny_Constant_int (PyProof.Rows.add_int (stNm hn₆ fun h' hn' hs' => ?_))))))
              refine wpAny_execs_cons (wpAny_Assign_Name (wpAny_Constant_none (stNm hn' fun h'' hn'' hs'' => wpAny_execs_nil (wpAny_execs_nil (wpAny_execs_nil ?_)))))
              refine ⟨h'', _, rfl, fun b o q1 z => ?_, .inl ⟨rfl, _, hn'', p + 1, none, acc ++ [(x.cps.toList.drop st).take (q - st)], _, 0, _, rfl, rfl, e3, e4, (hPl₆.extBut hs'.extBut hRL).extBut hs''.extBut hRL, ?_, ?_, ?_, ?_⟩⟩
              · have b1 : b ≠ s.heap.objs.size := fun z => q1 (by rw [z]; simp)
                have b2 : b ≠ Rl := fun z => q1 (by rw [z]; simp)
                exact hs''.extBut b o b1 (hs'.extBut b o b1 (hs₆.extBut b o b2 (Heap.get?_push_of_some _ z)))
              · rw [Array.toList_push, List.map_append, List.map_cons, List.map_nil, ← sl_nat]
                exact strs_snoc hS (Txt.slice x (some (st : Int)) (some (q : Int))) t'
              · rw [hfold, stStep, if_pos h34]
                simp [hsq]
              · rw [List.length_append]; simp; omega
              · intro y hy
                rcases List.mem_append.mp hy with hy | hy
                · exact hlen y hy
                · rw [List.mem_singleton.mp hy, List.length_take, List.length_drop]
                  have e : x.cps.toList.length = x.cps.size := by simp
                  omega))
      · rw [decide_eq_false h34, if_neg Bool.false_ne_true]
        refine wpAny_execs_nil (wpAny_execs_nil ?_)
        refine ⟨_, _, rfl, fun b o _ q => q, .inl ⟨rfl, _, hn, st, op, acc, t1, t2, vs, e1, e2, e3, e4, hPl, hS, ?_, by omega, hlen⟩⟩
        rw [hfold, stStep, if_neg h34]
    · intro h' tk' gens' m' hn' hJ hk' hb'
      obtain ⟨st, op, acc, t1, t2, vs, e1, e2, e3, e4, hPl, hS, hf, hle, hlen⟩ := hJ
      rw [List.take_length] at hf
      have hRL : Rl ≠ s.heap.objs.size := Nat.ne_of_gt hLR
      have htl : (toksOf x).length ≤ 101 := by have := escGo_len x.cps.toList 0 false; have e : x.cps.toList.length = x.cps.size := by simp
                                               unfold toksOf; omega
      have hvs : vs.size = acc.length := by have := strs_len hS; simpa using this
      have hkS : Keep s.heap h' := fun b o q => hk' b o (Heap.lt_size (hkL b o q)) (fun z => by
        rcases List.mem_cons.mp z with z | z
        · exact Nat.ne_of_lt (Heap.lt_size q) z
        · rw [List.mem_singleton.mp z] at q; exact absurd (Heap.lt_size q) (Nat.not_lt.mpr (Nat.le_of_lt hLR))) (hk₅ b o (hkL b o q))
      have hbk' : Keep hb h' := fun b o q => hkS b o (hbk b o q)
      have hres : strip x.cps.toList = stEnd x.cps.toList (st, op, acc) := by rw [strip, if_pos h34]; exact congrArg _ hf
      have ends : ∀ (h₆ : Heap) (tk₆ : Nat) (acc' : List (List Nat)) (vs' : Array Value) (E' : Value → Shared → Prop) (pos : Pos) (e1 e2 : Pos) (k1 : Nat) (pp : Pos), h₆.Ns s.heap.objs.size m' → PlainL h₆ Rl vs' → StrsAre vs'.toList (acc'.map fun y => (⟨y.toArray⟩ : Str)) → acc'.length ≤ 102 → (∀ y ∈ acc', y.length ≤ 100) → Keep s.heap h₆ →
          acc'.flatten = strip x.cps.toList → (e2.endLine == pos.line) = true → wpAny (model prog w) (A.deeper (envOf (nameOf (stmAt 2)) (scopeOf (stmAt 2)) s.heap.objs.size fs code)) (eval (.Call (.Attribute (.Constant (.str "") k1 e1) "join" e2) [.Name "result" pp] [] pos) (envOf (nameOf (stmAt 2)) (scopeOf (stmAt 2)) s.heap.objs.size fs code)) (fun v => Q v) E' { s with heap := h₆, toks := tk₆, gens := gens' } := by
        intro h₆ tk₆ acc' vs' E' pos e1 e2 k1 pp hn₆ hP₆ hS₆ hl₆ hy₆ hk₆ hfl hline
        refine wpAny_Call_method (T := "str") (id := "str.join") rfl rfl hline F.plainAttrs_str F.slot_str_join F.type_str_join (wpAny_Constant_str (k := k1) (pos := e1) ⟨typeIs_str _ _ _, (fun _ e => nomatch e), ?_⟩)
        refine Calls.callWith_builtin rfl (Calls.evalArgs_plain (spliced_cons (nm hn₆ e3 (spliced_nil ?_))))
        refine join_listW hP₆.isList hS₆ (by decide +kernel) ?_ fun t' k => ?_
        · have h1 := StrLaws.sumLen_le (B := 100) (acc'.map fun y => (⟨y.toArray⟩ : Str)) (fun y hy => by
            obtain ⟨z, hz, rfl⟩ := List.mem_map.mp hy
            simpa [Str.length] using hy₆ z hz)
          rw [List.length_map] at h1 ⊢
          omega
        · refine hQ _ h₆ k _ hk₆ hb' ⟨t', ?_⟩
          rw [show Str.ofString "" = ⟨#[]⟩ from by decide +kernel, join_flat, hfl]
      refine wpAny_execs_cons (wpAny_If (wpAny_isTrue_Compare1 (nm hn' e1 (wpAny_Call_NameR (bltn (G.keeps hbk') (by decide) boot_len (Calls.callWith_builtin rfl (Calls.evalArgs_plain (spliced_cons (nm hn' e4 (spliced_nil ?_))))))))))
      refine PyProof.Rows.len_str (by show ¬ ((x.cps.size : Int) ≥ 2 ^ 63); omega) ?_
      refine PyProof.Rows.lt_int (wpAny_truthy_bool ?_)
      have hxl : x.cps.toList.length = x.cps.size := by simp
      by_cases hlt : st < x.cps.size
      · rw [show decide ((st : Int) < (x.length : Int)) = true from decide_eq_true (by show (st : Int) < (x.cps.size : Int); omega), if_pos rfl]
        refine wpAny_execs_cons (wpAny_Expr (wpAny_Call_append rfl rfl rfl rfl (nm hn' e3 ⟨Rl, vs, rfl, hPl, ?_⟩)))
        refine wpAny_Subscript_str_slice (nm hn' e4 (by
          refine evalPart_some_step (nm hn' e1 (evalPart_none_step ⟨x, t, some ((st : Int), t1), none, rfl, rfl, rfl, ?_⟩))
          refine post_val_or_str ⟨Nat.le_trans (Txt.slice_le x (some (st : Int)) none) (by rw [sizeLine_eq]; show x.cps.size ≤ _; omega), fun t' k => ?_⟩
          refine list_append_plainL (hPl.keeps fun b o z => Heap.get?_push_of_some _ z) (fun h₆ hPl₆ hs₆ => ?_) (by rw [sizeLine_eq]; omega)
          have hn₆ : h₆.Ns s.heap.objs.size m' := (hn'.push _).sameBut hs₆ (Ne.symm hRL)
          refine wpAny_execs_nil ?_
          refine wpAny_execs_cons (wpAny_Return_some (ends h₆ _ (acc ++ [x.cps.toList.drop st]) _ _ _ _ _ _ _ hn₆ hPl₆ ?_ (by rw [List.length_append]; simp; omega) ?_ ?_ ?_ rfl))
          · rw [Array.toList_push, List.map_append, List.map_cons, List.map_nil, ← sl_from]
            exact strs_snoc hS (Txt.slice x (some (st : Int)) none) t'
          · intro y hy
            rcases List.mem_append.mp hy with hy | hy
            · exact hlen y hy
            · rw [List.mem_singleton.mp hy, List.length_drop]
              omega
          · exact fun b o q => hs₆.extBut b o (fun z => absurd (Heap.lt_size q) (by rw [z]; exact Nat.not_lt.mpr (Nat.le_of_lt hLR))) (Heap.get?_push_of_some _ (hkS b o q))
          · rw [hres, stEnd, if_pos (by rw [hxl]; exact hlt)]))
      · rw [show decide ((st : Int) < (x.length : Int)) = false from decide_eq_false (by show ¬ (st : Int) < (x.cps.size : Int); omega), if_neg Bool.false_ne_true]
        refine wpAny_execs_nil ?_
        refine wpAny_execs_cons (wpAny_Return_some (ends h' _ acc vs _ _ _ _ _ _ hn' hPl hS (by omega) hlen hkS ?_ rfl))
        rw [hres, stEnd, if_neg (by rw [hxl]; exact hlt)]
    · intro v h' tk' gens' hV
      exact hV.elim
  · rw [decide_eq_false h34, Bool.not_false, if_pos rfl]
    refine wpAny_execs_cons (wpAny_Return_some (nm hn₁ rfl ?_))
    refine hQ _ h₁ _ _ hk₁ hbare ⟨t, ?_⟩
    rw [strip, if_neg h34]
end
end Mine

open PySem PySem.W PyProof.Rows
open PySem.Calls (spliced_nil spliced_cons)
set_option Elab.async false
set_option maxRecDepth 100000
set_option maxHeartbeats 2000000
namespace Mine
section
variable {prog : Program} {w : World} {A : Around} {s : Shared} {mg mb : Str → Option Value} {E : Value → Shared → Prop}

theorem check_spec {hb : Heap} (G : Gr mg mb hb) {fg fs fc : Nat} (hg : mg "_iter_escaped_chars" = some (.ref fg)) (hs : mg "_strip_quoted_realnames" = some (.ref fs)) (hc : mg "_check_parenthesis" = some (.ref fc))
    {x : Str} {t : Tok} (hx : x.cps.size ≤ 100) : Gives prog w hb fc [.str x t] 4 (fun _ => True) fun v _ => v = .bool (checkP x.cps.toList) :=
  check_of_strip G hg hs hc (strip_spec G hg hs hx)

/-- a for over what walks: the turns change the frame, the objects of ex and what they make -/
theorem forLoop_walks (Γ : Array GenState → Prop) {I N₀ n : Nat} {L : Nat} {env : Env} {fp wr ex : List Addr} {P : Nat → Value → Prop} {St : Nat → Heap → Prop} {xv : Str} {hb : Heap} {R : Result → Shared → Prop} {m : Str → Option Value} {body : List Stmt} {px : Pos}
    (W : Walks prog w A I fp wr n P St) (hbk : Keep hb s.heap) (hbz : hb.objs.size ≤ N₀) (hLx : L ∈ ex) (hexN : ∀ b : Nat, b ∈ ex → b < N₀) (hfx : ∀ b : Nat, b ∈ fp → b ∉ ex) (hwr : ∀ b : Nat, b ∈ wr → N₀ ≤ b) (hexb : ∀ b : Nat, b ∈ ex → hb.objs.size ≤ b) (hbare : Γ s.gens)
    (hlx : env.kindOf xv = some .local) (hp : (env.scope.kind == .class || (env.scope.kind == .module && env.locals != env.globals)) = false) (heL : env.locals = L)
    (hst : St 0 s.heap) (hn : s.heap.Ns L m) (J : Nat → (Str → Option Value) → Heap → Prop)
    (hJ : ∀ j m h h', J j m h → (∀ (b : Nat) (o : Obj), b ∉ wr → b ≠ L → h.get? b = some o → h'.get? b = some o) → J j m h') (h0 : J 0 m s.heap) (V : Value → Prop)
    (step : ∀ j v m₁ s₁ E', j < n → P j v → St (j + 1) s₁.heap → J j m₁ s₁.heap → s₁.heap.Ns L (fun y => if y = xv then some v else m₁ y) → Keep hb s₁.heap → Γ s₁.gens → (∀ (b : Nat) (o : Obj), b < N₀ → b ∉ ex → s.heap.get? b = some o → s₁.heap.get? b = some o) →
      wpAny (model prog w) A (execs body env) (fun fl s₂ => ∃ h' tk gs, s₂ = { s₁ with heap := h', toks := tk, gens := gs } ∧ KeepEx ex s₁.heap h' ∧ Γ gs ∧
        ((fl = .next ∧ ∃ m₂, h'.Ns L m₂ ∧ J (j + 1) m₂ h') ∨ (∃ v, fl = .ret v ∧ V v))) E' s₁)
    (hR : ∀ h' tk gens' m', h'.Ns L m' → J n m' h' → (∀ (b : Nat) (o : Obj), b < N₀ → b ∉ ex → s.heap.get? b = some o → h'.get? b = some o) → Γ gens' → R (.ok .next) { s with heap := h', toks := tk, gens := gens' })
    (hRet : ∀ v h' tk gens', V v → (∀ (b : Nat) (o : Obj), b < N₀ → b ∉ ex → s.heap.get? b = some o → h'.get? b = some o) → Γ gens' → R (.ok (.ret v)) { s with heap := h', toks := tk, gens := gens' }) :
    codeAny (model prog w) A (.forLoop (.Name xv px) (.ref I) body [] env) R s := by
  subst heL
  have hbx : ∀ (b : Addr) (o : Obj), hb.get? b = some o → b < N₀ ∧ b ∉ ex := fun b o q =>
    ⟨Nat.lt_of_lt_of_le (Heap.lt_size q) hbz, fun hm => absurd (Nat.lt_of_lt_of_le (Heap.lt_size q) (hexb b hm)) (Nat.lt_irrefl _)⟩
  have hLN : env.locals < N₀ := hexN env.locals hLx
  have hwN : ∀ b : Nat, b < N₀ → b ∉ wr := fun b h1 h2 => absurd (hwr b h2) (by omega)
  have hLf : env.locals ∉ fp := fun hm => hfx env.locals hm hLx
  refine codeAny_forLoop
    (fun k s' => ∃ h' tk gens' m' j, s' = { s with heap := h', toks := tk, gens := gens' } ∧ St j h' ∧ Γ gens' ∧ h'.Ns env.locals m' ∧ J j m' h' ∧ j ≤ n ∧
      k = n + 1 - j ∧ ∀ (b : Nat) (o : Obj), b < N₀ → b ∉ ex → s.heap.get? b = some o → h'.get? b = some o) ?_ (n + 1)
    ⟨s.heap, s.toks, s.gens, m, 0, rfl, hst, hbare, hn, h0, Nat.zero_le _, rfl, fun _ _ _ _ q => q⟩
  rintro k s' ⟨h', tk, gens', m', j, rfl, hst', hb', hn', hJ', hj, rfl, hk'⟩
  have hbk' : Keep hb h' := fun b o q => hk' b o (hbx b o q).1 (hbx b o q).2 (hbk b o q)
  by_cases hlt : j < n
  · refine W.item j _ _ _ hlt hst' fun v h₁ tk₁ hPv hst₁ hk₁ => ?_
    have hn₁ : h₁.Ns env.locals m' := hn'.at' fun o q => hk₁ env.locals o (hwN env.locals hLN) q
    refine wpAny_assign_Name (wpAny_storeName_local hlx hn₁ (fun h₂ hn₂ hs₂ => ?_) hp)
    have k₂ : ∀ (b : Nat) (o : Obj), b ∉ wr → b ≠ env.locals → h'.get? b = some o → h₂.get? b = some o := fun b o h1 h2 q => hs₂.extBut b o h2 (hk₁ b o h1 q)
    have hLn : ∀ b : Addr, b ∉ ex → b ≠ env.locals := fun b h1 h2 => h1 (h2 ▸ hLx)
    have kall₂ : ∀ (b : Nat) (o : Obj), b < N₀ → b ∉ ex → s.heap.get? b = some o → h₂.get? b = some o := fun b o h1 h2 q => k₂ b o (hwN b h1) (hLn b h2) (hk' b o h1 h2 q)
    have hbk₂ : Keep hb h₂ := fun b o q => kall₂ b o (hbx b o q).1 (hbx b o q).2 (hbk b o q)
    have hst₂ : St (j + 1) h₂ := W.frame _ _ _ hst₁ fun b hb o q => hs₂.extBut b o (fun z => hLf (z ▸ hb)) q
    refine wpAny_mono (step j v m' _ _ hlt hPv hst₂ (hJ j m' h' h₂ hJ' k₂) hn₂ hbk₂ hb' kall₂) (fun fl s₂ h₂' => ?_) fun _ _ q => q
    obtain ⟨h₅, tk₅, gs₅, rfl, hk₅, hb₅, hfl⟩ := h₂'
    have kall : ∀ (b : Nat) (o : Obj), b < N₀ → b ∉ ex → s.heap.get? b = some o → h₅.get? b = some o := fun b o h1 h2 q => hk₅ b o h2 (kall₂ b o h1 h2 q)
    rcases hfl with ⟨rfl, m₂, hn₅, hJ₅⟩ | ⟨v, rfl, hV⟩
    · exact ⟨n + 1 - (j + 1), by omega, h₅, tk₅, gs₅, m₂, j + 1, rfl, W.frame _ _ _ hst₂ fun b hb o q => hk₅ b o (hfx b hb) q, hb₅, hn₅, hJ₅, hlt, rfl, kall⟩
    · exact hRet v h₅ tk₅ gs₅ hV kall hb₅
  · have hje : j = n := by omega
    subst hje
    refine W.done _ _ _ hst' fun h₁ tk₁ hk₁ => wpAny_execs_nil ?_
    exact hR h₁ tk₁ gens' m' (hn'.at' fun o q => hk₁ env.locals o (hwN env.locals hLN) q) (hJ _ _ _ _ hJ' fun b o h1 _ q => hk₁ b o h1 q) (fun b o h1 h2 q => hk₁ b o (hwN b h1) (hk' b o h1 h2 q)) hb'
end
end Mine

open PySem PySem.W PyProof.Rows
open PySem.Calls (spliced_nil spliced_cons)
set_option Elab.async false
set_option maxRecDepth 100000
set_option maxHeartbeats 2000000
namespace Mine

def badS : Str := Str.ofString "('', '')"
def preVal (y : Str) : Str := if checkP y.cps.toList = true then y else badS

/-- as Gives, the answer told against the heap ahead of the call -/
def GivesH (prog : Program) (w : World) (hb : Heap) (f : Nat) (args : List Value) (k : Nat) (pre : Heap → Prop) (P : Heap → Value → Heap → Prop) : Prop :=
  ∀ (A : Around) (s : Shared) (Q E : Value → Shared → Prop), A.handled = none → A.depth + k < recursionLimit → Keep hb s.heap → hb.objs.size ≤ s.heap.objs.size → BareAll s.gens → pre s.heap →
    (∀ v h' tk gs, Keep s.heap h' → BareAll gs → P s.heap v h' → Q v { s with heap := h', toks := tk, gens := gs }) → wpAny (model prog w) A (call (.ref f) args) Q E s

theorem strs_get {vs : List Value} {ys : List Str} (h : StrsAre vs ys) : ∀ {j : Nat} {v : Value}, vs[j]? = some v → ∃ y t, v = .str y t ∧ ys[j]? = some y := by
  induction h with
  | nil => intro j v e; simp at e
  | cons y t _ ih =>
    intro j v e
    cases j with
    | zero => simp at e; exact ⟨y, t, e.symm, by simp⟩
    | succ j => simpa using ih (by simpa using e)

theorem take_snoc {α : Type} {l : List α} {j : Nat} {y : α} (h : l[j]? = some y) : l.take (j + 1) = l.take j ++ [y] := by
  rw [List.take_add_one, h]; rfl

section
variable {prog : Program} {w : World} {A : Around} {s : Shared} {mg mb : Str → Option Value} {E : Value → Shared → Prop}

theorem pre_spec {hb : Heap} (G : Gr mg mb hb) {fg fs fc fp : Nat} (hg : mg "_iter_escaped_chars" = some (.ref fg)) (hs : mg "_strip_quoted_realnames" = some (.ref fs)) (hc : mg "_check_parenthesis" = some (.ref fc)) (hp : mg "_pre_parse_validation" = some (.ref fp))
    {l : Nat} {items : Array Value} {ys : List Str} (hS : StrsAre items.toList ys) (hy : ∀ y ∈ ys, y.cps.size ≤ 100) (hlen : ys.length ≤ 1000) :
    GivesH prog w hb fp [.ref l] 6 (fun h => h.IsList l items) fun h₀ v h' => ∃ (r : Nat) (vs : Array Value), v = .ref r ∧ h₀.objs.size ≤ r ∧ PlainL h' r vs ∧ StrsAre vs.toList (ys.map preVal) := by
  intro A s Q E hh hroom hbk hbz hbare hl hQ
  have hll : l < s.heap.objs.size := let ⟨_, ho, _⟩ := hl; Heap.lt_size ho
  have hsz : items.size = ys.length := by have := strs_len hS; simpa using this
  refine call_fn (st := stmAt 4) (binds := [("email_header_fields", .ref l)]) (G.fn 4 (by decide)) hp G hbk (by omega) (fun _ _ _ => rfl) (locs rfl) (fun code h₁ tk hn₁ hk₁ => ?_)
  refine wpAny_execs_cons (wpAny_Assign_Name (wpAny_List_spliced (spliced_nil ⟨by size_fits, stNm (hn₁.push _) fun h₄ hn₄ hs₄ => ?_⟩)))
  dsimp only at hn₄ hs₄ ⊢
  generalize hRl : h₁.objs.size = Rl at hn₄ hs₄ ⊢
  have hLR : s.heap.objs.size < Rl := hRl ▸ hn₁.lt
  have hkL : ∀ (b : Addr) (o : Obj), s.heap.get? b = some o → h₄.get? b = some o := fun b o q => by
    have hb : b ≠ s.heap.objs.size := Nat.ne_of_lt (Heap.lt_size q)
    exact hs₄.extBut b o hb (Heap.get?_push_of_some _ (hk₁ b o q))
  have hbk₄ : Keep hb h₄ := fun b o q => hkL b o (hbk b o q)
  have hP₄ : PlainL h₄ Rl #[] := ⟨_, _, hs₄.extBut Rl _ (Nat.ne_of_gt hLR) (hRl ▸ Heap.get?_push_size _ rfl), rfl, rfl, rfl⟩
  have hRlt : Rl < h₄.objs.size := hP₄.lt
  have hLlt : s.heap.objs.size < h₄.objs.size := hn₄.lt
  have hl₄ : h₄.IsList l items := hl.at fun o q => hkL l o q
  have hexl : ∀ b : Nat, b ∈ [s.heap.objs.size, Rl] → b < h₄.objs.size := fun b hm => by
    rcases List.mem_cons.mp hm with rfl | hm
    · exact hLlt
    · rw [List.mem_singleton.mp hm]; exact hRlt
  have hexg : ∀ b : Nat, b ∈ [s.heap.objs.size, Rl] → hb.objs.size ≤ b := fun b hm => by
    rcases List.mem_cons.mp hm with rfl | hm
    · exact hbz
    · rw [List.mem_singleton.mp hm]; omega
  refine wpAny_execs_cons (wpAny_For (nm hn₄ rfl (wpAny_pyIter_list hl₄ ?_)) (fun _ => rfl))
  dsimp only
  have hI : l ≠ h₄.objs.size := by omega
  have hW := Walks.list (prog := prog) (w := w) (A := A.deeper (envOf (nameOf (stmAt 4)) (scopeOf (stmAt 4)) s.heap.objs.size fp code)) hh h₄.objs.size l hI items
  refine forLoop_walks BareAll (N₀ := h₄.objs.size) (L := s.heap.objs.size) (ex := [s.heap.objs.size, Rl]) hW (fun b o q => Heap.get?_push_of_some _ (hbk₄ b o q)) (Nat.le_trans hbz (Nat.le_of_lt hLlt)) (by simp) hexl (fun b hm hx => ?_) (fun b hm => ?_) hexg (by exact hbare)
    rfl rfl rfl ⟨⟨_, Heap.get?_push_size _ rfl, rfl, rfl⟩, hl₄.push _⟩ (hn₄.push _)
    (fun j m h => ∃ vs, m "accepted_values" = some (.ref Rl) ∧ PlainL h Rl vs ∧ StrsAre vs.toList ((ys.take j).map preVal)) ?_ ⟨#[], rfl, hP₄.keeps fun b o q => Heap.get?_push_of_some _ q, .nil⟩ (fun _ => False) ?_ ?_ ?_
  · rcases List.mem_cons.mp hm with rfl | hm
    · exact absurd (hexl _ hx) (Nat.lt_irrefl _)
    · rw [List.mem_singleton.mp hm] at hx
      rcases List.mem_cons.mp hx with z | z
      · omega
      · have := List.mem_singleton.mp z; omega
  · rw [List.mem_singleton.mp hm]; exact Nat.le_refl _
  · rintro j m h h' ⟨vs, e1, ⟨o, n, ho, r⟩, e3⟩ hkk
    exact ⟨vs, e1, ⟨o, n, hkk Rl o (by simp; omega) (Nat.ne_of_gt hLR) ho, r⟩, e3⟩
  · rintro j v m₁ s₁ E' hj hv _ ⟨vs, e1, hPl, hSv⟩ hn hbk' hb' hkk
    obtain ⟨y, ty, rfl, hyj⟩ := strs_get hS (j := j) (v := v) (by simpa using hv)
    have hyl : y.cps.size ≤ 100 := hy y (List.mem_of_getElem? hyj)
    have hvs : vs.size ≤ 1000 := by
      have := strs_len hSv
      rw [List.length_map, List.length_take] at this
      have e : vs.toList.length = vs.size := by simp
      omega
    refine wpAny_execs_cons (wpAny_If (PyProof.Rows.isTrue_not (wpAny_isTrue_value (callN (st := stmAt 3) (G.fn 3 (by decide)) hc rfl G hbk' (Calls.evalArgs_plain (spliced_cons (nm hn rfl (spliced_nil ⟨hbk', ?_⟩))))))))
    refine check_spec G hg hs hc hyl _ _ _ _ hh (by show A.depth + 1 + 4 < _; omega) hbk' (Nat.le_trans hbz (Nat.le_of_lt hn.lt)) hb' trivial fun v h₅ tk₅ gs₅ hk₅ hb₅ hv₅ => ?_
    subst hv₅
    refine wpAny_truthy_bool ?_
    have hRL : Rl ≠ s.heap.objs.size := Nat.ne_of_gt hLR
    have hn₅ := hn.keeps hk₅
    have hPl₅ := hPl.keeps hk₅
    have hke : ∀ (h₆ h₇ : Heap), KeepEx [s.heap.objs.size, Rl] h₅ h₆ → Heap.SameBut Rl h₆ h₇ → KeepEx [s.heap.objs.size, Rl] s₁.heap h₇ := fun h₆ h₇ h1 h2 b o hb q =>
      h2.extBut b o (fun z => hb (by rw [z]; simp)) (h1 b o hb (hk₅ b o q))
    cases hcp : checkP y.cps.toList with
    | true =>
      rw [Bool.not_true, if_neg Bool.false_ne_true]
      refine wpAny_execs_nil ?_
      refine wpAny_execs_cons (wpAny_Expr (wpAny_Call_append rfl rfl rfl rfl (nm hn₅ e1 ⟨Rl, vs, rfl, hPl₅, nm hn₅ rfl (list_append_plainL hPl₅ (fun h₆ hPl₆ hs₆ => wpAny_execs_nil ?_) (by rw [sizeLine_eq]; omega))⟩)))
      refine ⟨h₆, _, _, rfl, hke h₅ h₆ (fun _ _ _ q => q) hs₆, hb₅, .inl ⟨rfl, _, hn₅.sameBut hs₆ (Ne.symm hRL), _, e1, hPl₆, ?_⟩⟩
      rw [Array.toList_push, take_snoc hyj, List.map_append, List.map_cons, List.map_nil]
      have e : preVal y = y := by unfold preVal; rw [hcp, if_pos rfl]
      rw [e]
      exact strs_snoc hSv y ty
    | false =>
      rw [Bool.not_false, if_pos rfl]
      refine wpAny_execs_cons (wpAny_Assign_Name (wpAny_Constant_str (stNm hn₅ fun h₅' hn₅' hs₅' => wpAny_execs_nil ?_)))
      have hPl₅' := hPl₅.extBut hs₅'.extBut hRL
      refine wpAny_execs_cons (wpAny_Expr (wpAny_Call_append rfl rfl rfl rfl (nm hn₅' e1 ⟨Rl, vs, rfl, hPl₅', nm hn₅' rfl (list_append_plainL hPl₅' (fun h₆ hPl₆ hs₆ => wpAny_execs_nil ?_) (by rw [sizeLine_eq]; omega))⟩)))
      refine ⟨h₆, _, _, rfl, hke h₅' h₆ (fun b o hb q => hs₅'.extBut b o (fun z => hb (by rw [z]; simp)) q) hs₆, hb₅, .inl ⟨rfl, _, hn₅'.sameBut hs₆ (Ne.symm hRL), _, e1, hPl₆, ?_⟩⟩
      rw [Array.toList_push, take_snoc hyj, List.map_append, List.map_cons, List.map_nil]
      have e : preVal y = badS := by unfold preVal; rw [hcp, if_neg Bool.false_ne_true]
      rw [e]
      exact strs_snoc hSv badS _
  · rintro h' tk' gens' m' hn' ⟨vs, e1, hPl, hSv⟩ hk' hb'
    rw [hsz, List.take_length] at hSv
    refine wpAny_execs_cons (wpAny_Return_some (nm hn' e1 ?_))
    refine hQ _ h' _ gens' (fun b o q => hk' b o (Heap.lt_size (hkL b o q)) (fun z => ?_) (Heap.get?_push_of_some _ (hkL b o q))) hb' ⟨Rl, vs, rfl, Nat.le_of_lt hLR, hPl, hSv⟩
    rcases List.mem_cons.mp z with z | z
    · exact Nat.ne_of_lt (Heap.lt_size q) z
    · rw [List.mem_singleton.mp z] at q; exact absurd (Heap.lt_size q) (Nat.not_lt.mpr (Nat.le_of_lt hLR))
  · exact fun v h' tk gens' hV => hV.elim
end
end Mine

open PySem PySem.W PyProof.Rows
open PySem.Calls (spliced_nil spliced_cons)
set_option Elab.async false
set_option maxRecDepth 100000
set_option maxHeartbeats 2000000
namespace Mine

/-- as GivesH, no generator is made -/
def GivesK (prog : Program) (w : World) (hb : Heap) (f : Nat) (args : List Value) (k : Nat) (pre : Heap → Prop) (P : Heap → Value → Heap → Prop) : Prop :=
  ∀ (A : Around) (s : Shared) (Q E : Value → Shared → Prop), A.handled = none → A.depth + k < recursionLimit → Keep hb s.heap → hb.objs.size ≤ s.heap.objs.size → pre s.heap →
    (∀ v h' tk, Keep s.heap h' → P s.heap v h' → Q v { s with heap := h', toks := tk }) → wpAny (model prog w) A (call (.ref f) args) Q E s

/-- a row's weight -/
def wtGo (lv dn : List Int) : List Nat → Nat → Int → Option Int
  | [], _, w => some w
  | c :: r, h, w =>
    if c = 40 then wtGo lv dn r (h + 1) w
    else if c = 41 then (if h = 0 then none else (dn[h]?).bind fun d => wtGo lv dn r (h - 1) (w * d))
    else (lv[h]?).bind fun l => wtGo lv dn r h (w * l)

theorem ints_get {vs : List Value} {ns : List Int} (h : IntsAre vs ns) : ∀ {j : Nat} {n : Int}, ns[j]? = some n → ∃ t, vs[j]? = some (.int n t) := by
  induction h with
  | nil => intro j n e; simp at e
  | cons n t _ ih =>
    intro j k e
    cases j with
    | zero => simp at e; exact ⟨_, by simp [e]; rfl⟩
    | succ j => simpa using ih (by simpa using e)

theorem seq_at {i n : Nat} (h : i < n) : seqIndex? (i : Int) n = some i := by
  unfold seqIndex?
  simp only [show ¬ ((i : Int) < 0) by omega, if_false]
  simp
  omega

section
variable {prog : Program} {w : World} {A : Around} {s : Shared} {mg mb : Str → Option Value} {E : Value → Shared → Prop}

theorem weight_spec {hb : Heap} (G : Gr mg mb hb) {fw : Nat} (hf : mg "_law_weight" = some (.ref fw)) {row : List Nat} {t : Tok} {la da : Nat} {lvs dvs : List Value} {lv dn : List Int} {W : Int}
    (hlv : IntsAre lvs lv) (hdn : IntsAre dvs dn) (hl : lv.length ≤ 100) (hd : dn.length ≤ 100) (hlb : ∀ x ∈ lv, -(2 ^ 64) < x ∧ x < 2 ^ 64) (hdb : ∀ x ∈ dn, -(2 ^ 64) < x ∧ x < 2 ^ 64) (hW : wtGo lv dn row 0 1 = some W) :
    GivesK prog w hb fw [.str ⟨row.toArray⟩ t, .ref la, .ref da] 2 (fun h => IsTup h la lvs.toArray ∧ IsTup h da dvs.toArray) fun _ v _ => ∃ u, v = .int W u := by
  intro A s Q E hh hroom hbk hbz ⟨hla, hda⟩ hQ
  have hlal : la < s.heap.objs.size := let ⟨_, ho, _⟩ := hla; Heap.lt_size ho
  have hdal : da < s.heap.objs.size := let ⟨_, ho, _⟩ := hda; Heap.lt_size ho
  refine call_fn (st := stmAt 8) (binds := [("row", .str ⟨row.toArray⟩ t), ("level", .ref la), ("down", .ref da)]) (G.fn 8 (by decide)) hf G hbk (by omega) (fun _ _ _ => rfl) (locs rfl) (fun code h₁ tk hn₁ hk₁ => ?_)
  refine wpAny_execs_cons (Assign_Tuple (wpAny_Tuple_spliced (spliced_cons (wpAny_Constant_int (k := 0) (pos := default) (spliced_cons (wpAny_Constant_int (k := 0) (pos := default) (spliced_nil ⟨by size_fits, ?_⟩)))))))
  refine wpAny_assign_Tuple (by exact hh) ⟨_, Heap.get?_push_size _ rfl, rfl, _, rfl⟩ rfl rfl fun h₂ hx₂ => ?_
  dsimp only at hx₂ ⊢
  have hk₂ : Keep h₁ h₂ := fun b o q => hx₂ b o (by rw [Heap.size_push]; exact Nat.ne_of_lt (Nat.lt_succ_of_lt (Heap.lt_size q))) (Heap.get?_push_of_some _ q)
  have hn₂ := hn₁.keeps hk₂
  refine wpAny_bind (wpAny_holding (wpAny_assign_Name (stNm hn₂ fun h₃ hn₃ hs₃ => ?_)))
  refine wpAny_bind (wpAny_holding (wpAny_assign_Name (stNm hn₃ fun h₄ hn₄ hs₄ => wpAny_pure ?_)))
  dsimp only at hn₃ hn₄ hs₃ hs₄ ⊢
  have hkL : ∀ (b : Addr) (o : Obj), s.heap.get? b = some o → h₄.get? b = some o := fun b o q => by
    have hb : b ≠ s.heap.objs.size := Nat.ne_of_lt (Heap.lt_size q)
    exact hs₄.extBut b o hb (hs₃.extBut b o hb (hk₂ b o (hk₁ b o q)))
  have hbk₄ : Keep hb h₄ := fun b o q => hkL b o (hbk b o q)
  have hLlt : s.heap.objs.size < h₄.objs.size := hn₄.lt
  refine wpAny_execs_cons (wpAny_For (nm hn₄ rfl (wpAny_pyIter_str fun ob St Wk hst => ?_)) (fun _ => rfl))
  dsimp only at hst Wk ⊢
  refine forLoop_walks (fun g => g = s.gens) (N₀ := h₄.objs.size) (L := s.heap.objs.size) (ex := [s.heap.objs.size]) (Wk _ (by exact hh)) (fun b o q => Heap.get?_push_of_some _ (hbk₄ b o q)) (Nat.le_trans hbz (Nat.le_of_lt hLlt)) (by simp)
    (fun b hm => by rw [List.mem_singleton.mp hm]; exact hLlt) (fun b hm hx => ?_) (fun b hm => by rw [List.mem_singleton.mp hm]; exact Nat.le_refl _) (fun b hm => by rw [List.mem_singleton.mp hm]; exact hbz) rfl
    rfl rfl rfl hst (hn₄.push _)
    (fun j m h => ∃ (hi : Nat) (we : Int) (t1 t2 : Tok), m "height" = some (.int (hi : Nat) t1) ∧ m "weight" = some (.int we t2) ∧ m "level" = some (.ref la) ∧ m "down" = some (.ref da) ∧ wtGo lv dn (row.drop j) hi we = some W)
    (fun _ _ _ _ q _ => q) ⟨0, 1, _, _, rfl, rfl, rfl, rfl, by rw [List.drop_zero]; exact hW⟩ (fun _ => False) ?_ ?_ ?_
  · rw [List.mem_singleton.mp hm] at hx
    have := List.mem_singleton.mp hx
    omega
  · rintro j v m₁ s₁ E' hj ⟨c, u, hc, rfl⟩ _ ⟨hi, we, t1, t2, e1, e2, e3, e4, hw⟩ hn hbk' hb' hkk
    have hcr : row[j]? = some c := by simpa using hc
    rw [drop_of_get hcr] at hw
    have hla₁ : IsTup s₁.heap la lvs.toArray := let ⟨o, ho, r⟩ := hla; ⟨o, hkk la o (by omega) (fun z => by have := List.mem_singleton.mp z; omega) (Heap.get?_push_of_some _ (hkL la o ho)), r⟩
    have hda₁ : IsTup s₁.heap da dvs.toArray := let ⟨o, ho, r⟩ := hda; ⟨o, hkk da o (by omega) (fun z => by have := List.mem_singleton.mp z; omega) (Heap.get?_push_of_some _ (hkL da o ho)), r⟩
    refine wpAny_execs_cons (wpAny_If (wpAny_isTrue_Compare1 (nm hn rfl (wpAny_Constant_str (PyProof.Rows.eq_str (wpAny_truthy_bool ?_))))))
    rw [show ((⟨#[c]⟩ : Str) == Str.ofString "(") = decide ([c] = [40]) from str_eq_lit [c] [40] _ (by decide +kernel)]
    by_cases h40 : c = 40
    · subst h40
      rw [decide_eq_true rfl, if_pos rfl]
      refine wpAny_execs_cons (wpAny_Assign_Name (wpAny_BinOp (nm hn e1 (wpAny_Constant_int (PyProof.Rows.add_int (stNm hn fun h' hn' hs' => wpAny_execs_nil (wpAny_execs_nil ?_)))))))
      refine ⟨h', _, _, rfl, fun b o q1 q => hs'.extBut b o (fun z => q1 (List.mem_singleton.mpr z)) q, hb', .inl ⟨rfl, _, hn', hi + 1, we, _, t2, rfl, e2, e3, e4, ?_⟩⟩
      rw [wtGo, if_pos rfl] at hw
      exact hw
    · rw [show decide ([c] = [40]) = false from decide_eq_false (by simpa using h40), if_neg Bool.false_ne_true]
      refine wpAny_execs_cons (wpAny_If (wpAny_isTrue_Compare1 (nm hn rfl (wpAny_Constant_str (PyProof.Rows.eq_str (wpAny_truthy_bool ?_))))))
      rw [show ((⟨#[c]⟩ : Str) == Str.ofString ")") = decide ([c] = [41]) from str_eq_lit [c] [41] _ (by decide +kernel)]
      by_cases h41 : c = 41
      · subst h41
        rw [decide_eq_true rfl, if_pos rfl]
        rw [wtGo, if_neg h40, if_pos rfl] at hw
        by_cases h0 : hi = 0
        · rw [if_pos h0] at hw; cases hw
        rw [if_neg h0] at hw
        obtain ⟨d, hd1, hw⟩ := Option.bind_eq_some_iff.mp hw
        obtain ⟨td, hd2⟩ := ints_get hdn hd1
        have hlt : hi < dn.length := (List.getElem?_eq_some_iff.mp hd1).1
        have hdd := hdb d (List.mem_of_getElem? hd1)
        refine wpAny_execs_cons (wpAny_Assign_Name (wpAny_BinOp (nm hn e2 (Subscript_ (nm hn e4 (nm hn e1 (item_tupleT hda₁ (by omega) (by omega) (seq_at (by rw [hdn.length]; exact hlt)) hd2
          (PyProof.Rows.mul_int (stNm hn fun h' hn' hs' => ?_) (IntMulOk.of_right (intBits_le_64 hdd.1 hdd.2))))))))))
        refine wpAny_execs_cons (wpAny_Assign_Name (wpAny_BinOp (nm hn' e1 (wpAny_Constant_int (PyProof.Rows.sub_int (stNm hn' fun h'' hn'' hs'' => wpAny_execs_nil (wpAny_execs_nil (wpAny_execs_nil ?_))))))))
        refine ⟨h'', _, _, rfl, fun b o q1 q => hs''.extBut b o (fun z => q1 (List.mem_singleton.mpr z)) (hs'.extBut b o (fun z => q1 (List.mem_singleton.mpr z)) q), hb', .inl ⟨rfl, _, hn'', hi - 1, we * d, _, _, congrArg (fun z => some (Value.int z _)) (show (hi : Int) - 1 = ((hi - 1 : Nat) : Int) by omega), rfl, e3, e4, hw⟩⟩
      · rw [show decide ([c] = [41]) = false from decide_eq_false (by simpa using h41), if_neg Bool.false_ne_true]
        rw [wtGo, if_neg h40, if_neg h41] at hw
        obtain ⟨d, hd1, hw⟩ := Option.bind_eq_some_iff.mp hw
        obtain ⟨td, hd2⟩ := ints_get hlv hd1
        have hlt : hi < lv.length := (List.getElem?_eq_some_iff.mp hd1).1
        have hdd := hlb d (List.mem_of_getElem? hd1)
        refine wpAny_execs_cons (wpAny_Assign_Name (wpAny_BinOp (nm hn e2 (Subscript_ (nm hn e3 (nm hn e1 (item_tupleT hla₁ (by omega) (by omega) (seq_at (by rw [hlv.length]; exact hlt)) hd2
          (PyProof.Rows.mul_int (stNm hn fun h' hn' hs' => wpAny_execs_nil (wpAny_execs_nil (wpAny_execs_nil ?_))) (IntMulOk.of_right (intBits_le_64 hdd.1 hdd.2))))))))))
        exact ⟨h', _, _, rfl, fun b o q1 q => hs'.extBut b o (fun z => q1 (List.mem_singleton.mpr z)) q, hb', .inl ⟨rfl, _, hn', hi, we * d, t1, _, e1, rfl, e3, e4, hw⟩⟩
  · rintro h' tk' gens' m' hn' ⟨hi, we, t1, t2, e1, e2, e3, e4, hw⟩ hk' rfl
    have hwe : we = W := by
      rw [List.drop_eq_nil_of_le (by simp), wtGo] at hw
      exact Option.some.inj hw
    subst hwe
    refine wpAny_execs_cons (wpAny_Return_some (nm hn' e2 ?_))
    exact hQ _ h' _ (fun b o q => hk' b o (Heap.lt_size (hkL b o q)) (fun z => Nat.ne_of_lt (Heap.lt_size q) (List.mem_singleton.mp z)) (Heap.get?_push_of_some _ (hkL b o q))) ⟨_, rfl⟩
  · exact fun v h' tk gens' hV => hV.elim
end
end Mine

open PySem PySem.W PyProof.Rows
open PySem.Calls (spliced_nil spliced_cons)
set_option Elab.async false
set_option maxRecDepth 100000
set_option maxHeartbeats 2000000
namespace Mine

theorem paired_of {α : Type} {R G : α → Value → Prop} {F : Value → Value → Prop} {p : Value → Bool} {pa : α → Bool} (hp : ∀ a v, R a v → p v = pa a) (hFG : ∀ a v y, R a v → F v y → G a y) :
    ∀ {as : List α} {vs ys : List Value}, vs.length = as.length → (∀ (j : Nat) (v : Value), vs[j]? = some v → ∃ a, as[j]? = some a ∧ R a v) → Paired F (vs.filter p) ys → Paired G (as.filter pa) ys
  | [], [], ys, _, _, h => by
    cases ys with
    | nil => exact .nil
    | cons y ys => cases h
  | [], v :: vs, _, e, _, _ => by cases e
  | a :: as, [], _, e, _, _ => by cases e
  | a :: as, v :: vs, ys, e, hP, h => by
    obtain ⟨a', ha, hR⟩ := hP 0 v rfl
    obtain rfl : a = a' := by simpa using ha
    have ih := fun {zs} (h : Paired F (vs.filter p) zs) => paired_of hp hFG (as := as) (vs := vs) (ys := zs) (by simpa using e) (fun j u hj => by simpa using hP (j + 1) u (by simpa using hj)) h
    cases hpa : pa a with
    | false =>
      rw [List.filter_cons_of_neg (by simp [hpa])]
      rw [List.filter_cons_of_neg (by simp [hp a v hR, hpa])] at h
      exact ih h
    | true =>
      rw [List.filter_cons_of_pos (by simp [hpa])]
      rw [List.filter_cons_of_pos (by simp [hp a v hR, hpa])] at h
      cases h with
      | cons h1 h2 => exact .cons (hFG a v _ hR h1) (ih h2)

theorem paired_strs {ys : List Str} {vs : List Value} (h : Paired (fun y v => ∃ t, v = Value.str y t) ys vs) : StrsAre vs ys := by
  induction h with
  | nil => exact .nil
  | cons h _ ih => obtain ⟨t, rfl⟩ := h; exact .cons _ _ ih

/-- a test by nothing -/
theorem no_tests {M : Model} {A : Around} {E : Value → Shared → Prop} {s : Shared} {env : Env} {Q : Bool → Shared → Prop} (h : Q true s) :
    wpAny M A (forIn ([] : List Expr) true fun c r => if r = true then do let ok ← isTrue c env (eval c env); pure (ForInStep.yield ok) else pure (ForInStep.yield r)) Q E s := by
  rw [List.forIn_nil]; exact wpAny_pure h
theorem one_test {M : Model} {A : Around} {E : Value → Shared → Prop} {s : Shared} {env : Env} {c : Expr} {Q : Bool → Shared → Prop} (h : wpAny M A (isTrue c env (eval c env)) Q E s) :
    wpAny M A (forIn [c] true fun c r => if r = true then do let ok ← isTrue c env (eval c env); pure (ForInStep.yield ok) else pure (ForInStep.yield r)) Q E s := by
  rw [List.forIn_cons, if_pos rfl]
  refine wpAny_bind (wpAny_bind (wpAny_mono h (fun b s' h' => wpAny_pure ?_) fun _ _ q => q))
  dsimp only
  rw [List.forIn_nil]; exact wpAny_pure h'

section
variable {prog : Program} {w : World} {A : Around} {s : Shared} {E : Value → Shared → Prop} {env : Env}

theorem comp_strs {elt iter : Expr} {x : Str} {px : Pos} {ifs : List Expr} {scope : Scope} {cl : List (Str × Addr)} {pos : Pos} {Q : Value → Shared → Prop} {ys0 : List Str} (pa : Str → Bool) (G : Str → Value → Prop) (hh : A.handled = none)
    (hclos : closureFor scope env = pure cl) (hcell : ∀ y ∈ scope.names, y.2 ≠ .cell) (hkind : scope.kind = .function)
    (hnames : ∀ y ∈ scope.names, y.2 = .local → scope.names.lookup y.1 = some .local) (hx : scope.names.lookup x = some .local) (hsz : ys0.length ≤ sizeLine)
    (h : wpAny (model prog w) A (eval iter env) (fun xv s₁ => ∃ (l : Nat) (items : Array Value), xv = .ref l ∧ s₁.heap.IsList l items ∧ StrsAre items.toList ys0 ∧
      (∀ C y t s₃ m₃ E', s₁.heap.objs.size ≤ C → y ∈ ys0 → s₃.heap.Ns C m₃ → m₃ x = some (.str y t) → Keep s₁.heap s₃.heap →
        wpAny (model prog w) A (forIn ifs true fun c r => if r = true then do let ok ← isTrue c (compEnvC scope cl C env) (eval c (compEnvC scope cl C env)); pure (ForInStep.yield ok) else pure (ForInStep.yield r))
          (fun ok s₄ => ok = pa y ∧ Keeps s₃ s₄) E' s₃) ∧
      (∀ C y t s₃ m₃ E', s₁.heap.objs.size ≤ C → y ∈ ys0 → pa y = true → s₃.heap.Ns C m₃ → m₃ x = some (.str y t) → Keep s₁.heap s₃.heap →
        wpAny (model prog w) A (eval elt (compEnvC scope cl C env)) (fun v s₄ => G y v ∧ Keeps s₃ s₄) E' s₃) ∧
      (∀ (D : Nat) h' tk (vs : Array Value), s₁.heap.get? D = none → h'.PlainList D vs → Paired G (ys0.filter pa) vs.toList → Keep s₁.heap h' → Q (.ref D) { s₁ with heap := h', toks := tk })) E s)
    (hs : ∀ x, foldedSetIterable iter env x = pure x := by intro _; rfl) :
    wpAny (model prog w) A (eval (.ListComp elt [⟨.Name x px, iter, ifs, 0⟩] scope pos) env) Q E s := by
  refine wpAny_ListComp_free (fun v => match v with | .str y _ => pa y | _ => false) (fun v u => match v with | .str y _ => G y u | _ => False) hclos hcell hkind hnames hx (wpAny_mono h (fun xv s₁ h₁ => ?_) fun _ _ e => e) hs
  obtain ⟨l, items, rfl, hl, hS, htests, helt, hQ⟩ := h₁
  have hn : items.size = ys0.length := by have := strs_len hS; simpa using this
  have hlt : l < s₁.heap.objs.size := let ⟨_, ho, _⟩ := hl; Heap.lt_size ho
  refine wpAny_pyIter_list hl ?_
  have hkI : ∀ {h₃ : Heap}, (∀ b o, b ∉ [s₁.heap.objs.size] → (s₁.heap.push { cls := .type "list_iterator", data := .fields #[.ref l, .int 0 0] }).get? b = some o → h₃.get? b = some o) → Keep s₁.heap h₃ := fun hk b o q =>
    hk b o (fun z => Nat.ne_of_lt (Heap.lt_size q) (List.mem_singleton.mp z)) (Heap.get?_push_of_some _ q)
  refine ⟨s₁.heap.objs.size, [s₁.heap.objs.size, l], [s₁.heap.objs.size], items.size, _, _, rfl, Walks.list hh s₁.heap.objs.size l (Nat.ne_of_lt hlt) items, by rw [hn]; exact hsz, ⟨⟨_, Heap.get?_push_size _ rfl, rfl, rfl⟩, hl.push _⟩, fun b hb => ?_, ⟨?_, ?_⟩, ?_⟩
  · rw [Heap.size_push]
    rcases List.mem_cons.mp hb with rfl | hb
    · exact Nat.lt_succ_self _
    · rw [List.mem_singleton.mp hb]; exact Nat.lt_succ_of_lt hlt
  · intro C i v s₃ m₃ E' hC hv hn₃ hm hk htk
    obtain ⟨y, t, rfl, hy⟩ := strs_get hS (j := i) (v := v) (by simpa using hv)
    exact htests C y t s₃ m₃ E' (by rw [Heap.size_push] at hC; exact Nat.le_of_succ_le hC) (List.mem_of_getElem? hy) hn₃ hm (hkI hk)
  · intro C i v s₃ m₃ E' hC hv hp hn₃ hm hk htk
    obtain ⟨y, t, rfl, hy⟩ := strs_get hS (j := i) (v := v) (by simpa using hv)
    exact helt C y t s₃ m₃ E' (by rw [Heap.size_push] at hC; exact Nat.le_of_succ_le hC) (List.mem_of_getElem? hy) hp hn₃ hm (hkI hk)
  · intro D h' tk ys vs hD _ hpl hlen hP hF hk
    refine hQ D h' tk ys ?_ hpl (paired_of (R := fun y v => ∃ t, v = Value.str y t) ?_ ?_ (by rw [hlen, hn]) (fun j v hj => ?_) hF) (hkI hk)
    · cases q : s₁.heap.get? D with
      | none => rfl
      | some o => exact absurd (Heap.get?_push_of_some _ q) (by rw [hD]; simp)
    · rintro a v ⟨t, rfl⟩; rfl
    · rintro a v y ⟨t, rfl⟩ q; exact q
    · obtain ⟨y, t, rfl, hy⟩ := strs_get hS (j := j) (v := v) (by simpa using hP j v hj)
      exact ⟨y, hy, t, rfl⟩
theorem walksRange (hh : A.handled = none) (I : Nat) (n : Nat) : Walks prog w A I [I] [I] n (fun i v => i < n ∧ ∃ t, v = .int (i : Nat) t) (fun i h => IsRangeIter h I (0 + (i : Nat) * 1) ((n : Int) - (i : Nat)) 1) :=
  let W := Walks.range (prog := prog) (w := w) hh I 0 1 n
  { sub := W.sub, frame := W.frame, done := W.done, self := W.self
    item := fun i s Q E hi st hQ => W.item i s Q E hi st fun v h' tk hP => hQ v h' tk ⟨hi, by obtain ⟨t, rfl⟩ := hP; exact ⟨t, by simp⟩⟩ }

theorem comp_range {elt iter : Expr} {x : Str} {px : Pos} {ifs : List Expr} {scope : Scope} {cl : List (Str × Addr)} {pos : Pos} {Q : Value → Shared → Prop} {n : Nat} (pa : Nat → Bool) (G : Nat → Value → Prop) (hh : A.handled = none)
    (hclos : closureFor scope env = pure cl) (hcell : ∀ y ∈ scope.names, y.2 ≠ .cell) (hkind : scope.kind = .function)
    (hnames : ∀ y ∈ scope.names, y.2 = .local → scope.names.lookup y.1 = some .local) (hx : scope.names.lookup x = some .local) (hn : n ≤ 10000)
    (h : wpAny (model prog w) A (eval iter env) (fun xv s₁ => ∃ (r : Nat) (t u v : Tok), xv = .ref r ∧ IsRange s₁.heap r 0 (n : Nat) 1 t u v ∧
      (∀ C k t s₃ m₃ E', s₁.heap.objs.size ≤ C → k < n → s₃.heap.Ns C m₃ → m₃ x = some (.int (k : Nat) t) → Keep s₁.heap s₃.heap →
        wpAny (model prog w) A (forIn ifs true fun c r => if r = true then do let ok ← isTrue c (compEnvC scope cl C env) (eval c (compEnvC scope cl C env)); pure (ForInStep.yield ok) else pure (ForInStep.yield r))
          (fun ok s₄ => ok = pa k ∧ Keeps s₃ s₄) E' s₃) ∧
      (∀ C k t s₃ m₃ E', s₁.heap.objs.size ≤ C → k < n → pa k = true → s₃.heap.Ns C m₃ → m₃ x = some (.int (k : Nat) t) → Keep s₁.heap s₃.heap →
        wpAny (model prog w) A (eval elt (compEnvC scope cl C env)) (fun v s₄ => G k v ∧ Keeps s₃ s₄) E' s₃) ∧
      (∀ (D : Nat) h' tk (vs : Array Value), s₁.heap.get? D = none → h'.PlainList D vs → Paired G ((List.range n).filter pa) vs.toList → Keep s₁.heap h' → Q (.ref D) { s₁ with heap := h', toks := tk })) E s)
    (hs : ∀ x, foldedSetIterable iter env x = pure x := by intro _; rfl) :
    wpAny (model prog w) A (eval (.ListComp elt [⟨.Name x px, iter, ifs, 0⟩] scope pos) env) Q E s := by
  refine wpAny_ListComp_free (fun v => match v with | .int k _ => pa k.toNat | _ => false) (fun v u => match v with | .int k _ => G k.toNat u | _ => False) hclos hcell hkind hnames hx (wpAny_mono h (fun xv s₁ h₁ => ?_) fun _ _ e => e) hs
  obtain ⟨r, t, u, v, rfl, hr, htests, helt, hQ⟩ := h₁
  refine wpAny_pyIter_range hr (small_one (by omega) (by omega) (by omega) (by omega)) ?_
  have hsize : Builtin.Range.rangeSize 0 (n : Int) 1 = (n : Int) := by rw [rangeSize_one]; split <;> omega
  rw [hsize]
  have hkI : ∀ {h₃ : Heap}, (∀ b o, b ∉ [s₁.heap.objs.size] → (s₁.heap.push { cls := .type "range_iterator", data := .fields #[rawInt 0, rawInt (n : Int), rawInt 1] }).get? b = some o → h₃.get? b = some o) → Keep s₁.heap h₃ := fun hk b o q =>
    hk b o (fun z => Nat.ne_of_lt (Heap.lt_size q) (List.mem_singleton.mp z)) (Heap.get?_push_of_some _ q)
  refine ⟨s₁.heap.objs.size, [s₁.heap.objs.size], [s₁.heap.objs.size], n, _, _, rfl, walksRange hh s₁.heap.objs.size n, by rw [sizeLine_eq]; omega, ?_, fun b hb => ?_, ⟨?_, ?_⟩, ?_⟩
  · show IsRangeIter _ _ (0 + ((0 : Nat) : Int) * 1) ((n : Int) - ((0 : Nat) : Int)) 1
    rw [show (0 : Int) + ((0 : Nat) : Int) * 1 = 0 by omega, show (n : Int) - ((0 : Nat) : Int) = n by omega]
    exact Heap.get?_push_size _ rfl
  · rw [Heap.size_push, List.mem_singleton.mp hb]; exact Nat.lt_succ_self _
  · rintro C i _ s₃ m₃ E' hC ⟨hi, t', rfl⟩ hn₃ hm hk htk
    exact htests C i t' s₃ m₃ E' (by rw [Heap.size_push] at hC; exact Nat.le_of_succ_le hC) hi hn₃ hm (hkI hk)
  · rintro C i _ s₃ m₃ E' hC ⟨hi, t', rfl⟩ hp hn₃ hm hk htk
    exact helt C i t' s₃ m₃ E' (by rw [Heap.size_push] at hC; exact Nat.le_of_succ_le hC) hi hp hn₃ hm (hkI hk)
  · intro D h' tk ys vs hD _ hpl hlen hP hF hk
    refine hQ D h' tk ys ?_ hpl (paired_of (R := fun (k : Nat) v => ∃ t, v = Value.int (k : Nat) t) ?_ ?_ (by rw [hlen, List.length_range]) (fun j v hj => ?_) hF) (hkI hk)
    · cases q : s₁.heap.get? D with
      | none => rfl
      | some o => exact absurd (Heap.get?_push_of_some _ q) (by rw [hD]; simp)
    · rintro a v ⟨t, rfl⟩; rfl
    · rintro a v y ⟨t, rfl⟩ q; exact q
    · obtain ⟨hj', t', rfl⟩ := hP j v hj
      exact ⟨j, by simp [hj'], t', rfl⟩
end
end Mine

open PySem PySem.W PyProof.Rows
open PySem.Calls (spliced_nil spliced_cons)
set_option Elab.async false
set_option maxRecDepth 100000
set_option maxHeartbeats 2000000
namespace Mine

abbrev twoC (elt t0 i0 t1 i1 : Expr) (scope : Scope) (pos : Pos) : Expr := .ListComp elt [⟨t0, i0, [], 0⟩, ⟨t1, i1, [], 0⟩] scope pos

theorem turn_outer (elt t0 i0 t1 i1 : Expr) (scope : Scope) (pos : Pos) (it acc : Value) (env : Env) :
    compTurn (twoC elt t0 i0 t1 i1 scope pos) 0 it acc env = (do
      standAt i0.pos
      match ← pyNext it with
      | none => pure (.done .next)
      | some v =>
        letOwnedTupleGo t0 it v
        assign t0 env v
        let x ← eval i1 env
        standAt i1.pos
        let x ← foldedSetIterable i1 env x
        let it1 ← holding [x] (pyIter x)
        let _ ← runOwn (.compStart (twoC elt t0 i0 t1 i1 scope pos) 1 it1 acc env) env
        again (.compLoop (twoC elt t0 i0 t1 i1 scope pos) 0 it acc env)) := by rfl

theorem turn_inner (elt t0 i0 t1 i1 : Expr) (scope : Scope) (pos : Pos) (it acc : Value) (env : Env) :
    compTurn (twoC elt t0 i0 t1 i1 scope pos) 1 it acc env = (do
      standAt i1.pos
      match ← pyNext it with
      | none => pure (.done .next)
      | some v =>
        letOwnedTupleGo t1 it v
        assign t1 env v
        (do let _ ← call (.builtin "list.append") [acc, ← eval elt env])
        again (.compLoop (twoC elt t0 i0 t1 i1 scope pos) 1 it acc env)) := by rfl

theorem str_cat (l r : List Nat) : ((⟨l.toArray⟩ : Str) ++ (⟨r.toArray⟩ : Str)) = ⟨(l ++ r).toArray⟩ := by
  apply Str.ext'
  rw [Str.cps_append]
  simp

def strL (l : List Nat) : Str := ⟨l.toArray⟩

section
variable {prog : Program} {w : World} {A : Around} {s : Shared} {E : Value → Shared → Prop} {cenv : Env} {R : Result → Shared → Prop}

/-- row + sign, for the signs of one text -/
theorem rows_inner {t0 i0 i1 : Expr} {scope : Scope} {pos p1 p2 p3 px : Pos} {I D C : Nat} {fp wr : List Addr} {St : Nat → Heap → Prop} {z y : List Nat} {ty : Tok} {m : Str → Option Value} {base : List (List Nat)} {vs : Array Value}
    (W : Walks prog w A I fp wr z.length (SignAt (strL z)) St) (hC : cenv.locals = C) (hlr : cenv.kindOf "row" = some .local) (hls : cenv.kindOf "sign" = some .local) (hk : cenv.scope.kind = .function)
    (hp : (cenv.scope.kind == .class || (cenv.scope.kind == .module && cenv.locals != cenv.globals)) = false) (hDC : D ≠ C) (hDf : D ∉ fp) (hCf : C ∉ fp)
    (hst : St 0 s.heap) (hacc : s.heap.PlainList D vs) (hS : StrsAre vs.toList (base.map strL)) (hn : s.heap.Ns C m) (hm : m "row" = some (.str (strL y) ty)) (hsz : base.length + z.length ≤ 10000) (hyl : y.length ≤ 1000)
    (hR : ∀ h' tk m' vs', h'.Ns C m' → m' "row" = some (.str (strL y) ty) → h'.PlainList D vs' → StrsAre vs'.toList ((base ++ z.map fun c => y ++ [c]).map strL) → (∀ b o, b ≠ C → b ∉ wr → b ≠ D → s.heap.get? b = some o → h'.get? b = some o) → R (.ok .next) { s with heap := h', toks := tk }) :
    codeAny (model prog w) A (.compLoop (twoC (.BinOp (.Name "row" p1) .Add (.Name "sign" p2) p3) t0 i0 (.Name "sign" px) i1 scope pos) 1 (.ref I) (.ref D) cenv) R s := by
  subst hC
  have hDw : D ∉ wr := fun h => hDf (W.sub _ h)
  have hCw : cenv.locals ∉ wr := fun h => hCf (W.sub _ h)
  refine codeAny_loop rfl (fun k s' => ∃ h' tk m' vs' j, s' = { s with heap := h', toks := tk } ∧ St j h' ∧ h'.PlainList D vs' ∧ StrsAre vs'.toList ((base ++ (z.take j).map fun c => y ++ [c]).map strL) ∧ h'.Ns cenv.locals m' ∧ m' "row" = some (.str (strL y) ty) ∧ j ≤ z.length ∧
      k = z.length + 1 - j ∧ ∀ b o, b ≠ cenv.locals → b ∉ wr → b ≠ D → s.heap.get? b = some o → h'.get? b = some o) ?_ (z.length + 1)
    ⟨s.heap, s.toks, m, vs, 0, rfl, hst, hacc, by simpa using hS, hn, hm, Nat.zero_le _, rfl, fun _ _ _ _ _ q => q⟩
  rintro k s' ⟨h', tk, m', vs', j, rfl, hst', hacc', hS', hn', hm', hj, rfl, hk'⟩
  show wpAny _ A ((compTurn (twoC (.BinOp (.Name "row" p1) .Add (.Name "sign" p2) p3) t0 i0 (.Name "sign" px) i1 scope pos) 1 (.ref I) (.ref D) cenv).onRaise (fun x => do noteFrame x cenv; theTreesLotGoes x)) _ _ _
  refine wpAny_noted ?_
  rw [turn_inner]
  refine wpAny_bind (wpAny_standAt (wpAny_bind ?_))
  by_cases hlt : j < z.length
  · refine W.item j _ _ _ hlt hst' fun v h₁ tk₁ hP hst₁ hk₁ => ?_
    obtain ⟨c, u, hc, rfl⟩ := hP
    have hcz : z[j]? = some c := by simpa [strL] using hc
    have hn₁ := hn'.at' fun o q => hk₁ _ o hCw q
    refine wpAny_bind (wpAny_of_eq (a := ()) rfl ?_)
    refine wpAny_bind (wpAny_assign_Name (wpAny_storeName_local hls hn₁ (fun h₂ hn₂ hs₂ => ?_) hp))
    have hDlt : h₂.PlainList D vs' := (hacc'.at fun o q => hk₁ D o hDw q).at fun o q => hs₂.extBut D o hDC q
    have hlen := strs_len hS'
    simp only [List.length_map, List.length_append, List.length_take] at hlen
    have hvz : vs'.toList.length = vs'.size := by simp
    refine wpAny_bind (wpAny_bind (wpAny_BinOp (wpAny_Name (wpAny_loadName_local hk hlr hn₂ (by rw [if_neg (by decide)]; exact hm') (wpAny_Name (wpAny_loadName_local hk hls hn₂ (if_pos rfl) (PyProof.Rows.add_str (fun t' tk' => ?_) (by rw [sizeLine_eq]; show y.toArray.size + 1 ≤ _; simp; omega))))))))
    refine wpAny_bind (wpAny_list_append_plain hDlt (fun h₃ hl₃ hs₃ => wpAny_pure (wpAny_pure ⟨rfl, z.length + 1 - (j + 1), by omega, h₃, _, _, _, j + 1, rfl, ?_, hl₃, ?_, hn₂.sameBut hs₃ (Ne.symm hDC), by rw [if_neg (by decide)]; exact hm', hlt, rfl, fun b o h1 h2 h3 q => hs₃.extBut b o h3 (hs₂.extBut b o h1 (hk₁ b o h2 (hk' b o h1 h2 h3 q)))⟩)) (by rw [sizeLine_eq]; omega))
    · exact W.frame _ _ _ hst₁ fun b hb o q => hs₃.extBut b o (fun z => hDf (z ▸ hb)) (hs₂.extBut b o (fun z => hCf (z ▸ hb)) q)
    · rw [Array.toList_push, take_snoc hcz]
      have := strs_snoc hS' (strL y ++ strL [c]) t'
      rw [show strL y ++ strL [c] = strL (y ++ [c]) from str_cat y [c]] at this
      have e : (base ++ (z.take j ++ [c]).map fun c => y ++ [c]).map strL = (base ++ (z.take j).map fun c => y ++ [c]).map strL ++ [strL (y ++ [c])] := by simp
      rw [e]
      rw [← show strL y ++ strL [c] = strL (y ++ [c]) from str_cat y [c]] at this ⊢
      exact this
  · have hje : j = z.length := by omega
    subst hje
    refine W.done _ _ _ hst' fun h₁ tk₁ hk₁ => wpAny_pure ?_
    rw [List.take_length] at hS'
    exact hR h₁ tk₁ m' vs' (hn'.at' fun o q => hk₁ _ o hCw q) hm' (hacc'.at fun o q => hk₁ D o hDw q) hS' fun b o h1 h2 h3 q => hk₁ b o h2 (hk' b o h1 h2 h3 q)
theorem start_inner {elt t0 i0 t1 i1 : Expr} {scope : Scope} {pos : Pos} {it acc : Value}
    (h0 : codeAny (model prog w) A (.compLoop (twoC elt t0 i0 t1 i1 scope pos) 1 it acc cenv) R s)
    (h : wpAny (model prog w) A (pyIter it) (fun it' s' => codeAny (model prog w) A (.compLoop (twoC elt t0 i0 t1 i1 scope pos) 1 it' acc cenv) R s')
      (notedBy (model prog w) A cenv fun x s' => R (.error x) s') s) :
    codeAny (model prog w) A (.compStart (twoC elt t0 i0 t1 i1 scope pos) 1 it acc cenv) R s := by
  refine codeAny_of_tree ?_
  show wpAny _ _ ((compStart (twoC elt t0 i0 t1 i1 scope pos) 1 it acc cenv).onRaise (fun x => do noteFrame x cenv; standAt theWindowsPlace)) _ _ s
  refine wpAny_notedAt ?_
  unfold compStart
  show wpAny _ _ (ask >>= _) _ _ s
  refine wpAny_bind (wpAny_askSetting (wpAny_ite ?_))
  split
  · exact wpAny_bind (wpAny_pure (wpAny_pure (And.intro rfl h0)))
  · refine wpAny_bind (wpAny_rule ?_)
    show wpAny _ _ (standAt i1.pos >>= _) _ _ s
    exact wpAny_bind (wpAny_standAt (wpAny_bind (wpAny_mono h (fun it' s' h' => wpAny_pure (And.intro rfl h')) fun _ _ x => x)))

/-- row + sign, for all rows -/
theorem rows_outer {i0 i1 : Expr} {scope : Scope} {pos p1 p2 p3 px py : Pos} {I D C : Nat} {fp wr : List Addr} {St : Nat → Heap → Prop} {z : List Nat} {rows : List (List Nat)} {items : Array Value} {m : Str → Option Value} (hh : A.handled = none)
    (W : Walks prog w A I fp wr items.size (fun i v => items[i]? = some v) St) (hS0 : StrsAre items.toList (rows.map strL)) (hC : cenv.locals = C) (hlr : cenv.kindOf "row" = some .local) (hls : cenv.kindOf "sign" = some .local) (hk : cenv.scope.kind = .function)
    (hp : (cenv.scope.kind == .class || (cenv.scope.kind == .module && cenv.locals != cenv.globals)) = false) (hDC : D ≠ C) (hDf : D ∉ fp) (hCf : C ∉ fp)
    (hi1 : ∀ (A' : Around) s' E' Q, (∀ t tk, Q (.str (strL z) t) { s' with toks := tk }) → wpAny (model prog w) A' (eval i1 cenv) Q E' s') (hfold : ∀ x, foldedSetIterable i1 cenv x = pure x)
    (hst : St 0 s.heap) (hacc : s.heap.PlainList D #[]) (hn : s.heap.Ns C m) (hsz : rows.length * z.length ≤ 5000) (hz : z.length ≤ 1000) (hyl : ∀ y ∈ rows, y.length ≤ 1000)
    (hR : ∀ h' tk m' vs', h'.Ns C m' → h'.PlainList D vs' → StrsAre vs'.toList ((rows.flatMap fun y => z.map fun c => y ++ [c]).map strL) → (∀ b o, b ≠ C → b ∉ wr → b ≠ D → s.heap.get? b = some o → h'.get? b = some o) → R (.ok .next) { s with heap := h', toks := tk }) :
    codeAny (model prog w) A (.compLoop (twoC (.BinOp (.Name "row" p1) .Add (.Name "sign" p2) p3) (.Name "row" py) i0 (.Name "sign" px) i1 scope pos) 0 (.ref I) (.ref D) cenv) R s := by
  subst hC
  have hDw : D ∉ wr := fun h => hDf (W.sub _ h)
  have hCw : cenv.locals ∉ wr := fun h => hCf (W.sub _ h)
  have hsz0 : items.size = rows.length := by have := strs_len hS0; simpa using this
  refine codeAny_loop rfl (fun k s' => ∃ h' tk m' vs' j, s' = { s with heap := h', toks := tk } ∧ St j h' ∧ h'.PlainList D vs' ∧ StrsAre vs'.toList (((rows.take j).flatMap fun y => z.map fun c => y ++ [c]).map strL) ∧ h'.Ns cenv.locals m' ∧ j ≤ rows.length ∧
      k = rows.length + 1 - j ∧ (∀ b o, b ≠ cenv.locals → b ∉ wr → b ≠ D → s.heap.get? b = some o → h'.get? b = some o)) ?_ (rows.length + 1)
    ⟨s.heap, s.toks, m, #[], 0, rfl, hst, hacc, .nil, hn, Nat.zero_le _, rfl, fun _ _ _ _ _ q => q⟩
  rintro k s' ⟨h', tk, m', vs', j, rfl, hst', hacc', hS', hn', hj, rfl, hk'⟩
  show wpAny _ A ((compTurn (twoC (.BinOp (.Name "row" p1) .Add (.Name "sign" p2) p3) (.Name "row" py) i0 (.Name "sign" px) i1 scope pos) 0 (.ref I) (.ref D) cenv).onRaise (fun x => do noteFrame x cenv; theTreesLotGoes x)) _ _ _
  refine wpAny_noted ?_
  rw [turn_outer]
  refine wpAny_bind (wpAny_standAt (wpAny_bind ?_))
  by_cases hlt : j < rows.length
  · refine W.item j _ _ _ (by omega) hst' fun v h₁ tk₁ hP hst₁ hk₁ => ?_
    obtain ⟨yS, ty, rfl, hyj⟩ := strs_get hS0 (j := j) (v := v) (by simpa using hP)
    obtain ⟨y, hy, rfl⟩ : ∃ y, rows[j]? = some y ∧ strL y = yS := by simpa using hyj
    have hn₁ := hn'.at' fun o q => hk₁ _ o hCw q
    refine wpAny_bind (wpAny_of_eq (a := ()) rfl ?_)
    refine wpAny_bind (wpAny_assign_Name (wpAny_storeName_local hlr hn₁ (fun h₂ hn₂ hs₂ => ?_) hp))
    have hDlt : h₂.PlainList D vs' := (hacc'.at fun o q => hk₁ D o hDw q).at fun o q => hs₂.extBut D o hDC q
    have hCC : ∀ b ∈ fp, b ≠ cenv.locals := fun b hb z => hCf (z ▸ hb)
    have hst₂ : St (j + 1) h₂ := W.frame _ _ _ hst₁ fun b hb o q => hs₂.extBut b o (hCC b hb) q
    refine wpAny_bind (hi1 _ _ _ _ fun tz tkz => ?_)
    refine wpAny_bind (wpAny_standAt (wpAny_bind (wpAny_of_eq (hfold _) (wpAny_bind (wpAny_holding (wpAny_pyIter_str fun ob St1 W1 hst1 => ?_))))))
    dsimp only at hst1 W1 ⊢
    have hDs : D < h₂.objs.size := let ⟨_, e⟩ := hDlt; Heap.lt_size e
    have hCs : cenv.locals < h₂.objs.size := hn₂.lt
    have hlenb : ((rows.take j).flatMap fun y => z.map fun c => y ++ [c]).length + z.length ≤ 10000 := by
      have e : ∀ l : List (List Nat), (l.flatMap fun y => z.map fun c => y ++ [c]).length = l.length * z.length := by
        intro l
        induction l with
        | nil => simp
        | cons a l ih => rw [List.flatMap_cons, List.length_append, ih, List.length_map, List.length_cons, Nat.succ_mul]; omega
      rw [e, List.length_take]
      have := Nat.mul_le_mul_right z.length (Nat.min_le_right j rows.length)
      omega
    have loop : ∀ E', codeAny (model prog w) A (.compLoop (twoC (.BinOp (.Name "row" p1) .Add (.Name "sign" p2) p3) (.Name "row" py) i0 (.Name "sign" px) i1 scope pos) 1 (.ref h₂.objs.size) (.ref D) cenv)
        (fun r s' => match r with | .ok f => wpAny (model prog w) A (again (.compLoop (twoC (.BinOp (.Name "row" p1) .Add (.Name "sign" p2) p3) (.Name "row" py) i0 (.Name "sign" px) i1 scope pos) 0 (.ref I) (.ref D) cenv)) (fun fin s' => match fin with
          | .done f => R (.ok f) s'
          | .again c' => c' = .compLoop (twoC (.BinOp (.Name "row" p1) .Add (.Name "sign" p2) p3) (.Name "row" py) i0 (.Name "sign" px) i1 scope pos) 0 (.ref I) (.ref D) cenv ∧ ∃ m, m < rows.length + 1 - j ∧ ∃ h' tk m' vs' j, s' = { s with heap := h', toks := tk } ∧ St j h' ∧ h'.PlainList D vs' ∧ StrsAre vs'.toList (((rows.take j).flatMap fun y => z.map fun c => y ++ [c]).map strL) ∧ h'.Ns cenv.locals m' ∧ j ≤ rows.length ∧
            m = rows.length + 1 - j ∧ (∀ b o, b ≠ cenv.locals → b ∉ wr → b ≠ D → s.heap.get? b = some o → h'.get? b = some o)) E' s' | .error e => cameBackBy (model prog w) A cenv E' e s') { s with heap := h₂.push ob, toks := tkz } := fun E' => by
      refine rows_inner (y := y) (base := (rows.take j).flatMap fun y => z.map fun c => y ++ [c]) (W1 _ hh) rfl hlr hls hk hp hDC (fun z => Nat.ne_of_lt hDs (List.mem_singleton.mp z)) (fun z => Nat.ne_of_lt hCs (List.mem_singleton.mp z)) hst1 (hDlt.at fun o q => Heap.get?_push_of_some _ q) hS' (hn₂.push _) (if_pos rfl) hlenb (hyl y (List.mem_of_getElem? hy)) fun h₅ tk₅ m₅ vs₅ hn₅ _ hl₅ hS₅ hk₅ => ?_
      refine wpAny_pure ⟨rfl, rows.length + 1 - (j + 1), by omega, h₅, tk₅, m₅, vs₅, j + 1, rfl, W.frame _ _ _ hst₂ fun b hb o q => hk₅ b o (hCC b hb) (fun z => Nat.ne_of_lt (Heap.lt_size q) (List.mem_singleton.mp z)) (fun z => hDf (z ▸ hb)) (Heap.get?_push_of_some _ q), hl₅, ?_, hn₅, hlt, rfl, fun b o h1 h2 h3 q => ?_⟩
      · rw [take_snoc hy, List.flatMap_append, List.flatMap_cons, List.flatMap_nil, List.append_nil]
        exact hS₅
      · have q2 := hs₂.extBut b o h1 (hk₁ b o h2 (hk' b o h1 h2 h3 q))
        exact hk₅ b o h1 (fun z => Nat.ne_of_lt (Heap.lt_size q2) (List.mem_singleton.mp z)) h3 (Heap.get?_push_of_some _ q2)
    exact wpAny_bind (wpAny_runOwn (start_inner (loop _) ((W1 _ hh).self 0 _ _ _ hst1 (loop _))))
  · have hje : j = rows.length := by omega
    subst hje
    refine W.done _ _ _ (by rw [hsz0]; exact hst') fun h₁ tk₁ hk₁ => wpAny_pure ?_
    rw [List.take_length] at hS'
    exact hR h₁ tk₁ m' vs' (hn'.at' fun o q => hk₁ _ o hCw q) (hacc'.at fun o q => hk₁ D o hDw q) hS' fun b o h1 h2 h3 q => hk₁ b o h2 (hk' b o h1 h2 h3 q)
end
end Mine

open PySem PySem.W PyProof.Rows
open PySem.Calls (spliced_nil spliced_cons)
set_option Elab.async false
set_option maxRecDepth 100000
set_option maxHeartbeats 2000000
namespace Mine

theorem neL {b n m : Nat} (h : b < n) (hm : n ≤ m) : b ≠ m := by omega

section
variable {prog : Program} {w : World} {A : Around} {s : Shared} {E : Value → Shared → Prop} {env : Env}

theorem assign_twoC {i0 i1 : Expr} {scope : Scope} {cl : List (Str × Addr)} {y : Str} {pos spos p1 p2 p3 px py p4 : Pos} {z : List Nat} {Q : Flow → Shared → Prop} (hh : A.handled = none)
    (hsw : swapsWith (twoC (.BinOp (.Name "row" p1) .Add (.Name "sign" p2) p3) (.Name "row" py) i0 (.Name "sign" px) i1 scope pos) (some (.Name y p4)) spos.line env = pure true)
    (hclos : closureFor scope env = pure cl) (hcell : ∀ y ∈ scope.names, y.2 ≠ .cell) (hkind : scope.kind = .function)
    (hnames : ∀ y ∈ scope.names, y.2 = .local → scope.names.lookup y.1 = some .local) (hlr : scope.names.lookup ("row" : Str) = some .local) (hls : scope.names.lookup ("sign" : Str) = some .local)
    (hy : env.kindOf y = some .local) (hp : (env.scope.kind == .class || (env.scope.kind == .module && env.locals != env.globals)) = false)
    (hi1 : ∀ (A' : Around) s' E' Q C, (∀ t tk, Q (.str (strL z) t) { s' with toks := tk }) → wpAny (model prog w) A' (eval i1 (compEnvC scope cl C env)) Q E' s') (hfold0 : ∀ x, foldedSetIterable i0 env x = pure x) (hfold : ∀ x C, foldedSetIterable i1 (compEnvC scope cl C env) x = pure x) (hz : z.length ≤ 1000)
    (h : wpAny (model prog w) A (eval i0 env) (fun xv s₁ => ∃ (l : Nat) (items : Array Value) (rows : List (List Nat)) (m : Str → Option Value), xv = .ref l ∧ s₁.heap.IsList l items ∧ StrsAre items.toList (rows.map strL) ∧ rows.length * z.length ≤ 5000 ∧ (∀ y ∈ rows, y.length ≤ 1000) ∧ s₁.heap.Ns env.locals m ∧
      (∀ (D : Nat) h' tk vs', s₁.heap.get? D = none → h'.PlainList D vs' → StrsAre vs'.toList ((rows.flatMap fun y => z.map fun c => y ++ [c]).map strL) → h'.Ns env.locals (fun z => if z = y then some (.ref D) else m z) →
        (∀ b o, b ≠ env.locals → s₁.heap.get? b = some o → h'.get? b = some o) → Q .next { s₁ with heap := h', toks := tk })) E s) :
    wpAny (model prog w) A (exec (.Assign [.Name y p4] (twoC (.BinOp (.Name "row" p1) .Add (.Name "sign" p2) p3) (.Name "row" py) i0 (.Name "sign" px) i1 scope pos) spos) env) Q E s := by
  rw [exec_Assign_Name_used _ _ _ _ hsw]
  refine wpAny_bind (wpAny_standAt (wpAny_bind ?_))
  show wpAny _ A (do let _ ← comprehension (twoC (.BinOp (.Name "row" p1) .Add (.Name "sign" p2) p3) (.Name "row" py) i0 (.Name "sign" px) i1 scope pos) scope env _ (newList []) false (eval i0 env) (some (assign (.Name y p4) env))) _ _ s
  refine wpAny_bind (wpAny_mono (wpAny_comprehension_free (use := some (assign (.Name y p4) env)) (Q := fun _ s' => Q .next s') rfl hfold0 hclos hkind hnames
    (wpAny_mono h (fun xv s₁ h₁ => ?_) fun _ _ e => e)) (fun _ s' hq => wpAny_pure (wpAny_pure hq)) fun _ _ e => e)
  obtain ⟨l, items, rows, m, rfl, hl, hS, hsz, hyl, hn, hQ⟩ := h₁
  have hlt : l < s₁.heap.objs.size := let ⟨_, ho, _⟩ := hl; Heap.lt_size ho
  refine wpAny_pyIter_list hl (wpAny_newList (wpAny_newFunctionEnv hcell (by intro y hy; simp at hy) (fun h₁ hns₁ hsb₁ => ?_) hkind))
  dsimp only at hns₁ hsb₁ ⊢
  generalize hH : (s₁.heap.push { cls := .type "list_iterator", data := .fields #[.ref l, .int 0 0] }) = H at hns₁ hsb₁ ⊢
  have hHz : H.objs.size = s₁.heap.objs.size + 1 := by rw [← hH]; exact Heap.size_push ..
  have hit : H.IsListIter s₁.heap.objs.size l 0 := ⟨_, hH ▸ Heap.get?_push_size _ rfl, rfl, rfl⟩
  have hkH : Keep s₁.heap H := fun b o q => hH ▸ Heap.get?_push_of_some _ q
  generalize hH2 : (H.push { cls := .type "list", data := .seq ([] : List Value).toArray }) = H2 at hns₁ hsb₁ ⊢
  have hH2z : H2.objs.size = s₁.heap.objs.size + 2 := by rw [← hH2, Heap.size_push, hHz]
  have hkH2 : Keep H H2 := fun b o q => hH2 ▸ Heap.get?_push_of_some _ q
  have hk₁ : Keep H2 h₁ := fun b o q => hsb₁.extBut b o (Nat.ne_of_lt (Heap.lt_size q)) (Heap.get?_push_of_some _ q)
  have hHge : s₁.heap.objs.size ≤ H.objs.size := by rw [hHz]; exact Nat.le_succ _
  have hH2ge : s₁.heap.objs.size ≤ H2.objs.size := by rw [hH2z]; exact Nat.le_add_right _ _
  have hDC : H.objs.size ≠ H2.objs.size := by rw [hHz, hH2z]; exact Nat.ne_of_lt (Nat.lt_succ_self _)
  have hDn : s₁.heap.get? H.objs.size = none := by
    cases q : s₁.heap.get? H.objs.size with
    | none => rfl
    | some o => exact absurd (Heap.lt_size q) (by rw [hHz]; exact Nat.not_lt.mpr (Nat.le_succ _))
  have hacc : h₁.PlainList H.objs.size #[] := ⟨_, hk₁ _ _ (hH2 ▸ Heap.get?_push_size _ rfl)⟩
  have hl₁ : h₁.IsList l items := hl.at fun o q => hk₁ _ _ (hkH2 _ _ (hkH _ _ q))
  have hit₁ : h₁.IsListIter s₁.heap.objs.size l 0 := let ⟨o, ho, r⟩ := hit; ⟨o, hk₁ _ _ (hkH2 _ _ ho), r⟩
  have hI : l ≠ s₁.heap.objs.size := Nat.ne_of_lt hlt
  have hCf : H2.objs.size ∉ [s₁.heap.objs.size, l] := fun hm => by
    rcases List.mem_cons.mp hm with q | hm
    · rw [hH2z] at q; exact absurd q (Nat.ne_of_gt (by omega))
    · exact neL hlt hH2ge (List.mem_singleton.mp hm).symm
  have hDf : H.objs.size ∉ [s₁.heap.objs.size, l] := fun hm => by
    rcases List.mem_cons.mp hm with q | hm
    · rw [hHz] at q; exact absurd q (Nat.ne_of_gt (by omega))
    · exact neL hlt hHge (List.mem_singleton.mp hm).symm
  have hEs : env.locals < s₁.heap.objs.size := hn.lt
  have loop : ∀ tk, codeAny (model prog w) A (.compLoop (twoC (.BinOp (.Name "row" p1) .Add (.Name "sign" p2) p3) (.Name "row" py) i0 (.Name "sign" px) i1 scope pos) 0 (.ref s₁.heap.objs.size) (.ref H.objs.size) (compEnvC scope cl H2.objs.size env))
      (compPost (model prog w) A E (some (assign (.Name y p4) env)) (fun _ s' => Q .next s') (.ref H.objs.size) H2.objs.size) { s₁ with heap := h₁, toks := tk } := fun tk => by
    refine rows_outer (cenv := compEnvC scope cl H2.objs.size env) hh (Walks.list hh s₁.heap.objs.size l hI items) hS rfl (lookup_relabel_local hlr) (lookup_relabel_local hls) (by simp [compEnvC, relabel, hkind]) (by simp [compEnvC, relabel, hkind]) hDC hDf hCf (fun A' s' E' Q => hi1 A' s' E' Q _) (fun x => hfold x _) ⟨hit₁, hl₁⟩ hacc hns₁ hsz hz hyl ?_
    intro h' tk' m' vs' hn' hpl' hS' hk'
    have kS : ∀ b o, s₁.heap.get? b = some o → h'.get? b = some o := fun b o q => hk' b o (neL (Heap.lt_size q) hH2ge) (fun z => Nat.ne_of_lt (Heap.lt_size q) (List.mem_singleton.mp z)) (neL (Heap.lt_size q) hHge) (hk₁ _ _ (hkH2 _ _ (hkH _ _ q)))
    show wpAny _ A (assign (.Name y p4) env (.ref H.objs.size)) _ _ _
    refine wpAny_assign_Name (wpAny_storeName_local hy (hn.keeps kS) (fun h₂ hn₂ hs₂ => ?_) hp)
    have hLC : env.locals ≠ H2.objs.size := neL hEs hH2ge
    have hLD : env.locals ≠ H.objs.size := neL hEs hHge
    refine ⟨m', hn'.sameBut hs₂ (Ne.symm hLC), fun h₃ hs₃ => ?_⟩
    refine hQ H.objs.size h₃ _ vs' hDn ?_ hS' (hn₂.sameBut hs₃ hLC) fun b o hb q => hs₃.extBut b o (neL (Heap.lt_size q) hH2ge) (hs₂.extBut b o hb (kS b o q))
    exact (hpl'.at fun o q => hs₂.extBut _ o (Ne.symm hLD) q).at fun o q => hs₃.extBut _ o hDC q
  exact codeAny_compStart_list (loop _) (wpAny_pyIter_listiter hit₁ (loop _))
end
end Mine

open PySem PySem.W PyProof.Rows
open PySem.Calls (spliced_nil spliced_cons)
set_option Elab.async false
set_option maxRecDepth 100000
set_option maxHeartbeats 4000000
namespace Mine

section
variable {M : Model} {A : Around} {E : Value → Shared → Prop} {s : Shared} {env : Env} {mg mb : Str → Option Value}

/-- names in any frame -/
theorem nmE {x : Str} {pos : Pos} {v : Value} {L : Nat} {m : Str → Option Value} {Q : Value → Shared → Prop} (hn : s.heap.Ns L m) (hv : m x = some v) (h : Q v s)
    (hL : env.locals = L := by rfl) (hl : env.kindOf x = some .local := by rfl) (hk : env.scope.kind = .function := by rfl)
    (hd : (x == ("__debug__" : Str)) = false := by decide) :
    wpAny M A (eval (.Name x pos) env) Q E s := by subst hL; exact wpAny_Name (wpAny_loadName_local hk hl hn hv h) hd

theorem stE {x : Str} {v : Value} {L : Nat} {m : Str → Option Value} {Q : Unit → Shared → Prop} (hn : s.heap.Ns L m)
    (h : ∀ h', h'.Ns L (fun y => if y = x then some v else m y) → Heap.SameBut L s.heap h' → Q () { s with heap := h', toks := s.toks + 1 })
    (hL : env.locals = L := by rfl) (hl : env.kindOf x = some .local := by rfl) (hp : (env.scope.kind == .class || (env.scope.kind == .module && env.locals != env.globals)) = false := by rfl) :
    wpAny M A (storeName env x v) Q E s := by subst hL; exact wpAny_storeName_local hl hn h hp

theorem stCE {x : Str} {v : Value} {v₀ : Option Value} {c : Nat} {Q : Unit → Shared → Prop} (hv : s.heap.IsCell c v₀)
    (h : ∀ h', h'.IsCell c (some v) → Heap.SameBut c s.heap h' → Q () { s with heap := h' })
    (hc : env.cells.lookup x = some c := by rfl) (hl : env.kindOf x = some .cell := by rfl) (hk : env.scope.kind = .function := by rfl) :
    wpAny M A (storeName env x v) Q E s := wpAny_storeName_cell hk hl hc hv h

theorem clE {x : Str} {pos : Pos} {v : Value} {c : Nat} {Q : Value → Shared → Prop} (hv : s.heap.IsCell c (some v)) (h : Q v s)
    (hc : env.cells.lookup x = some c := by rfl) (hl : env.kindOf x = some .cell := by rfl) (hk : env.scope.kind = .function := by rfl)
    (hd : (x == ("__debug__" : Str)) = false := by decide) :
    wpAny M A (eval (.Name x pos) env) Q E s := wpAny_Name (wpAny_loadName_cell hk hl hc hv h) hd

theorem bltnE {x : Str} {pos : Pos} {v : Value} {Q : Value → Shared → Prop} (G : Gr mg mb s.heap) (hx : x ∈ (["enumerate", "range", "sum", "len", "list"] : List Str)) (hv : bootBuiltins x = some v) (h : Q v s)
    (hl : env.kindOf x = some .globalImplicit := by rfl) (hg : env.globals = mainGlobals := by rfl) (hb : env.builtins = builtinsNs := by rfl) (hk : env.scope.kind = .function := by rfl)
    (hd : (x == ("__debug__" : Str)) = false := by decide) :
    wpAny M A (eval (.Name x pos) env) Q E s :=
  Calls.Name_function_global hk hl (Calls.loadGlobal_builtin (hg ▸ G.g) (G.bn x hx).1 (hb ▸ G.b) ((G.bn x hx).2.trans hv) h) hd

theorem glblE {x : Str} {pos : Pos} {v : Value} {Q : Value → Shared → Prop} (G : Gr mg mb s.heap) (hv : mg x = some v) (h : Q v s)
    (hl : env.kindOf x = some .globalImplicit := by rfl) (hg : env.globals = mainGlobals := by rfl) (hk : env.scope.kind = .function := by rfl)
    (hd : (x == ("__debug__" : Str)) = false := by decide) :
    wpAny M A (eval (.Name x pos) env) Q E s :=
  Calls.Name_function_global hk hl (Calls.loadGlobal_global (hg ▸ G.g) hv h) hd
end

section
variable {prog : Program} {w : World} {A : Around} {s : Shared} {mg mb : Str → Option Value} {E : Value → Shared → Prop} {env : Env}

theorem callE {f : Nat} {id : Str} {p pos : Pos} {args : List Expr} {st : Stmt} {hb : Heap} {Q : Value → Shared → Prop} (F : FnAt mg hb st) (hf : mg (nameOf st) = some (.ref f)) (hid : id = nameOf st) (G : Gr mg mb hb) (hbk : Keep hb s.heap)
    (h : wpAny (model prog w) A (evalArgs (.ref f) true (backTo pos (starEach args env)) []) (fun x s₁ => Keep hb s₁.heap ∧ wpAny (model prog w) A (call (.ref f) x.pos x.kw) Q E s₁) E s)
    (hl : env.kindOf id = some .globalImplicit := by rfl) (hg : env.globals = mainGlobals := by rfl) (hk : env.scope.kind = .function := by rfl) (hd : (id == ("__debug__" : Str)) = false := by decide) :
    wpAny (model prog w) A (eval (.Call (.Name id p) args [] pos) env) Q E s := by
  obtain ⟨f', o, pm, code, doc, hf', ho, hdd, hcd⟩ := F
  obtain rfl : f' = f := by rw [hf] at hf'; cases hf'; rfl
  subst hid
  refine wpAny_Call_NameR (glblE (G.keeps hbk) hf (Calls.callWith_function (o := o) (wpAny_mono h (fun x s₁ h₁ => ⟨⟨h₁.1 _ _ ho, hdd⟩, h₁.2⟩) fun _ _ q => q)) hl hg hk hd)

/-- a def with captured names is called -/
theorem call_fnC {st : Stmt} {hb : Heap} {f : Nat} {args : List Value} {binds : List (Str × Value)} {Q : Value → Shared → Prop} (F : FnAt mg hb st) (hf : mg (nameOf st) = some (.ref f)) (G : Gr mg mb hb) (hbk : Keep hb s.heap) (hroom : A.depth < recursionLimit)
    (hbind : ∀ pm code doc, bindArgs (Calls.docDef (nameOf st) (paramsOf st) (bodyOf st) (scopeOf st) pm code doc) ⟨args, []⟩ = pure binds)
    (hkind : (binds.all fun y => (scopeOf st).names.lookup y.1 == some .local || (scopeOf st).names.lookup y.1 == some .cell) = true)
    (h : ∀ code h₁ tk, Fr s.heap s.heap.objs.size h₁ (bindL (envOfC (nameOf st) (scopeOf st) s.heap.objs.size f code).kindOf binds fun _ => none) →
      Cl s.heap.objs.size (cellsFrom (s.heap.objs.size + 1) (scopeOf st).names []) h₁ (bindC (envOfC (nameOf st) (scopeOf st) s.heap.objs.size f code).kindOf binds fun _ => none) →
      wpAny (model prog w) (A.deeper (envOfC (nameOf st) (scopeOf st) s.heap.objs.size f code)) (execs (bodyOf st) (envOfC (nameOf st) (scopeOf st) s.heap.objs.size f code))
        (fun fl s' => Q (match fl with | .ret v => v | _ => .none) s') NoE { s with heap := h₁, toks := tk })
    (hco : (scopeOf st).isCoroutine = false := by rfl) (hgen : (scopeOf st).isGenerator = false := by rfl) (hk : (scopeOf st).kind = .function := by rfl) :
    wpAny (model prog w) A (call (.ref f) args) Q E s := by
  obtain ⟨f', o, pm, code, doc, hf', ho, hd, hcd⟩ := F
  obtain rfl : f' = f := by rw [hf] at hf'; cases hf'; rfl
  refine wpAny_call (call_cells_ret hroom (hbk _ _ ho) hd (G.nolimit.keeps hbk) (hcd.keeps hbk) (hbind pm code doc) (kindsX hkind _) (fun h₁ tk F X => ?_) hco hgen hk)
  exact wpAny_mono (h code h₁ tk F X) (fun fl s' q => by cases fl <;> exact q) fun _ _ q => q

def rowsAll : Nat → List (List Nat)
  | 0 => [[]]
  | n + 1 => (rowsAll n).flatMap fun y => [40, 41, 111].map fun c => y ++ [c]
def rowOk (n : Nat) (y : Str) : Bool := decide ((n : Int) < 4) || (Txt.count y ⟨#[40]⟩ == Txt.count y ⟨#[41]⟩)

theorem rows_spec {hb : Heap} (G : Gr mg mb hb) {fr : Nat} (hf : mg "_law_rows" = some (.ref fr)) {n : Nat} {t : Tok} (hn5 : n ≤ 4) :
    GivesK prog w hb fr [.int (n : Nat) t] 2 (fun _ => True) fun h₀ v h' => ∃ (r : Nat) (vs : Array Value), v = .ref r ∧ h₀.get? r = none ∧ h'.PlainList r vs ∧ StrsAre vs.toList (((rowsAll n).map strL).filter (rowOk n)) := by
  intro A s Q E hh hroom hbk hbz _ hQ
  refine call_fnC (st := stmAt 6) (binds := [("size", .int (n : Nat) t)]) (G.fn 6 (by decide)) hf G hbk (by omega) (fun _ _ _ => rfl) rfl (fun code h₁ tk FF X => ?_)
  have hn₁ := FF.ns
  have hc₁ : h₁.IsCell (s.heap.objs.size + 1) (some (.int (n : Nat) t)) := X.cell "size" _ rfl
  have hk₁ : Keep s.heap h₁ := FF.keep
  refine wpAny_execs_cons (wpAny_Assign_Name (wpAny_List_spliced (spliced_cons (wpAny_Constant_str (k := 0) (pos := default) (spliced_nil ⟨by size_fits, stE (hn₁.push _) fun h₂ hn₂ hs₂ => ?_⟩)))))
  dsimp only at hn₂ hs₂ ⊢
  generalize hR0 : h₁.objs.size = R0 at hn₂ hs₂ ⊢
  have hLR : s.heap.objs.size < R0 := hR0 ▸ hn₁.lt
  have hR0' : h₂.PlainList R0 #[.str (Str.ofString "") tk] := ⟨_, hs₂.extBut R0 _ (Nat.ne_of_gt hLR) (hR0 ▸ Heap.get?_push_size _ rfl)⟩
  have hk₂ : Keep s.heap h₂ := fun b o q => hs₂.extBut b o (Nat.ne_of_lt (Heap.lt_size q)) (Heap.get?_push_of_some _ (hk₁ b o q))
  have hc₂ : h₂.IsCell (s.heap.objs.size + 1) (some (.int (n : Nat) t)) := let ⟨o, ho, r⟩ := hc₁; ⟨o, hs₂.extBut _ o (Nat.succ_ne_self _) (Heap.get?_push_of_some _ ho), r⟩
  have hbk₂ : Keep hb h₂ := fun b o q => hk₂ b o (hbk b o q)
  have hLlt : s.heap.objs.size < h₂.objs.size := hn₂.lt
  refine wpAny_execs_cons (wpAny_For (wpAny_Call_NameR (bltnE (G.keeps hbk₂) (by decide) boot_range (PyProof.Rows.callWith_type rfl (Calls.evalArgs_plain (spliced_cons (clE hc₂ (spliced_nil (call_range_1 (wpAny_pyIter_range (Heap.get?_push_size _ rfl) (small_one (by omega) (by omega) (by omega) (by omega)) ?_))))))))) (fun _ => rfl))
  have hsize : Builtin.Range.rangeSize 0 (n : Int) 1 = (n : Int) := by rw [rangeSize_one]; split <;> omega
  rw [hsize]
  dsimp only
  generalize hH : h₂.push { cls := .type "range", data := .fields #[.int 0 _, .int (n : Int) t, .int 1 _] } = H
  have hkH : Keep h₂ H := fun b o q => hH ▸ Heap.get?_push_of_some _ q
  have hnH := hn₂.keeps hkH
  have hLH : s.heap.objs.size < H.objs.size := hnH.lt
  have hRH : R0 < H.objs.size := let ⟨_, e⟩ := hR0'; Heap.lt_size (hkH _ _ e)
  refine forLoop_walks (fun g => g = s.gens) (N₀ := H.objs.size) (L := s.heap.objs.size) (ex := [s.heap.objs.size]) (walksRange (by exact hh) H.objs.size n) (fun b o q => Heap.get?_push_of_some _ (hkH _ _ (hbk₂ b o q))) (Nat.le_trans hbz (Nat.le_of_lt hLH)) (by simp)
    (fun b hm => by rw [List.mem_singleton.mp hm]; exact hLH) (fun b hm hx => ?_) (fun b hm => by rw [List.mem_singleton.mp hm]; exact Nat.le_refl _) (fun b hm => by rw [List.mem_singleton.mp hm]; exact hbz) rfl
    rfl rfl rfl ?_ (hnH.push _)
    (fun j m h => ∃ (r : Nat) (vs : Array Value), m "rows" = some (.ref r) ∧ h.PlainList r vs ∧ StrsAre vs.toList ((rowsAll j).map strL) ∧ r ≠ H.objs.size ∧ r ≠ s.heap.objs.size)
    ?_ ⟨R0, _, rfl, (hR0'.at fun o q => hkH _ _ q).at fun o q => Heap.get?_push_of_some _ q, .cons _ _ .nil, Nat.ne_of_lt hRH, Nat.ne_of_gt hLR⟩ (fun _ => False) ?_ ?_ ?_
  · rw [List.mem_singleton.mp hm] at hx
    exact absurd (List.mem_singleton.mp hx) (Nat.ne_of_gt hLH)
  · show IsRangeIter _ _ (0 + ((0 : Nat) : Int) * 1) ((n : Int) - ((0 : Nat) : Int)) 1
    rw [show (0 : Int) + ((0 : Nat) : Int) * 1 = 0 by omega, show (n : Int) - ((0 : Nat) : Int) = n by omega]
    exact Heap.get?_push_size _ rfl
  · rintro j m h h' ⟨r, vs, e1, e2, e3, e4, e5⟩ hkk
    exact ⟨r, vs, e1, e2.at fun o q => hkk r o (by simp; exact e4) e5 q, e3, e4, e5⟩
  · rintro j v m₁ s₁ E' hj ⟨_, tj, rfl⟩ hst₁ ⟨r, vs, e1, e2, e3, e4, e5⟩ hn hbk' hg' hkk
    have hj4 : j = 0 ∨ j = 1 ∨ j = 2 ∨ j = 3 := by omega
    have hI : ∃ o, s₁.heap.get? H.objs.size = some o := ⟨_, hst₁⟩
    refine wpAny_execs_cons (assign_twoC (z := [40, 41, 111]) (cl := []) (by exact hh) rfl rfl (by decide) rfl (by decide) rfl rfl rfl rfl ?_ (fun _ => rfl) (fun _ _ => rfl) (by decide) (nmE hn e1 ⟨r, vs, rowsAll j, _, rfl, e2.isList, e3, ?_, ?_, hn, fun D h' tk' vs' hD hpl hS hn' hk' => wpAny_execs_nil ?_⟩))
    · intro A' s' E'' Q' C hq
      refine wpAny_Constant_str ?_
      rw [show Str.ofString "()o" = strL [40, 41, 111] from by decide +kernel]
      exact hq _ _
    · rcases hj4 with rfl | rfl | rfl | rfl <;> decide
    · rcases hj4 with rfl | rfl | rfl | rfl <;> decide
    · refine ⟨h', _, _, rfl, fun b o q1 q => hk' b o (fun z => q1 (List.mem_singleton.mpr z)) q, hg', .inl ⟨rfl, _, hn', D, vs', rfl, hpl, hS, fun z => ?_, fun z => ?_⟩⟩
      · obtain ⟨o, ho⟩ := hI
        rw [z, ho] at hD; cases hD
      · obtain ⟨o, _, _, ho, _⟩ := hn
        rw [z, ho] at hD; cases hD
  · rintro h' tk' gens' m' hn' ⟨r, vs, e1, e2, e3, e4, e5⟩ hk' rfl
    have hkS : Keep s.heap h' := fun b o q => hk' b o (Nat.lt_trans (Heap.lt_size q) hLH) (fun z => Nat.ne_of_lt (Heap.lt_size q) (List.mem_singleton.mp z)) (Heap.get?_push_of_some _ (hkH _ _ (hk₂ b o q)))
    have hc' : h'.IsCell (s.heap.objs.size + 1) (some (.int (n : Nat) t)) := let ⟨o, ho, r⟩ := hc₂; ⟨o, hk' _ o (Heap.lt_size (hkH _ _ ho)) (fun z => Nat.succ_ne_self _ (List.mem_singleton.mp z)) (Heap.get?_push_of_some _ (hkH _ _ ho)), r⟩
    have hlen : ((rowsAll n).map strL).length ≤ sizeLine := by
      rw [sizeLine_eq]
      have hj4 : n = 0 ∨ n = 1 ∨ n = 2 ∨ n = 3 ∨ n = 4 := by omega
      rcases hj4 with rfl | rfl | rfl | rfl | rfl <;> decide
    refine wpAny_execs_cons (wpAny_Return_some (comp_strs (cl := [("size", s.heap.objs.size + 1)]) (rowOk n) (fun y v => ∃ t, v = .str y t) (by exact hh) rfl (by decide) rfl (by decide) rfl hlen (nmE hn' e1 ⟨r, vs, rfl, e2.isList, e3, ?_, ?_, ?_⟩)))
    · intro C y ty s₃ m₃ E' hC hy hn₃ hm hk₃
      refine one_test (PyProof.Rows.isTrue_or (wpAny_isTrue_Compare1 (clE (hc'.keeps hk₃) (wpAny_Constant_int (PyProof.Rows.lt_int (wpAny_truthy_bool ?_))))))
      by_cases h4 : (n : Int) < 4
      · rw [decide_eq_true h4, if_pos rfl]
        exact ⟨by rw [rowOk, decide_eq_true h4, Bool.true_or], _, _, rfl, fun _ _ q => q⟩
      · rw [decide_eq_false h4, if_neg Bool.false_ne_true]
        refine PyProof.Rows.isTrue_or (wpAny_isTrue_Compare1 ?_)
        refine wpAny_Call_method (T := "str") (id := "str.count") rfl rfl rfl F.plainAttrs_str F.slot_str_count F.type_str_count (nmE hn₃ hm ⟨typeIs_str _ _ _, (fun _ e => nomatch e), ?_⟩)
        refine Calls.callWith_builtin rfl (Calls.evalArgs_plain (spliced_cons (wpAny_Constant_str (k := 0) (pos := default) (spliced_nil (SC.count ?_)))))
        refine wpAny_Call_method (T := "str") (id := "str.count") rfl rfl rfl F.plainAttrs_str F.slot_str_count F.type_str_count (nmE hn₃ hm ⟨typeIs_str _ _ _, (fun _ e => nomatch e), ?_⟩)
        refine Calls.callWith_builtin rfl (Calls.evalArgs_plain (spliced_cons (wpAny_Constant_str (k := 0) (pos := default) (spliced_nil (SC.count (PyProof.Rows.eq_int (wpAny_truthy_bool ?_)))))))
        rw [show Str.ofString "(" = ⟨#[40]⟩ from by decide +kernel, show Str.ofString ")" = ⟨#[41]⟩ from by decide +kernel]
        have e : rowOk n y = (Txt.count y ⟨#[40]⟩ == Txt.count y ⟨#[41]⟩) := by rw [rowOk, decide_eq_false h4, Bool.false_or]
        cases hcc : (Txt.count y ⟨#[40]⟩ == Txt.count y ⟨#[41]⟩) with
        | true => rw [if_pos rfl]; exact ⟨by rw [e, hcc], _, _, rfl, fun _ _ q => q⟩
        | false => rw [if_neg Bool.false_ne_true]; exact PyProof.Rows.isTrue_or_nil ⟨by rw [e, hcc], _, _, rfl, fun _ _ q => q⟩
    · intro C y ty s₃ m₃ E' hC hy hp hn₃ hm hk₃
      exact nmE hn₃ hm ⟨⟨ty, rfl⟩, _, _, rfl, fun _ _ q => q⟩
    · intro D h'' tk'' vs'' hD hpl hP hk''
      refine hQ _ h'' _ (fun b o q => hk'' b o (hkS b o q)) ⟨D, vs'', rfl, ?_, hpl, paired_strs hP⟩
      cases q : s.heap.get? D with
      | none => rfl
      | some o => have := hkS D o q; rw [hD] at this; cases this
  · exact fun v h' tk gens' hV => hV.elim
end
end Mine

open PySem PySem.W PyProof.Rows
open PySem.Calls (spliced_nil spliced_cons)
set_option Elab.async false
set_option maxRecDepth 100000
set_option maxHeartbeats 4000000
namespace Mine

def hiddenL : List (List Nat) := [[111], [92, 40], [34, 41, 34], [92, 41], [34, 40, 34], [92, 92], [34, 92, 34, 41, 34], [92, 34]]
def behindL : List (List Nat) := [[], [40, 34, 41], [92], [40, 34, 41, 92]]
def signText (n k c : Nat) : List Nat := if c = 111 then hiddenL.getD (n / 8 ^ k % 8) [] else [c]
def textOf (row : List Nat) (n : Nat) : List Nat := ((List.range row.length).map fun k => signText n k (row.getD k 0)).flatten
def deepOf (row : List Nat) (n : Nat) : Nat := if row.length = 2 then n / 4096 % 4 else 0
def behindOf (row : List Nat) (n : Nat) : Nat := if row.length < 2 then n / 16384 % 4 else 0
def written (row : List Nat) (n : Nat) : List Nat := List.replicate (deepOf row n) 40 ++ List.replicate (deepOf row n) 41 ++ textOf row n ++ behindL.getD (behindOf row n) []

theorem fdiv_nat (a b : Nat) : (a : Int).fdiv (b : Int) = ((a / b : Nat) : Int) := by
  rw [Int.fdiv_eq_ediv_of_nonneg _ (Int.natCast_nonneg b)]; rfl
theorem fmod_nat (a b : Nat) : (a : Int).fmod (b : Int) = ((a % b : Nat) : Int) := by
  rw [Int.fmod_eq_emod_of_nonneg _ (Int.natCast_nonneg b)]; rfl

theorem paired_map {α : Type} {f : α → Str} {ks : List α} {vs : List Value} (h : Paired (fun k v => ∃ t, v = Value.str (f k) t) ks vs) : StrsAre vs (ks.map f) := by
  induction h with
  | nil => exact .nil
  | cons h _ ih => obtain ⟨t, rfl⟩ := h; exact .cons _ _ ih

theorem strs_at {vs : List Value} {ys : List Str} (h : StrsAre vs ys) : ∀ {j : Nat} {y : Str}, ys[j]? = some y → ∃ t, vs[j]? = some (.str y t) := by
  induction h with
  | nil => intro j n e; simp at e
  | cons y t _ ih =>
    intro j k e
    cases j with
    | zero => simp at e; exact ⟨_, by simp [e]; rfl⟩
    | succ j => simpa using ih (by simpa using e)


def constStrs : List Expr → Option (List Str)
  | [] => some []
  | .Constant (.str x) _ _ :: r => (constStrs r).map (x :: ·)
  | _ => none

theorem consts_spliced {M : Model} {A : Around} {E : Value → Shared → Prop} {env : Env} {pos : Pos} : ∀ {es : List Expr} {ys : List Str} {s : Shared} {Q : List Value → Shared → Prop}, constStrs es = some ys → (∀ vs tk, StrsAre vs ys → Q vs { s with toks := tk }) →
    wpAny M A (spliced (backTo pos (starEach es env))) Q E s
  | [], ys, s, Q, h, hQ => by
    cases h
    exact spliced_nil (hQ [] s.toks .nil)
  | e :: r, ys, s, Q, h, hQ => by
    cases e with
    | Constant c k p =>
      cases c with
      | str x =>
        obtain ⟨zs, hz, rfl⟩ := Option.map_eq_some_iff.mp (show (constStrs r).map (x :: ·) = some ys from h)
        exact spliced_cons (wpAny_Constant_str (k := k) (pos := p) (consts_spliced hz fun vs tk hS => hQ _ tk (.cons x _ hS)))
      | _ => cases h
    | _ => cases h

section
variable {prog : Program} {w : World} {A : Around} {s : Shared} {mg mb : Str → Option Value} {E : Value → Shared → Prop} {env : Env}

/-- number // m % d -/
theorem divmod_E {l e1 e2 : Expr} {p1 p2 : Pos} {n m d : Nat} {Q : Value → Shared → Prop} (hm : m ≠ 0) (hm2 : m < 1073741824) (hd : d ≠ 0)
    (h : wpAny (model prog w) A (eval l env) (fun v s₁ => ∃ t, v = .int (n : Nat) t ∧ wpAny (model prog w) A (eval e1 env) (fun v s₂ => ∃ t, v = .int (m : Nat) t ∧ ∀ s₃ : Shared, (∃ tk, s₃ = { s₂ with toks := tk }) →
      wpAny (model prog w) A (eval e2 env) (fun v s₄ => ∃ t, v = .int (d : Nat) t ∧ ∀ t' tk, Q (.int ((n / m % d : Nat)) t') { s₄ with toks := tk }) E s₃) E s₁) E s) :
    wpAny (model prog w) A (eval (.BinOp (.BinOp l .FloorDiv e1 p1) .Mod e2 p2) env) Q E s := by
  refine wpAny_BinOp (wpAny_BinOp (wpAny_mono h (fun v s₁ h₁ => ?_) fun _ _ e => e))
  obtain ⟨t, rfl, h₁⟩ := h₁
  refine wpAny_mono h₁ (fun v s₂ h₂ => ?_) fun _ _ e => e
  obtain ⟨t2, rfl, h₂⟩ := h₂
  refine PyProof.Rows.floordiv_int (by omega) ?_ (.inl (PyProof.noPylong_small (by omega)))
  rw [fdiv_nat]
  refine wpAny_mono (h₂ _ ⟨_, rfl⟩) (fun v s₄ h₄ => ?_) fun _ _ e => e
  obtain ⟨t4, rfl, h₄⟩ := h₄
  refine PyProof.Rows.mod_int (by omega) ?_
  rw [fmod_nat]
  exact h₄ _ _

theorem int_cong {a b : Int} {t : Tok} (h : a = b) : Value.int a t = Value.int b t := by rw [h]
theorem str_cong {a b : Str} {t : Tok} (h : a = b) : Value.str a t = Value.str b t := by rw [h]

theorem if_divmod {test l : Expr} {k1 k2 k3 : Nat} {p1 p2 p3 p4 p5 p6 : Pos} {n m d : Nat} {b : Bool} {Q : Value → Shared → Prop} (hm : m ≠ 0) (hm2 : m < 1073741824) (hd : d ≠ 0)
    (ht : ∀ Q' : Bool → Shared → Prop, (∀ tk, Q' b { s with toks := tk }) → wpAny (model prog w) A (isTrue test env (eval test env)) Q' E s)
    (hl : ∀ (Q' : Value → Shared → Prop) tk, (∀ t tk', Q' (.int (n : Nat) t) { s with toks := tk' }) → wpAny (model prog w) A (eval l env) Q' E { s with toks := tk })
    (hQ : ∀ t tk, Q (.int ((if b = true then n / m % d else 0 : Nat)) t) { s with toks := tk }) :
    wpAny (model prog w) A (eval (.IfExp test (.BinOp (.BinOp l .FloorDiv (.Constant (.int (m : Nat)) k1 p1) p2) .Mod (.Constant (.int (d : Nat)) k2 p3) p4) (.Constant (.int ((0 : Nat) : Int)) k3 p5) p6) env) Q E s := by
  refine IfExp_ (ht _ fun tk => ?_)
  cases b with
  | true =>
    rw [if_pos rfl]
    refine divmod_E hm hm2 hd (hl _ _ fun t tk' => ⟨t, rfl, wpAny_Constant_int (k := 0) (pos := default) ⟨_, rfl, ?_⟩⟩)
    rintro s₃ ⟨tk₃, rfl⟩
    refine wpAny_Constant_int (k := 0) (pos := default) ⟨_, rfl, fun t' tk'' => ?_⟩
    have := hQ t' tk''
    rw [if_pos rfl] at this
    exact this
  | false =>
    rw [if_neg Bool.false_ne_true]
    refine wpAny_Constant_int (k := 0) (pos := default) ?_
    have := hQ tk (tk + 1)
    rw [if_neg Bool.false_ne_true] at this
    exact this

theorem mul_rep (c n : Nat) (hn : n < 4) : MulOk ⟨#[c]⟩ (n : Int) ∧ Txt.mul ⟨#[c]⟩ (n : Int) = strL (List.replicate n c) := by
  have h : n = 0 ∨ n = 1 ∨ n = 2 ∨ n = 3 := by omega
  rcases h with rfl | rfl | rfl | rfl
  · exact ⟨⟨rfl, (fun h => absurd (by decide) h), (fun h => absurd (by decide) h)⟩, rfl⟩
  · exact ⟨⟨rfl, (fun _ h => by cases h), (fun _ h => by cases h)⟩, rfl⟩
  · exact ⟨⟨rfl, (fun _ _ => by show ¬ ((1 : Nat) : Int) > _; decide), (fun _ _ => by show Builtin.Str.tooLong (1 * 2) = false; decide +kernel)⟩, rfl⟩
  · exact ⟨⟨rfl, (fun _ _ => by show ¬ ((1 : Nat) : Int) > _; decide), (fun _ _ => by show Builtin.Str.tooLong (1 * 3) = false; decide +kernel)⟩, rfl⟩

theorem signText_len (n k c : Nat) : (signText n k c).length ≤ 5 := by
  unfold signText
  split
  · have hj : n / 8 ^ k % 8 < 8 := Nat.mod_lt _ (by decide)
    generalize n / 8 ^ k % 8 = j at hj
    have h : j = 0 ∨ j = 1 ∨ j = 2 ∨ j = 3 ∨ j = 4 ∨ j = 5 ∨ j = 6 ∨ j = 7 := by omega
    rcases h with rfl | rfl | rfl | rfl | rfl | rfl | rfl | rfl <;> decide
  · simp

end
end Mine

open PySem PySem.W PyProof.Rows
open PySem.Calls (spliced_nil spliced_cons)
set_option Elab.async false
set_option maxRecDepth 100000
set_option maxHeartbeats 4000000
namespace Mine
section
variable {prog : Program} {w : World} {A : Around} {s : Shared} {mg mb : Str → Option Value} {E : Value → Shared → Prop} {env : Env}
theorem strL_len (l : List Nat) : (strL l).length = l.length := by simp [strL, Str.length]

theorem written_tail {hb : Heap} (G : Gr mg mb hb) {fw L : Nat} {row : List Nat} {n : Nat} {t u tt : Tok} {code : Value} {m : Str → Option Value} {h₂ : Heap} {tk : Nat} {Q : Value → Shared → Prop} (hr : row.length ≤ 4) (hn6 : n < 1000000) (hLb : hb.objs.size ≤ L)
    (hbk : Keep hb h₂) (hn : h₂.Ns L m) (hc1 : h₂.IsCell (L + 1) (some (.str (strL row) t))) (hc2 : h₂.IsCell (L + 1 + 1) (some (.int (n : Nat) u))) (hm : m "text" = some (.str (strL (textOf row n)) tt)) (htl : (textOf row n).length ≤ 100)
    (hQ : ∀ v h' tk, (∀ (b : Nat) (o : Obj), b ≠ L → h₂.get? b = some o → h'.get? b = some o) → (∃ u, v = .str (strL (written row n)) u) → Q v { s with heap := h', toks := tk }) :
    wpAny (model prog w) A (execs ((bodyOf (stmAt 7)).drop 2) (envOfC (nameOf (stmAt 7)) (scopeOf (stmAt 7)) L fw code)) (fun fl s' => Q (match fl with | .ret v => v | _ => .none) s') NoE { s with heap := h₂, toks := tk } := by
  have hrow : (strL row).length = row.length := by simp [strL, Str.length]
  have hL1 : L < L + 1 := Nat.lt_succ_self _
  have hL2 : L < L + 1 + 1 := Nat.lt_succ_of_lt hL1
  have lenE : ∀ {h : Heap} {tk : Nat} {e : Expr} {pos p1 p2 : Pos} {E' : Value → Shared → Prop} {Q' : Value → Shared → Prop}, Keep hb h → h.IsCell (L + 1) (some (.str (strL row) t)) → (∀ t' tk', Q' (.int (row.length : Nat) t') { s with heap := h, toks := tk' }) →
      wpAny (model prog w) A (eval (.Call (.Name "len" p1) [.Name "row" p2] [] pos) (envOfC (nameOf (stmAt 7)) (scopeOf (stmAt 7)) L fw code)) Q' E' { s with heap := h, toks := tk } := by
    intro h tk e pos p1 p2 E' Q' hbk hc1 hq
    refine wpAny_Call_NameR (bltnE (G.keeps hbk) (by decide) boot_len (Calls.callWith_builtin rfl (Calls.evalArgs_plain (spliced_cons (clE hc1 (spliced_nil ?_))))))
    refine PyProof.Rows.len_str (by rw [hrow]; omega) ?_
    rw [hrow]
    exact hq _ _
  refine wpAny_execs_cons (wpAny_Assign_Name (if_divmod (n := n) (m := 4096) (d := 4) (b := decide (row.length = 2)) (by decide) (by decide) (by decide) (fun Q' hq => ?_) (fun Q' tk' hq => clE hc2 (hq _ _)) (fun t' tk' => stE hn fun h₃ hn₃ hs₃ => ?_)))
  · refine wpAny_isTrue_Compare1 (lenE (e := default) hbk hc1 fun t' tk' => wpAny_Constant_int (k := 0) (pos := default) (PyProof.Rows.eq_int (wpAny_truthy_bool ?_)))
    have e : ((row.length : Int) == (2 : Int)) = decide (row.length = 2) := by
      rw [Bool.eq_iff_iff]; simp; omega
    rw [e]; exact hq _
  dsimp only at hn₃ hs₃ ⊢
  have hc1₃ := hc1.sameBut hs₃ (Nat.ne_of_gt hL1)
  have hc2₃ := hc2.sameBut hs₃ (Nat.ne_of_gt hL2)
  have hbk₃ : Keep hb h₃ := fun b o q => hs₃.extBut b o (neL (Heap.lt_size q) hLb) (hbk b o q)
  refine wpAny_execs_cons (wpAny_Assign_Name (if_divmod (n := n) (m := 16384) (d := 4) (b := decide (row.length < 2)) (by decide) (by decide) (by decide) (fun Q' hq => ?_) (fun Q' tk' hq => clE hc2₃ (hq _ _)) (fun t'' tk'' => stE hn₃ fun h₄ hn₄ hs₄ => ?_)))
  · refine wpAny_isTrue_Compare1 (lenE (e := default) hbk₃ hc1₃ fun t' tk' => wpAny_Constant_int (k := 0) (pos := default) (PyProof.Rows.lt_int (wpAny_truthy_bool ?_)))
    have e : decide ((row.length : Int) < (2 : Int)) = decide (row.length < 2) := by
      rw [Bool.eq_iff_iff]; simp; omega
    rw [e]; exact hq _
  dsimp only at hn₄ hs₄ ⊢
  have hde : (if decide (row.length = 2) = true then n / 4096 % 4 else 0) = deepOf row n := by unfold deepOf; simp
  have hbe : (if decide (row.length < 2) = true then n / 16384 % 4 else 0) = behindOf row n := by unfold behindOf; simp
  rw [hde] at hn₄
  rw [hbe] at hn₄
  have hd4 : deepOf row n < 4 := by unfold deepOf; split <;> omega
  have hb4 : behindOf row n < 4 := by unfold behindOf; split <;> omega
  obtain ⟨mo1, me1⟩ := mul_rep 40 (deepOf row n) hd4
  obtain ⟨mo2, me2⟩ := mul_rep 41 (deepOf row n) hd4
  have l40 : Str.ofString "(" = ⟨#[40]⟩ := by decide +kernel
  have l41 : Str.ofString ")" = ⟨#[41]⟩ := by decide +kernel
  refine wpAny_execs_cons (wpAny_Return_some (wpAny_BinOp (wpAny_BinOp (wpAny_BinOp (wpAny_BinOp (wpAny_Constant_str (k := 0) (pos := default) (nmE hn₄ rfl (SB.mul (l40 ▸ mo1) fun t1 tk1 => wpAny_BinOp (wpAny_Constant_str (k := 0) (pos := default) (nmE hn₄ rfl (SB.mul (l41 ▸ mo2) fun t2 tk2 => ?_)))))))))))
  rw [l40, l41, me1, me2]
  refine PyProof.Rows.add_str (fun t3 tk3 => ?_) (by rw [sizeLine_eq]; simp [strL, Str.length]; omega)
  refine nmE hn₄ hm ?_
  rw [show strL (List.replicate (deepOf row n) 40) ++ strL (List.replicate (deepOf row n) 41) = strL (List.replicate (deepOf row n) 40 ++ List.replicate (deepOf row n) 41) from str_cat _ _]
  refine PyProof.Rows.add_str (fun t4 tk4 => ?_) (by rw [sizeLine_eq]; simp [strL, Str.length]; omega)
  rw [show strL (List.replicate (deepOf row n) 40 ++ List.replicate (deepOf row n) 41) ++ strL (textOf row n) = strL (List.replicate (deepOf row n) 40 ++ List.replicate (deepOf row n) 41 ++ textOf row n) from str_cat _ _]
  refine Subscript_ (wpAny_Tuple_spliced (consts_spliced (ys := [Str.ofString "", Str.ofString "(\")", Str.ofString "\\", Str.ofString "(\")\\"]) rfl fun vs tk5 hvs => ⟨by rw [strs_len hvs]; decide +kernel, nmE (hn₄.push _) rfl ?_⟩))
  have hbl : [Str.ofString "", Str.ofString "(\")", Str.ofString "\\", Str.ofString "(\")\\"] = behindL.map strL := by decide +kernel
  rw [hbl] at hvs
  obtain ⟨th, hth⟩ := strs_at hvs (j := behindOf row n) (y := strL (behindL.getD (behindOf row n) [])) (by
    rw [List.getElem?_map, List.getD_eq_getElem?_getD, List.getElem?_eq_getElem (show behindOf row n < behindL.length from hb4)]; rfl)
  refine item_tupleT (l := vs) ⟨_, Heap.get?_push_size _ rfl, rfl, _, rfl⟩ (by omega) (by omega) (seq_at (by rw [strs_len hvs]; exact hb4)) hth ?_
  have hbl5 : (behindL.getD (behindOf row n) []).length ≤ 5 := by
    generalize behindOf row n = j at hb4
    have h : j = 0 ∨ j = 1 ∨ j = 2 ∨ j = 3 := by omega
    rcases h with rfl | rfl | rfl | rfl <;> decide
  refine PyProof.Rows.add_str (fun t5 tk6 => ?_) (by rw [sizeLine_eq, strL_len, strL_len, List.length_append, List.length_append, List.length_replicate, List.length_replicate]; omega)
  rw [show strL (List.replicate (deepOf row n) 40 ++ List.replicate (deepOf row n) 41 ++ textOf row n) ++ strL (behindL.getD (behindOf row n) []) = strL (written row n) from str_cat _ _]
  exact hQ _ _ _ (fun b o hb q => Heap.get?_push_of_some _ (hs₄.extBut b o hb (hs₃.extBut b o hb q))) ⟨_, rfl⟩

end
end Mine

open PySem PySem.W PyProof.Rows
open PySem.Calls (spliced_nil spliced_cons)
set_option Elab.async false
set_option maxRecDepth 100000
set_option maxHeartbeats 4000000
namespace Mine
section
variable {prog : Program} {w : World} {A : Around} {s : Shared} {mg mb : Str → Option Value} {E : Value → Shared → Prop} {env : Env}
theorem written_rest {hb : Heap} (G : Gr mg mb hb) {fw L D : Nat} {row : List Nat} {n : Nat} {t u : Tok} {code : Value} {m : Str → Option Value} {dvs : Array Value} {h₂ : Heap} {tk : Nat} {Q : Value → Shared → Prop} (hr : row.length ≤ 4) (hn6 : n < 1000000) (hh : A.handled = none) (hLb : hb.objs.size ≤ L)
    (hbk : Keep hb h₂) (hn : h₂.Ns L m) (hc1 : h₂.IsCell (L + 1) (some (.str (strL row) t))) (hc2 : h₂.IsCell (L + 1 + 1) (some (.int (n : Nat) u))) (hc3 : h₂.IsCell (L + 1 + 1 + 1) (some (.ref D)))
    (hD : IsTup h₂ D dvs) (hS : StrsAre dvs.toList (hiddenL.map strL))
    (hQ : ∀ v h' tk, (∀ b o, b ≠ L → h₂.get? b = some o → h'.get? b = some o) → (∃ u, v = .str (strL (written row n)) u) → Q v { s with heap := h', toks := tk }) :
    wpAny (model prog w) A (execs ((bodyOf (stmAt 7)).drop 1) (envOfC (nameOf (stmAt 7)) (scopeOf (stmAt 7)) L fw code)) (fun fl s' => Q (match fl with | .ret v => v | _ => .none) s') NoE { s with heap := h₂, toks := tk } := by
  have hrow : (strL row).length = row.length := by simp [strL, Str.length]
  refine wpAny_execs_cons (wpAny_Assign_Name ?_)
  refine wpAny_Call_method (T := "str") (id := "str.join") rfl rfl rfl F.plainAttrs_str F.slot_str_join F.type_str_join (wpAny_Constant_str (k := 0) (pos := default) ⟨typeIs_str _ _ _, (fun _ e => nomatch e), ?_⟩)
  refine Calls.callWith_builtin rfl (Calls.evalArgs_plain (spliced_cons ?_))
  refine comp_range (n := row.length) (cl := [("row", L + 1), ("number", L + 1 + 1), ("hidden", L + 1 + 1 + 1)]) (fun _ => true) (fun k v => ∃ t, v = .str (strL (signText n k (row.getD k 0))) t) hh rfl (by decide) rfl (by decide) rfl (by omega) ?_
  refine wpAny_Call_NameR (bltnE (G.keeps hbk) (by decide) boot_range (PyProof.Rows.callWith_type rfl (Calls.evalArgs_plain (spliced_cons (wpAny_Call_NameR (bltnE (G.keeps hbk) (by decide) boot_len (Calls.callWith_builtin rfl (Calls.evalArgs_plain (spliced_cons (clE hc1 (spliced_nil (PyProof.Rows.len_str (by rw [hrow]; omega) (spliced_nil (call_range_1 ?_))))))))))))))
  rw [hrow]
  refine ⟨_, _, _, _, rfl, Heap.get?_push_size _ rfl, ?_, ?_, ?_⟩
  · intro C k tk' s₃ m₃ E' _ _ _ _ _
    exact no_tests ⟨rfl, _, _, rfl, fun _ _ q => q⟩
  · intro C k tk' s₃ m₃ E' hC hk _ hn₃ hm₃ hk₃
    have hk₂ : Keep h₂ s₃.heap := fun b o q => hk₃ b o (Heap.get?_push_of_some _ q)
    have hkr : (seqIndex? (k : Int) (strL row).length).bind ((strL row).cps[·]?) = some (row.getD k 0) := by
      rw [hrow, seq_at hk]
      simp [strL, List.getD_eq_getElem?_getD, hk]
    have hkb : (decide ((k : Int) < -(2 ^ 63 : Int)) || decide ((k : Int) ≥ 2 ^ 63)) = false := by
      rw [decide_eq_false (by omega), decide_eq_false (by omega)]; rfl
    refine IfExp_ (wpAny_isTrue_Compare1 (Subscript_ (clE (hc1.keeps hk₂) (nmE hn₃ hm₃ (tail_any (typeIs_str _ _ _) F.slot_str_getitem.lookup (getItem_str hkb hkr (wpAny_Constant_str (k := 0) (pos := default) (PyProof.Rows.eq_str (wpAny_truthy_bool ?_)))) rfl)))))
    rw [show ((⟨#[row.getD k 0]⟩ : Str) == Str.ofString "o") = decide ([row.getD k 0] = [111]) from str_eq_lit [row.getD k 0] [111] _ (by decide +kernel)]
    by_cases ho : row.getD k 0 = 111
    · rw [ho, decide_eq_true rfl, if_pos rfl]
      have h8 : (8 : Nat) ^ k < 1073741824 := by
        have : (8 : Nat) ^ k ≤ 8 ^ 4 := Nat.pow_le_pow_right (by decide) (by omega)
        omega
      have hj : n / 8 ^ k % 8 < 8 := Nat.mod_lt _ (by decide)
      obtain ⟨th, hth⟩ := strs_at hS (j := n / 8 ^ k % 8) (y := strL (hiddenL.getD (n / 8 ^ k % 8) [])) (by
        rw [List.getElem?_map, List.getD_eq_getElem?_getD, List.getElem?_eq_getElem (show n / 8 ^ k % 8 < hiddenL.length from hj)]; rfl)
      have hdl : dvs.toList.length = 8 := by rw [strs_len hS]; rfl
      refine Subscript_ (clE (hc3.keeps hk₂) (divmod_E (n := n) (m := 8 ^ k) (d := 8) (Nat.ne_of_gt (Nat.pow_pos (by decide))) h8 (by decide) (clE (hc2.keeps hk₂) ⟨_, rfl, wpAny_BinOp (wpAny_Constant_int (k := 0) (pos := default) (nmE hn₃ hm₃ (PyProof.Rows.pow_int_small (by omega) (by omega) (by decide) ?_)))⟩)))
      refine ⟨_, int_cong (show (8 : Int) ^ (k : Int).toNat = ((8 ^ k : Nat) : Int) by rw [Int.toNat_natCast]; push_cast; rfl), ?_⟩
      rintro s₄ ⟨tk₄, rfl⟩
      refine wpAny_Constant_int (k := 0) (pos := default) ⟨_, rfl, fun t' tk'' => ?_⟩
      have hDs : IsTup s₃.heap D dvs := let ⟨o, ho, r⟩ := hD; ⟨o, hk₂ D o ho, r⟩
      refine item_tupleT (l := dvs.toList) (by simpa using hDs) (by omega) (by omega) (seq_at (by rw [hdl]; exact hj)) hth ⟨⟨th, str_cong (by rw [signText, if_pos rfl])⟩, _, _, rfl, fun _ _ q => q⟩
    · rw [decide_eq_false (by simpa using ho), if_neg Bool.false_ne_true]
      refine Subscript_ (clE (hc1.keeps hk₂) (nmE hn₃ hm₃ (tail_any (typeIs_str _ _ _) F.slot_str_getitem.lookup (getItem_str hkb hkr ⟨⟨_, str_cong (by rw [signText, if_neg ho]; rfl)⟩, _, _, rfl, fun _ _ q => q⟩) rfl)))
  · intro Dl h' tk' vs' hDn hpl hP hk'
    rw [List.filter_eq_self.mpr (fun _ _ => rfl)] at hP
    have hS' := paired_map hP
    have hk₂ : Keep h₂ h' := fun b o q => hk' b o (Heap.get?_push_of_some _ q)
    have hn' := hn.keeps hk₂
    refine spliced_nil ?_
    refine join_listW hpl.isList hS' (by decide +kernel) ?_ fun t' k => ?_
    · have h1 := StrLaws.sumLen_le (B := 5) ((List.range row.length).map fun k => strL (signText n k (row.getD k 0))) (fun y hy => by
        obtain ⟨z, hz, rfl⟩ := List.mem_map.mp hy
        simpa [Str.length, strL] using signText_len n z (row.getD z 0))
      rw [List.length_map, List.length_range] at h1
      rw [List.length_map, List.length_range]
      omega
    have htext : Txt.join (Str.ofString "") ((List.range row.length).map fun k => strL (signText n k (row.getD k 0))) = strL (textOf row n) := by
      rw [show Str.ofString "" = ⟨#[]⟩ from by decide +kernel]
      have := join_flat ((List.range row.length).map fun k => signText n k (row.getD k 0))
      rw [List.map_map] at this
      exact this
    rw [htext]
    refine stE hn' fun h₃ hn₃ hs₃ => ?_
    have hkL : ∀ (b : Nat) (o : Obj), b ≠ L → h₂.get? b = some o → h₃.get? b = some o := fun b o hb q => hs₃.extBut b o hb (hk₂ b o q)
    have cellK : ∀ {h : Heap} {c : Nat} {v : Option Value}, L < c → h₂.IsCell c v → (∀ (b : Nat) (o : Obj), b ≠ L → h₂.get? b = some o → h.get? b = some o) → h.IsCell c v := fun hc ⟨o, ho, r⟩ hk => ⟨o, hk _ o (Nat.ne_of_gt hc) ho, r⟩
    have hL1 : L < L + 1 := Nat.lt_succ_self _
    have hL2 : L < L + 1 + 1 := Nat.lt_succ_of_lt hL1
    have htl : (textOf row n).length ≤ 100 := by
      have hB : ∀ l : List (List Nat), (∀ y ∈ l, y.length ≤ 5) → l.flatten.length ≤ 5 * l.length := by
        intro l
        induction l with
        | nil => intro _; simp
        | cons a l ih => intro h; rw [List.flatten_cons, List.length_append, List.length_cons]; have h1 := h a (by simp); have h2 := ih fun y hy => h y (by simp [hy]); omega
      have := hB ((List.range row.length).map fun k => signText n k (row.getD k 0)) (fun y hy => by obtain ⟨z, _, rfl⟩ := List.mem_map.mp hy; exact signText_len _ _ _)
      rw [List.length_map, List.length_range] at this
      unfold textOf
      omega
    exact written_tail G hr hn6 hLb (fun b o q => hkL b o (neL (Heap.lt_size q) hLb) (hbk b o q)) hn₃ (cellK hL1 hc1 hkL) (cellK hL2 hc2 hkL) (if_pos rfl) htl fun v h'' tk'' hk'' hv => hQ v h'' tk'' (fun b o hb q => hk'' b o hb (hkL b o hb q)) hv
end
end Mine

open PySem PySem.W PyProof.Rows
open PySem.Calls (spliced_nil spliced_cons)
set_option Elab.async false
set_option maxRecDepth 100000
set_option maxHeartbeats 4000000
namespace Mine
section
variable {prog : Program} {w : World} {A : Around} {s : Shared} {mg mb : Str → Option Value} {E : Value → Shared → Prop} {env : Env}
theorem written_spec {hb : Heap} (G : Gr mg mb hb) {fw : Nat} (hf : mg "_law_written" = some (.ref fw)) {row : List Nat} {n : Nat} {t u : Tok} (hr : row.length ≤ 4) (hn6 : n < 1000000) :
    GivesK prog w hb fw [.str (strL row) t, .int (n : Nat) u] 2 (fun _ => True) fun _ v _ => ∃ u, v = .str (strL (written row n)) u := by
  intro A s Q E hh hroom hbk hbz _ hQ
  refine call_fnC (st := stmAt 7) (binds := [("row", .str (strL row) t), ("number", .int (n : Nat) u)]) (G.fn 7 (by decide)) hf G hbk (by omega) (fun _ _ _ => rfl) rfl (fun code h₁ tk FF X => ?_)
  have hn₁ := FF.ns
  have hc1 : h₁.IsCell (s.heap.objs.size + 1) (some (.str (strL row) t)) := X.cell "row" _ rfl
  have hc2 : h₁.IsCell (s.heap.objs.size + 1 + 1) (some (.int (n : Nat) u)) := X.cell "number" _ rfl
  have hc3 : h₁.IsCell (s.heap.objs.size + 1 + 1 + 1) none := X.cell "hidden" _ rfl
  have hk₁ : Keep s.heap h₁ := FF.keep
  refine wpAny_execs_cons (wpAny_Assign_Name (wpAny_Tuple_spliced (consts_spliced (ys := [Str.ofString "o", Str.ofString "\\(", Str.ofString "\")\"", Str.ofString "\\)", Str.ofString "\"(\"", Str.ofString "\\\\", Str.ofString "\"\\\")\"", Str.ofString "\\\""]) rfl fun vs tk5 hvs => ⟨by rw [strs_len hvs]; decide +kernel, stCE (let ⟨o, ho, r⟩ := hc3; ⟨o, Heap.get?_push_of_some _ ho, r⟩) fun h₂ hc₂ hs₂ => ?_⟩)))
  dsimp only at hc₂ hs₂ ⊢
  have hbl : [Str.ofString "o", Str.ofString "\\(", Str.ofString "\")\"", Str.ofString "\\)", Str.ofString "\"(\"", Str.ofString "\\\\", Str.ofString "\"\\\")\"", Str.ofString "\\\""] = hiddenL.map strL := by decide +kernel
  rw [hbl] at hvs
  have keep₂ : ∀ (b : Addr) (o : Obj), b ≠ s.heap.objs.size + 1 + 1 + 1 → h₁.get? b = some o → h₂.get? b = some o := fun b o hb q => hs₂.extBut b o hb (Heap.get?_push_of_some _ q)
  have hkS : Keep s.heap h₂ := fun b o q => keep₂ b o (Nat.ne_of_lt (Nat.lt_succ_of_lt (Nat.lt_succ_of_lt (Nat.lt_succ_of_lt (Heap.lt_size q))))) (hk₁ b o q)
  have hcL : s.heap.objs.size + 1 + 1 + 1 < h₁.objs.size := hc3.lt
  have cellK : ∀ {c : Nat} {v : Option Value}, c ≠ s.heap.objs.size + 1 + 1 + 1 → h₁.IsCell c v → h₂.IsCell c v := fun hc ⟨o, ho, r⟩ => ⟨o, keep₂ _ o hc ho, r⟩
  have hD : IsTup h₂ h₁.objs.size vs.toArray := ⟨_, hs₂.extBut _ _ (Nat.ne_of_gt hcL) (Heap.get?_push_size _ rfl), rfl, _, rfl⟩
  exact written_rest (s := s) G hr hn6 (by exact hh) hbz (fun b o q => hkS b o (hbk b o q)) ((hn₁.push _).sameBut hs₂ (Nat.ne_of_lt (Nat.lt_succ_of_lt (Nat.lt_succ_of_lt (Nat.lt_succ_self _))))) (cellK (by omega) hc1) (cellK (by omega) hc2) hc₂ hD (by simpa using hvs)
    fun v h' tk' hk' hv => hQ v h' tk' (fun b o q => hk' b o (Nat.ne_of_lt (Heap.lt_size q)) (hkS b o q)) hv
end
end Mine

open PySem PySem.W PyProof.Rows
open PySem.Calls (spliced_nil spliced_cons)
set_option Elab.async false
set_option maxRecDepth 100000
set_option maxHeartbeats 4000000
namespace Mine
theorem clear_meets (l : Nat) (items : Array Value) (n : Nat) (dd : Option Addr) (sl : Array (Option Value)) (hs1 : items.size ≤ sizeLine) :
    Meets (Builtin.«list.clear» ⟨[.ref l], []⟩) (fun _ R s => s.heap.get? l = some { cls := .type "list", dict := dd, data := .seq items n, slots := sl } ∧ R (.ok (.ret Value.none)) { s with heap := s.heap.update l (Obj.mapSeq fun _ => #[]), toks := s.toks }) :=
  .of_wp fun prog w A R s h => by
    obtain ⟨hp, g, d, tk, os⟩ := s
    obtain ⟨hl, h⟩ := h
    wp_walk using AutoSeq1.wpAny_loadPart' hl
    exact ⟨_, rfl, h⟩

section
variable {prog : Program} {w : World} {A : Around} {s : Shared} {E : Value → Shared → Prop} {env : Env}
theorem clear_plainL {l : Nat} {items : Array Value} {pos : Pos} {Q : Value → Shared → Prop} (hl : PlainL s.heap l items)
    (h : ∀ h', Heap.SameBut l s.heap h' → Q .none { s with heap := h' }) (hsz : items.size ≤ sizeLine := by size_fits) :
    wpAny (model prog w) A (callWith pos (.builtin "list.clear") [.ref l] [] []) Q E s := by
  obtain ⟨⟨c, dd, dt, sl⟩, n, ho, hc, hdn, hd⟩ := id hl
  simp only at hc hdn hd
  subst hc hd hdn
  exact seqMethod0_meets F.slot_list_clear F.entry_list_clear hl.isList.typeIs (F.args_list_clear_1 _) (clear_meets l items n none sl hsz) ⟨ho, h _ (Heap.SameBut.update ..)⟩

theorem ne_strs {a b : Nat} {vs us : Array Value} {xs ys : List Str} {Q : Value → Shared → Prop} (ha : s.heap.IsList a vs) (hb : s.heap.IsList b us) (hx : StrsAre vs.toList xs) (hy : StrsAre us.toList ys) (hu : A.units < cLine)
    (hxy : xs = ys) (h : Q (.bool false) s) : wpAny (model prog w) A (compareOp .NotEq (.ref a) (.ref b)) Q E s := by
  subst hxy
  have e1 : vs.size = xs.length := by have := strs_len hx; simpa using this
  have e2 : us.size = xs.length := by have := strs_len hy; simpa using this
  refine SeqAt.RcNeAt.lists ha hb (by rw [e1, e2]) hu (e := fun _ => true) (fun j h1 h2 => ?_) prog w E Q ?_
  · obtain ⟨y, t, e, g⟩ := strs_get hx (j := j) (v := vs[j]) (by simp)
    obtain ⟨z, u, e', g'⟩ := strs_get hy (j := j) (v := us[j]) (by simp)
    obtain rfl : y = z := by rw [g] at g'; exact Option.some.inj g'
    rw [e, e', show true = (y == y) by simp]
    exact SeqAt.EqAt.str_str _ _ _ _
  · rw [List.all_eq_true.mpr (fun _ _ => rfl)]; exact h

theorem ne_empty {a b : Nat} {Q : Value → Shared → Prop} (ha : s.heap.IsList a #[]) (hb : s.heap.IsList b #[]) (hu : A.units < cLine)
    (h : Q (.bool false) s) : wpAny (model prog w) A (compareOp .NotEq (.ref a) (.ref b)) Q E s :=
  ne_strs (xs := []) (ys := []) ha hb .nil .nil hu rfl h
end
end Mine

open PySem PySem.W PyProof.Rows
open PySem.Calls (spliced_nil spliced_cons)
set_option Elab.async false
set_option maxRecDepth 100000
set_option maxHeartbeats 4000000
namespace Mine

theorem strs_take {vs : List Value} {ys : List Str} (h : StrsAre vs ys) : ∀ k, StrsAre (vs.take k) (ys.take k) := by
  induction h with
  | nil => intro k; simp; exact .nil
  | cons y t _ ih =>
    intro k
    cases k with
    | zero => simp; exact .nil
    | succ k => exact .cons _ _ (ih k)

/-- the texts told back, by their places -/
def keptAt (ts rs : List Str) : List Str := ((List.range ts.length).filter fun k => decide (preVal (ts.getD k Str.empty) = ts.getD k Str.empty)).map fun k => rs.getD k Str.empty

theorem isList_lt {h : Heap} {a : Nat} {vs : Array Value} (x : h.IsList a vs) : a < h.objs.size := let ⟨_, e, _⟩ := x; Heap.lt_size e

section
variable {prog : Program} {w : World} {A : Around} {s : Shared} {mg mb : Str → Option Value} {E : Value → Shared → Prop} {env : Env}

theorem lk {h h' : Heap} {a : Nat} {vs : Array Value} (x : h.IsList a vs) (hk : Keep h h') : h'.IsList a vs := x.at fun o q => hk _ o q

theorem slice3 {e : Expr} {p p3 pos : Pos} {k D : Nat} {vs : Array Value} {Q : Value → Shared → Prop} (hv : vs.size ≤ sizeLine) (h : wpAny (model prog w) A (eval e env) (fun v s₁ => v = .ref D ∧ s₁.heap.IsList D vs ∧
      ∀ h' tk, Keep s₁.heap h' → h'.IsList (s₁.heap.objs.size + 1) (vs.toList.take 3).toArray → Q (.ref (s₁.heap.objs.size + 1)) { s₁ with heap := h', toks := tk }) E s)
    (ht : ∀ o r, letTemporaryGo e o r = pure () := by intro _ _; rfl) :
    wpAny (model prog w) A (eval (.Subscript e (.Slice none (some (.Constant (.int 3) k p3)) none p) pos) env) Q E s := by
  refine wpAny_Subscript_list_slice (wpAny_mono h (fun v s₁ ⟨hv', hD, hq⟩ => ?_) fun _ _ e => e) ht
  refine wpAny_evalPart_none (wpAny_evalPart_some (wpAny_Constant_int ⟨D, vs, none, some 3, hv', hD, hv, .none, .int _ _, ?_⟩))
  refine hq _ _ (fun b o q => Heap.get?_push_of_some _ (Heap.get?_push_of_some _ q)) ?_
  have := slicePick_upto' vs 3
  refine ⟨_, (by rw [← Heap.size_push]; exact Heap.get?_push_size _ rfl), rfl, 0, ?_⟩
  show Data.seq (slicePick vs none (some ((3 : Nat) : Int)) none) _ = _
  rw [this]

theorem kept_rest {hb : Heap} (G : Gr mg mb hb) {fg fs fc fp : Nat} (hg : mg "_iter_escaped_chars" = some (.ref fg)) (hs : mg "_strip_quoted_realnames" = some (.ref fs)) (hc : mg "_check_parenthesis" = some (.ref fc)) (hp : mg "_pre_parse_validation" = some (.ref fp))
    {L lt lr D1 D2 fk : Nat} {code : Value} {m : Str → Option Value} {tvs gvs kvs rvs : Array Value} {ts rs : List Str} {Q : Flow → Shared → Prop}
    (hh : A.handled = none) (hu : A.units + 10 < cLine) (hroom : A.depth + 6 < recursionLimit) (hbk : Keep hb s.heap) (hbz : hb.objs.size ≤ s.heap.objs.size) (hbare : BareAll s.gens)
    (hn : s.heap.Ns L m) (hmt : m "texts" = some (.ref lt)) (c1 : s.heap.IsCell (L + 1) (some (.ref lr))) (c2 : s.heap.IsCell (L + 1 + 1) (some (.ref D1))) (c3 : s.heap.IsCell (L + 1 + 1 + 1) (some (.ref D2)))
    (hT : s.heap.IsList lt tvs) (hTS : StrsAre tvs.toList ts) (hG : s.heap.IsList D1 gvs) (hGS : StrsAre gvs.toList ts) (hK : s.heap.IsList D2 kvs) (hKS : StrsAre kvs.toList (ts.map preVal)) (hR : s.heap.IsList lr rvs) (hRS : StrsAre rvs.toList rs)
    (hy : ∀ y ∈ ts, y.cps.size ≤ 100) (hlen : ts.length ≤ 1000) (hrl : rs.length = ts.length)
    (hQ : ∀ (r : Nat) (vs : Array Value) h' tk gs, s.heap.get? r = none → h'.PlainList r vs → StrsAre vs.toList (keptAt ts rs) → Keep s.heap h' → BareAll gs → Q (.ret (.ref r)) { s with heap := h', toks := tk, gens := gs }) :
    wpAny (model prog w) A (execs ((bodyOf (stmAt 9)).drop 4) (envOfC (nameOf (stmAt 9)) (scopeOf (stmAt 9)) L fk code)) Q NoE s := by
  have hgz : gvs.size = ts.length := by have := strs_len hGS; simpa using this
  have hkz : kvs.size = ts.length := by have := strs_len hKS; simpa using this
  have hrz : rvs.size = ts.length := by have := strs_len hRS; rw [hrl] at this; simpa using this
  have hsl : gvs.size ≤ sizeLine := by rw [hgz, sizeLine_eq]; omega
  have hsk : kvs.size ≤ sizeLine := by rw [hkz, sizeLine_eq]; omega
  refine wpAny_execs_cons (wpAny_If (isTrue_or (wpAny_isTrue_Compare1 (nmE hn hmt (clE c2 (ne_strs hT hG hTS hGS (by omega) rfl (wpAny_truthy_bool ?_)))))))
  rw [if_neg Bool.false_ne_true]
  refine isTrue_or (wpAny_isTrue_Compare1 (callE (st := stmAt 4) (G.fn 4 (by decide)) hp rfl G hbk (Calls.evalArgs_plain (spliced_cons (slice3 hsl (clE c2 ⟨rfl, hG, fun h₁ tk₁ hk₁ hS₁ => spliced_nil ⟨fun b o q => hk₁ b o (hbk b o q), ?_⟩⟩))))))
  refine pre_spec G hg hs hc hp (items := (List.take 3 gvs.toList).toArray) (ys := ts.take 3) (strs_take hGS 3) (fun y hm => hy y (List.mem_of_mem_take hm)) (by rw [List.length_take]; omega) A { s with heap := h₁, toks := tk₁ } _ _ hh hroom (fun b o q => hk₁ b o (hbk b o q)) (Nat.le_trans hbz (Nat.le_trans (Nat.le_succ _) (Nat.le_of_lt (isList_lt hS₁)))) hbare hS₁ fun v h₂ tk₂ gs₂ hk₂ hb₂ hv => ?_
  obtain ⟨r, vs₂, rfl, hr, hPL, hPS⟩ := hv
  dsimp only at hr hk₂
  have kS₂ : Keep s.heap h₂ := fun b o q => hk₂ b o (hk₁ b o q)
  refine slice3 hsk (clE (c3.keeps kS₂) ⟨rfl, lk hK kS₂, fun h₃ tk₃ hk₃ hS₃ => ?_⟩)
  dsimp only at hS₃ hk₃ ⊢
  have kS₃ : Keep s.heap h₃ := fun b o q => hk₃ b o (kS₂ b o q)
  refine ne_strs (lk hPL.isList hk₃) hS₃ hPS (strs_take hKS 3) (by omega) (by rw [List.map_take]) (wpAny_truthy_bool ?_)
  rw [if_neg Bool.false_ne_true]
  refine isTrue_or_nil ?_
  rw [if_neg Bool.false_ne_true]
  refine wpAny_execs_nil ?_
  have hn₃ := hn.keeps kS₃
  refine wpAny_execs_cons (wpAny_If (wpAny_isTrue_Compare1 (comp_range (n := ts.length) (cl := [("kept", L + 1 + 1 + 1), ("given", L + 1 + 1)]) (fun _ => false) (fun _ _ => False) (by exact hh) rfl (by decide) rfl (by decide) rfl (by omega) ?_)))
  refine wpAny_Call_NameR (bltnE (G.keeps (fun b o q => kS₃ b o (hbk b o q))) (by decide) boot_range (PyProof.Rows.callWith_type rfl (Calls.evalArgs_plain (spliced_cons (wpAny_Call_NameR (bltnE (G.keeps (fun b o q => kS₃ b o (hbk b o q))) (by decide) boot_len (Calls.callWith_builtin rfl (Calls.evalArgs_plain (spliced_cons (clE (c3.keeps kS₃) (spliced_nil (Calls.call_len_list (lk hK kS₃) (by rw [hkz]; omega) (spliced_nil (call_range_1 ?_))))))))))))))
  dsimp only
  rw [hkz]
  have hgk : ∀ k < ts.length, (ts.map preVal).getD k Str.empty = preVal (ts.getD k Str.empty) := fun k hk => by
    rw [List.getD_eq_getElem?_getD, List.getElem?_map, List.getD_eq_getElem?_getD, List.getElem?_eq_getElem hk]; rfl
  have hKl : ∀ {h : Heap}, Keep s.heap h → h.IsList D2 kvs.toList.toArray := fun hk => by simpa using (hK.at fun o q => hk _ o q)
  have hGl : ∀ {h : Heap}, Keep s.heap h → h.IsList D1 gvs.toList.toArray := fun hk => by simpa using (hG.at fun o q => hk _ o q)
  have hRl : ∀ {h : Heap}, Keep s.heap h → h.IsList lr rvs.toList.toArray := fun hk => by simpa using (hR.at fun o q => hk _ o q)
  refine ⟨_, _, _, _, rfl, Heap.get?_push_size _ rfl, ?_, ?_, ?_⟩
  · intro C k tk' s₃ m₃ E' hC hk hn₃' hm₃ hk₃'
    have kk : Keep s.heap s₃.heap := fun b o q => hk₃' b o (Heap.get?_push_of_some _ (kS₃ b o q))
    refine one_test (isTrue_and (wpAny_isTrue_Compare1 (Subscript_ (clE (c3.keeps kk) (nmE hn₃' hm₃ (item_strsA (hKl kk) hKS (by omega) (by rw [List.length_map]; omega) (by omega) fun t' => Subscript_ (clE (c2.keeps kk) (nmE hn₃' hm₃ (item_strsA (hGl kk) hGS (by omega) (by omega) (by omega) fun t'' => PyProof.Rows.ne_str (wpAny_truthy_bool ?_))))))))))
    dsimp only [Int.toNat_natCast]
    rw [hgk k hk]
    by_cases hp' : preVal (ts.getD k Str.empty) = ts.getD k Str.empty
    · rw [hp', bne_self_eq_false, if_neg Bool.false_ne_true]
      exact ⟨rfl, _, _, rfl, fun _ _ q => q⟩
    · rw [bne_iff_ne.mpr hp', if_pos rfl]
      refine isTrue_and (wpAny_isTrue_Compare1 (Subscript_ (clE (c3.keeps kk) (nmE hn₃' hm₃ (item_strsA (hKl kk) hKS (by omega) (by rw [List.length_map]; omega) (by omega) fun t' => wpAny_Constant_str (PyProof.Rows.ne_str (wpAny_truthy_bool ?_)))))))
      dsimp only [Int.toNat_natCast]
      rw [hgk k hk, show preVal (ts.getD k Str.empty) = badS by unfold preVal at hp' ⊢; split <;> simp_all, show (badS != Str.ofString "('', '')") = false from bne_self_eq_false _, if_neg Bool.false_ne_true]
      exact ⟨rfl, _, _, rfl, fun _ _ q => q⟩
  · intro C k tk' s₃ m₃ E' hC hk hf
    cases hf
  · intro Dl h₄ tk₄ vs₄ hDn hpl hP hk₄
    rw [List.filter_eq_nil_iff.mpr (fun _ _ => Bool.false_ne_true)] at hP
    have kS₄ : Keep s.heap h₄ := fun b o q => hk₄ b o (Heap.get?_push_of_some _ (kS₃ b o q))
    have hv4 : vs₄ = #[] := by
      cases hx : vs₄.toList with
      | nil => exact Array.toList_eq_nil_iff.mp hx
      | cons a l => rw [hx] at hP; cases hP
    subst hv4
    refine wpAny_List_spliced (spliced_nil ⟨by size_fits, ne_empty ((hpl.isList).at fun o q => Heap.get?_push_of_some _ q) ⟨_, Heap.get?_push_size _ rfl, rfl, _, rfl⟩ (by omega) (wpAny_truthy_bool ?_)⟩)
    rw [if_neg Bool.false_ne_true]
    refine wpAny_execs_nil ?_
    dsimp only
    generalize hH5 : h₄.push { cls := .type "list", data := .seq ([] : List Value).toArray } = h₅
    have kS₅ : Keep s.heap h₅ := fun b o q => hH5 ▸ Heap.get?_push_of_some _ (kS₄ b o q)
    refine wpAny_execs_cons (wpAny_Return_some ?_)
    refine comp_range (n := ts.length) (cl := [("rows", L + 1), ("kept", L + 1 + 1 + 1), ("given", L + 1 + 1)]) (fun k => decide (preVal (ts.getD k Str.empty) = ts.getD k Str.empty)) (fun k v => ∃ t, v = .str (rs.getD k Str.empty) t) (by exact hh) rfl (by decide) rfl (by decide) rfl (by omega) ?_
    have hbk₅ : Keep hb h₅ := fun b o q => kS₅ b o (hbk b o q)
    refine wpAny_Call_NameR (bltnE (G.keeps hbk₅) (by decide) boot_range (PyProof.Rows.callWith_type rfl (Calls.evalArgs_plain (spliced_cons (wpAny_Call_NameR (bltnE (G.keeps hbk₅) (by decide) boot_len (Calls.callWith_builtin rfl (Calls.evalArgs_plain (spliced_cons (clE (c1.keeps kS₅) (spliced_nil (Calls.call_len_list (lk hR kS₅) (by rw [hrz]; omega) (spliced_nil (call_range_1 ?_))))))))))))))
    dsimp only
    rw [hrz]
    refine ⟨_, _, _, _, rfl, Heap.get?_push_size _ rfl, ?_, ?_, ?_⟩
    · intro C k tk' s₃ m₃ E' hC hk hn₃' hm₃ hk₃'
      have kk : Keep s.heap s₃.heap := fun b o q => hk₃' b o (Heap.get?_push_of_some _ (kS₅ b o q))
      refine one_test (wpAny_isTrue_Compare1 (Subscript_ (clE (c3.keeps kk) (nmE hn₃' hm₃ (item_strsA (hKl kk) hKS (by omega) (by rw [List.length_map]; omega) (by omega) fun t' => Subscript_ (clE (c2.keeps kk) (nmE hn₃' hm₃ (item_strsA (hGl kk) hGS (by omega) (by omega) (by omega) fun t'' => PyProof.Rows.eq_str (wpAny_truthy_bool ?_)))))))))
      dsimp only [Int.toNat_natCast]
      rw [hgk k hk]
      exact ⟨by rw [Bool.eq_iff_iff]; simp, _, _, rfl, fun _ _ q => q⟩
    · intro C k tk' s₃ m₃ E' hC hk hf hn₃' hm₃ hk₃'
      have kk : Keep s.heap s₃.heap := fun b o q => hk₃' b o (Heap.get?_push_of_some _ (kS₅ b o q))
      refine Subscript_ (clE (c1.keeps kk) (nmE hn₃' hm₃ (item_strsA (hRl kk) hRS (by omega) (by omega) (by omega) fun t' => ⟨⟨_, str_cong ?_⟩, _, _, rfl, fun _ _ q => q⟩)))
      rfl
    · intro Dr h₆ tk₆ vs₆ hDn hpl hP hk₆
      have kS₆ : Keep s.heap h₆ := fun b o q => hk₆ b o (Heap.get?_push_of_some _ (kS₅ b o q))
      refine hQ Dr vs₆ h₆ _ gs₂ ?_ hpl (paired_map hP) kS₆ hb₂
      cases q : s.heap.get? Dr with
      | none => rfl
      | some o => rw [Heap.get?_push_of_some _ (kS₅ _ _ q)] at hDn; cases hDn
end
end Mine

open PySem PySem.W PyProof.Rows
open PySem.Calls (spliced_nil spliced_cons)
set_option Elab.async false
set_option maxRecDepth 100000
set_option maxHeartbeats 4000000
namespace Mine

/-- as GivesH, with room for comparisons -/
def GivesU (prog : Program) (w : World) (hb : Heap) (f : Nat) (args : List Value) (k : Nat) (pre : Heap → Prop) (P : Heap → Value → Heap → Prop) : Prop :=
  ∀ (A : Around) (s : Shared) (Q E : Value → Shared → Prop), A.handled = none → A.units + 20 < cLine → A.depth + k < recursionLimit → Keep hb s.heap → hb.objs.size ≤ s.heap.objs.size → BareAll s.gens → pre s.heap →
    (∀ v h' tk gs, Keep s.heap h' → BareAll gs → P s.heap v h' → Q v { s with heap := h', toks := tk, gens := gs }) → wpAny (model prog w) A (call (.ref f) args) Q E s

section
variable {prog : Program} {w : World} {A : Around} {s : Shared} {mg mb : Str → Option Value} {E : Value → Shared → Prop} {env : Env}

theorem kept_spec {hb : Heap} (G : Gr mg mb hb) {fg fs fc fp fk : Nat} (hg : mg "_iter_escaped_chars" = some (.ref fg)) (hs : mg "_strip_quoted_realnames" = some (.ref fs)) (hc : mg "_check_parenthesis" = some (.ref fc)) (hp : mg "_pre_parse_validation" = some (.ref fp)) (hk : mg "_law_kept" = some (.ref fk))
    {lt lr : Nat} {tvs rvs : Array Value} {ts rs : List Str} (hTS : StrsAre tvs.toList ts) (hRS : StrsAre rvs.toList rs) (hy : ∀ y ∈ ts, y.cps.size ≤ 100) (hlen : ts.length ≤ 1000) (hrl : rs.length = ts.length) :
    GivesU prog w hb fk [.ref lr, .ref lt] 8 (fun h => h.IsList lt tvs ∧ h.IsList lr rvs) fun h₀ v h' => ∃ (r : Nat) (vs : Array Value), v = .ref r ∧ h₀.get? r = none ∧ h'.PlainList r vs ∧ StrsAre vs.toList (keptAt ts rs) := by
  intro A s Q E hh hu hroom hbk hbz hbare ⟨hT, hR⟩ hQ
  have htz : tvs.size = ts.length := by have := strs_len hTS; simpa using this
  have hst : tvs.size ≤ sizeLine := by rw [htz, sizeLine_eq]; omega
  refine call_fnC (st := stmAt 9) (binds := [("rows", .ref lr), ("texts", .ref lt)]) (G.fn 9 (by decide)) hk G hbk (by omega) (fun _ _ _ => rfl) rfl (fun code h₁ tk FF X => ?_)
  have hn₁ := FF.ns
  have c1 : h₁.IsCell (s.heap.objs.size + 1) (some (.ref lr)) := X.cell "rows" _ rfl
  have c2 : h₁.IsCell (s.heap.objs.size + 1 + 1) none := X.cell "given" _ rfl
  have c3 : h₁.IsCell (s.heap.objs.size + 1 + 1 + 1) none := X.cell "kept" _ rfl
  have hk₁ : Keep s.heap h₁ := FF.keep
  generalize hL : s.heap.objs.size = L at hn₁ c1 c2 c3 ⊢
  have hlt : ∀ (b : Nat) (o : Obj), s.heap.get? b = some o → b < L := fun b o q => hL ▸ Heap.lt_size q
  have hbk₁ : Keep hb h₁ := fun b o q => hk₁ b o (hbk b o q)
  have hLs : L < h₁.objs.size := hn₁.lt
  have hc3s : L + 1 + 1 + 1 < h₁.objs.size := c3.lt
  refine wpAny_execs_cons (wpAny_Assign_Name (wpAny_Call_NameR (bltnE (G.keeps hbk₁) (by decide) boot_list (PyProof.Rows.callWith_type rfl (Calls.evalArgs_plain (spliced_cons (nmE hn₁ rfl (spliced_nil ?_))))))))
  obtain ⟨oT, hoT, hcT, nT, hdT⟩ := lk hT hk₁
  refine call_list_seq lt (.inl rfl) hoT hcT hdT (fun h₂ c' hk₂ hD1 => ?_) hst
  dsimp only at hk₂ hD1 ⊢
  refine stCE (c2.keeps hk₂) fun h₃ c2₃ hs₃ => ?_
  dsimp only at c2₃ hs₃ ⊢
  have k₃ : ∀ (b : Nat) (o : Obj), b ≠ L + 1 + 1 → h₁.get? b = some o → h₃.get? b = some o := fun b o hb q => hs₃.extBut b o hb (hk₂ b o q)
  have kS₃ : Keep s.heap h₃ := fun b o q => k₃ b o (by have := hlt b o q; omega) (hk₁ b o q)
  have hD1₃ : h₃.IsList h₁.objs.size tvs := ⟨_, hs₃.extBut _ _ (by exact Nat.ne_of_gt (by omega)) hD1, rfl, _, rfl⟩
  have hn₃ := (hn₁.keeps hk₂).sameBut hs₃ (by exact Nat.ne_of_lt (by omega))
  have hz₃ : h₁.objs.size < h₃.objs.size := isList_lt hD1₃
  refine wpAny_execs_cons (wpAny_Assign_Name (callE (st := stmAt 4) (G.fn 4 (by decide)) hp rfl G (fun b o q => kS₃ b o (hbk b o q)) (Calls.evalArgs_plain (spliced_cons (nmE hn₃ rfl (spliced_nil ⟨fun b o q => kS₃ b o (hbk b o q), ?_⟩))))))
  refine pre_spec G hg hs hc hp (items := tvs) (ys := ts) hTS hy hlen _ _ _ _ hh (by show A.depth + 1 + 6 < _; omega) (fun b o q => kS₃ b o (hbk b o q)) (by dsimp only; omega) hbare (lk hT kS₃) fun v h₄ tk₄ gs₄ hk₄ hb₄ hv => ?_
  obtain ⟨r, vs, rfl, hr, hPL, hPS⟩ := hv
  dsimp only at hr hk₄ ⊢
  refine stE (hn₃.keeps hk₄) fun h₅ hn₅ hs₅ => ?_
  dsimp only at hn₅ hs₅ ⊢
  have hrl' : r ≠ L := by omega
  have hr3 : r ≠ L + 1 + 1 + 1 := by omega
  have hc3L : L + 1 + 1 + 1 ≠ L := by omega
  have hc32 : L + 1 + 1 + 1 ≠ L + 1 + 1 := by omega
  have hPL₅ : PlainL h₅ r vs := let ⟨o, n, e, q⟩ := hPL; ⟨o, n, hs₅.extBut r o hrl' e, q⟩
  have hr₅ : r < h₅.objs.size := hPL₅.lt
  have hvz : vs.size = ts.length := by have := strs_len hPS; simpa using this
  have hbk₅ : Keep hb h₅ := fun b o q => hs₅.extBut b o (by have := hlt b o (hbk b o q); exact Nat.ne_of_lt this) (hk₄ b o (kS₃ b o (hbk b o q)))
  refine wpAny_execs_cons (wpAny_Assign_Name (wpAny_Call_NameR (bltnE (G.keeps hbk₅) (by decide) boot_list (PyProof.Rows.callWith_type rfl (Calls.evalArgs_plain (spliced_cons (nmE hn₅ rfl (spliced_nil ?_))))))))
  obtain ⟨oP, hoP, hcP, nP, hdP⟩ := hPL₅.isList
  refine call_list_seq r (.inl rfl) hoP hcP hdP (fun h₆ c'' hk₆ hD2 => ?_) (by rw [hvz, sizeLine_eq]; omega)
  dsimp only at hk₆ hD2 ⊢
  have c3₆ : h₆.IsCell (L + 1 + 1 + 1) none := let ⟨o, ho, q⟩ := c3; ⟨o, hk₆ _ _ (hs₅.extBut _ o hc3L (hk₄ _ _ (k₃ _ o hc32 ho))), q⟩
  refine stCE c3₆ fun h₇ c3₇ hs₇ => ?_
  dsimp only at c3₇ hs₇ ⊢
  have hn₇ := (hn₅.keeps hk₆).sameBut hs₇ (by exact Nat.ne_of_lt (by omega))
  have hPL₇ : PlainL h₇ r vs := let ⟨o, n, e, q⟩ := hPL₅; ⟨o, n, hs₇.extBut r o hr3 (hk₆ r o e), q⟩
  refine wpAny_execs_cons (wpAny_Expr (wpAny_Call_method (T := "list") (id := "list.clear") rfl rfl rfl F.plainAttrs_list F.slot_list_clear F.type_list_clear (nmE hn₇ rfl ⟨hPL₇.isList.typeIs, (fun a e => by cases e; exact let ⟨o, n, e, q⟩ := hPL₇; ⟨o, e, q.2.1⟩), clear_plainL hPL₇ (fun h₈ hs₈ => ?_) (by rw [hvz, sizeLine_eq]; omega)⟩)))
  have k₃₈ : ∀ (b : Nat) (o : Obj), b ≠ L → b ≠ L + 1 + 1 + 1 → b ≠ r → h₃.get? b = some o → h₈.get? b = some o := fun b o n1 n2 n3 q => hs₈.extBut b o n3 (hs₇.extBut b o n2 (hk₆ b o (hs₅.extBut b o n1 (hk₄ b o q))))
  have kS₈ : Keep s.heap h₈ := fun b o q => by
    have hb := hlt b o q
    exact k₃₈ b o (Nat.ne_of_lt hb) (Nat.ne_of_lt (by omega)) (Nat.ne_of_lt (by omega)) (kS₃ b o q)
  have hL1 : L + 1 ≠ L + 1 + 1 := by omega
  have hL2 : L + 1 ≠ L := by omega
  have hL3 : L + 1 ≠ L + 1 + 1 + 1 := by omega
  have hL4 : L + 1 ≠ r := by omega
  have hL5 : L + 1 + 1 ≠ L := by omega
  have hL6 : L + 1 + 1 ≠ L + 1 + 1 + 1 := by omega
  have hL7 : L + 1 + 1 ≠ r := by omega
  have hD11 : h₁.objs.size ≠ L := by omega
  have hD12 : h₁.objs.size ≠ L + 1 + 1 + 1 := by omega
  have hD13 : h₁.objs.size ≠ r := by omega
  have hD21 : h₅.objs.size ≠ L + 1 + 1 + 1 := by omega
  have hD22 : h₅.objs.size ≠ r := by omega
  have hhs : hb.objs.size ≤ h₈.objs.size := by
    have := (hn₇.sameBut hs₈ (by exact (Ne.symm hrl'))).lt
    exact Nat.le_of_lt (Nat.lt_of_le_of_lt (hL ▸ hbz) this)
  have hu' : (A.deeper (envOfC (nameOf (stmAt 9)) (scopeOf (stmAt 9)) L fk code)).units + 10 < cLine := by show A.units + 3 + 10 < _; omega
  have hr' : (A.deeper (envOfC (nameOf (stmAt 9)) (scopeOf (stmAt 9)) L fk code)).depth + 6 < recursionLimit := by show A.depth + 1 + 6 < _; omega
  refine kept_rest (lt := lt) (lr := lr) (D1 := h₁.objs.size) (D2 := h₅.objs.size) (tvs := tvs) (gvs := tvs) (kvs := vs) (rvs := rvs) (ts := ts) (rs := rs) G hg hs hc hp (by exact hh) hu' hr' (fun b o q => kS₈ b o (hbk b o q)) hhs hb₄ (hn₇.sameBut hs₈ (by exact (Ne.symm hrl'))) rfl
    (let ⟨o, ho, q⟩ := c1; ⟨o, k₃₈ _ o hL2 hL3 hL4 (k₃ _ o hL1 ho), q⟩) (let ⟨o, ho, q⟩ := c2₃; ⟨o, k₃₈ _ o hL5 hL6 hL7 ho, q⟩) (let ⟨o, ho, q⟩ := c3₇; ⟨o, hs₈.extBut _ o (Ne.symm hr3) ho, q⟩)
    (lk hT kS₈) hTS (let ⟨o, ho, q⟩ := hD1₃; ⟨o, k₃₈ _ o hD11 hD12 hD13 ho, q⟩) hTS ⟨_, hs₈.extBut _ _ hD22 (hs₇.extBut _ _ hD21 hD2), rfl, _, rfl⟩ hPS (lk hR kS₈) hRS hy hlen hrl ?_
  intro R vsR h' tk' gs' hR0 hRL hRS' hk' hb'
  refine hQ (.ref R) h' tk' gs' (fun b o q => hk' b o (kS₈ b o q)) hb' ⟨R, vsR, rfl, ?_, hRL, hRS'⟩
  cases q : s.heap.get? R with
  | none => rfl
  | some o => rw [kS₈ _ _ q] at hR0; cases hR0
end
end Mine

open PySem PySem.W PyProof.Rows
set_option Elab.async false
set_option maxRecDepth 100000
set_option maxHeartbeats 4000000
namespace Mine

def tkGo : List Nat → Bool → List (List Nat)
  | [], e => if e then [[92]] else []
  | c :: cs, true => [92, c] :: tkGo cs false
  | c :: cs, false => if c = 92 then tkGo cs true else [c] :: tkGo cs false

theorem escGo_tk : ∀ (cs : List Nat) (i : Nat) (e : Bool), (escGo cs i e).map (·.2) = tkGo cs e
  | [], i, e => by cases e <;> rfl
  | c :: cs, i, true => by rw [escGo, tkGo, List.map_cons, escGo_tk cs]
  | c :: cs, i, false => by
    rw [escGo, tkGo]
    split
    · exact escGo_tk cs _ _
    · rw [List.map_cons, escGo_tk cs]

/-- what stays of the marked texts -/
def gk : List (List Nat) → Option (List (List Nat)) → List (List Nat)
  | [], none => []
  | [], some p => p
  | t :: r, none => if t = [34] then gk r (some [t]) else t :: gk r none
  | t :: r, some p => if t = [34] then gk r none else gk r (some (p ++ [t]))

def parT : List (List Nat) → Int → Bool
  | [], o => o == 0
  | cc :: r, o => if cc = [40] then parT r (o + 1) else if cc = [41] then (if o - 1 < 0 then false else parT r (o - 1)) else parT r o

theorem parGo_T : ∀ (l : List (Nat × List Nat)) (o : Int), parGo l o = parT (l.map (·.2)) o
  | [], _ => rfl
  | (_, cc) :: r, o => by
    rw [parGo, List.map_cons, parT, parGo_T r, parGo_T r, parGo_T r]

theorem stEnd_eq {C : List Nat} {st : Nat} {op : Option Nat} {acc : List (List Nat)} (h : st ≤ C.length) : stEnd C (st, op, acc) = acc.flatten ++ C.drop st := by
  unfold stEnd
  dsimp only
  by_cases hl : st < C.length
  · rw [if_pos hl, List.flatten_append]; simp
  · rw [if_neg hl, List.drop_eq_nil_of_le (by omega), List.append_nil]

theorem d1 {P t : List Nat} {st : Nat} (h : st ≤ P.length) : (P ++ t).drop st = P.drop st ++ t := List.drop_append_of_le_length h
theorem d2 {P t : List Nat} {st q : Nat} (h : st ≤ q) (hq : q ≤ P.length) : ((P ++ t).drop st).take (q - st) = (P.drop st).take (q - st) := by
  rw [d1 (Nat.le_trans h hq), List.take_append_of_le_length (by rw [List.length_drop]; omega)]
theorem d3 {P : List Nat} {st q : Nat} (h : st ≤ q) : (P.drop st).take (q - st) ++ P.drop q = P.drop st := by
  have := List.take_append_drop (q - st) (P.drop st)
  rw [List.drop_drop, show st + (q - st) = q by omega] at this
  exact this

theorem strip_go (C : List Nat) : ∀ (suf : List Nat) (e : Bool) (P : List Nat) (st : Nat) (acc : List (List Nat)), C = P ++ (if e then [92] else []) ++ suf → st ≤ P.length →
    (stEnd C ((escGo suf (P.length + (if e then 1 else 0)) e).foldl (stStep C) (st, none, acc)) = acc.flatten ++ P.drop st ++ (gk (tkGo suf e) none).flatten) ∧
    (∀ q p, st ≤ q → q ≤ P.length → List.flatten p = P.drop q → stEnd C ((escGo suf (P.length + (if e then 1 else 0)) e).foldl (stStep C) (st, some q, acc)) = acc.flatten ++ (P.drop st).take (q - st) ++ (gk (tkGo suf e) (some p)).flatten)
  | [], true, P, st, acc, hC, hst => by
    have hl : st ≤ C.length := by rw [hC]; simp; omega
    have hn : ∀ z, stStep C z (P.length + 1 - 1, [92]) = z := fun z => by unfold stStep; rw [if_neg (by simp)]
    refine ⟨?_, fun q p h1 h2 h3 => ?_⟩
    · simp only [escGo, tkGo, if_true, List.foldl_cons, List.foldl_nil, hn]
      rw [stEnd_eq hl, hC]
      simp [gk, d1 hst]
    · simp only [escGo, tkGo, if_true, List.foldl_cons, List.foldl_nil, hn]
      rw [stEnd_eq hl, hC]
      have h := d3 (P := P) h1
      rw [gk, if_neg (show ¬ ([92] : List Nat) = [34] by decide), gk, List.flatten_append, h3]
      simp only [if_true, List.append_nil, d1 hst, List.append_assoc, List.flatten_cons, List.flatten_nil]
      rw [← List.append_assoc (List.take _ _), h]
  | [], false, P, st, acc, hC, hst => by
    have hP : C = P := by simpa using hC
    subst hP
    refine ⟨?_, fun q p h1 h2 h3 => ?_⟩
    · simp [escGo, tkGo, stEnd_eq hst, gk]
    · simp [escGo, tkGo, stEnd_eq hst, gk, h3, d3 h1]
  | c :: cs, true, P, st, acc, hC, hst => by
    have ih := strip_go C cs false (P ++ [92, c]) st acc (by rw [hC]; simp) (by simp; omega)
    have hlen : (P ++ [92, c]).length + 0 = P.length + 1 + 1 := by simp
    have hn : ∀ z, stStep C z (P.length + 1, [92, c]) = z := fun z => by unfold stStep; rw [if_neg (by simp)]
    refine ⟨?_, fun q p h1 h2 h3 => ?_⟩
    · have h := ih.1
      simp only [escGo, tkGo, if_true, List.foldl_cons, hn, Bool.false_eq_true, if_false, hlen] at h ⊢
      rw [h, d1 hst, gk, if_neg (by simp), List.flatten_cons]
      simp
    · have h := ih.2 q (p ++ [[92, c]]) h1 (by simp; omega) (by rw [d1 h2, List.flatten_append, h3]; simp)
      simp only [escGo, tkGo, if_true, List.foldl_cons, hn, Bool.false_eq_true, if_false, hlen] at h ⊢
      rw [h, d2 h1 h2, gk, if_neg (by simp)]
  | c :: cs, false, P, st, acc, hC, hst => by
    by_cases h92 : c = 92
    · subst h92
      have ih := strip_go C cs true P st acc (by rw [hC]; simp) hst
      simpa [escGo, tkGo] using ih
    · have ihn := fun st acc h => strip_go C cs false (P ++ [c]) st acc (by rw [hC]; simp) h
      have hlen : (P ++ [c]).length + 0 = P.length + 0 + 1 := by simp
      by_cases h34 : c = 34
      · subst h34
        refine ⟨?_, fun q p h1 h2 h3 => ?_⟩
        · have h := (ihn st acc (by simp; omega)).2 P.length [[34]] hst (by simp) (by simp)
          have hs : stStep C (st, none, acc) (P.length + 0, [34]) = (st, some P.length, acc) := by unfold stStep; rw [if_pos rfl]; rfl
          simp only [escGo, tkGo, if_neg h92, List.foldl_cons, Bool.false_eq_true, if_false, hlen, hs] at h ⊢
          rw [h, gk, if_pos rfl, d1 hst, List.take_append_of_le_length (by rw [List.length_drop]; omega), List.take_of_length_le (by rw [List.length_drop]; omega)]
        · have hs : stStep C (st, some q, acc) (P.length + 0, [34]) = (P.length + 1, none, if st = q then acc else acc ++ [(C.drop st).take (q - st)]) := by unfold stStep; rw [if_pos rfl]; rfl
          have h := (ihn (P.length + 1) (if st = q then acc else acc ++ [(C.drop st).take (q - st)]) (by simp)).1
          simp only [escGo, tkGo, if_neg h92, List.foldl_cons, Bool.false_eq_true, if_false, hlen, hs] at h ⊢
          have hd : List.drop (P.length + 1) (P ++ [34]) = [] := List.drop_eq_nil_of_le (by simp)
          rw [h, gk, if_pos rfl, hd, List.append_nil]
          congr 1
          by_cases hq : st = q
          · subst hq; simp
          · rw [if_neg hq, List.flatten_append, hC]
            simp only [Bool.false_eq_true, if_false, List.append_nil, d2 h1 h2]
            simp
      · have hn : ∀ z, stStep C z (P.length + 0, [c]) = z := fun z => by unfold stStep; rw [if_neg (by simpa using h34)]
        refine ⟨?_, fun q p h1 h2 h3 => ?_⟩
        · have h := (ihn st acc (by simp; omega)).1
          simp only [escGo, tkGo, if_neg h92, List.foldl_cons, Bool.false_eq_true, if_false, hlen, hn] at h ⊢
          rw [h, d1 hst, gk, if_neg (by simpa using h34), List.flatten_cons]
          simp
        · have h := (ihn st acc (by simp; omega)).2 q (p ++ [[c]]) h1 (by simp; omega) (by rw [d1 h2, List.flatten_append, h3]; simp)
          simp only [escGo, tkGo, if_neg h92, List.foldl_cons, Bool.false_eq_true, if_false, hlen, hn] at h ⊢
          rw [h, d2 h1 h2, gk, if_neg (by simpa using h34)]

theorem gk_plain : ∀ (cs : List Nat) (e : Bool), 34 ∉ cs → (gk (tkGo cs e) none).flatten = (if e then [92] else []) ++ cs
  | [], true, _ => rfl
  | [], false, _ => rfl
  | c :: cs, true, h => by
    have ih := gk_plain cs false (fun hm => h (List.mem_cons_of_mem _ hm))
    rw [tkGo, gk, if_neg (by simp), List.flatten_cons, ih]; rfl
  | c :: cs, false, h => by
    have h34 : c ≠ 34 := fun e => h (e ▸ List.mem_cons_self)
    by_cases h92 : c = 92
    · subst h92
      have ih := gk_plain cs true (fun hm => h (List.mem_cons_of_mem _ hm))
      rw [tkGo, if_pos rfl, ih]; rfl
    · have ih := gk_plain cs false (fun hm => h (List.mem_cons_of_mem _ hm))
      rw [tkGo, if_neg h92, gk, if_neg (by simpa using h34), List.flatten_cons, ih]; rfl

theorem strip_tk (cs : List Nat) : strip cs = (gk (tkGo cs false) none).flatten := by
  unfold strip
  by_cases h : 34 ∈ cs
  · rw [if_pos h]
    have := (strip_go cs cs false [] 0 [] (by simp) (Nat.zero_le _)).1
    simpa using this
  · rw [if_neg h, gk_plain cs false h]; rfl

inductive WF : List (List Nat) → Prop
  | nil : WF []
  | lone : WF [[92]]
  | one {c : Nat} {L : List (List Nat)} : c ≠ 92 → WF L → WF ([c] :: L)
  | two {d : Nat} {L : List (List Nat)} : WF L → WF ([92, d] :: L)

theorem tk_wf : ∀ (cs : List Nat) (e : Bool), WF (tkGo cs e)
  | [], true => .lone
  | [], false => .nil
  | c :: cs, true => .two (tk_wf cs false)
  | c :: cs, false => by
    rw [tkGo]; split
    · exact tk_wf cs true
    · exact .one ‹_› (tk_wf cs false)
theorem wf_tk {L : List (List Nat)} (h : WF L) : tkGo L.flatten false = L := by
  induction h with
  | nil => rfl
  | lone => rfl
  | one hc _ ih => rw [List.flatten_cons, List.singleton_append, tkGo, if_neg hc, ih]
  | two _ ih => rw [List.flatten_cons, List.cons_append, List.singleton_append, tkGo, if_pos rfl, tkGo, ih]
theorem wf_sub {L : List (List Nat)} (h : WF L) : ∀ {L' : List (List Nat)}, L'.Sublist L → WF L' := by
  induction h with
  | nil => intro L' hs; rw [List.sublist_nil.mp hs]; exact .nil
  | lone =>
    intro L' hs
    cases hs with
    | cons _ hs => rw [List.sublist_nil.mp hs]; exact .nil
    | cons_cons _ hs => rw [List.sublist_nil.mp hs]; exact .lone
  | one hc _ ih =>
    intro L' hs
    cases hs with
    | cons _ hs => exact ih hs
    | cons_cons _ hs => exact .one hc (ih hs)
  | two _ ih =>
    intro L' hs
    cases hs with
    | cons _ hs => exact ih hs
    | cons_cons _ hs => exact .two (ih hs)
theorem gk_sub : ∀ (r : List (List Nat)), (gk r none).Sublist r ∧ ∀ p, (gk r (some p)).Sublist (p ++ r)
  | [] => ⟨List.Sublist.refl _, fun p => by simp [gk]⟩
  | t :: r => by
    obtain ⟨h1, h2⟩ := gk_sub r
    refine ⟨?_, fun p => ?_⟩
    · rw [gk]; split
      · exact h2 [t]
      · exact h1.cons_cons t
    · rw [gk]; split
      · exact (h1.cons t).trans (List.sublist_append_right p (t :: r))
      · have := h2 (p ++ [t])
        rwa [List.append_assoc, List.singleton_append] at this

theorem check_tk (cs : List Nat) : checkP cs = parT (gk (tkGo cs false) none) 0 := by
  unfold checkP
  rw [parGo_T, escGo_tk, strip_tk, wf_tk (wf_sub (tk_wf cs false) (gk_sub _).1)]

def motz : List Nat → Nat → Bool
  | [], h => h == 0
  | c :: r, h => if c = 40 then motz r (h + 1) else if c = 41 then (if h = 0 then false else motz r (h - 1)) else motz r h

/-- a text from the height h on -/
def R (cs : List Nat) (h : Nat) : Bool := parT (gk (tkGo cs false) none) (h : Int)

theorem R_open (z : List Nat) (h : Nat) : R (40 :: z) h = R z (h + 1) := by
  unfold R; rw [tkGo, if_neg (by decide), gk, if_neg (by decide), parT, if_pos rfl]; rfl
theorem R_close (z : List Nat) (h : Nat) : R (41 :: z) h = if h = 0 then false else R z (h - 1) := by
  unfold R
  rw [tkGo, if_neg (by decide), gk, if_neg (by decide), parT, if_neg (by decide), if_pos rfl]
  by_cases h0 : h = 0
  · subst h0; rfl
  · rw [if_neg (by omega), if_neg h0, show (h : Int) - 1 = ((h - 1 : Nat) : Int) by omega]
theorem R_hid {x : List Nat} (hx : x ∈ hiddenL) (z : List Nat) (h : Nat) : R (x ++ z) h = R z h := by
  simp only [hiddenL, List.mem_cons, List.not_mem_nil, or_false] at hx
  rcases hx with rfl | rfl | rfl | rfl | rfl | rfl | rfl | rfl <;> simp [R, tkGo, gk, parT]
theorem R_deep {k : Nat} (hk : k < 4) (z : List Nat) : R (List.replicate k 40 ++ List.replicate k 41 ++ z) 0 = R z 0 := by
  have : k = 0 ∨ k = 1 ∨ k = 2 ∨ k = 3 := by omega
  rcases this with rfl | rfl | rfl | rfl <;> simp [List.replicate, R_open, R_close]
theorem R_tail {k : Nat} (hk : k < 4) (h : Nat) : R (behindL.getD k []) h = (h == 0) := by
  have e : ((h : Int) == 0) = (h == 0) := by rw [Bool.eq_iff_iff]; simp
  have : k = 0 ∨ k = 1 ∨ k = 2 ∨ k = 3 := by omega
  rcases this with rfl | rfl | rfl | rfl
  · simp [behindL, R, tkGo, gk, parT, e]
  · simp [behindL, R, tkGo, gk, parT, e]
  · simp [behindL, R, tkGo, gk, parT, e]
  · simp [behindL, R, tkGo, gk, parT, e]

def rowsOk (n : Nat) : List (List Nat) := (rowsAll n).filter fun row => rowOk n (strL row)

def textFrom (n : Nat) : Nat → List Nat → List Nat
  | _, [] => []
  | k, c :: r => signText n k c ++ textFrom n (k + 1) r

theorem signText_mem (n k : Nat) : signText n k 111 ∈ hiddenL := by
  unfold signText
  rw [if_pos rfl]
  have h8 : n / 8 ^ k % 8 < hiddenL.length := Nat.mod_lt _ (by decide)
  rw [List.getD_eq_getElem?_getD, List.getElem?_eq_getElem h8]
  exact List.getElem_mem h8

theorem textFrom_eq (n : Nat) : ∀ (row : List Nat) (j : Nat), ((List.range row.length).map fun k => signText n (j + k) (row.getD k 0)).flatten = textFrom n j row
  | [], _ => rfl
  | c :: r, j => by
    rw [List.length_cons, List.range_succ_eq_map, List.map_cons, List.map_map, List.flatten_cons, textFrom, ← textFrom_eq n r (j + 1)]
    congr 1
    congr 1
    refine List.map_congr_left fun k _ => ?_
    show signText n (j + (k + 1)) ((c :: r).getD (k + 1) 0) = _
    rw [List.getD_cons_succ, show j + (k + 1) = j + 1 + k by omega]
theorem textOf_eq (row : List Nat) (n : Nat) : textOf row n = textFrom n 0 row := by
  have := textFrom_eq n row 0
  simp only [Nat.zero_add] at this
  exact this

theorem R_row (n : Nat) {z : List Nat} (hz : ∀ h, R z h = (h == 0)) : ∀ (row : List Nat) (k h : Nat), (∀ c ∈ row, c = 40 ∨ c = 41 ∨ c = 111) → R (textFrom n k row ++ z) h = motz row h
  | [], _, h, _ => hz h
  | c :: r, k, h, hr => by
    have ih := fun h => R_row n hz r (k + 1) h (fun c hc => hr c (List.mem_cons_of_mem _ hc))
    rw [textFrom, List.append_assoc]
    rcases hr c List.mem_cons_self with rfl | rfl | rfl
    · rw [show signText n k 40 = [40] from rfl, List.singleton_append, R_open, ih, motz, if_pos rfl]
    · rw [show signText n k 41 = [41] from rfl, List.singleton_append, R_close, ih, motz, if_neg (show ¬ (41 : Nat) = 40 by decide), if_pos rfl]
    · rw [R_hid (signText_mem n k), ih, motz, if_neg (by decide), if_neg (by decide)]

theorem textFrom_len (n : Nat) : ∀ (row : List Nat) (k : Nat), (textFrom n k row).length ≤ 5 * row.length
  | [], _ => Nat.le_refl _
  | c :: r, k => by
    have h1 := signText_len n k c
    have h2 := textFrom_len n r (k + 1)
    rw [textFrom, List.length_append, List.length_cons]; omega

theorem rows_signs : ∀ (n : Nat) (row : List Nat), row ∈ rowsAll n → row.length = n ∧ ∀ c ∈ row, c = 40 ∨ c = 41 ∨ c = 111
  | 0, row, h => by rw [List.mem_singleton.mp h]; exact ⟨rfl, fun c hc => by cases hc⟩
  | n + 1, row, h => by
    obtain ⟨y, hy, hr⟩ := List.mem_flatMap.mp h
    obtain ⟨d, hd, rfl⟩ := List.mem_map.mp hr
    obtain ⟨h1, h2⟩ := rows_signs n y hy
    refine ⟨by simp [h1], fun c hc => ?_⟩
    rcases List.mem_append.mp hc with hc | hc
    · exact h2 c hc
    · rw [List.mem_singleton.mp hc]; simpa using hd

theorem written_check {n : Nat} (h : n ≤ 4) {row : List Nat} (hr : row ∈ rowsOk n) (N : Nat) : checkP (written row N) = motz row 0 ∧ (written row N).length ≤ 100 := by
  obtain ⟨hl, hs⟩ := rows_signs n row (List.mem_filter.mp hr).1
  have hd : deepOf row N < 4 := by unfold deepOf; split; exact Nat.mod_lt _ (by decide); decide
  have hb : behindOf row N < 4 := by unfold behindOf; split; exact Nat.mod_lt _ (by decide); decide
  refine ⟨?_, ?_⟩
  · rw [check_tk]
    show R (written row N) 0 = _
    unfold written
    rw [List.append_assoc, R_deep hd, textOf_eq]
    exact R_row N (fun h => R_tail hb h) row 0 0 hs
  · have h1 := textFrom_len N row 0
    have h2 : (behindL.getD (behindOf row N) []).length ≤ 4 := by
      have : behindOf row N = 0 ∨ behindOf row N = 1 ∨ behindOf row N = 2 ∨ behindOf row N = 3 := by omega
      rcases this with e | e | e | e <;> rw [e] <;> decide
    unfold written
    rw [textOf_eq]
    simp only [List.length_append, List.length_replicate]
    omega
end Mine

open PySem PySem.W PyProof.Rows
set_option Elab.async false
set_option maxRecDepth 100000
set_option maxHeartbeats 4000000
namespace Mine

theorem kept_map {α : Type} (f g : α → Str) : ∀ L : List α, keptAt (L.map f) (L.map g) = (L.filter fun x => decide (preVal (f x) = f x)).map g
  | [] => rfl
  | x :: L => by
    have ih := kept_map f g L
    unfold keptAt at ih ⊢
    rw [List.map_cons, List.map_cons, List.length_cons, List.range_succ_eq_map, List.filter_cons, List.filter_map, List.filter_cons]
    have e0 : ∀ (a : Str) (l : List Str), (a :: l).getD 0 Str.empty = a := fun _ _ => rfl
    by_cases h : preVal (f x) = f x
    · rw [if_pos (by simpa using h), if_pos (by simpa using h), List.map_cons, List.map_cons, List.map_map, ← ih]
      rfl
    · rw [if_neg (by simpa using h), if_neg (by simpa using h), List.map_map, ← ih]
      rfl

theorem badS_check : checkP badS.cps.toList = true := by decide +kernel
theorem preVal_iff (t : Str) : preVal t = t ↔ checkP t.cps.toList = true := by
  unfold preVal
  by_cases h : checkP t.cps.toList = true
  · simp [h]
  · rw [if_neg h]
    refine ⟨fun e => ?_, fun e => absurd e h⟩
    rw [← e]; exact badS_check

def goods (n : Nat) : List (List Nat) := (rowsOk n).filter fun row => motz row 0

theorem kept_goods {n : Nat} (h : n ≤ 4) (N : Nat) : keptAt ((rowsOk n).map fun row => strL (written row N)) ((rowsOk n).map strL) = (goods n).map strL := by
  rw [kept_map]
  unfold goods
  congr 1
  refine List.filter_congr fun row hr => ?_
  have := (written_check h hr N).1
  rw [Bool.eq_iff_iff, decide_eq_true_iff, preVal_iff]
  rw [← this]
  simp [strL]
section
variable (b b1 c c2 : Int)
def lvL : List Int := [b, b1, 3, 5, 7]
def dnL : List Int := [11, c, c2, 13, 17]
def wt (row : List Nat) : Int := (wtGo (lvL b b1) (dnL c c2) row 0 1).getD 0
def mom (n : Nat) : Int := ((goods n).map (wt b b1 c c2)).sum

theorem goods0 : goods 0 = [[]] := by decide +kernel
theorem goods1 : goods 1 = [[111]] := by decide +kernel
theorem goods2 : goods 2 = [[40, 41], [111, 111]] := by decide +kernel
theorem goods3 : goods 3 = [[40, 41, 111], [40, 111, 41], [111, 40, 41], [111, 111, 111]] := by decide +kernel
theorem goods4 : goods 4 = [[40, 40, 41, 41], [40, 41, 40, 41], [40, 41, 111, 111], [40, 111, 41, 111], [40, 111, 111, 41], [111, 40, 41, 111], [111, 40, 111, 41], [111, 111, 40, 41], [111, 111, 111, 111]] := by decide +kernel

theorem wt_some {n : Nat} (h : n ≤ 4) {row : List Nat} (hr : row ∈ goods n) : wtGo (lvL b b1) (dnL c c2) row 0 1 = some (wt b b1 c c2 row) := by
  have : n = 0 ∨ n = 1 ∨ n = 2 ∨ n = 3 ∨ n = 4 := by omega
  rcases this with rfl | rfl | rfl | rfl | rfl
  · rw [goods0] at hr; simp only [List.mem_cons, List.not_mem_nil, or_false] at hr; subst hr; rfl
  · rw [goods1] at hr; simp only [List.mem_cons, List.not_mem_nil, or_false] at hr; subst hr; rfl
  · rw [goods2] at hr; simp only [List.mem_cons, List.not_mem_nil, or_false] at hr; rcases hr with rfl | rfl <;> rfl
  · rw [goods3] at hr; simp only [List.mem_cons, List.not_mem_nil, or_false] at hr; rcases hr with rfl | rfl | rfl | rfl <;> rfl
  · rw [goods4] at hr; simp only [List.mem_cons, List.not_mem_nil, or_false] at hr; rcases hr with rfl | rfl | rfl | rfl | rfl | rfl | rfl | rfl | rfl <;> rfl

theorem mom0 : mom b b1 c c2 0 = 1 := by unfold mom; rw [goods0]; rfl
theorem mom1 : mom b b1 c c2 1 = b := by unfold mom; rw [goods1]; show 1 * b + 0 = b; omega
theorem mom2 : mom b b1 c c2 2 = c + b * b := by unfold mom; rw [goods2]; show 1 * c + (1 * b * b + 0) = _; grind
theorem mom3 : mom b b1 c c2 3 = 2 * (b * c) + b1 * c + b * b * b := by
  unfold mom; rw [goods3]; show 1 * c * b + (1 * b1 * c + (1 * b * c + (1 * b * b * b + 0))) = _; grind
theorem mom4 : mom b b1 c c2 4 = c2 * c + c * c + 3 * (b * b * c) + 2 * (b * b1 * c) + b1 * b1 * c + b * b * b * b := by
  unfold mom; rw [goods4]
  show 1 * c2 * c + (1 * c * c + (1 * c * b * b + (1 * b1 * c * b + (1 * b1 * b1 * c + (1 * b * c * b + (1 * b * b1 * c + (1 * b * b * c + (1 * b * b * b * b + 0)))))))) = _
  grind

theorem han1 : mom b b1 c c2 0 * mom b b1 c c2 2 - mom b b1 c c2 1 * mom b b1 c c2 1 = c := by rw [mom0, mom1, mom2]; grind
theorem han2 : mom b b1 c c2 1 * mom b b1 c c2 3 - mom b b1 c c2 2 * mom b b1 c c2 2 = c * (b * b1 - c) := by rw [mom1, mom2, mom3]; grind
theorem han3 : mom b b1 c c2 0 * (mom b b1 c c2 2 * mom b b1 c c2 4 - mom b b1 c c2 3 * mom b b1 c c2 3) - mom b b1 c c2 1 * (mom b b1 c c2 1 * mom b b1 c c2 4 - mom b b1 c c2 2 * mom b b1 c c2 3) + mom b b1 c c2 2 * (mom b b1 c c2 1 * mom b b1 c c2 3 - mom b b1 c c2 2 * mom b b1 c c2 2) = c * c * c2 := by
  rw [mom0, mom1, mom2, mom3, mom4]; grind
end

/-- no more than -/
def Le (k : Nat) (x : Int) : Prop := x.natAbs ≤ k
theorem Le.mul {k l : Nat} {x y : Int} (h1 : Le k x) (h2 : Le l y) : Le (k * l) (x * y) := by
  unfold Le at *; rw [Int.natAbs_mul]; exact Nat.mul_le_mul h1 h2
theorem Le.add {k l : Nat} {x y : Int} (h1 : Le k x) (h2 : Le l y) : Le (k + l) (x + y) := by
  unfold Le at *; omega
theorem Le.lit {k : Nat} {x : Int} (h : x.natAbs ≤ k) : Le k x := h
theorem Le.fit {k : Nat} {x : Int} (h : Le k x) (hk : k < 2 ^ 64) : -(2 ^ 64) < x ∧ x < 2 ^ 64 := by unfold Le at h; omega

section
variable {b b1 c c2 : Int} (hb : Le 1000 b) (hb1 : Le 1000 b1) (hc : Le 1000 c) (hc2 : Le 1000 c2)
include hb hb1 hc hc2
theorem fit1 : Le 1000 (mom b b1 c c2 1) := by rw [mom1]; exact hb
theorem fit2 : Le 1001000 (mom b b1 c c2 2) := by rw [mom2]; exact hc.add (hb.mul hb)
theorem fit3 : Le 1003000000 (mom b b1 c c2 3) := by
  rw [mom3]
  exact ((((Le.lit (k := 2) (x := 2) (by decide)).mul (hb.mul hc)).add (hb1.mul hc)).add ((hb.mul hb).mul hb))
end
end Mine

open PySem PySem.W PyProof.Rows
open PySem.Calls (spliced_nil spliced_cons)
set_option Elab.async false
set_option maxRecDepth 100000
set_option maxHeartbeats 4000000
namespace Mine

section
variable {prog : Program} {w : World} {A : Around} {s : Shared} {E : Value → Shared → Prop} {env : Env}

theorem sum_ints {l : Nat} {vs : Array Value} {ns : List Int} {Q : Value → Shared → Prop} (hh : A.handled = none) (hl : s.heap.IsList l vs) (hi : IntsAre vs.toList ns)
    (h : ∀ h' tk t', Keep s.heap h' → Q (.int ns.sum t') { s with heap := h', toks := tk }) : wpAny (model prog w) A (call (.builtin "sum") [.ref l]) Q E s := by
  have ha := hi.allInts
  have hn := hi.numsOf
  rw [Array.toArray_toList] at ha
  obtain ⟨xs, rfl⟩ := ha.items
  rw [nums_intItems] at hn
  refine sum_intListG hh hl fun h' tk t' hk => ?_
  rw [preSum_eq, List.take_of_length_le (by simp), hn]
  exact h h' tk t' hk

theorem unpack_list {l : Nat} {elts : List Expr} {x1} {pos : Pos} {items : Array Value} {Q : Unit → Shared → Prop} (hh : A.handled = none) (hl : s.heap.IsList l items)
    (hn : (assignEach elts env).length = items.size) (hstar : (assignEach elts env).findIdx? (·.1) = none)
    (h : ∀ h', Heap.ExtBut s.heap.objs.size s.heap h' → wpAny (model prog w) A (assignInOrder ((assignEach elts env).map (·.2)) items.toList) Q E { s with heap := h' }) :
    wpAny (model prog w) A (assign (.Tuple elts x1 pos) env (.ref l)) Q E s := by
  rw [arm_assign_Tuple]
  refine wpAny_bind (wpAny_standAt ?_)
  unfold unpack
  rw [hn, hstar]
  exact wpAny_bind (wpAny_holding (kun_itemsOf hh hl h))

theorem comp_any {elt iter : Expr} {x : Str} {px : Pos} {scope : Scope} {cl : List (Str × Addr)} {pos : Pos} {Q : Value → Shared → Prop} (G : Value → Value → Prop) (hh : A.handled = none)
    (hclos : closureFor scope env = pure cl) (hcell : ∀ y ∈ scope.names, y.2 ≠ .cell) (hkind : scope.kind = .function)
    (hnames : ∀ y ∈ scope.names, y.2 = .local → scope.names.lookup y.1 = some .local) (hx : scope.names.lookup x = some .local)
    (h : wpAny (model prog w) A (eval iter env) (fun xv s₁ => ∃ (l : Nat) (items : Array Value), xv = .ref l ∧ s₁.heap.IsList l items ∧ items.size ≤ sizeLine ∧
      (∀ C v s₃ m₃ E', s₁.heap.objs.size ≤ C → v ∈ items.toList → s₃.heap.Ns C m₃ → m₃ x = some v → Keep s₁.heap s₃.heap →
        wpAny (model prog w) A (eval elt (compEnvC scope cl C env)) (fun u s₄ => G v u ∧ Keeps s₃ s₄) E' s₃) ∧
      (∀ (D : Nat) h' tk (vs : Array Value), s₁.heap.get? D = none → h'.PlainList D vs → Paired G items.toList vs.toList → Keep s₁.heap h' → Q (.ref D) { s₁ with heap := h', toks := tk })) E s)
    (hs : ∀ x, foldedSetIterable iter env x = pure x := by intro _; rfl) :
    wpAny (model prog w) A (eval (.ListComp elt [⟨.Name x px, iter, [], 0⟩] scope pos) env) Q E s := by
  refine wpAny_ListComp_free (fun _ => true) G hclos hcell hkind hnames hx (wpAny_mono h (fun xv s₁ h₁ => ?_) fun _ _ e => e) hs
  obtain ⟨l, items, rfl, hl, hsz, helt, hQ⟩ := h₁
  have hlt : l < s₁.heap.objs.size := let ⟨_, ho, _⟩ := hl; Heap.lt_size ho
  refine wpAny_pyIter_list hl ?_
  have hkI : ∀ {h₃ : Heap}, (∀ b o, b ∉ [s₁.heap.objs.size] → (s₁.heap.push { cls := .type "list_iterator", data := .fields #[.ref l, .int 0 0] }).get? b = some o → h₃.get? b = some o) → Keep s₁.heap h₃ := fun hk b o q =>
    hk b o (fun z => Nat.ne_of_lt (Heap.lt_size q) (List.mem_singleton.mp z)) (Heap.get?_push_of_some _ q)
  refine ⟨s₁.heap.objs.size, [s₁.heap.objs.size, l], [s₁.heap.objs.size], items.size, _, _, rfl, Walks.list hh s₁.heap.objs.size l (Nat.ne_of_lt hlt) items, hsz, ⟨⟨_, Heap.get?_push_size _ rfl, rfl, rfl⟩, hl.push _⟩, fun b hb => ?_, ⟨?_, ?_⟩, ?_⟩
  · rw [Heap.size_push]
    rcases List.mem_cons.mp hb with rfl | hb
    · exact Nat.lt_succ_self _
    · rw [List.mem_singleton.mp hb]; exact Nat.lt_succ_of_lt hlt
  · intro C i v s₃ m₃ E' hC hv hn₃ hm hk htk
    exact no_tests ⟨rfl, _, _, rfl, fun _ _ q => q⟩
  · intro C i v s₃ m₃ E' hC hv hp hn₃ hm hk htk
    have hv' : items.toList[i]? = some v := by simpa using hv
    exact helt C v s₃ m₃ E' (by rw [Heap.size_push] at hC; exact Nat.le_of_succ_le hC) (List.mem_of_getElem? hv') hn₃ hm (hkI hk)
  · intro D h' tk vs ys hD _ hpl hlen hP hF hk
    have hys : ys = items.toList := by
      refine List.ext_getElem? fun j => ?_
      cases q : ys[j]? with
      | some v => have := hP j v q; rw [← Array.getElem?_toList] at this; exact this.symm
      | none =>
        have h1 := List.getElem?_eq_none_iff.mp q
        exact (List.getElem?_eq_none_iff.mpr (by rw [Array.length_toList, ← hlen]; exact h1)).symm
    rw [List.filter_eq_self.mpr (fun _ _ => rfl), hys] at hF
    refine hQ D h' tk vs ?_ hpl hF (hkI hk)
    cases q : s₁.heap.get? D with
    | none => rfl
    | some o => exact absurd (Heap.get?_push_of_some _ q) (by rw [hD]; simp)
end
end Mine

open PySem PySem.W PyProof.Rows
open PySem.Calls (spliced_nil spliced_cons)
set_option Elab.async false
set_option maxRecDepth 100000
set_option maxHeartbeats 4000000
namespace Mine

theorem pick_mem {items : Array Value} {a b c : Option Int} {x : Value} (h : x ∈ (slicePick items a b c).toList) : x ∈ items.toList := by
  unfold slicePick at h
  rw [List.mem_filterMap] at h
  obtain ⟨i, _, hi⟩ := h
  rw [← Array.getElem?_toList] at hi
  exact List.mem_of_getElem? hi

def AllI (vs : List Value) : Prop := ∀ v ∈ vs, ∃ i t, v = Value.int i t
theorem AllI.of_ints {vs : List Value} {ns : List Int} (h : IntsAre vs ns) : AllI vs := by
  induction h with
  | nil => intro v hv; cases hv
  | cons n t _ ih =>
    intro v hv
    rcases List.mem_cons.mp hv with rfl | hv
    · exact ⟨_, _, rfl⟩
    · exact ih v hv
theorem AllI.ints {P : Int → Prop} : ∀ {vs : List Value}, (∀ v ∈ vs, ∃ i t, v = Value.int i t ∧ P i) → ∃ ns, IntsAre vs ns ∧ ∀ n ∈ ns, P n
  | [], _ => ⟨[], .nil, fun n hn => by cases hn⟩
  | v :: vs, h => by
    obtain ⟨i, t, rfl, hP⟩ := h v List.mem_cons_self
    obtain ⟨ns, h1, h2⟩ := AllI.ints (fun v hv => h v (List.mem_cons_of_mem _ hv))
    exact ⟨i :: ns, .cons _ _ h1, fun n hn => by
      rcases List.mem_cons.mp hn with rfl | hn
      · exact hP
      · exact h2 n hn⟩
theorem paired_ints {α : Type} {P : Int → Prop} {as : List α} {vs : List Value} {G : α → Value → Prop} (hG : ∀ a v, G a v → ∃ i t, v = Value.int i t ∧ P i) (h : Paired G as vs) : ∃ ns, IntsAre vs ns ∧ ns.length = as.length ∧ ∀ n ∈ ns, P n := by
  induction h with
  | nil => exact ⟨[], .nil, rfl, fun n hn => by cases hn⟩
  | cons h1 _ ih =>
    obtain ⟨i, t, rfl, hP⟩ := hG _ _ h1
    obtain ⟨ns, a, b, c⟩ := ih
    exact ⟨i :: ns, .cons _ _ a, by rw [List.length_cons, List.length_cons, b], fun n hn => by
      rcases List.mem_cons.mp hn with rfl | hn
      · exact hP
      · exact c n hn⟩

section
variable {prog : Program} {w : World} {A : Around} {s : Shared} {E : Value → Shared → Prop} {env : Env}

theorem slice_list {e : Expr} {lo hi st : Option Expr} {p pos : Pos} {Q : Value → Shared → Prop}
    (h : wpAny (model prog w) A (eval e env) (fun v s₁ => wpAny (model prog w) A (evalPart lo env) (fun vl s₂ => wpAny (model prog w) A (evalPart hi env) (fun vu s₃ => wpAny (model prog w) A (evalPart st env) (fun vst s₄ =>
      ∃ (D : Nat) (vs : Array Value) (a b c : Option Int), v = .ref D ∧ s₄.heap.IsList D vs ∧ vs.size ≤ sizeLine ∧ IsPart vl a ∧ IsPart vu b ∧ IsPart vst c ∧ c ≠ some 0 ∧
        ∀ h' tk, Keep s₄.heap h' → h'.IsList (s₄.heap.objs.size + 1) (slicePick vs a b c) → Q (.ref (s₄.heap.objs.size + 1)) { s₄ with heap := h', toks := tk }) E s₃) E s₂) E s₁) E s) :
    wpAny (model prog w) A (eval (.Subscript e (.Slice lo hi st p) pos) env) Q E s := by
  rw [eval_Subscript]
  refine wpAny_bind (wpAny_mono h (fun o s₁ h₁ => wpAny_bind (wpAny_holding (wpAny_Slice (wpAny_mono h₁ (fun vl s₂ h₂ => wpAny_mono h₂ (fun vu s₃ h₃ => wpAny_mono h₃ (fun vst s₄ h₄ => ?_) fun _ _ x => x) fun _ _ x => x) fun _ _ x => x)))) fun _ _ x => x)
  obtain ⟨D, vs, a, b, c, rfl, hD, hsz, pa, pb, pc, hc, hQ⟩ := h₄
  refine wpAny_bind (wpAny_standAt ?_)
  have hT : Shared.TypeIs { s₄ with heap := s₄.heap.push { cls := .type "slice", data := .fields #[vl, vu, vst] } } (.ref D) "list" := (hD.push _).typeIs
  have fin : ∀ ops : List Value, wpAny (model prog w) A (operate ops (getItem (.ref D) (.ref s₄.heap.objs.size))) (fun r s₃ => wpAny (model prog w) A (letTemporaryGo e (.ref D) r >>= fun _ => pure r) Q E s₃) E
      { s₄ with heap := s₄.heap.push { cls := .type "slice", data := .fields #[vl, vu, vst] } } := fun ops => by
    refine wpAny_operating (wpAny_getItem_list_slice (hD.push _) (Heap.IsSliceOf.new ..) pa pb pc hc ?_ hsz)
    refine wpAny_bind (wpAny_letTemporaryGo (wpAny_pure ?_))
    rw [Heap.size_push]
    exact hQ _ _ (fun b o q => Heap.get?_push_of_some _ (Heap.get?_push_of_some _ q)) ⟨_, (by rw [← Heap.size_push]; exact Heap.get?_push_size _ rfl), rfl, 0, rfl⟩
  refine wpAny_bind ?_
  rw [getitemInPython_of_ne hT.not_modules]
  refine wpAny_bind (wpAny_specialOf hT list_getitem_lookup ?_)
  cases st
  · first
      | exact wpAny_pure (wpAny_bind (fin _))
      | exact wpAny_bind (wpAny_pure (wpAny_bind (fin _)))
      | exact wpAny_bind (fin _)
  · first
      | exact wpAny_pure (wpAny_bind (fin _))
      | exact wpAny_bind (wpAny_pure (wpAny_bind (fin _)))
      | exact wpAny_bind (fin _)

variable {mg mb : Str → Option Value}
theorem law_cells {hb : Heap} (G : Gr mg mb hb) {L ls Ds fk : Nat} {code : Value} {svs : Array Value} {ds : List Value} {dns : List Int} {Q : Flow → Shared → Prop} (hh : A.handled = none) (hbk : Keep hb s.heap)
    (c1 : s.heap.IsCell (L + 1) (some (.ref ls))) (c2 : s.heap.IsCell (L + 1 + 1) (some (.ref Ds))) (c3 : s.heap.IsCell (L + 1 + 1 + 1) none)
    (hS : s.heap.IsList ls svs) (hI : AllI svs.toList) (hsz : svs.size ≤ 100) (hD : IsTup s.heap Ds ds.toArray) (hds : IntsAre ds dns) (hdl : dns.length = 5)
    (hQ : ∀ (D : Nat) h' tk vs ns, h'.IsList D vs → IntsAre vs.toList ns → ns.length = 5 → (∀ z ∈ ns, 0 ≤ z ∧ z < 1000000) → h'.IsCell (L + 1 + 1 + 1) (some (.ref D)) →
      (∀ (b : Nat) o, b ≠ L + 1 + 1 + 1 → s.heap.get? b = some o → h'.get? b = some o) → s.heap.get? D = none → wpAny (model prog w) A (execs ((bodyOf (stmAt 10)).drop 2) (envOfC (nameOf (stmAt 10)) (scopeOf (stmAt 10)) L fk code)) Q NoE { s with heap := h', toks := tk }) :
    wpAny (model prog w) A (execs ((bodyOf (stmAt 10)).drop 1) (envOfC (nameOf (stmAt 10)) (scopeOf (stmAt 10)) L fk code)) Q NoE s := by
  have hss : svs.size ≤ sizeLine := by rw [sizeLine_eq]; omega
  refine wpAny_execs_cons (wpAny_Assign_Name ?_)
  refine comp_range (n := 5) (cl := [("seeds", L + 1 + 1), ("script", L + 1)]) (fun _ => true) (fun k v => ∃ z t, v = .int z t ∧ 0 ≤ z ∧ z < 1000000) hh rfl (by decide) rfl (by decide) rfl (by omega) ?_
  refine wpAny_Call_NameR (bltnE (G.keeps hbk) (by decide) boot_range (PyProof.Rows.callWith_type rfl (Calls.evalArgs_plain (spliced_cons (wpAny_Constant_int (k := 0) (pos := default) (spliced_nil (call_range_1 ?_)))))))
  dsimp only
  refine ⟨_, _, _, _, rfl, Heap.get?_push_size _ rfl, ?_, ?_, ?_⟩
  · intro C k tk' s₃ m₃ E' _ _ _ _ _
    exact no_tests ⟨rfl, _, _, rfl, fun _ _ q => q⟩
  · intro C k tk' s₃ m₃ E' hC hk _ hn₃ hm₃ hk₃
    have kk : Keep s.heap s₃.heap := fun b o q => hk₃ b o (Heap.get?_push_of_some _ q)
    obtain ⟨nk, hnk⟩ : ∃ n, dns[k]? = some n := ⟨_, List.getElem?_eq_getElem (by omega)⟩
    obtain ⟨tk2, htk2⟩ := ints_get hds hnk
    have hdsl : ds.length = 5 := by rw [hds.length]; exact hdl
    have hD₃ : IsTup s₃.heap Ds ds.toArray := let ⟨o, ho, r⟩ := hD; ⟨o, kk Ds o ho, r⟩
    refine wpAny_BinOp (wpAny_BinOp (Subscript_ (clE (c2.keeps kk) (nmE hn₃ hm₃ (item_tupleT hD₃ (by omega) (by omega) (seq_at (by omega)) htk2 ?_)))))
    refine wpAny_Call_NameR (bltnE (G.keeps fun b o q => kk b o (hbk b o q)) (by decide) PyProof.Rows.boot_sum (Calls.callWith_builtin rfl (Calls.evalArgs_plain (spliced_cons ?_))))
    refine comp_any (cl := []) (fun _ y => ∃ z t, y = .int z t ∧ True) hh rfl (by decide) rfl (by decide) rfl ?_
    refine slice_list (slice_list (clE (c1.keeps kk) (wpAny_evalPart_none (wpAny_evalPart_some (wpAny_Constant_int (k := 0) (pos := default) (wpAny_evalPart_none ⟨ls, svs, none, some 60, none, rfl, lk hS kk, hss, .none, .int _ _, .none, (by decide), fun h₄ tk₄ hk₄ hl₄ => ?_⟩))))))
    refine wpAny_evalPart_some (nmE (hn₃.keeps hk₄) hm₃ (wpAny_evalPart_none (wpAny_evalPart_some (wpAny_Constant_int (k := 0) (pos := default) ⟨_, _, some (k : Int), none, some 5, rfl, hl₄, Nat.le_trans (slicePick_size_le ..) hss, .int _ _, .none, .int _ _, (by decide), fun h₅ tk₅ hk₅ hl₅ => ⟨_, _, rfl, hl₅, Nat.le_trans (slicePick_size_le ..) (Nat.le_trans (slicePick_size_le ..) hss), ?_, ?_⟩⟩))))
    · intro C' v s₆ m₆ E₆ hC' hv hn₆ hm₆ hk₆
      obtain ⟨i, t, rfl⟩ := hI v (pick_mem (pick_mem hv))
      refine wpAny_BinOp (nmE hn₆ hm₆ (wpAny_Constant_int (k := 0) (pos := default) (PyProof.Rows.mod_int (by decide) ⟨⟨_, _, rfl, trivial⟩, _, _, rfl, fun _ _ q => q⟩)))
    · intro D h₆ tk₆ vs₆ hDn hpl hP hk₆
      obtain ⟨ns, hns, hnl, _⟩ := paired_ints (P := fun _ => True) (fun a v h => h) hP
      refine spliced_nil (sum_ints (by exact hh) hpl.isList hns fun h₇ tk₇ t₇ hk₇ => ?_)
      refine PyProof.Rows.add_int (wpAny_Constant_int (k := 0) (pos := default) (PyProof.Rows.mod_int (by decide) ⟨⟨_, _, rfl, ?_, ?_⟩, _, _, rfl, ?_⟩))
      · rw [Int.fmod_eq_emod_of_nonneg _ (by decide)]; exact Int.emod_nonneg _ (by decide)
      · rw [Int.fmod_eq_emod_of_nonneg _ (by decide)]; exact Int.emod_lt_of_pos _ (by decide)
      · exact fun b o q => hk₇ b o (hk₆ b o (hk₅ b o (hk₄ b o q)))
  · intro D h' tk' vs' hDn hpl hP hk'
    obtain ⟨ns, hns, hnl, hnP⟩ := paired_ints (P := fun z => 0 ≤ z ∧ z < 1000000) (fun a v h => h) hP
    have kk : Keep s.heap h' := fun b o q => hk' b o (Heap.get?_push_of_some _ q)
    refine stCE (c3.keeps kk) fun h₂ c3' hs₂ => ?_
    have hDne : D ≠ L + 1 + 1 + 1 := fun e => by
      obtain ⟨o, ho, _⟩ := c3
      rw [e, Heap.get?_push_of_some _ ho] at hDn; cases hDn
    refine hQ D h₂ _ vs' ns ⟨_, hs₂.extBut _ _ hDne hpl.isList.choose_spec.1, hpl.isList.choose_spec.2⟩ hns (by rw [hnl]; rfl) hnP c3' (fun b o hb q => hs₂.extBut b o hb (kk b o q)) ?_
    cases q : s.heap.get? D with
    | none => rfl
    | some o => rw [Heap.get?_push_of_some _ q] at hDn; cases hDn
end
end Mine

open PySem PySem.W PyProof.Rows
open PySem.Calls (spliced_nil spliced_cons)
set_option Elab.async false
set_option maxRecDepth 100000
set_option maxHeartbeats 4000000
namespace Mine

theorem ints_of4 {vs : List Value} {ns : List Int} (h : IntsAre vs ns) (hn : ns.length = 4) : ∃ a b c d t1 t2 t3 t4, vs = [.int a t1, .int b t2, .int c t3, .int d t4] ∧ ns = [a, b, c, d] := by
  match ns, hn with
  | [a, b, c, d], _ =>
    cases h with
    | cons _ t1 h => cases h with
      | cons _ t2 h => cases h with
        | cons _ t3 h => cases h with
          | cons _ t4 h => cases h; exact ⟨a, b, c, d, t1, t2, t3, t4, rfl, rfl⟩
theorem ints_of5 {vs : List Value} {ns : List Int} (h : IntsAre vs ns) (hn : ns.length = 5) : ∃ a b c d e t1 t2 t3 t4 t5, vs = [.int a t1, .int b t2, .int c t3, .int d t4, .int e t5] ∧ ns = [a, b, c, d, e] := by
  match ns, hn with
  | [a, b, c, d, e], _ =>
    cases h with
    | cons _ t1 h => cases h with
      | cons _ t2 h => cases h with
        | cons _ t3 h => cases h with
          | cons _ t4 h => cases h with
            | cons _ t5 h => cases h; exact ⟨a, b, c, d, e, t1, t2, t3, t4, t5, rfl, rfl⟩
theorem ints_take {vs : List Value} {ns : List Int} (h : IntsAre vs ns) : ∀ k, IntsAre (vs.take k) (ns.take k) := by
  induction h with
  | nil => intro k; simp; exact .nil
  | cons y t _ ih =>
    intro k
    cases k with
    | zero => simp; exact .nil
    | succ k => exact .cons _ _ (ih k)

section
variable {prog : Program} {w : World} {A : Around} {s : Shared} {E : Value → Shared → Prop} {env : Env}
variable {mg mb : Str → Option Value}
theorem law_weights {hb : Heap} (G : Gr mg mb hb) {L D fk : Nat} {code : Value} {vs : Array Value} {ns : List Int} {Q : Flow → Shared → Prop} (hh : A.handled = none) (hbk : Keep hb s.heap)
    (c3 : s.heap.IsCell (L + 1 + 1 + 1) (some (.ref D))) (c4 : s.heap.IsCell (L + 1 + 1 + 1 + 1) none) (c5 : s.heap.IsCell (L + 1 + 1 + 1 + 1 + 1) none) (c6 : s.heap.IsCell (L + 1 + 1 + 1 + 1 + 1 + 1) none) (c7 : s.heap.IsCell (L + 1 + 1 + 1 + 1 + 1 + 1 + 1) none)
    (hD : s.heap.IsList D vs) (hI : IntsAre vs.toList ns) (hnl : ns.length = 5) (hnz : ∀ z ∈ ns, 0 ≤ z ∧ z < 1000000)
    (hQ : ∀ (b b1 c c2 : Int) (t1 t2 t3 t4 : Tok) h' tk, Le 1000 b → Le 1000 b1 → Le 1000 c → Le 1000 c2 → h'.IsCell (L + 1 + 1 + 1 + 1) (some (.int b t1)) → h'.IsCell (L + 1 + 1 + 1 + 1 + 1) (some (.int b1 t2)) →
      h'.IsCell (L + 1 + 1 + 1 + 1 + 1 + 1) (some (.int c t3)) → h'.IsCell (L + 1 + 1 + 1 + 1 + 1 + 1 + 1) (some (.int c2 t4)) →
      (∀ (b : Nat) o, b ≠ L + 1 + 1 + 1 + 1 → b ≠ L + 1 + 1 + 1 + 1 + 1 → b ≠ L + 1 + 1 + 1 + 1 + 1 + 1 → b ≠ L + 1 + 1 + 1 + 1 + 1 + 1 + 1 → s.heap.get? b = some o → h'.get? b = some o) →
      wpAny (model prog w) A (execs ((bodyOf (stmAt 10)).drop 3) (envOfC (nameOf (stmAt 10)) (scopeOf (stmAt 10)) L fk code)) Q NoE { s with heap := h', toks := tk }) :
    wpAny (model prog w) A (execs ((bodyOf (stmAt 10)).drop 2) (envOfC (nameOf (stmAt 10)) (scopeOf (stmAt 10)) L fk code)) Q NoE s := by
  have hvz : vs.size = 5 := by have := hI.length; rw [hnl] at this; simpa using this
  have hvs : vs.size ≤ sizeLine := by rw [sizeLine_eq]; omega
  refine wpAny_execs_cons (Assign_Tuple ?_)
  refine comp_any (cl := []) (fun v y => ∀ z t, v = .int z t → ∃ u, y = .int (z.fmod 2001 - 1000) u) hh rfl (by decide) rfl (by decide) rfl ?_
  refine slice_list (clE c3 (wpAny_evalPart_none (wpAny_evalPart_some (wpAny_Constant_int (k := 0) (pos := default) (wpAny_evalPart_none ⟨D, vs, none, some 4, none, rfl, hD, hvs, .none, .int _ _, .none, (by decide), fun h₄ tk₄ hk₄ hl₄ => ?_⟩)))))
  rw [show (4 : Int) = ((4 : Nat) : Int) from rfl, slicePick_upto'] at hl₄
  obtain ⟨a1, a2, a3, a4, t1, t2, t3, t4, hv4, hn4⟩ := ints_of4 (ints_take hI 4) (by rw [List.length_take]; omega)
  have hb1 : ∀ z ∈ ns.take 4, 0 ≤ z ∧ z < 1000000 := fun z hz => hnz z (List.mem_of_mem_take hz)
  have bnd : ∀ z ∈ ns.take 4, Le 1000 (z.fmod 2001 - 1000) := fun z hz => by
    have h1 : 0 ≤ z.fmod 2001 := by rw [Int.fmod_eq_emod_of_nonneg _ (by decide)]; exact Int.emod_nonneg _ (by decide)
    have h2 : z.fmod 2001 < 2001 := by rw [Int.fmod_eq_emod_of_nonneg _ (by decide)]; exact Int.emod_lt_of_pos _ (by decide)
    unfold Le; omega
  rw [hn4] at bnd
  rw [hv4] at hl₄
  refine ⟨_, _, rfl, hl₄, by size_fits, ?_, ?_⟩
  · intro C' v s₆ m₆ E₆ hC' hv hn₆ hm₆ hk₆
    have : ∃ z t, v = Value.int z t := by
      simp only [List.mem_cons, List.not_mem_nil, or_false] at hv
      rcases hv with rfl | rfl | rfl | rfl <;> exact ⟨_, _, rfl⟩
    obtain ⟨z, t, rfl⟩ := this
    refine wpAny_BinOp (wpAny_BinOp (nmE hn₆ hm₆ (wpAny_Constant_int (k := 0) (pos := default) (PyProof.Rows.mod_int (by decide) (wpAny_Constant_int (k := 0) (pos := default) (PyProof.Rows.sub_int ⟨?_, _, _, rfl, fun _ _ q => q⟩))))))
    intro z' t' e; cases e; exact ⟨_, rfl⟩
  · intro D' h₆ tk₆ vs₆ hDn hpl hP hk₆
    have kS : Keep s.heap h₆ := fun b o q => hk₆ b o (hk₄ b o q)
    have e6 : ∃ u1 u2 u3 u4, vs₆ = #[.int (a1.fmod 2001 - 1000) u1, .int (a2.fmod 2001 - 1000) u2, .int (a3.fmod 2001 - 1000) u3, .int (a4.fmod 2001 - 1000) u4] := by
      obtain ⟨l⟩ := vs₆
      simp only at hP
      cases hP with
      | cons p1 hP => cases hP with
        | cons p2 hP => cases hP with
          | cons p3 hP => cases hP with
            | cons p4 hP =>
              cases hP
              obtain ⟨u1, rfl⟩ := p1 _ _ rfl
              obtain ⟨u2, rfl⟩ := p2 _ _ rfl
              obtain ⟨u3, rfl⟩ := p3 _ _ rfl
              obtain ⟨u4, rfl⟩ := p4 _ _ rfl
              exact ⟨u1, u2, u3, u4, rfl⟩
    obtain ⟨u1, u2, u3, u4, rfl⟩ := e6
    refine unpack_list (by exact hh) hpl.isList rfl rfl fun h₇ hx₇ => ?_
    dsimp only at hx₇ ⊢
    have kS₇ : Keep s.heap h₇ := fun b o q => hx₇ b o (Nat.ne_of_lt (Heap.lt_size (kS b o q))) (kS b o q)
    have n1 : L + 1 + 1 + 1 + 1 + 1 ≠ L + 1 + 1 + 1 + 1 := by omega
    have n2 : L + 1 + 1 + 1 + 1 + 1 + 1 ≠ L + 1 + 1 + 1 + 1 := by omega
    have n3 : L + 1 + 1 + 1 + 1 + 1 + 1 + 1 ≠ L + 1 + 1 + 1 + 1 := by omega
    have n4 : L + 1 + 1 + 1 + 1 + 1 + 1 ≠ L + 1 + 1 + 1 + 1 + 1 := by omega
    have n5 : L + 1 + 1 + 1 + 1 + 1 + 1 + 1 ≠ L + 1 + 1 + 1 + 1 + 1 := by omega
    have n6 : L + 1 + 1 + 1 + 1 + 1 + 1 + 1 ≠ L + 1 + 1 + 1 + 1 + 1 + 1 := by omega
    refine wpAny_bind (wpAny_holding (wpAny_assign_Name (stCE (c4.keeps kS₇) fun h₈ d4 hs₈ => ?_)))
    dsimp only at d4 hs₈ ⊢
    refine wpAny_bind (wpAny_holding (wpAny_assign_Name (stCE (let ⟨o, ho, r⟩ := c5.keeps kS₇; ⟨o, hs₈.extBut _ o n1 ho, r⟩) fun h₉ d5 hs₉ => ?_)))
    dsimp only at d5 hs₉ ⊢
    refine wpAny_bind (wpAny_holding (wpAny_assign_Name (stCE (let ⟨o, ho, r⟩ := c6.keeps kS₇; ⟨o, hs₉.extBut _ o n4 (hs₈.extBut _ o n2 ho), r⟩) fun hA d6 hsA => ?_)))
    dsimp only at d6 hsA ⊢
    refine wpAny_bind (wpAny_holding (wpAny_assign_Name (stCE (let ⟨o, ho, r⟩ := c7.keeps kS₇; ⟨o, hsA.extBut _ o n6 (hs₉.extBut _ o n5 (hs₈.extBut _ o n3 ho)), r⟩) fun hB d7 hsB => wpAny_pure ?_)))
    dsimp only at d7 hsB ⊢
    refine hQ _ _ _ _ u1 u2 u3 u4 hB _ (bnd a1 (by simp)) (bnd a2 (by simp)) (bnd a3 (by simp)) (bnd a4 (by simp))
      (let ⟨o, ho, r⟩ := d4; ⟨o, hsB.extBut _ o (Ne.symm n3) (hsA.extBut _ o (Ne.symm n2) (hs₉.extBut _ o (Ne.symm n1) ho)), r⟩)
      (let ⟨o, ho, r⟩ := d5; ⟨o, hsB.extBut _ o (Ne.symm n5) (hsA.extBut _ o (Ne.symm n4) ho), r⟩)
      (let ⟨o, ho, r⟩ := d6; ⟨o, hsB.extBut _ o (Ne.symm n6) ho, r⟩) d7
      fun b o q4 q5 q6 q7 q => hsB.extBut b o q7 (hsA.extBut b o q6 (hs₉.extBut b o q5 (hs₈.extBut b o q4 (kS₇ b o q))))
end
end Mine

open PySem PySem.W PyProof.Rows
open PySem.Calls (spliced_nil spliced_cons)
set_option Elab.async false
set_option maxRecDepth 100000
set_option maxHeartbeats 4000000
namespace Mine

theorem strL_cps (r : List Nat) : (strL r).cps.toList = r := by simp [strL]
theorem rowsOk_map (n : Nat) : ((rowsAll n).map strL).filter (rowOk n) = (rowsOk n).map strL := by
  rw [List.filter_map]; rfl
theorem paired_map' {α : Type} {f : α → Str} {ys : List α} {vs : List Value} (h : Paired (fun y v => ∃ t, v = Value.str (f y) t) ys vs) : StrsAre vs (ys.map f) := by
  induction h with
  | nil => exact .nil
  | cons h _ ih => obtain ⟨t, rfl⟩ := h; exact .cons _ _ ih
theorem paired_mapI {α : Type} {f : α → Int} {ys : List α} {vs : List Value} (h : Paired (fun y v => ∃ t, v = Value.int (f y) t) ys vs) : IntsAre vs (ys.map f) := by
  induction h with
  | nil => exact .nil
  | cons h _ ih => obtain ⟨t, rfl⟩ := h; exact .cons _ _ ih
theorem rowsOk_len (n : Nat) (h : n ≤ 4) : (rowsOk n).length ≤ 1000 ∧ ∀ row ∈ rowsOk n, row.length ≤ 4 := by
  have : n = 0 ∨ n = 1 ∨ n = 2 ∨ n = 3 ∨ n = 4 := by omega
  rcases this with rfl | rfl | rfl | rfl | rfl <;> decide +kernel
theorem goods_mem {n : Nat} {row : List Nat} (h : row ∈ goods n) : row ∈ rowsOk n := (List.mem_filter.mp h).1
theorem ints_snoc {vs : List Value} {ns : List Int} (h : IntsAre vs ns) (n : Int) (t : Tok) : IntsAre (vs ++ [.int n t]) (ns ++ [n]) := by
  induction h with
  | nil => exact .cons n t .nil
  | cons a b _ ih => exact .cons a b ih

def loopBody : List Stmt := match (bodyOf (stmAt 10)).drop 4 with
  | .For _ _ b .. :: _ => b
  | _ => []

section
variable {prog : Program} {w : World} {A : Around} {s : Shared} {E : Value → Shared → Prop} {env : Env}
variable {mg mb : Str → Option Value}

/-- the names of the defs that the law calls -/
structure Fns (mg : Str → Option Value) (fg fs fc fp fr fw fv fk : Nat) : Prop where
  g : mg "_iter_escaped_chars" = some (.ref fg)
  s : mg "_strip_quoted_realnames" = some (.ref fs)
  c : mg "_check_parenthesis" = some (.ref fc)
  p : mg "_pre_parse_validation" = some (.ref fp)
  r : mg "_law_rows" = some (.ref fr)
  w : mg "_law_written" = some (.ref fw)
  v : mg "_law_weight" = some (.ref fv)
  k : mg "_law_kept" = some (.ref fk)

theorem law_turn {hb : Heap} (G : Gr mg mb hb) {fg fs fc fp fr fw fv fk : Nat} (FN : Fns mg fg fs fc fp fr fw fv fk) {L D R f n N : Nat} {code : Value} {t0 : Tok} {cvs vs : Array Value} {cns : List Int} {b b1 c c2 : Int} {t1 t2 t3 t4 : Tok} {m : Str → Option Value} {ms : List Int} {Q : Flow → Shared → Prop}
    (hh : A.handled = none) (hu : A.units + 20 < cLine) (hroom : A.depth + 8 < recursionLimit) (hbk : Keep hb s.heap) (hbL' : hb.objs.size ≤ L) (hbare : BareAll s.gens) (hn4 : n ≤ 4)
    (hn : s.heap.Ns L m) (hsz : m "size" = some (.int (n : Nat) t0)) (hsm : m "sums" = some (.ref R)) (hRL : R ≠ L) (hDL : D ≠ L)
    (c3 : s.heap.IsCell (L + 1 + 1 + 1) (some (.ref D))) (c4 : s.heap.IsCell (L + 1 + 1 + 1 + 1) (some (.int b t1))) (c5 : s.heap.IsCell (L + 1 + 1 + 1 + 1 + 1) (some (.int b1 t2))) (c6 : s.heap.IsCell (L + 1 + 1 + 1 + 1 + 1 + 1) (some (.int c t3))) (c7 : s.heap.IsCell (L + 1 + 1 + 1 + 1 + 1 + 1 + 1) (some (.int c2 t4)))
    (hb0 : Le 1000 b) (hb1 : Le 1000 b1) (hc : Le 1000 c) (hc2 : Le 1000 c2)
    (hD : s.heap.IsList D cvs) (hI : IntsAre cvs.toList cns) (hcl : cns.length = 5) (hN : cns.getD 4 0 = (N : Int)) (hN6 : N < 1000000) (hRl : PlainL s.heap R vs) (hvs : IntsAre vs.toList ms) (hvz : vs.size ≤ 100)
    (hQ : ∀ h' tk gs m' vs', h'.Ns L m' → m' "sums" = some (.ref R) → PlainL h' R vs' → IntsAre vs'.toList (ms ++ [mom b b1 c c2 n]) → KeepEx [L, R] s.heap h' → BareAll gs → Q .next { s with heap := h', toks := tk, gens := gs }) :
    wpAny (model prog w) A (execs loopBody (envOfC (nameOf (stmAt 10)) (scopeOf (stmAt 10)) L f code)) Q E s := by
  have hLlt : L < s.heap.objs.size := hn.lt
  have hbz : hb.objs.size ≤ s.heap.objs.size := Nat.le_trans hbL' (Nat.le_of_lt hLlt)
  obtain ⟨hrl, hr4⟩ := rowsOk_len n hn4
  refine wpAny_execs_cons (wpAny_Assign_Name (callE (st := stmAt 6) (G.fn 6 (by decide)) FN.r rfl G hbk (Calls.evalArgs_plain (spliced_cons (nmE hn hsz (spliced_nil ⟨hbk, ?_⟩))))))
  refine rows_spec G FN.r hn4 _ _ _ _ hh (by omega) hbk hbz trivial fun v h₁ tk₁ hk₁ hv => ?_
  obtain ⟨r, rvs, rfl, hr0, hrP, hrS⟩ := hv
  rw [rowsOk_map] at hrS
  refine stE (hn.keeps hk₁) fun h₂ hn₂ hs₂ => ?_
  dsimp only at hn₂ hs₂ ⊢
  have k₂ : ∀ (b : Nat) (o : Obj), b ≠ L → s.heap.get? b = some o → h₂.get? b = some o := fun b o hb q => hs₂.extBut b o hb (hk₁ b o q)
  have hrL : r ≠ L := fun e => by obtain ⟨o, _, _, ho, _⟩ := hn; rw [e, ho] at hr0; cases hr0
  have hrP₂ : h₂.IsList r rvs := hrP.isList.at fun o q => hs₂.extBut r o hrL q
  have hbL : ∀ (b : Nat) (o : Obj), hb.get? b = some o → b ≠ L := fun b o q => Nat.ne_of_lt (Nat.lt_of_lt_of_le (Heap.lt_size q) hbL')
  have hbk₂ : Keep hb h₂ := fun b o q => k₂ b o (hbL b o q) (hbk b o q)
  have n3 : L + 1 + 1 + 1 ≠ L := by omega
  have n4 : L + 1 + 1 + 1 + 1 ≠ L := by omega
  have n5 : L + 1 + 1 + 1 + 1 + 1 ≠ L := by omega
  have n6 : L + 1 + 1 + 1 + 1 + 1 + 1 ≠ L := by omega
  have n7 : L + 1 + 1 + 1 + 1 + 1 + 1 + 1 ≠ L := by omega
  have d3 : h₂.IsCell (L + 1 + 1 + 1) (some (.ref D)) := let ⟨o, ho, q⟩ := c3; ⟨o, k₂ _ o n3 ho, q⟩
  have hD₂ : h₂.IsList D cvs := let ⟨o, ho, q⟩ := hD; ⟨o, k₂ _ o hDL ho, q⟩
  refine wpAny_execs_cons (wpAny_Assign_Name (callE (st := stmAt 9) (G.fn 9 (by decide)) FN.k rfl G hbk₂ (Calls.evalArgs_plain (spliced_cons (nmE hn₂ rfl (spliced_cons ?_))))))
  refine comp_strs (cl := [("cells", L + 1 + 1 + 1)]) (ys0 := (rowsOk n).map strL) (fun _ => true) (fun y v => ∃ u, v = .str (strL (written y.cps.toList N)) u) hh rfl (by decide) rfl (by decide) rfl (by rw [List.length_map, sizeLine_eq]; omega) (nmE hn₂ rfl ⟨r, rvs, rfl, hrP₂, hrS, ?_, ?_, ?_⟩)
  · intro C y t s₃ m₃ E' _ _ _ _ _
    exact no_tests ⟨rfl, _, _, rfl, fun _ _ q => q⟩
  · intro C y t s₃ m₃ E' hC hy _ hn₃ hm₃ hk₃
    obtain ⟨row, hrow, rfl⟩ := List.mem_map.mp hy
    have hbk₃ : Keep hb s₃.heap := fun b o q => hk₃ b o (hbk₂ b o q)
    have hbz₃ : hb.objs.size ≤ s₃.heap.objs.size := Nat.le_trans hbL' (Nat.le_trans (Nat.le_of_lt hn₂.lt) (Nat.le_trans hC (Nat.le_of_lt hn₃.lt)))
    have hDl : s₃.heap.IsList D cvs.toList.toArray := by simpa using lk hD₂ hk₃
    refine callE (st := stmAt 7) (G.fn 7 (by decide)) FN.w rfl G hbk₃ (Calls.evalArgs_plain (spliced_cons (nmE hn₃ hm₃ (spliced_cons (Subscript_ (clE (d3.keeps hk₃) (wpAny_Constant_int (k := 0) (pos := default) (item_list_ints hDl hI (by omega) (by omega) (by omega) fun t => ?_))))))))
    rw [show (4 : Int).toNat = 4 from rfl, hN]
    refine spliced_nil ⟨hbk₃, ?_⟩
    refine written_spec G FN.w (hr4 row hrow) hN6 _ _ _ _ hh (by omega) hbk₃ hbz₃ trivial fun v h₄ tk₄ hk₄ hv => ?_
    obtain ⟨u, rfl⟩ := hv
    exact ⟨⟨u, by rw [strL_cps]⟩, _, _, rfl, hk₄⟩
  · intro D₂ h₃ tk₃ vs₃ hDn hpl hP hk₃
    rw [List.filter_eq_self.mpr (fun _ _ => rfl)] at hP
    have hS := paired_map' hP
    rw [List.map_map] at hS
    have hf : (fun y : Str => strL (written y.cps.toList N)) ∘ strL = fun row => strL (written row N) := funext fun row => by simp only [Function.comp_apply, strL_cps]
    rw [hf] at hS
    have hbk₃ : Keep hb h₃ := fun b o q => hk₃ b o (hbk₂ b o q)
    have hL₃ : L < h₃.objs.size := (hn₂.keeps hk₃).lt
    refine spliced_nil ⟨hbk₃, ?_⟩
    refine kept_spec G FN.g FN.s FN.c FN.p FN.k (lr := r) (lt := D₂) hS hrS ?_ (by rw [List.length_map]; exact hrl) (by simp) _ _ _ _ hh hu hroom hbk₃ (Nat.le_trans hbL' (Nat.le_of_lt hL₃)) hbare ⟨hpl.isList, lk hrP₂ hk₃⟩ fun v h₄ tk₄ gs₄ hk₄ hb₄ hv => ?_
    · intro y hy
      obtain ⟨row, hrow, rfl⟩ := List.mem_map.mp hy
      have := (written_check hn4 hrow N).2
      simpa [strL] using this
    obtain ⟨kr, kvs, rfl, hk0, hkP, hkS⟩ := hv
    rw [kept_goods hn4] at hkS
    dsimp only at hk0 hk₄ ⊢
    have kk : Keep h₂ h₄ := fun b o q => hk₄ b o (hk₃ b o q)
    refine stE (hn₂.keeps kk) fun h₅ hn₅ hs₅ => ?_
    dsimp only at hn₅ hs₅ ⊢
    have k₅ : ∀ (b : Nat) (o : Obj), b ≠ L → s.heap.get? b = some o → h₅.get? b = some o := fun b o hb q => hs₅.extBut b o hb (kk b o (k₂ b o hb q))
    have hbk₅ : Keep hb h₅ := fun b o q => k₅ b o (hbL b o q) (hbk b o q)
    have hkL : kr ≠ L := fun e => by
      obtain ⟨o, _, _, ho, _⟩ := hn₂.keeps hk₃
      rw [e, ho] at hk0; cases hk0
    have hkP₅ : h₅.IsList kr kvs := hkP.isList.at fun o q => hs₅.extBut kr o hkL q
    have hR₅ : PlainL h₅ R vs := let ⟨o, n, ho, q⟩ := hRl; ⟨o, n, k₅ R o hRL ho, q⟩
    have d4 : h₅.IsCell (L + 1 + 1 + 1 + 1) (some (.int b t1)) := let ⟨o, ho, q⟩ := c4; ⟨o, k₅ _ o n4 ho, q⟩
    have d5 : h₅.IsCell (L + 1 + 1 + 1 + 1 + 1) (some (.int b1 t2)) := let ⟨o, ho, q⟩ := c5; ⟨o, k₅ _ o n5 ho, q⟩
    have d6 : h₅.IsCell (L + 1 + 1 + 1 + 1 + 1 + 1) (some (.int c t3)) := let ⟨o, ho, q⟩ := c6; ⟨o, k₅ _ o n6 ho, q⟩
    have d7 : h₅.IsCell (L + 1 + 1 + 1 + 1 + 1 + 1 + 1) (some (.int c2 t4)) := let ⟨o, ho, q⟩ := c7; ⟨o, k₅ _ o n7 ho, q⟩
    refine wpAny_execs_cons (wpAny_If (wpAny_isTrue_Compare1 (nmE hn₅ rfl (wpAny_Constant_none (PyProof.Rows.is_ref_none (wpAny_truthy_bool ?_))))))
    rw [if_neg Bool.false_ne_true]
    refine wpAny_execs_nil ?_
    have hgl : (goods n).length ≤ 1000 := Nat.le_trans (List.length_filter_le ..) hrl
    refine wpAny_execs_cons (wpAny_Expr (wpAny_Call_append rfl rfl rfl rfl (nmE hn₅ hsm ⟨R, vs, rfl, hR₅, ?_⟩)))
    refine wpAny_Call_NameR (bltnE (G.keeps hbk₅) (by decide) PyProof.Rows.boot_sum (Calls.callWith_builtin rfl (Calls.evalArgs_plain (spliced_cons ?_))))
    refine comp_strs (cl := [("c2", L + 1 + 1 + 1 + 1 + 1 + 1 + 1), ("c", L + 1 + 1 + 1 + 1 + 1 + 1), ("b1", L + 1 + 1 + 1 + 1 + 1), ("b", L + 1 + 1 + 1 + 1)]) (ys0 := (goods n).map strL) (fun _ => true) (fun y v => ∃ u, v = .int (wt b b1 c c2 y.cps.toList) u) hh rfl (by decide) rfl (by decide) rfl (by rw [List.length_map, sizeLine_eq]; omega) (nmE hn₅ rfl ⟨kr, kvs, rfl, hkP₅, hkS, ?_, ?_, ?_⟩)
    · intro C y t s₃ m₃ E' _ _ _ _ _
      exact no_tests ⟨rfl, _, _, rfl, fun _ _ q => q⟩
    · intro C y t s₆ m₆ E' hC hy _ hn₆ hm₆ hk₆
      obtain ⟨row, hrow, rfl⟩ := List.mem_map.mp hy
      have hbk₆ : Keep hb s₆.heap := fun b o q => hk₆ b o (hbk₅ b o q)
      have hbz₆ : hb.objs.size ≤ s₆.heap.objs.size := Nat.le_trans hbL' (Nat.le_trans (Nat.le_of_lt hn₅.lt) (Nat.le_trans hC (Nat.le_of_lt hn₆.lt)))
      refine callE (st := stmAt 8) (G.fn 8 (by decide)) FN.v rfl G hbk₆ (Calls.evalArgs_plain (spliced_cons (nmE hn₆ hm₆ (spliced_cons ?_))))
      refine wpAny_Tuple_spliced (x1 := 0) (spliced_cons (clE (d4.keeps hk₆) (spliced_cons (clE (d5.keeps hk₆) (spliced_cons (wpAny_Constant_int (k := 0) (pos := default) (spliced_cons (wpAny_Constant_int (k := 0) (pos := default) (spliced_cons (wpAny_Constant_int (k := 0) (pos := default) (spliced_nil ⟨by size_fits, ?_⟩)))))))))))
      dsimp only
      refine spliced_cons (wpAny_Tuple_spliced (x1 := 0) (spliced_cons (wpAny_Constant_int (k := 0) (pos := default) (spliced_cons (clE ((d6.keeps hk₆).keeps fun b o q => Heap.get?_push_of_some _ q) (spliced_cons (clE ((d7.keeps hk₆).keeps fun b o q => Heap.get?_push_of_some _ q) (spliced_cons (wpAny_Constant_int (k := 0) (pos := default) (spliced_cons (wpAny_Constant_int (k := 0) (pos := default) (spliced_nil ⟨by size_fits, ?_⟩))))))))))))
      dsimp only
      have kp : ∀ (o1 o2 : Obj), Keep s₆.heap ((s₆.heap.push o1).push o2) := fun o1 o2 b o q => Heap.get?_push_of_some _ (Heap.get?_push_of_some _ q)
      refine spliced_nil ⟨fun b o q => kp _ _ b o (hbk₆ b o q), ?_⟩
      have hg5 := wt_some b b1 c c2 hn4 hrow
      refine weight_spec G FN.v (lv := lvL b b1) (dn := dnL c c2) (lvs := [_, _, _, _, _]) (dvs := [_, _, _, _, _]) (W := wt b b1 c c2 row) (.cons _ _ (.cons _ _ (.cons _ _ (.cons _ _ (.cons _ _ .nil))))) (.cons _ _ (.cons _ _ (.cons _ _ (.cons _ _ (.cons _ _ .nil))))) (by simp [lvL]) (by simp [dnL]) ?_ ?_ hg5 _ _ _ _ hh (by omega)
        (fun b o q => kp _ _ b o (hbk₆ b o q)) ?_ ⟨⟨_, Heap.get?_push_of_some _ (Heap.get?_push_size _ rfl), rfl, _, rfl⟩, ⟨_, Heap.get?_push_size _ rfl, rfl, _, rfl⟩⟩ fun v h₇ tk₇ hk₇ hv => ?_
      · intro x hx
        simp only [lvL, List.mem_cons, List.not_mem_nil, or_false] at hx
        rcases hx with rfl | rfl | rfl | rfl | rfl
        · exact hb0.fit (by decide)
        · exact hb1.fit (by decide)
        · decide
        · decide
        · decide
      · intro x hx
        simp only [dnL, List.mem_cons, List.not_mem_nil, or_false] at hx
        rcases hx with rfl | rfl | rfl | rfl | rfl
        · decide
        · exact hc.fit (by decide)
        · exact hc2.fit (by decide)
        · decide
        · decide
      · rw [Heap.size_push, Heap.size_push]; exact Nat.le_trans hbz₆ (Nat.le_add_right _ 2)
      · obtain ⟨u, rfl⟩ := hv
        exact ⟨⟨u, by rw [strL_cps]⟩, _, _, rfl, fun b o q => hk₇ b o (kp _ _ b o q)⟩
    · intro D₆ h₆ tk₆ vs₆ hDn hpl hP hk₆
      rw [List.filter_eq_self.mpr (fun _ _ => rfl)] at hP
      have hS₆ := paired_mapI hP
      rw [List.map_map, show (fun y : Str => wt b b1 c c2 y.cps.toList) ∘ strL = wt b b1 c c2 from funext fun row => by simp only [Function.comp_apply, strL_cps]] at hS₆
      refine spliced_nil (sum_ints hh hpl.isList hS₆ fun h₇ tk₇ t₇ hk₇ => ?_)
      dsimp only at hk₆ hk₇ ⊢
      have k₇ : Keep h₅ h₇ := fun b o q => hk₇ b o (hk₆ b o q)
      have hR₇ : PlainL h₇ R vs := let ⟨o, n, ho, q⟩ := hR₅; ⟨o, n, k₇ _ o ho, q⟩
      refine list_append_plainL hR₇ (fun h₈ hPl₈ hs₈ => wpAny_execs_nil ?_) (by rw [sizeLine_eq]; omega)
      refine hQ h₈ _ gs₄ _ _ ((hn₅.keeps k₇).sameBut hs₈ (Ne.symm hRL)) hsm hPl₈ ?_ ?_ hb₄
      · rw [Array.toList_push]; exact ints_snoc hvs _ _
      · intro b o hb q
        exact hs₈.extBut b o (fun z => hb (by rw [z]; simp)) (k₇ b o (k₅ b o (fun z => hb (by rw [z]; simp)) q))
end
end Mine

open PySem PySem.W PyProof.Rows
open PySem.Calls (spliced_nil spliced_cons)
set_option Elab.async false
set_option maxRecDepth 100000
set_option maxHeartbeats 4000000
namespace Mine
section
variable {prog : Program} {w : World} {A : Around} {s : Shared} {E : Value → Shared → Prop} {env : Env}
variable {mg mb : Str → Option Value}

theorem law_loop {hb : Heap} (G : Gr mg mb hb) {fg fs fc fp fr fw fv fk : Nat} (FN : Fns mg fg fs fc fp fr fw fv fk) {L D f N : Nat} {code : Value} {cvs : Array Value} {cns : List Int} {b b1 c c2 : Int} {t1 t2 t3 t4 : Tok} {m : Str → Option Value} {Q : Flow → Shared → Prop}
    (hh : A.handled = none) (hu : A.units + 20 < cLine) (hroom : A.depth + 8 < recursionLimit) (hbk : Keep hb s.heap) (hbL' : hb.objs.size ≤ L) (hbare : BareAll s.gens)
    (hn : s.heap.Ns L m) (hDL : D ≠ L)
    (c3 : s.heap.IsCell (L + 1 + 1 + 1) (some (.ref D))) (c4 : s.heap.IsCell (L + 1 + 1 + 1 + 1) (some (.int b t1))) (c5 : s.heap.IsCell (L + 1 + 1 + 1 + 1 + 1) (some (.int b1 t2))) (c6 : s.heap.IsCell (L + 1 + 1 + 1 + 1 + 1 + 1) (some (.int c t3))) (c7 : s.heap.IsCell (L + 1 + 1 + 1 + 1 + 1 + 1 + 1) (some (.int c2 t4)))
    (hb0 : Le 1000 b) (hb1 : Le 1000 b1) (hc : Le 1000 c) (hc2 : Le 1000 c2)
    (hD : s.heap.IsList D cvs) (hI : IntsAre cvs.toList cns) (hcl : cns.length = 5) (hN : cns.getD 4 0 = (N : Int)) (hN6 : N < 1000000)
    (hQ : ∀ h' tk gs m' R vs', h'.Ns L m' → m' "sums" = some (.ref R) → PlainL h' R vs' → IntsAre vs'.toList ((List.range 5).map (mom b b1 c c2)) → (∀ (b : Nat) o, b ≠ L → s.heap.get? b = some o → h'.get? b = some o) → BareAll gs →
      wpAny (model prog w) A (execs ((bodyOf (stmAt 10)).drop 5) (envOfC (nameOf (stmAt 10)) (scopeOf (stmAt 10)) L f code)) Q NoE { s with heap := h', toks := tk, gens := gs }) :
    wpAny (model prog w) A (execs ((bodyOf (stmAt 10)).drop 3) (envOfC (nameOf (stmAt 10)) (scopeOf (stmAt 10)) L f code)) Q NoE s := by
  refine wpAny_execs_cons (wpAny_Assign_Name (wpAny_List_spliced (spliced_nil ⟨by size_fits, stE (hn.push _) fun h₂ hn₂ hs₂ => ?_⟩)))
  dsimp only at hn₂ hs₂ ⊢
  generalize hR0 : s.heap.objs.size = R at hn₂ hs₂ ⊢
  have hLR : L < R := hR0 ▸ hn.lt
  have hP₂ : PlainL h₂ R #[] := ⟨_, _, hs₂.extBut R _ (Nat.ne_of_gt hLR) (hR0 ▸ Heap.get?_push_size _ rfl), rfl, rfl, rfl⟩
  have hRlt : R < h₂.objs.size := hP₂.lt
  have hLlt : L < h₂.objs.size := hn₂.lt
  have k₂ : ∀ (b : Nat) (o : Obj), b ≠ L → s.heap.get? b = some o → h₂.get? b = some o := fun b o hb q => hs₂.extBut b o hb (Heap.get?_push_of_some _ q)
  have hbk₂ : Keep hb h₂ := fun b o q => k₂ b o (Nat.ne_of_lt (Nat.lt_of_lt_of_le (Heap.lt_size q) hbL')) (hbk b o q)
  have hlt : ∀ (b : Nat) (o : Obj), s.heap.get? b = some o → b < R := fun b o q => hR0 ▸ Heap.lt_size q
  refine wpAny_execs_cons (wpAny_For (wpAny_Call_NameR (bltnE (G.keeps hbk₂) (by decide) boot_range (PyProof.Rows.callWith_type rfl (Calls.evalArgs_plain (spliced_cons (wpAny_Constant_int (k := 0) (pos := default) (spliced_nil (call_range_1 (wpAny_pyIter_range (Heap.get?_push_size _ rfl) (small_one (by omega) (by omega) (by omega) (by omega)) ?_))))))))) (fun _ => rfl))
  have hsize : Builtin.Range.rangeSize 0 (5 : Int) 1 = (5 : Int) := by rw [rangeSize_one]; split <;> omega
  rw [hsize]
  dsimp only
  generalize hH : h₂.push { cls := .type "range", data := .fields #[.int 0 _, .int (5 : Int) _, .int 1 _] } = H
  have hkH : Keep h₂ H := fun b o q => hH ▸ Heap.get?_push_of_some _ q
  have hnH := hn₂.keeps hkH
  have hLH : L < H.objs.size := hnH.lt
  have hRH : R < H.objs.size := let ⟨_, _, e, _⟩ := hP₂; Heap.lt_size (hkH _ _ e)
  have hexl : ∀ b : Nat, b ∈ [L, R] → b < H.objs.size := fun b hm => by
    rcases List.mem_cons.mp hm with rfl | hm
    · exact hLH
    · rw [List.mem_singleton.mp hm]; exact hRH
  have hexg : ∀ b : Nat, b ∈ [L, R] → hb.objs.size ≤ b := fun b hm => by
    rcases List.mem_cons.mp hm with rfl | hm
    · exact hbL'
    · rw [List.mem_singleton.mp hm]; omega
  refine forLoop_walks BareAll (N₀ := H.objs.size) (L := L) (ex := [L, R]) (walksRange (by exact hh) H.objs.size 5) (fun b o q => Heap.get?_push_of_some _ (hkH _ _ (hbk₂ b o q))) (Nat.le_trans hbL' (Nat.le_of_lt hLH)) (by simp)
    hexl (fun b hm hx => ?_) (fun b hm => by rw [List.mem_singleton.mp hm]; exact Nat.le_refl _) hexg (by exact hbare)
    rfl rfl rfl ?_ (hnH.push _)
    (fun j m h => ∃ vs, m "sums" = some (.ref R) ∧ PlainL h R vs ∧ IntsAre vs.toList ((List.range j).map (mom b b1 c c2)))
    ?_ ⟨#[], rfl, (hP₂.keeps hkH).keeps fun b o q => Heap.get?_push_of_some _ q, .nil⟩ (fun _ => False) ?_ ?_ ?_
  · rw [List.mem_singleton.mp hm] at hx
    exact absurd (hexl _ hx) (Nat.lt_irrefl _)
  · show IsRangeIter _ _ (0 + ((0 : Nat) : Int) * 1) (((5 : Nat) : Int) - ((0 : Nat) : Int)) 1
    rw [show (0 : Int) + ((0 : Nat) : Int) * 1 = 0 by omega, show ((5 : Nat) : Int) - ((0 : Nat) : Int) = 5 by omega]
    exact Heap.get?_push_size _ rfl
  · rintro j m h h' ⟨vs, e1, ⟨o, n, ho, r⟩, e3⟩ hkk
    exact ⟨vs, e1, ⟨o, n, hkk R o (by simp; omega) (Nat.ne_of_gt hLR) ho, r⟩, e3⟩
  · rintro j v m₁ s₁ E' hj ⟨_, tj, rfl⟩ hst₁ ⟨vs, e1, hPl, hvs⟩ hn' hbk' hg' hkk
    have hvz : vs.size ≤ 100 := by
      have := hvs.length
      rw [List.length_map, List.length_range] at this
      have e : vs.toList.length = vs.size := by simp
      omega
    have kS : ∀ (b : Nat) (o : Obj), b ≠ L → s.heap.get? b = some o → s₁.heap.get? b = some o := fun b o hb q => by
      have h1 := hlt b o q
      refine hkk b o (Nat.lt_trans h1 hRH) (fun z => ?_) (Heap.get?_push_of_some _ (hkH b o (k₂ b o hb q)))
      rcases List.mem_cons.mp z with z | z
      · exact hb z
      · rw [List.mem_singleton.mp z] at h1; exact Nat.lt_irrefl _ h1
    have n3 : L + 1 + 1 + 1 ≠ L := by omega
    have n4 : L + 1 + 1 + 1 + 1 ≠ L := by omega
    have n5 : L + 1 + 1 + 1 + 1 + 1 ≠ L := by omega
    have n6 : L + 1 + 1 + 1 + 1 + 1 + 1 ≠ L := by omega
    have n7 : L + 1 + 1 + 1 + 1 + 1 + 1 + 1 ≠ L := by omega
    refine law_turn (D := D) (R := R) (n := j) (N := N) (cvs := cvs) (vs := vs) (cns := cns) (ms := (List.range j).map (mom b b1 c c2)) G FN hh hu hroom hbk' hbL' hg' (by omega) hn' rfl e1 (Nat.ne_of_gt hLR) hDL
      (let ⟨o, ho, q⟩ := c3; ⟨o, kS _ o n3 ho, q⟩) (let ⟨o, ho, q⟩ := c4; ⟨o, kS _ o n4 ho, q⟩) (let ⟨o, ho, q⟩ := c5; ⟨o, kS _ o n5 ho, q⟩) (let ⟨o, ho, q⟩ := c6; ⟨o, kS _ o n6 ho, q⟩) (let ⟨o, ho, q⟩ := c7; ⟨o, kS _ o n7 ho, q⟩)
      hb0 hb1 hc hc2 (let ⟨o, ho, q⟩ := hD; ⟨o, kS _ o hDL ho, q⟩) hI hcl hN hN6 hPl hvs hvz ?_
    intro h' tk gs m' vs' hn₃ hsm hPl' hvs' hke hb₃
    refine ⟨h', tk, gs, rfl, hke, hb₃, .inl ⟨rfl, m', hn₃, vs', hsm, hPl', ?_⟩⟩
    rw [List.range_succ, List.map_append]
    exact hvs'
  · rintro h' tk' gens' m' hn' ⟨vs, e1, hPl, hvs⟩ hk' hb'
    refine hQ h' _ gens' m' R vs hn' e1 hPl hvs (fun b o hb q => ?_) hb'
    have h1 := hlt b o q
    refine hk' b o (Nat.lt_trans h1 hRH) (fun z => ?_) (Heap.get?_push_of_some _ (hkH b o (k₂ b o hb q)))
    rcases List.mem_cons.mp z with z | z
    · exact hb z
    · rw [List.mem_singleton.mp z] at h1; exact Nat.lt_irrefl _ h1
  · exact fun v h' tk gens' hV => hV.elim
end
end Mine

open PySem PySem.W PyProof.Rows
open PySem.Calls (spliced_nil spliced_cons)
set_option Elab.async false
set_option maxRecDepth 100000
set_option maxHeartbeats 4000000
namespace Mine

theorem ints_get' {vs : List Value} {ns : List Int} (hx : IntsAre vs ns) {j : Nat} {v : Value} (e : vs[j]? = some v) : ∃ n t, v = .int n t ∧ ns[j]? = some n := by
  induction hx generalizing j with
  | nil => simp at e
  | cons y t _ ih =>
    cases j with
    | zero => simp at e; exact ⟨y, t, e.symm, by simp⟩
    | succ j => simpa using ih (by simpa using e)

section
variable {prog : Program} {w : World} {A : Around} {s : Shared} {E : Value → Shared → Prop} {env : Env}
variable {mg mb : Str → Option Value}
theorem ne_ints {a b : Nat} {vs us : Array Value} {xs ys : List Int} {Q : Value → Shared → Prop} (ha : s.heap.IsList a vs) (hb : s.heap.IsList b us) (hx : IntsAre vs.toList xs) (hy : IntsAre us.toList ys) (hu : A.units < cLine)
    (hxy : xs = ys) (h : Q (.bool false) s) : wpAny (model prog w) A (compareOp .NotEq (.ref a) (.ref b)) Q E s := by
  subst hxy
  have e1 : vs.size = xs.length := by have := hx.length; simpa using this
  have e2 : us.size = xs.length := by have := hy.length; simpa using this
  refine SeqAt.RcNeAt.lists ha hb (by rw [e1, e2]) hu (e := fun _ => true) (fun j h1 h2 => ?_) prog w E Q ?_
  · obtain ⟨y, t, e, g⟩ := ints_get' hx (j := j) (v := vs[j]) (by simp)
    obtain ⟨z, u, e', g'⟩ := ints_get' hy (j := j) (v := us[j]) (by simp)
    obtain rfl : y = z := by rw [g] at g'; exact Option.some.inj g'
    rw [e, e', show true = (y == y) by simp]
    exact SeqAt.EqAt.int_int _ _ _ _
  · rw [List.all_eq_true.mpr (fun _ _ => rfl)]; exact h

/-- the expression is this number, and moves nothing but the count of tokens -/
def EvI (M : Model) (A : Around) (env : Env) (H : Heap) (e : Expr) (v : Int) : Prop :=
  ∀ (s : Shared) (Q E : Value → Shared → Prop), s.heap = H → (∀ t tk, Q (.int v t) { s with toks := tk }) → wpAny M A (eval e env) Q E s

section
variable {H : Heap} {e1 e2 : Expr} {a b : Int} {pos : Pos}
theorem EvI.mul (h1 : EvI (model prog w) A env H e1 a) (h2 : EvI (model prog w) A env H e2 b) (hm : IntMulOk a b) : EvI (model prog w) A env H (.BinOp e1 .Mult e2 pos) (a * b) := fun s Q E hs h =>
  wpAny_BinOp (h1 s _ _ hs fun t tk => h2 _ _ _ hs fun t' tk' => PyProof.Rows.mul_int (h _ _) hm)
theorem EvI.add (h1 : EvI (model prog w) A env H e1 a) (h2 : EvI (model prog w) A env H e2 b) : EvI (model prog w) A env H (.BinOp e1 .Add e2 pos) (a + b) := fun s Q E hs h =>
  wpAny_BinOp (h1 s _ _ hs fun t tk => h2 _ _ _ hs fun t' tk' => PyProof.Rows.add_int (h _ _))
theorem EvI.sub (h1 : EvI (model prog w) A env H e1 a) (h2 : EvI (model prog w) A env H e2 b) : EvI (model prog w) A env H (.BinOp e1 .Sub e2 pos) (a - b) := fun s Q E hs h =>
  wpAny_BinOp (h1 s _ _ hs fun t tk => h2 _ _ _ hs fun t' tk' => PyProof.Rows.sub_int (h _ _))
theorem EvI.nm {x : Str} {L : Nat} {m : Str → Option Value} {t : Tok} (hn : H.Ns L m) (hv : m x = some (.int a t))
    (hL : env.locals = L := by rfl) (hl : env.kindOf x = some .local := by rfl) (hk : env.scope.kind = .function := by rfl)
    (hd : (x == ("__debug__" : Str)) = false := by decide) : EvI (model prog w) A env H (.Name x pos) a := fun s Q E hs h => by
  subst hs; exact nmE hn hv (h _ _) hL hl hk hd
theorem EvI.cl {x : Str} {c : Nat} {t : Tok} (hv : H.IsCell c (some (.int a t)))
    (hc : env.cells.lookup x = some c := by rfl) (hl : env.kindOf x = some .cell := by rfl) (hk : env.scope.kind = .function := by rfl)
    (hd : (x == ("__debug__" : Str)) = false := by decide) : EvI (model prog w) A env H (.Name x pos) a := fun s Q E hs h => by
  subst hs; exact clE hv (h _ _) hc hl hk hd
end

theorem law_end {hb : Heap} {L R f : Nat} {code : Value} {vs : Array Value} {b b1 c c2 M0 M1 M2 M3 M4 : Int} {t1 t2 t3 t4 : Tok} {m : Str → Option Value} {Q : Flow → Shared → Prop}
    (hh : A.handled = none) (hu : A.units + 20 < cLine) (hn : s.heap.Ns L m) (hsm : m "sums" = some (.ref R))
    (c4 : s.heap.IsCell (L + 1 + 1 + 1 + 1) (some (.int b t1))) (c5 : s.heap.IsCell (L + 1 + 1 + 1 + 1 + 1) (some (.int b1 t2))) (c6 : s.heap.IsCell (L + 1 + 1 + 1 + 1 + 1 + 1) (some (.int c t3))) (c7 : s.heap.IsCell (L + 1 + 1 + 1 + 1 + 1 + 1 + 1) (some (.int c2 t4)))
    (hR : s.heap.IsList R vs) (hvs : IntsAre vs.toList [M0, M1, M2, M3, M4])
    (f0 : -(2 ^ 64) < M0 ∧ M0 < 2 ^ 64) (f1 : -(2 ^ 64) < M1 ∧ M1 < 2 ^ 64) (f2 : -(2 ^ 64) < M2 ∧ M2 < 2 ^ 64) (f3 : -(2 ^ 64) < M3 ∧ M3 < 2 ^ 64) (fb : -(2 ^ 64) < b ∧ b < 2 ^ 64) (fc : -(2 ^ 64) < c ∧ c < 2 ^ 64) (fcc : -(2 ^ 64) < c * c ∧ c * c < 2 ^ 64)
    (h0 : M0 = 1) (h1 : M1 = b) (h2 : M0 * M2 - M1 * M1 = c) (h3 : M1 * M3 - M2 * M2 = c * (b * b1 - c))
    (h4 : M0 * (M2 * M4 - M3 * M3) - M1 * (M1 * M4 - M2 * M3) + M2 * (M1 * M3 - M2 * M2) = c * c * c2)
    (hQ : ∀ h' tk, (∀ (b : Nat) o, b ≠ L → s.heap.get? b = some o → h'.get? b = some o) → Q (.ret (.bool true)) { s with heap := h', toks := tk }) :
    wpAny (model prog w) A (execs ((bodyOf (stmAt 10)).drop 5) (envOfC (nameOf (stmAt 10)) (scopeOf (stmAt 10)) L f code)) Q E s := by
  obtain ⟨_, _, _, _, _, u0, u1, u2, u3, u4, hv5, e5⟩ := ints_of5 hvs rfl
  injection e5 with e0 e5; injection e5 with e1 e5; injection e5 with e2 e5; injection e5 with e3 e5; injection e5 with e4 e5
  subst e0 e1 e2 e3 e4
  have hvz : vs = #[.int M0 u0, .int M1 u1, .int M2 u2, .int M3 u3, .int M4 u4] := by rw [← hv5]
  subst hvz
  refine wpAny_execs_cons (Assign_Tuple (nmE hn hsm (unpack_list (by exact hh) hR rfl rfl fun h₇ hx₇ => ?_)))
  have k₇ : Keep s.heap h₇ := fun b o q => hx₇ b o (Nat.ne_of_lt (Heap.lt_size q)) q
  dsimp only
  refine wpAny_bind (wpAny_holding (wpAny_assign_Name (stE (hn.keeps k₇) fun h₈ hn₈ hs₈ => ?_)))
  refine wpAny_bind (wpAny_holding (wpAny_assign_Name (stE hn₈ fun h₉ hn₉ hs₉ => ?_)))
  refine wpAny_bind (wpAny_holding (wpAny_assign_Name (stE hn₉ fun hA hnA hsA => ?_)))
  refine wpAny_bind (wpAny_holding (wpAny_assign_Name (stE hnA fun hB hnB hsB => ?_)))
  refine wpAny_bind (wpAny_holding (wpAny_assign_Name (stE hnB fun hC hnC hsC => wpAny_pure ?_)))
  have kC : ∀ (b : Nat) o, b ≠ L → s.heap.get? b = some o → hC.get? b = some o := fun b o hb q => hsC.extBut b o hb (hsB.extBut b o hb (hsA.extBut b o hb (hs₉.extBut b o hb (hs₈.extBut b o hb (k₇ b o q)))))
  clear hs₈ hs₉ hsA hsB hsC hn₈ hn₉ hnA hnB
  dsimp only at hnC ⊢
  have i0 : ∀ {x : Int}, IntMulOk M0 x := IntMulOk.of_left (intBits_le_64 f0.1 f0.2)
  have i1 : ∀ {x : Int}, IntMulOk M1 x := IntMulOk.of_left (intBits_le_64 f1.1 f1.2)
  have i2 : ∀ {x : Int}, IntMulOk M2 x := IntMulOk.of_left (intBits_le_64 f2.1 f2.2)
  have i3 : ∀ {x : Int}, IntMulOk M3 x := IntMulOk.of_left (intBits_le_64 f3.1 f3.2)
  have ib : ∀ {x : Int}, IntMulOk b x := IntMulOk.of_left (intBits_le_64 fb.1 fb.2)
  have ic : ∀ {x : Int}, IntMulOk c x := IntMulOk.of_left (intBits_le_64 fc.1 fc.2)
  have icc : ∀ {x : Int}, IntMulOk (c * c) x := IntMulOk.of_left (intBits_le_64 fcc.1 fcc.2)
  refine wpAny_execs_cons (wpAny_Assign_Name ?_)
  refine EvI.add (EvI.sub (EvI.mul (EvI.nm hnC rfl) (EvI.sub (EvI.mul (EvI.nm hnC rfl) (EvI.nm hnC rfl) i2) (EvI.mul (EvI.nm hnC rfl) (EvI.nm hnC rfl) i3)) i0) (EvI.mul (EvI.nm hnC rfl) (EvI.sub (EvI.mul (EvI.nm hnC rfl) (EvI.nm hnC rfl) i1) (EvI.mul (EvI.nm hnC rfl) (EvI.nm hnC rfl) i2)) i1)) (EvI.mul (EvI.nm hnC rfl) (EvI.sub (EvI.mul (EvI.nm hnC rfl) (EvI.nm hnC rfl) i1) (EvI.mul (EvI.nm hnC rfl) (EvI.nm hnC rfl) i2)) i2) _ _ _ rfl fun tt tk => ?_
  refine stE hnC fun hD hnD hsD => ?_
  have kD : ∀ (b : Nat) o, b ≠ L → s.heap.get? b = some o → hD.get? b = some o := fun b o hb q => hsD.extBut b o hb (kC b o hb q)
  clear hsD hnC
  rw [h4] at hnD
  dsimp only at hnD ⊢
  have n4 : L + 1 + 1 + 1 + 1 ≠ L := by omega
  have n5 : L + 1 + 1 + 1 + 1 + 1 ≠ L := by omega
  have n6 : L + 1 + 1 + 1 + 1 + 1 + 1 ≠ L := by omega
  have n7 : L + 1 + 1 + 1 + 1 + 1 + 1 + 1 ≠ L := by omega
  have d4 : hD.IsCell (L + 1 + 1 + 1 + 1) (some (.int b t1)) := let ⟨o, ho, q⟩ := c4; ⟨o, kD _ o n4 ho, q⟩
  have d5 : hD.IsCell (L + 1 + 1 + 1 + 1 + 1) (some (.int b1 t2)) := let ⟨o, ho, q⟩ := c5; ⟨o, kD _ o n5 ho, q⟩
  have d6 : hD.IsCell (L + 1 + 1 + 1 + 1 + 1 + 1) (some (.int c t3)) := let ⟨o, ho, q⟩ := c6; ⟨o, kD _ o n6 ho, q⟩
  have d7 : hD.IsCell (L + 1 + 1 + 1 + 1 + 1 + 1 + 1) (some (.int c2 t4)) := let ⟨o, ho, q⟩ := c7; ⟨o, kD _ o n7 ho, q⟩
  refine wpAny_execs_cons (wpAny_If (wpAny_isTrue_Compare1 ?_))
  refine wpAny_List_spliced (spliced_cons (nmE hnD rfl (spliced_cons (nmE hnD rfl (spliced_cons ?_)))))
  show wpAny _ _ (eval _ (envOfC (nameOf (stmAt 10)) (scopeOf (stmAt 10)) L f code)) _ _ _
  refine EvI.sub (EvI.mul (EvI.nm hnD rfl) (EvI.nm hnD rfl) i0) (EvI.mul (EvI.nm hnD rfl) (EvI.nm hnD rfl) i1) _ _ _ rfl fun ta tka => ?_
  refine spliced_nil ⟨by size_fits, ?_⟩
  dsimp only
  generalize hHa : hD.push { cls := .type "list", data := .seq ([.int M0 u0, .int M1 u1, .int (M0 * M2 - M1 * M1) ta] : List Value).toArray } = Ha
  have kHa : Keep hD Ha := fun b o q => hHa ▸ Heap.get?_push_of_some _ q
  have hLa : Ha.IsList hD.objs.size #[.int M0 u0, .int M1 u1, .int (M0 * M2 - M1 * M1) ta] := ⟨_, hHa ▸ Heap.get?_push_size _ rfl, rfl, _, rfl⟩
  refine wpAny_List_spliced (spliced_cons (wpAny_Constant_int (k := 0) (pos := default) (spliced_cons (clE (d4.keeps kHa) (spliced_cons (clE (d6.keeps kHa) (spliced_nil ⟨by size_fits, ?_⟩)))))))
  refine ne_ints (hLa.at fun o q => Heap.get?_push_of_some _ q) ⟨_, Heap.get?_push_size _ rfl, rfl, _, rfl⟩ (.cons _ _ (.cons _ _ (.cons _ _ .nil))) (.cons _ _ (.cons _ _ (.cons _ _ .nil))) (by omega) (by rw [h0, h1] at *; rw [← h2]) (wpAny_truthy_bool ?_)
  rw [if_neg Bool.false_ne_true]
  refine wpAny_execs_nil ?_
  dsimp only
  generalize hHb : Ha.push _ = Hb
  have kHb : Keep hD Hb := fun b o q => hHb ▸ Heap.get?_push_of_some _ (kHa b o q)
  have hnB := hnD.keeps kHb
  have g4 := d4.keeps kHb
  have g5 := d5.keeps kHb
  have g6 := d6.keeps kHb
  have g7 := d7.keeps kHb
  refine wpAny_execs_cons (wpAny_Return_some (BoolOp_and (wpAny_Compare1 ?_)))
  refine EvI.sub (EvI.mul (EvI.nm hnB rfl) (EvI.nm hnB rfl) i1) (EvI.mul (EvI.nm hnB rfl) (EvI.nm hnB rfl) i2) _ _ _ rfl fun ta' tka' => ?_
  refine EvI.mul (EvI.cl g6) (EvI.sub (EvI.mul (EvI.cl g4) (EvI.cl g5) ib) (EvI.cl g6)) ic _ _ _ rfl fun tb' tkb' => ?_
  refine PyProof.Rows.eq_int (wpAny_truthy_bool ?_)
  rw [h3, beq_self_eq_true, if_pos rfl]
  refine BoolOp_one (wpAny_Compare1 (nmE hnB rfl ?_))
  refine EvI.mul (EvI.mul (EvI.cl g6) (EvI.cl g6) ic) (EvI.cl g7) icc _ _ _ rfl fun tc' tkc' => ?_
  refine PyProof.Rows.eq_int ?_
  rw [beq_self_eq_true]
  exact hQ Hb _ fun b o hb q => kHb b o (kD b o hb q)
end
end Mine

open PySem PySem.W PyProof.Rows
open PySem.Calls (spliced_nil spliced_cons)
set_option Elab.async false
set_option maxRecDepth 100000
set_option maxHeartbeats 4000000
namespace Mine
section
variable {prog : Program} {w : World} {A : Around} {s : Shared} {E : Value → Shared → Prop} {env : Env}
variable {mg mb : Str → Option Value}

theorem law_body {hb : Heap} (G : Gr mg mb hb) {fg fs fc fp fr fw fv fk : Nat} (FN : Fns mg fg fs fc fp fr fw fv fk) {L ls f : Nat} {code : Value} {svs : Array Value} {m : Str → Option Value} {Q : Flow → Shared → Prop}
    (hh : A.handled = none) (hu : A.units + 20 < cLine) (hroom : A.depth + 8 < recursionLimit) (hbk : Keep hb s.heap) (hbL' : hb.objs.size ≤ L) (hbare : BareAll s.gens)
    (hn : s.heap.Ns L m) (c1 : s.heap.IsCell (L + 1) (some (.ref ls))) (c2 : s.heap.IsCell (L + 1 + 1) none) (c3 : s.heap.IsCell (L + 1 + 1 + 1) none) (c4 : s.heap.IsCell (L + 1 + 1 + 1 + 1) none) (c5 : s.heap.IsCell (L + 1 + 1 + 1 + 1 + 1) none) (c6 : s.heap.IsCell (L + 1 + 1 + 1 + 1 + 1 + 1) none) (c7 : s.heap.IsCell (L + 1 + 1 + 1 + 1 + 1 + 1 + 1) none)
    (hS : hb.IsList ls svs) (hI : AllI svs.toList) (hsz : svs.size ≤ 100)
    (hQ : ∀ h' tk gs, Keep hb h' → BareAll gs → Q (.ret (.bool true)) { s with heap := h', toks := tk, gens := gs }) :
    wpAny (model prog w) A (execs (bodyOf (stmAt 10)) (envOfC (nameOf (stmAt 10)) (scopeOf (stmAt 10)) L f code)) Q NoE s := by
  have hlt : ∀ (b : Nat) (o : Obj), hb.get? b = some o → b < L := fun b o q => Nat.lt_of_lt_of_le (Heap.lt_size q) hbL'
  refine wpAny_execs_cons (wpAny_Assign_Name (wpAny_Tuple_spliced (spliced_cons (wpAny_Constant_int (k := 0) (pos := default) (spliced_cons (wpAny_Constant_int (k := 0) (pos := default) (spliced_cons (wpAny_Constant_int (k := 0) (pos := default) (spliced_cons (wpAny_Constant_int (k := 0) (pos := default) (spliced_cons (wpAny_Constant_int (k := 0) (pos := default) (spliced_nil ⟨by size_fits, ?_⟩)))))))))))))
  dsimp only
  generalize hH : s.heap.push _ = H
  generalize hDs : s.heap.objs.size = Ds
  have hLD : L < Ds := hDs ▸ hn.lt
  have hkH : Keep s.heap H := fun b o q => hH ▸ Heap.get?_push_of_some _ q
  refine stCE (c2.keeps hkH) fun h₂ c2' hs₂ => ?_
  dsimp only at c2' hs₂ ⊢
  have k₂ : ∀ (b : Nat) o, b ≠ L + 1 + 1 → s.heap.get? b = some o → h₂.get? b = some o := fun b o hb q => hs₂.extBut b o hb (hkH b o q)
  have c7lt : L + 1 + 1 < Ds := hDs ▸ c2.lt
  have hbk₂ : Keep hb h₂ := fun b o q => k₂ b o (Nat.ne_of_lt (Nat.lt_of_lt_of_le (hlt b o q) (Nat.le_add_right L 2))) (hbk b o q)
  have e1 : L + 1 ≠ L + 1 + 1 := by omega
  have e3 : L + 1 + 1 + 1 ≠ L + 1 + 1 := by omega
  have e4 : L + 1 + 1 + 1 + 1 ≠ L + 1 + 1 := by omega
  have e5 : L + 1 + 1 + 1 + 1 + 1 ≠ L + 1 + 1 := by omega
  have e6 : L + 1 + 1 + 1 + 1 + 1 + 1 ≠ L + 1 + 1 := by omega
  have e7 : L + 1 + 1 + 1 + 1 + 1 + 1 + 1 ≠ L + 1 + 1 := by omega
  have eL : L ≠ L + 1 + 1 := by omega
  refine law_cells (ds := [_, _, _, _, _]) (dns := [1002, 999, 1003, 1005, 31514]) G hh hbk₂ (let ⟨o, ho, q⟩ := c1; ⟨o, k₂ _ o e1 ho, q⟩) c2' (let ⟨o, ho, q⟩ := c3; ⟨o, k₂ _ o e3 ho, q⟩) (lk hS hbk₂) hI hsz
    ⟨_, hs₂.extBut _ _ (Nat.ne_of_gt c7lt) (hH ▸ hDs ▸ Heap.get?_push_size _ rfl), rfl, _, rfl⟩ (.cons _ _ (.cons _ _ (.cons _ _ (.cons _ _ (.cons _ _ .nil))))) rfl ?_
  intro D h₃ tk₃ vs ns hDl hIs hnl hnz c3₃ k₃ hD0
  dsimp only at k₃ hD0 ⊢
  have hn₂ := (hn.keeps hkH).sameBut hs₂ (by exact eL)
  have hDn : ∀ (b : Nat) o, h₂.get? b = some o → D ≠ b := fun b o q e => by rw [e, q] at hD0; cases hD0
  have hDL : D ≠ L := let ⟨o, _, _, ho, _⟩ := hn₂; hDn L o ho
  have d4 : h₂.IsCell (L + 1 + 1 + 1 + 1) none := let ⟨o, ho, q⟩ := c4; ⟨o, k₂ _ o e4 ho, q⟩
  have d5 : h₂.IsCell (L + 1 + 1 + 1 + 1 + 1) none := let ⟨o, ho, q⟩ := c5; ⟨o, k₂ _ o e5 ho, q⟩
  have d6 : h₂.IsCell (L + 1 + 1 + 1 + 1 + 1 + 1) none := let ⟨o, ho, q⟩ := c6; ⟨o, k₂ _ o e6 ho, q⟩
  have d7 : h₂.IsCell (L + 1 + 1 + 1 + 1 + 1 + 1 + 1) none := let ⟨o, ho, q⟩ := c7; ⟨o, k₂ _ o e7 ho, q⟩
  have D4 : D ≠ L + 1 + 1 + 1 + 1 := let ⟨o, ho, _⟩ := d4; hDn _ o ho
  have D5 : D ≠ L + 1 + 1 + 1 + 1 + 1 := let ⟨o, ho, _⟩ := d5; hDn _ o ho
  have D6 : D ≠ L + 1 + 1 + 1 + 1 + 1 + 1 := let ⟨o, ho, _⟩ := d6; hDn _ o ho
  have D7 : D ≠ L + 1 + 1 + 1 + 1 + 1 + 1 + 1 := let ⟨o, ho, _⟩ := d7; hDn _ o ho
  have g4 : L + 1 + 1 + 1 + 1 ≠ L + 1 + 1 + 1 := by omega
  have g5 : L + 1 + 1 + 1 + 1 + 1 ≠ L + 1 + 1 + 1 := by omega
  have g6 : L + 1 + 1 + 1 + 1 + 1 + 1 ≠ L + 1 + 1 + 1 := by omega
  have g7 : L + 1 + 1 + 1 + 1 + 1 + 1 + 1 ≠ L + 1 + 1 + 1 := by omega
  have gL : L ≠ L + 1 + 1 + 1 := by omega
  have kb : ∀ (b : Nat) (o : Obj), hb.get? b = some o → b ≠ L ∧ b ≠ L + 1 + 1 + 1 ∧ b ≠ L + 1 + 1 + 1 + 1 ∧ b ≠ L + 1 + 1 + 1 + 1 + 1 ∧ b ≠ L + 1 + 1 + 1 + 1 + 1 + 1 ∧ b ≠ L + 1 + 1 + 1 + 1 + 1 + 1 + 1 := fun b o q => by
    have := hlt b o q
    omega
  have hbk₃ : Keep hb h₃ := fun b o q => k₃ b o (kb b o q).2.1 (hbk₂ b o q)
  have hn₃ : h₃.Ns L m := let ⟨o, es, ep, ho, r⟩ := hn₂; ⟨o, es, ep, k₃ L o gL ho, r⟩
  refine law_weights G hh hbk₃ c3₃ (let ⟨o, ho, q⟩ := d4; ⟨o, k₃ _ o g4 ho, q⟩) (let ⟨o, ho, q⟩ := d5; ⟨o, k₃ _ o g5 ho, q⟩) (let ⟨o, ho, q⟩ := d6; ⟨o, k₃ _ o g6 ho, q⟩) (let ⟨o, ho, q⟩ := d7; ⟨o, k₃ _ o g7 ho, q⟩) hDl hIs hnl hnz ?_
  intro b b1 c c2 t1 t2 t3 t4 h₄ tk₄ hb0 hb1 hc hc2 x4 x5 x6 x7 k₄
  dsimp only at k₄ ⊢
  obtain ⟨N, hN, hN6⟩ : ∃ N : Nat, ns.getD 4 0 = (N : Int) ∧ N < 1000000 := by
    have hm : ns.getD 4 0 ∈ ns := by
      rw [List.getD_eq_getElem?_getD, List.getElem?_eq_getElem (show 4 < ns.length by omega)]
      exact List.getElem_mem _
    have := hnz _ hm
    exact ⟨(ns.getD 4 0).toNat, by omega, by omega⟩
  have hbk₄ : Keep hb h₄ := fun b o q => let ⟨_, _, a4, a5, a6, a7⟩ := kb b o q; k₄ b o a4 a5 a6 a7 (hbk₃ b o q)
  have y4 : L ≠ L + 1 + 1 + 1 + 1 := by omega
  have y5 : L ≠ L + 1 + 1 + 1 + 1 + 1 := by omega
  have y6 : L ≠ L + 1 + 1 + 1 + 1 + 1 + 1 := by omega
  have y7 : L ≠ L + 1 + 1 + 1 + 1 + 1 + 1 + 1 := by omega
  have hn₄ : h₄.Ns L m := let ⟨o, es, ep, ho, r⟩ := hn₃; ⟨o, es, ep, k₄ L o y4 y5 y6 y7 ho, r⟩
  have c3₄ : h₄.IsCell (L + 1 + 1 + 1) (some (.ref D)) := let ⟨o, ho, q⟩ := c3₃; ⟨o, k₄ _ o (Ne.symm g4) (Ne.symm g5) (Ne.symm g6) (Ne.symm g7) ho, q⟩
  have hD₄ : h₄.IsList D vs := let ⟨o, ho, q⟩ := hDl; ⟨o, k₄ _ o D4 D5 D6 D7 ho, q⟩
  refine law_loop G FN hh hu hroom hbk₄ hbL' hbare hn₄ hDL c3₄ x4 x5 x6 x7 hb0 hb1 hc hc2 hD₄ hIs hnl hN hN6 ?_
  intro h₅ tk₅ gs₅ m₅ R vs₅ hn₅ hsm hPl hvs k₅ hb₅
  dsimp only at k₅ ⊢
  have hbk₅ : Keep hb h₅ := fun b o q => k₅ b o (kb b o q).1 (hbk₄ b o q)
  refine law_end (hb := hb) hh hu hn₅ hsm (let ⟨o, ho, q⟩ := x4; ⟨o, k₅ _ o (Ne.symm y4) ho, q⟩) (let ⟨o, ho, q⟩ := x5; ⟨o, k₅ _ o (Ne.symm y5) ho, q⟩) (let ⟨o, ho, q⟩ := x6; ⟨o, k₅ _ o (Ne.symm y6) ho, q⟩) (let ⟨o, ho, q⟩ := x7; ⟨o, k₅ _ o (Ne.symm y7) ho, q⟩)
    hPl.isList (M0 := mom b b1 c c2 0) (M1 := mom b b1 c c2 1) (M2 := mom b b1 c c2 2) (M3 := mom b b1 c c2 3) (M4 := mom b b1 c c2 4) hvs (by rw [mom0]; decide) ((fit1 hb0 hb1 hc hc2).fit (by decide)) ((fit2 hb0 hb1 hc hc2).fit (by decide)) ((fit3 hb0 hb1 hc hc2).fit (by decide)) (hb0.fit (by decide)) (hc.fit (by decide)) ((hc.mul hc).fit (by decide))
    (mom0 ..) (mom1 ..) (han1 ..) (han2 ..) (han3 ..) ?_
  intro h₆ tk₆ k₆
  exact hQ h₆ tk₆ gs₅ (fun b o q => k₆ b o (kb b o q).1 (hbk₅ b o q)) hb₅
end
end Mine

open PySem PySem.W PyProof.Rows
set_option Elab.async false
set_option maxRecDepth 100000
set_option maxHeartbeats 8000000
namespace Mine
theorem top_gr {p : Program} {loose : List Str} {mean : ExcName → Option Value} {mg mb : Str → Option Value} {h : Heap} (T : Top p loose mean mg mb h)
    (hrec : ∀ i ∈ [1, 2, 3, 4, 6, 7, 8, 9], ∃ d ∈ recsOf p, d.name = nameOf (stmAt i) ∧ d.params = paramsOf (stmAt i) ∧ d.body = bodyOf (stmAt i) ∧ d.scope = scopeOf (stmAt i))
    (hfree : ∀ x ∈ (["enumerate", "range", "sum", "len", "list"] : List Str), x ∉ startupNames ∧ x ∉ loose ∧ x ∉ (recsOf p).map (·.name) ∧ x ∉ (litsOf p).map (·.1) ∧ x ∉ (clssOf p loose).map (·.name)) :
    Gr mg mb h where
  g := T.g
  b := T.b
  nolimit := T.nolimit
  fn := fun i hi => by
    obtain ⟨d, hd, e1, e2, e3, e4⟩ := hrec i hi
    obtain ⟨a, o, pm, code, doc, h1, h2, h3, h4⟩ := T.fn d hd
    rw [e1] at h1 h3 h4
    rw [e2, e3, e4] at h3
    exact ⟨a, o, pm, code, doc, h1, h2, h3, h4⟩
  bn := fun x hx => by
    obtain ⟨a1, a2, a3, a4, a5⟩ := hfree x hx
    refine ⟨T.free x a1 a2 a3 a4 a5, T.builtins x ?_⟩
    intro e
    rw [e] at hx
    revert hx; decide
theorem cells_at {cm : Str → Option Value} {h₀ h : Heap} {L : Nat} {cs : List (Str × Addr)} {cells : List (Addr × Obj)} (N : News h₀ L h cells) (X : CellsAre cm cs cells) : ∀ (n : Str) (c : Nat), (n, c) ∈ cs → h.IsCell c (cm n) := by
  induction X with
  | nil => intro n c hm; cases hm
  | cons hd _ ih =>
    intro n c hm
    rcases List.mem_cons.mp hm with e | hm
    · cases e; exact ⟨_, (N _ List.mem_cons_self).1, hd⟩
    · exact ih (fun p hp => N p (List.mem_cons_of_mem _ hp)) n c hm
theorem gr_fns {mg mb : Str → Option Value} {h : Heap} (G : Gr mg mb h) : ∃ fg fs fc fp fr fw fv fk, Fns mg fg fs fc fp fr fw fv fk := by
  obtain ⟨f1, _, _, _, _, g1, _⟩ := G.fn 1 (by decide)
  obtain ⟨f2, _, _, _, _, g2, _⟩ := G.fn 2 (by decide)
  obtain ⟨f3, _, _, _, _, g3, _⟩ := G.fn 3 (by decide)
  obtain ⟨f4, _, _, _, _, g4, _⟩ := G.fn 4 (by decide)
  obtain ⟨f6, _, _, _, _, g6, _⟩ := G.fn 6 (by decide)
  obtain ⟨f7, _, _, _, _, g7, _⟩ := G.fn 7 (by decide)
  obtain ⟨f8, _, _, _, _, g8, _⟩ := G.fn 8 (by decide)
  obtain ⟨f9, _, _, _, _, g9, _⟩ := G.fn 9 (by decide)
  exact ⟨f1, f2, f3, f4, f6, f7, f8, f9, ⟨g1, g2, g3, g4, g6, g7, g8, g9⟩⟩
theorem room1 {env : Env} : (callerA.deeper env).units + 20 < cLine := by show 4 + 3 + 20 < _; decide
theorem room2 {env : Env} : (callerA.deeper env).depth + 8 < recursionLimit := by show 1 + claimMargin + 1 + 8 < _; decide
end Mine
set_option maxRecDepth 100000 in
set_option maxHeartbeats 8000000 in
theorem PySem.Challenge.cw_ta0005_01_holds : PySem.Challenge.rw_ta0005_01.Holds := by
  w_on
  o_law
  k_head
  (case hw => w_witness2)
  intro w s₀ s₁ mg mb G Y fa o pm cd doc dV kV ho hdd hcd hD hmg hg args vals as hpre hlay hrd hwl hlo
  have X := (Ground.X G).1
  have V := (Ground.X G).2
  refine Ground.open G ?_
  intro T B D TE TW
  try (refine guard_noD D (by decide +kernel) ?_; clear D)
  wrow_args hpre hlay hrd hwl hlo
  all_goals (
    first | refine callC_kw (enter_call ?_) | refine enter_call ?_ | refine callC_kw (enter_callW ?_) | refine enter_callW ?_ | w_how
    w_top on
    w_call any ho hdd hcd hD T F
    have GG := Mine.top_gr T ?_ ?_
    rotate_left
    · intro i hi
      simp only [List.mem_cons, List.not_mem_nil, or_false] at hi
      rcases hi with rfl | rfl | rfl | rfl | rfl | rfl | rfl | rfl
      all_goals first
        | exact ⟨_, List.mem_of_getElem? (i := 0) rfl, rfl, rfl, rfl, rfl⟩
        | exact ⟨_, List.mem_of_getElem? (i := 1) rfl, rfl, rfl, rfl, rfl⟩
        | exact ⟨_, List.mem_of_getElem? (i := 2) rfl, rfl, rfl, rfl, rfl⟩
        | exact ⟨_, List.mem_of_getElem? (i := 3) rfl, rfl, rfl, rfl, rfl⟩
        | exact ⟨_, List.mem_of_getElem? (i := 4) rfl, rfl, rfl, rfl, rfl⟩
        | exact ⟨_, List.mem_of_getElem? (i := 5) rfl, rfl, rfl, rfl, rfl⟩
        | exact ⟨_, List.mem_of_getElem? (i := 6) rfl, rfl, rfl, rfl, rfl⟩
        | exact ⟨_, List.mem_of_getElem? (i := 7) rfl, rfl, rfl, rfl, rfl⟩
        | exact ⟨_, List.mem_of_getElem? (i := 8) rfl, rfl, rfl, rfl, rfl⟩
    · decide
    obtain ⟨fg, fs, fc, fp, fr, fw, fv, fk, FN⟩ := Mine.gr_fns GG
    rename News _ _ _ _ => NN
    rename CellsAre _ _ _ => XX
    rename IntsAre _ _ => HI
    rename Heap.IsList _ _ _ => HS
    rename (¬ ((63 : Nat) : Int) < _) => HC
    have CC := Mine.cells_at NN XX
    refine wpAny_mono (Mine.law_body GG FN rfl Mine.room1 Mine.room2 F.keep F.above (AllBare.of_eq hg) F.ns (CC "script" _ (List.mem_of_getElem? (i := 6) rfl)) (CC "seeds" _ (List.mem_of_getElem? (i := 5) rfl)) (CC "cells" _ (List.mem_of_getElem? (i := 4) rfl)) (CC "b" _ (List.mem_of_getElem? (i := 3) rfl)) (CC "b1" _ (List.mem_of_getElem? (i := 2) rfl)) (CC "c" _ (List.mem_of_getElem? (i := 1) rfl)) (CC "c2" _ (List.mem_of_getElem? (i := 0) rfl))
      HS (Mine.AllI.of_ints HI) ?_ ?_) (fun _ _ q => q) (fun _ _ e => e.elim)
    · have := HI.length
      simp only [List.size_toArray]
      omega
    · intro h' tk gs hk hb
      exact ⟨.inl ⟨_, _, [], rfl, fun _ => rfl, ReadsW.bool true, (by first | rfl | wrow_post), fun _ => ⟨List.nodup_nil, fun _ hm => nomatch hm⟩⟩, .of_keep hk, rfl, hb⟩)
