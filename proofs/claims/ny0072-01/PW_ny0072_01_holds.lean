import PyProof.Rows.All
import Wide.All
import OpenK.AllK
import Wide.FinOn
import PySem.Challenge.RW_ny0072_01
set_option Elab.async false

section
open PySem PySem.W PyProof.Rows
set_option maxRecDepth 100000
namespace Mine
open Sem (wp)

section
variable {prog : Program} {w : World} {A : Around} {E : Value → Shared → Prop} {s : Shared}

theorem no_elim {α : Type} {t : Sem α} {Q : α → Shared → Prop} (h : wpAny (model prog w) A t Q (fun _ _ => False) s) : wpAny (model prog w) A t Q E s :=
  wpAny_mono h (fun _ _ x => x) fun _ _ x => x.elim

/-- one pull at a generator def's object; the end of its body ends the walk -/
theorem next_gen {a : Addr} {g n : Nat} {gs : GenState} {P : Nat → Shared → Shared → Prop} {Y : Protocol} {Q : Option Value → Shared → Prop} (hh : A.handled = none)
    (hl : s.heap.NoLimit) (hroom : A.depth < recursionLimit)
    (hg : s.heap.IsGen a g) (hgs : s.gens[g]? = some gs)
    (hgo : gs.Goes (model prog w) A.in1 (fun n s₀ r s₁ => r = .ok (.ret .none) ∧ P n s₀ s₁) Y n (.send .none) (s.setGen g .running))
    (hY : ∀ v s₁ gs', gs'.bare = true → Y (n - 1) (s.setGen g .running) v s₁ (fun r' s'' => match n with
        | 0 => False
        | m + 1 => gs'.Goes (model prog w) A.in1 (fun n s₀ r s₁ => r = .ok (.ret .none) ∧ P n s₀ s₁) Y m r' s'') → Q (some v) (s₁.setGen g gs'))
    (hP : ∀ s₁, P n (s.setGen g .running) s₁ → ∀ h', (∀ b o, s₁.heap.get? b = some o → h'.get? b = some o) → Q none { s₁.setGen g .finished with heap := h' }) :
    wpAny (model prog w) A (pyNext (.ref a)) Q E s := by
  unfold pyNext
  refine wpAny_bind (wpAny_attempt (wpAny_callSpecial?_slot (name := Str.ofString "__next__") hg.typeIs slot_gen_next
    (wpAny_call_entry slot_gen_next hg.typeIs entry_gen_next ?_ (args_gen_next _))))
  show wpAny _ A.in1 (Builtin.Generator.genWake (.ref a) (.send .none)) _ _ s
  unfold Builtin.Generator.genWake
  refine wpAny_bind (wpAny_holding (wpAny_genNumber hg (wpAny_bind (wpAny_genState hgs ?_))))
  cases gs with
  | running => exact hgo.elim
  | finished => exact hgo.elim
  | _ =>
    refine wpAny_bind (wpAny_roomToWake hl hroom ?_)
    show wpAny _ A.in1 (.resume g (.send .none) [] _) _ _ s
    refine wpAny_resumeQ hgs hgo (fun x s₁ hx => ?_) (fun v s₁ gs' hb hv => ?_)
    · obtain ⟨rfl, hp⟩ := hx
      show wpAny _ A.in1 (newExc (.type "StopIteration") [] >>= _) _ _ _
      refine wpAny_bind ?_
      simp only [newExc, newTuple]
      refine wpAny_bind (wpAny_newObj_type ?_ (by size_fits))
      refine wpAny_bind (m := firstArgMember _ _) (wpAny_of_eq (a := Value.none) (by first | rfl | (simp only [firstArgMember]; rfl)) ?_)
      refine wpAny_newObj_type ?_ (by size_fits)
      simp only [raiseNew]
      refine wpAny_bind (wpAny_bind (wpAny_handled ?_))
      rw [show A.in1.handled = none from hh]
      refine wpAny_throw ?_
      refine wpAny_bind (wpAny_isInstance (T := "StopIteration") (b := true) ⟨_, Heap.get?_push_size _ rfl, rfl⟩ isSubtype_stop ?_)
      exact wpAny_pure (hP s₁ hp _ fun b o hb => Heap.get?_push_of_some _ (Heap.get?_push_of_some _ hb))
    · exact wpAny_pure ⟨v, rfl, wpAny_pure (hY v s₁ gs' hb hv)⟩
end

section
variable {prog : Program} {w : World} {A : Around} {R : GenEnd} {Y : Protocol} {n : Nat} {s₀ : Shared} {c : Code} {fs : List Frame} {s : Shared} {env : Env}
  {K : Flow → Sem Fin} {H : Value → Sem Fin} {gd : Bool → Bool} {lv : List Value → List Value}

theorem sg_wrap {α : Type} {m : Sem α} {K : α → Sem Fin} {H : Value → Sem Fin} {gd lv}
    (h : wpAny (model prog w) (A.over c fs) m (fun a s' => Seg (model prog w) A R Y n s₀ c (K a) fs s') (fun _ _ => False) s) :
    Seg (model prog w) A R Y n s₀ c (m.wrap K H gd lv) fs s := seg_wrap (no_elim h)

theorem sg_If {test : Expr} {body orelse : List Stmt} {pos : Pos}
    (h : wpAny (model prog w) (A.over c fs) (isTrue test env (eval test env)) (fun b s' => if b = true then Seg (model prog w) A R Y n s₀ c ((execs body env).wrap K H gd lv) fs s' else Seg (model prog w) A R Y n s₀ c ((execs orelse env).wrap K H gd lv) fs s') (fun _ _ => False) s) :
    Seg (model prog w) A R Y n s₀ c ((exec (.If test body orelse pos) env).wrap K H gd lv) fs s := by
  rw [exec_If]
  show Seg _ A R Y n s₀ c (.at pos fun _ => ((isTrue test env (eval test env)) >>= fun b => if b = true then execs body env else execs orelse env).wrap K H gd lv) fs s
  refine seg_at ?_
  rw [Sem.bind_eq_wrap', Sem.wrap_wrap]
  refine sg_wrap (wpAny_mono h (fun b s' hb => ?_) fun _ _ x => x)
  cases b
  · exact hb
  · exact hb

theorem sg_For {target iter : Expr} {body orelse : List Stmt} {pos : Pos}
    (h : wpAny (model prog w) (A.over c fs) (eval iter env) (fun x s₁ => wpAny (model prog w) (A.over c fs) (pyIter x) (fun it s₂ => ∀ p,
      Seg (model prog w) A R Y n s₀ (.forLoop target it body orelse env) ((model prog w).den (.forLoop target it body orelse env))
        (.ret (fun r => ((match r with | .ok f => (.pure f : Sem Flow) | .error e => .raise e).onRaise fun (x : Value) => do
        if (← field x 1) == Value.none then unsupported "frame.own-activation:exception-without-traceback"
        setFlight x env.frame).wrap K H gd lv) none (gd false) (lv []) c p [] :: fs) s₂) (fun _ _ => False) s₁) (fun _ _ => False) s)
    (hs : ∀ x, foldedSetIterable iter env x = pure x := by intro _; rfl) :
    Seg (model prog w) A R Y n s₀ c ((exec (.For target iter body orelse pos) env).wrap K H gd lv) fs s := by
  rw [exec_For]
  show Seg _ A R Y n s₀ c (.at pos fun _ => (eval iter env >>= fun x => foldedSetIterable iter env x >>= fun x => standAt iter.pos >>= fun _ => holding [x] (pyIter x) >>= fun it => runOwn (.forLoop target it body orelse env) env).wrap K H gd lv) fs s
  refine seg_at ?_
  rw [Sem.bind_eq_wrap', Sem.wrap_wrap]
  refine sg_wrap (wpAny_mono h (fun x s₁ h₁ => ?_) fun _ _ x => x)
  rw [hs x]
  show Seg _ A R Y n s₀ c (.at iter.pos fun _ => (holding [x] (pyIter x) >>= fun it => runOwn (.forLoop target it body orelse env) env).wrap K H gd lv) fs s₁
  refine seg_at ?_
  rw [Sem.bind_eq_wrap', Sem.wrap_wrap]
  refine sg_wrap (wpAny_holding (wpAny_mono h₁ (fun it s₂ h₂ => ?_) fun _ _ x => x))
  exact seg_call h₂

theorem sg_forLoop {target : Expr} {it : Value} {body : List Stmt}
    (h : wpAny (model prog w) (A.over (.forLoop target it body [] env) fs) (pyNext it) (fun r s₁ => match r with
      | none => Seg (model prog w) A R Y n s₀ (.block [] env) (.pure (.done .next)) fs s₁
      | some v => wpAny (model prog w) (A.over (.forLoop target it body [] env) fs) (letOwnedTupleGo target it v) (fun _ s₂ =>
          wpAny (model prog w) (A.over (.forLoop target it body [] env) fs) (assign target env v) (fun _ s₃ =>
            Seg (model prog w) A R Y n s₀ (.forLoop target it body [] env) ((execs body env).wrap (fun f => match f with
              | .next | .cont => .pure (.again (.forLoop target it body [] env))
              | .brk => .pure (.done .next)
              | .ret v => .pure (.done (.ret v))) (fun e => (do noteFrame e env; theTreesLotGoes e : Sem Unit).wrap (fun _ => .raise e) .raise id id) id id) fs s₃) (fun _ _ => False) s₂) (fun _ _ => False) s₁) (fun _ _ => False) s) :
    Seg (model prog w) A R Y n s₀ (.forLoop target it body [] env) ((model prog w).den (.forLoop target it body [] env)) fs s := by
  show Seg _ A R Y n s₀ _ ((forTurn target it body [] env).onRaise (fun x => do noteFrame x env; theTreesLotGoes x)) fs s
  unfold forTurn
  rw [Sem.onRaise_eq_wrap]
  show Seg _ A R Y n s₀ _ (.at target.pos fun _ => Sem.wrap _ _ _ _ (_ >>= _)) fs s
  refine seg_at ?_
  rw [Sem.bind_eq_wrap', Sem.wrap_wrap]
  refine sg_wrap (wpAny_pure ?_)
  rw [Sem.bind_eq_wrap', Sem.wrap_wrap]
  refine sg_wrap (wpAny_onRaise (wpAny_mono h (fun r s₁ h₁ => ?_) fun _ _ x => x.elim))
  cases r with
  | none =>
    refine seg_again rfl ?_
    exact h₁
  | some v =>
    show Seg _ A R Y n s₀ _ (Sem.wrap _ _ _ _ (letOwnedTupleGo target it v >>= _)) fs s₁
    rw [Sem.bind_eq_wrap', Sem.wrap_wrap]
    refine sg_wrap (wpAny_mono h₁ (fun _ s₂ h₂ => ?_) fun _ _ x => x)
    show Seg _ A R Y n s₀ _ (Sem.wrap _ _ _ _ (assign target env v >>= _)) fs s₂
    rw [Sem.bind_eq_wrap', Sem.wrap_wrap]
    refine sg_wrap (wpAny_mono h₂ (fun _ s₃ h₃ => ?_) fun _ _ x => x)
    show Seg _ A R Y n s₀ _ (Sem.wrap _ _ _ _ (execs body env >>= _)) fs s₃
    rw [Sem.bind_eq_wrap', Sem.wrap_wrap]
    rw [Sem.wrap_congr (execs body env) _ _ (K' := fun f => match f with
            | .next | .cont => .pure (.again (.forLoop target it body [] env))
            | .brk => .pure (.done .next)
            | .ret v => .pure (.done (.ret v))) (H' := (fun e => (do noteFrame e env; theTreesLotGoes e : Sem Unit).wrap (fun _ => .raise e) .raise id id))
        (fun f => by cases f <;> rfl)
        (fun e => by first | exact Sem.bind_eq_wrap _ _ | (show (do noteFrame e env; theTreesLotGoes e : Sem Unit).bind (fun _ => .raise e) = _; rw [Sem.bind_eq_wrap]))]
    exact h₃
end
end Mine
end

section
open PySem PySem.W PyProof.Rows
set_option maxRecDepth 100000
namespace Mine

def escL (i : Nat) (b : Bool) : List Nat → List (Nat × Str)
  | [] => if b = true then [(i - 1, Str.ofString "\\")] else []
  | c :: cs => if b = true then (i, Str.ofString "\\" ++ ⟨#[c]⟩) :: escL (i + 1) false cs
    else if ((⟨#[c]⟩ : Str) == Str.ofString "\\") = true then escL (i + 1) true cs else (i, ⟨#[c]⟩) :: escL (i + 1) false cs

def stAt (k : Nat) : Stmt := (PySem.Challenge.pw_ny0072_01.main.body)[k]?.getD (.Pass default)
def bodyOf (st : Stmt) : List Stmt := match st with | .FunctionDef _ _ b _ _ _ _ _ _ _ => b | _ => []
def scopeOf (st : Stmt) : Scope := match st with | .FunctionDef _ _ _ _ _ _ sc _ _ _ => sc | _ => default
def gB : List Stmt := bodyOf (stAt 1)
def gS : Scope := scopeOf (stAt 1)
def forT (st : Stmt) : Expr := match st with | .For t _ _ _ _ => t | _ => .Name (Str.ofString "") default
def forB (st : Stmt) : List Stmt := match st with | .For _ _ b _ _ => b | _ => []
def gFor : Stmt := gB[2]?.getD (.Pass default)
def gT : Expr := forT gFor
def gL : List Stmt := forB gFor
abbrev gEnv (L : Addr) (cd : Value) : Env := envOf (Str.ofString "_iter_escaped_chars") gS L 21 cd

theorem fr_of {h : Heap} {L : Addr} {m : Str → Option Value} (n : h.Ns L m) : Fr {} L h m := ⟨n, fun b o e => by simp [Heap.get?] at e, Nat.zero_le _⟩


def Mv (L e it : Addr) (s s' : Shared) : Prop := (∃ h tk, s' = { s with heap := h, toks := tk }) ∧ ∀ b o, b ≠ L → b ≠ e → b ≠ it → s.heap.get? b = some o → s'.heap.get? b = some o
theorem Mv.refl {L e it : Addr} (s : Shared) : Mv L e it s s := ⟨⟨s.heap, s.toks, rfl⟩, fun _ _ _ _ _ h => h⟩
theorem Mv.then {L e it : Addr} {s s' : Shared} (M : Mv L e it s s') {h : Heap} {tk : Nat} (k : ∀ b o, b ≠ L → b ≠ e → b ≠ it → s'.heap.get? b = some o → h.get? b = some o) : Mv L e it s { s' with heap := h, toks := tk } := by
  obtain ⟨⟨h', tk', rfl⟩, k'⟩ := M
  exact ⟨⟨h, tk, rfl⟩, fun b o h1 h2 h3 x => k b o h1 h2 h3 (k' b o h1 h2 h3 x)⟩

abbrev tupOf (vs : Array Value) : Obj := { cls := .type "tuple", data := .seq vs }

def gY (items : List (Nat × Str)) (L e it : Addr) : Protocol := fun n s₀ v s' kap => ∃ (T : Addr) (p : Nat) (c : Str) (t u : Tok),
  items[items.length - (n + 1)]? = some (p, c) ∧ v = .ref T ∧ s'.heap.get? T = some (tupOf #[.int (p : Int) t, .str c u]) ∧ s₀.heap.get? T = none ∧ Mv L e it s₀ s' ∧
  ∀ s'' : Shared, (∀ b o, b = L ∨ b = e ∨ b = it → s'.heap.get? b = some o → s''.heap.get? b = some o) → kap (.send .none) s''
def gR (L e it : Addr) : GenEnd := fun n s₀ r s₁ => r = .ok (.ret .none) ∧ (n = 0 ∧ Mv L e it s₀ s₁)

structure LE (L e : Addr) (i : Nat) (b : Bool) (m : Str → Option Value) (h : Heap) : Prop where
  en : ∃ o, h.get? e = some o
  ns : h.Ns L m
  esc : m (Str.ofString "escape") = some (.bool b)
  pos : ∃ t, m (Str.ofString "pos") = some (.int ((i - 1 : Nat) : Int) t)
structure LS (x : Str) (tx : Tok) (L e it : Addr) (i : Nat) (b : Bool) (m : Str → Option Value) (h : Heap) : Prop where
  en : ∃ old, IsEnum h e it (i : Int) old
  st : h.IsStrIter it (strIterType x) x tx i
  ns : h.Ns L m
  esc : m (Str.ofString "escape") = some (.bool b)
  pos : ∃ t, m (Str.ofString "pos") = some (.int ((i - 1 : Nat) : Int) t)

theorem str_draws {prog : Program} {w : World} {A : Around} (hh : A.handled = none) (it : Addr) (x : Str) (t : Tok) :
    Draws prog w A it [it] x.cps.size (fun i v => ∃ c u, x.cps[i]? = some c ∧ v = .str ⟨#[c]⟩ u) (fun i h => h.IsStrIter it (strIterType x) x t i) := by
  unfold strIterType
  cases x.cps.all (· < 128)
  · exact Draws.strWide hh it x t
  · exact Draws.strAscii hh it x t

section
variable {w : World} {A : Around} {x : Str} {tx : Tok} {L e it : Addr} {cd : Value} {items : List (Nat × Str)} {fs : List Frame}
abbrev P0 := PySem.Challenge.pw_ny0072_01

abbrev gCode (L e : Addr) (cd : Value) : Code := .forLoop gT (.ref e) gL [] (gEnv L cd)

theorem Mv.new {L e it : Addr} {s s' : Shared} (M : Mv L e it s s') (hL : ∃ o, s'.heap.get? L = some o) (hE : ∃ o, s'.heap.get? e = some o) (hlt : it < e) : s.heap.get? s'.heap.objs.size = none := by
  cases q : s.heap.get? s'.heap.objs.size with
  | none => rfl
  | some o =>
    exfalso
    obtain ⟨oL, hL⟩ := hL
    obtain ⟨oE, hE⟩ := hE
    have h1 := Heap.lt_size hL
    have h2 := Heap.lt_size hE
    have := M.2 s'.heap.objs.size o (Nat.ne_of_gt h1) (Nat.ne_of_gt h2) (Nat.ne_of_gt (Nat.lt_trans hlt h2)) q
    exact absurd (Heap.lt_size this) (Nat.lt_irrefl _)
theorem suf_get {α : Type} {items pre rest : List α} {a : α} (h : items = pre ++ a :: rest) : items[items.length - (rest.length + 1)]? = some a := by
  subst h
  have : (pre ++ a :: rest).length - (rest.length + 1) = pre.length := by simp
  rw [this]; simp

/-- the yield of a pair, and what follows it -/
theorem gen_yield {c₀ : Code} {n : Nat} {tup : Expr} {ypos pos : Pos} {K : Flow → Sem Fin} {H : Value → Sem Fin} {s₀ s : Shared} {pre rest : List (Nat × Str)} {p : Nat} {ch : Str} 
    (hfs : splitAtGen fs = none) (hfg : fs.any Frame.guarded = false) (hsuf : items = pre ++ (p, ch) :: rest) (hn : n = rest.length) (M : Mv L e it s₀ s) (hL : ∃ o, s.heap.get? L = some o) (hE : ∃ o, s.heap.get? e = some o) (hlt : it < e)
    (hev : ∀ (Q : Value → Shared → Prop), (∀ (h : Heap) (tk : Nat) (t u : Tok), h.get? s.heap.objs.size = some (tupOf #[.int (p : Int) t, .str ch u]) → (∀ b o, s.heap.get? b = some o → h.get? b = some o) → Q (.ref s.heap.objs.size) { s with heap := h, toks := tk }) →
      wpAny (model P0 w) (A.over c₀ fs) (eval tup (gEnv L cd)) Q (fun _ _ => False) s)
    (hgo : ∀ s'' : Shared, (∀ b o, b = L ∨ b = e ∨ b = it → s.heap.get? b = some o → s''.heap.get? b = some o) → Seg (model P0 w) A (gR L e it) (gY items L e it) n s'' c₀ (K .next) fs s'') :
    Seg (model P0 w) A (gR L e it) (gY items L e it) (n + 1) s₀ c₀ ((exec (.Expr (.Yield (some tup) ypos) pos) (gEnv L cd)).wrap K H id id) fs s := by
  refine seg_Expr_Yield hfs rfl hfg ?_ rfl rfl
  refine no_elim (hev _ fun h tk t u hT hk kap hkap => ?_)
  refine ⟨s.heap.objs.size, p, ch, t, u, ?_, rfl, hT, ?_, M.then fun b o _ _ _ e => hk b o e, fun s'' hs'' => hkap _ _ ?_⟩
  · rw [hn]; exact suf_get hsuf
  · exact M.new hL hE hlt
  · exact hgo s'' fun b o hb he => hs'' b o hb (hk b o he)

structure TS (x : Str) (tx : Tok) (L e it : Addr) (i : Nat) (b : Bool) (c : Nat) (m : Str → Option Value) (h : Heap) : Prop where
  en : ∃ old, IsEnum h e it ((i + 1 : Nat) : Int) old
  st : h.IsStrIter it (strIterType x) x tx (i + 1)
  ns : h.Ns L m
  esc : m (Str.ofString "escape") = some (.bool b)
  pos : ∃ t, m (Str.ofString "pos") = some (.int (i : Int) t)
  ch : ∃ t, m (Str.ofString "ch") = some (.str ⟨#[c]⟩ t)

theorem gen_turn {i : Nat} {b : Bool} {c : Nat} {cs : List Nat} {m : Str → Option Value} {s₀ s : Shared} {pre : List (Nat × Str)} (hx : x.cps.size + 1 ≤ sizeLine) (hLe : L ≠ e) (hLi : L ≠ it) (hlt : it < e) (hfs : splitAtGen fs = none) (hfg : fs.any Frame.guarded = false)
    (S : TS x tx L e it i b c m s.heap) (M : Mv L e it s₀ s) (hpre : items = pre ++ escL i b (c :: cs))
    (ih : ∀ b' m' (s₀' s' : Shared), LS x tx L e it (i + 1) b' m' s'.heap → Mv L e it s₀' s' → (∃ pre, items = pre ++ escL (i + 1) b' cs) →
      Seg (model P0 w) A (gR L e it) (gY items L e it) (escL (i + 1) b' cs).length s₀' (gCode L e cd) ((model P0 w).den (gCode L e cd)) fs s') :
    Seg (model P0 w) A (gR L e it) (gY items L e it) (escL i b (c :: cs)).length s₀ (gCode L e cd) ((execs gL (gEnv L cd)).wrap (fun f => match f with
              | .next | .cont => .pure (.again (gCode L e cd))
              | .brk => .pure (.done .next)
              | .ret v => .pure (.done (.ret v))) (fun e => (do noteFrame e (gEnv L cd); theTreesLotGoes e : Sem Unit).wrap (fun _ => .raise e) .raise id id) id id) fs s := by
  have F := fr_of S.ns
  obtain ⟨oL, _, _, hoL, _⟩ := id S.ns
  obtain ⟨old, hen⟩ := id S.en
  obtain ⟨oI, hoI, hrI⟩ := id S.st
  obtain ⟨tp, hpos⟩ := S.pos
  obtain ⟨tc, hch⟩ := S.ch
  refine seg_execs_cons (sg_If ?_)
  refine isTrue_plain ?_
  refine ld F S.esc (wpAny_truthy_bool ?_)
  cases b with
  | true =>
    rw [if_pos rfl]
    have e1 : escL i true (c :: cs) = (i, Str.ofString "\\" ++ ⟨#[c]⟩) :: escL (i + 1) false cs := rfl
    rw [e1] at hpre ⊢
    refine seg_execs_cons ?_
    refine gen_yield hfs hfg hpre rfl M ⟨_, hoL⟩ ⟨_, hen⟩ hlt (fun Q hQ => ?_) fun s'' hs'' => ?_
    · refine Tuple_ (spliced_more (ld F hpos (spliced_more (wpAny_BinOp (Calls.Constant_str (ld F hch (PyProof.Rows.add_str (fun t' tk => spliced_none ?_) ?_)))))))
      · refine wpAny_newObj_type (hQ _ _ _ _ (Heap.get?_push_size _ rfl) fun b o y => Heap.get?_push_of_some _ y) (by size_fits)
      · size_fits
    · refine seg_execs_cons (sg_wrap ?_)
      have F'' : Fr {} L s''.heap m := fr_of (S.ns.at fun o y => hs'' _ o (.inl rfl) y)
      refine wpAny_Assign_Name (wpAny_Constant_bool (wpAny_storeName_local rfl F''.ns (fun h₁ hn₁ hs₁ => ?_) rfl))
      refine seg_again rfl (ih false _ s'' _ ⟨⟨old, ?_⟩, ⟨oI, ?_, ?_⟩, hn₁, if_pos rfl, tp, ?_⟩ ?_ ⟨pre ++ [(i, Str.ofString "\\" ++ ⟨#[c]⟩)], by rw [hpre]; simp⟩)
      · exact hs₁.extBut _ _ (Ne.symm hLe) (hs'' _ _ (.inr (.inl rfl)) hen)
      · exact hs₁.extBut _ _ (Ne.symm hLi) (hs'' _ _ (.inr (.inr rfl)) hoI)
      · exact hrI
      · show (if _ then _ else _) = _
        rw [if_neg (by decide)]; exact hpos
      · exact (Mv.refl s'').then fun b o h1 _ _ y => hs₁.extBut b o h1 y
  | false =>
    rw [if_neg Bool.false_ne_true]
    refine seg_execs_cons (sg_If ?_)
    refine wpAny_isTrue_Compare1 (ld F hch (Calls.Constant_str (PyProof.Rows.eq_str (wpAny_truthy_bool ?_))))
    cases hb : ((⟨#[c]⟩ : Str) == Str.ofString "\\") with
    | true =>
      rw [if_pos rfl]
      have e1 : escL i false (c :: cs) = escL (i + 1) true cs := by
        show (if false = true then _ else if _ then _ else _) = _
        rw [if_neg Bool.false_ne_true, if_pos hb]
      rw [e1] at hpre ⊢
      refine seg_execs_cons (sg_wrap ?_)
      refine wpAny_Assign_Name (wpAny_Constant_bool (wpAny_storeName_local rfl S.ns (fun h₁ hn₁ hs₁ => ?_) rfl))
      refine seg_again rfl (ih true _ s₀ _ ⟨⟨old, ?_⟩, ⟨oI, ?_, ?_⟩, hn₁, if_pos rfl, tp, ?_⟩ ?_ ⟨pre, hpre⟩)
      · exact hs₁.extBut _ _ (Ne.symm hLe) hen
      · exact hs₁.extBut _ _ (Ne.symm hLi) hoI
      · exact hrI
      · show (if _ then _ else _) = _
        rw [if_neg (by decide)]; exact hpos
      · exact M.then fun b o h1 _ _ y => hs₁.extBut b o h1 y
    | false =>
      rw [if_neg Bool.false_ne_true]
      have e1 : escL i false (c :: cs) = (i, ⟨#[c]⟩) :: escL (i + 1) false cs := by
        show (if false = true then _ else if _ then _ else _) = _
        rw [if_neg Bool.false_ne_true, if_neg (by rw [hb]; exact Bool.false_ne_true)]
      rw [e1] at hpre ⊢
      refine seg_execs_cons ?_
      refine gen_yield hfs hfg hpre rfl (M.then (h := s.heap) (tk := s.toks + 1) fun _ _ _ _ _ y => y) ⟨_, hoL⟩ ⟨_, hen⟩ hlt (fun Q hQ => ?_) fun s'' hs'' => ?_
      · refine Tuple_ (spliced_more (ld F hpos (spliced_more (ld F hch (spliced_none ?_)))))
        exact wpAny_newObj_type (hQ _ _ _ _ (Heap.get?_push_size _ rfl) fun b o y => Heap.get?_push_of_some _ y) (by size_fits)
      · refine seg_again rfl (ih false _ s'' _ ⟨⟨old, ?_⟩, ⟨oI, ?_, ?_⟩, S.ns.at fun o y => hs'' _ o (.inl rfl) y, S.esc, tp, hpos⟩ (Mv.refl s'') ⟨pre ++ [(i, ⟨#[c]⟩)], by rw [hpre]; simp⟩)
        · exact hs'' _ _ (.inr (.inl rfl)) hen
        · exact hs'' _ _ (.inr (.inr rfl)) hoI
        · exact hrI

theorem gen_loop (hh : (A.over (gCode L e cd) fs).handled = none) (hLe : L ≠ e) (hLi : L ≠ it) (hlt : it < e) (hfs : splitAtGen fs = none) (hfg : fs.any Frame.guarded = false) (hx : x.cps.size + 1 ≤ sizeLine)
    (hend : ∀ b m (s₀ s : Shared), LE L e x.cps.size b m s.heap → Mv L e it s₀ s → (∃ pre, items = pre ++ escL x.cps.size b []) → Seg (model P0 w) A (gR L e it) (gY items L e it) (escL x.cps.size b []).length s₀ (.block [] (gEnv L cd)) (.pure (.done .next)) fs s) :
    ∀ k i b m (s₀ s : Shared), i + k = x.cps.size → LS x tx L e it i b m s.heap → Mv L e it s₀ s → (∃ pre, items = pre ++ escL i b (x.cps.toList.drop i)) →
      Seg (model P0 w) A (gR L e it) (gY items L e it) (escL i b (x.cps.toList.drop i)).length s₀ (gCode L e cd) ((model P0 w).den (gCode L e cd)) fs s := by
  have hei : e ≠ it := Nat.ne_of_gt hlt
  have D := str_draws (prog := P0) (w := w) (A := (A.over (gCode L e cd) fs).in1) hh it x tx
  have W := WalksT.enumerateD (prog := P0) (w := w) (A := A.over (gCode L e cd) fs) D e hei (by simpa using hei) (by simp)
  intro k
  induction k with
  | zero =>
    intro i b m s₀ s hi S M hsuf
    have hi' : i = x.cps.size := by omega
    subst hi'
    have hd : x.cps.toList.drop x.cps.size = [] := List.drop_eq_nil_of_le (by simp)
    rw [hd] at hsuf ⊢
    obtain ⟨old, hen⟩ := S.en
    refine sg_forLoop (wpAny_pyNext_enum_endD D hen S.st fun h' hk => ?_)
    exact hend b m s₀ _ ⟨⟨_, hk _ _ hei hen⟩, S.ns.at fun o y => hk _ o hLi y, S.esc, S.pos⟩ (M.then fun b o _ _ h3 y => hk b o h3 y) hsuf
  | succ k ih =>
    intro i b m s₀ s hi S M hsuf
    have hlt' : i < x.cps.size := by omega
    have hdr : x.cps.toList.drop i = x.cps[i] :: x.cps.toList.drop (i + 1) := by
      rw [List.drop_eq_getElem_cons (by simpa using hlt')]; simp
    obtain ⟨pre, hpre⟩ := hsuf
    rw [hdr] at hpre ⊢
    refine sg_forLoop (W.item i _ _ _ hlt' ⟨S.en, S.st⟩ fun T vals h₁ tk₁ hP hT hT₁ hM₁ hk₁ => ?_)
    obtain ⟨t, v, ⟨c, u, hc, rfl⟩, rfl⟩ := hP
    have hc' : x.cps[i] = c := by rw [Array.getElem?_eq_getElem hlt'] at hc; exact Option.some.inj hc
    rw [hc'] at hpre ⊢
    have hTw := W.apart _ _ _ hM₁
    refine (W.go _ _ _ i T { s with heap := h₁, toks := tk₁ } _ _ hM₁ fun h₂ hS₂ hk₂ => ?_ : wpAny (model P0 w) (A.over (gCode L e cd) fs) (letOwnedTupleGo gT (.ref e) (.ref T)) _ _ _)
    have hT₂ : h₂.IsTuple T #[.int (i : Int) t, .str ⟨#[c]⟩ u] := hT₁.at fun o y => hk₂ _ o hTw y
    have hns₂ : h₂.Ns L m := (S.ns.at fun o y => hk₁ _ o (by simp [hLe, hLi]) y).at fun o y => hk₂ _ o (by simp [hLe, hLi]) y
    refine (wpAny_assign_Tuple (s := { s with heap := h₂, toks := tk₁ }) (items := #[.int (i : Int) t, .str ⟨#[c]⟩ u]) hh hT₂ rfl rfl fun h₃ hx₃ => ?_ : wpAny (model P0 w) (A.over (gCode L e cd) fs) (assign gT (gEnv L cd) (.ref T)) _ _ _)
    replace hx₃ : Heap.ExtBut h₂.objs.size h₂ h₃ := hx₃
    have old₃ : ∀ b o, h₂.get? b = some o → h₃.get? b = some o := fun b o y => hx₃ b o (Nat.ne_of_lt (Heap.lt_size y)) y
    have hns₃ : h₃.Ns L m := hns₂.at fun o y => old₃ _ o y
    show wpAny (model P0 w) (A.over (gCode L e cd) fs) (do holding [.str ⟨#[c]⟩ u] (assign (.Name (Str.ofString "pos") _) (gEnv L cd) (.int (i : Int) t)); do holding [] (assign (.Name (Str.ofString "ch") _) (gEnv L cd) (.str ⟨#[c]⟩ u)); pure ()) _ _ _
    refine wpAny_bind (wpAny_holding (wpAny_assign_Name (wpAny_storeName_local rfl hns₃ (fun h₄ hns₄ hs₄ => ?_) rfl)))
    replace hs₄ : Heap.SameBut L h₃ h₄ := hs₄
    refine wpAny_bind (wpAny_holding (wpAny_assign_Name (wpAny_storeName_local rfl hns₄ (fun h₅ hns₅ hs₅ => wpAny_pure ?_) rfl)))
    replace hs₅ : Heap.SameBut L h₄ h₅ := hs₅
    have up : ∀ b o, b ≠ L → h₂.get? b = some o → h₅.get? b = some o := fun b o hb y => hs₅.extBut b o hb (hs₄.extBut b o hb (old₃ b o y))
    refine' gen_turn (tx := tx) hx hLe hLi hlt hfs hfg ?S ?M hpre ?ih
    case ih => exact fun b' m' s₀' s' S' M' hs' => ih (i + 1) b' m' s₀' s' (by omega) S' M' hs'
    case M => exact M.then fun b o h1 h2 h3 y => up b o h1 (hk₂ b o (by simp [h2, h3]) (hk₁ b o (by simp [h2, h3]) y))
    case S =>
     refine ⟨?_, ?_, hns₅, ?_, ?_, ?_⟩
     · obtain ⟨old, ho⟩ := hS₂.1
       exact ⟨old, up e _ (Ne.symm hLe) ho⟩
     · obtain ⟨o, ho, r⟩ := hS₂.2
       exact ⟨o, up it o (Ne.symm hLi) ho, r⟩
     · show (if _ then _ else if _ then _ else _) = _
       rw [if_neg (by decide), if_neg (by decide)]; exact S.esc
     · refine ⟨t, ?_⟩
       show (if _ then _ else if _ then _ else _) = _
       rw [if_neg (by decide), if_pos rfl]
     · exact ⟨u, if_pos rfl⟩
end
end Mine
end

section
open PySem PySem.W PyProof.Rows
set_option maxRecDepth 100000
namespace Mine

def nameOf (st : Stmt) : Str := match st with | .FunctionDef n _ _ _ _ _ _ _ _ _ => n | _ => Str.ofString ""
def paramsOf (st : Stmt) : Arguments := match st with | .FunctionDef _ p _ _ _ _ _ _ _ _ => p | _ => ⟨[], [], none, [], [], none, []⟩

/-- the def st stands at a -/
def FnAt (h : Heap) (a : Addr) (st : Stmt) : Prop := ∃ o pm code doc, h.get? a = some o ∧ o.data = .func (Calls.docDef (nameOf st) (paramsOf st) (bodyOf st) (scopeOf st) pm code doc) ∧ h.CodeRec code (nameOf st)
theorem FnAt.keeps {h h' : Heap} {a : Addr} {st : Stmt} (x : FnAt h a st) (hk : ∀ b o, h.get? b = some o → h'.get? b = some o) : FnAt h' a st :=
  let ⟨o, pm, code, doc, h1, h2, h3⟩ := x; ⟨o, pm, code, doc, hk _ _ h1, h2, h3.keeps hk⟩

/-- the names that the defs read -/
structure Nm (mg mb : Str → Option Value) : Prop where
  enumerate : mg (Str.ofString "enumerate") = none ∧ mb (Str.ofString "enumerate") = some (.type "enumerate")
  len : mg (Str.ofString "len") = none ∧ mb (Str.ofString "len") = some (.builtin "len")
  range : mg (Str.ofString "range") = none ∧ mb (Str.ofString "range") = some (.type "range")
  list : mg (Str.ofString "list") = none ∧ mb (Str.ofString "list") = some (.type "list")
  max : mg (Str.ofString "max") = none ∧ mb (Str.ofString "max") = some (.builtin "max")
  zip : mg (Str.ofString "zip") = none ∧ mb (Str.ofString "zip") = some (.type "zip")
  sum : mg (Str.ofString "sum") = none ∧ mb (Str.ofString "sum") = some (.builtin "sum")
  dict : mg (Str.ofString "dict") = none ∧ mb (Str.ofString "dict") = some (.type "dict")
  valueError : mg (Str.ofString "ValueError") = none ∧ mb (Str.ofString "ValueError") = some (.type "ValueError")
  f1 : mg (Str.ofString "_iter_escaped_chars") = some (.ref 21)
  f2 : mg (Str.ofString "_strip_quoted_realnames") = some (.ref 28)
  f3 : mg (Str.ofString "_check_parenthesis") = some (.ref 35)
  f4 : mg (Str.ofString "_pre_parse_validation") = some (.ref 42)
  f6 : mg (Str.ofString "_deduplicate") = some (.ref 50)
  f7 : mg (Str.ofString "_deduplicate_unhashable") = some (.ref 57)
  f8 : mg (Str.ofString "_compare_args_orderless") = some (.ref 64)
  f10 : mg (Str.ofString "_law_ring") = some (.ref 69)
  f11 : mg (Str.ofString "_law_rings") = some (.ref 76)
  f12 : mg (Str.ofString "_law_place") = some (.ref 83)

structure Tp (mg mb : Str → Option Value) (h : Heap) : Prop where
  g : h.Ns mainGlobals mg
  b : h.Ns builtinsNs mb
  nolimit : h.NoLimit
  f1 : FnAt h 21 (stAt 1)
  f2 : FnAt h 28 (stAt 2)
  f3 : FnAt h 35 (stAt 3)
  f4 : FnAt h 42 (stAt 4)
  f7 : FnAt h 57 (stAt 7)
  f8 : FnAt h 64 (stAt 8)
  f10 : FnAt h 69 (stAt 10)
  f11 : FnAt h 76 (stAt 11)
  f12 : FnAt h 83 (stAt 12)
theorem Tp.keeps {mg mb : Str → Option Value} {h h' : Heap} (T : Tp mg mb h) (hk : ∀ b o, h.get? b = some o → h'.get? b = some o) : Tp mg mb h' :=
  ⟨T.g.keeps hk, T.b.keeps hk, T.nolimit.keeps hk, T.f1.keeps hk, T.f2.keeps hk, T.f3.keeps hk, T.f4.keeps hk, T.f7.keeps hk, T.f8.keeps hk, T.f10.keeps hk, T.f11.keeps hk, T.f12.keeps hk⟩

section
variable {w : World} {A : Around} {x : Str} {tx : Tok} {L e it : Addr} {cd : Value} {mg mb : Str → Option Value}

theorem gen_func (hN : Nm mg mb) {s : Shared} {h₀ : Heap} {m : Str → Option Value} (hh : A.handled = none) (T : Tp mg mb h₀) (F : Fr h₀ L s.heap m) (ha : m (Str.ofString "addr") = some (.str x tx))
    (hit : s.heap.objs.size = it) (he : e = it + 1) (hx : x.cps.size + 1 ≤ sizeLine) :
    Seg (model P0 w) A (gR L e it) (gY (escL 0 false x.cps.toList) L e it) (escL 0 false x.cps.toList).length s (.func gB (gEnv L cd)) ((model P0 w).den (.func gB (gEnv L cd))) [] s := by
  have hLlt := F.ns.lt
  have hLi : L ≠ it := by rw [← hit]; exact Nat.ne_of_lt hLlt
  have hLe : L ≠ e := by rw [he, ← hit]; exact Nat.ne_of_lt (Nat.lt_succ_of_lt hLlt)
  have hlt : it < e := by rw [he]; exact Nat.lt_succ_self _
  refine seg_func ?_
  refine seg_execs_cons (sg_wrap (wpAny_Assign_Name (wpAny_Constant_int (wpAny_storeName_local rfl F.ns (fun h₁ hn₁ hs₁ => ?_) rfl))))
  refine seg_execs_cons (sg_wrap (wpAny_Assign_Name (wpAny_Constant_bool (wpAny_storeName_local rfl hn₁ (fun h₂ hn₂ hs₂ => ?_) rfl))))
  replace hs₁ : Heap.SameBut L s.heap h₁ := hs₁
  replace hs₂ : Heap.SameBut L h₁ h₂ := hs₂
  have F₁ := F.set hn₁ hs₁
  have F₂ := F₁.set hn₂ hs₂
  have hz : h₂.objs.size = it := by rw [hs₂.1, hs₁.1, hit]
  refine seg_execs_cons (sg_For ?_)
  refine Call_Name rfl ?_
  refine ld_builtin_at F₂ T.g hN.enumerate.1 T.b hN.enumerate.2 ?_
  have hm₂ : (fun y => if y = Str.ofString "escape" then some (Value.bool false) else if y = Str.ofString "pos" then some (Value.int 0 s.toks) else m y) (Str.ofString "addr") = some (.str x tx) := by
    show (if _ then _ else if _ then _ else _) = _
    rw [if_neg (by decide), if_neg (by decide)]; exact ha
  refine PyProof.Rows.callWith_type1 (spliced_more (ld F₂ hm₂ (spliced_none ?_)))
  refine call_enumerate_str fun h₃ hen hst hz₃ hk₃ => ?_
  replace hen : IsEnum h₃ e it 0 .none := by rw [he, ← hz]; exact hen
  replace hst : h₃.IsStrIter it (strIterType x) x tx 0 := by rw [← hz]; exact hst
  replace hk₃ : ∀ b o, h₂.get? b = some o → h₃.get? b = some o := hk₃
  have heq : (h₂.objs.size + 1) = e := by rw [he, hz]
  rw [show ({ s with heap := h₂, toks := s.toks + 1 + 1 + 1 } : Shared).heap.objs.size + 1 = e from heq]
  refine wpAny_pyIter_enum hen ?_
  intro p
  have M₀ : Mv L e it s { s with heap := h₃, toks := s.toks + 1 + 1 + 1 } := (Mv.refl s).then fun b o h1 _ _ y => hk₃ b o (hs₂.extBut b o h1 (hs₁.extBut b o h1 y))
  refine gen_loop (x := x) (tx := tx) (A := A) ?hh hLe hLi hlt rfl rfl hx ?hend x.cps.size 0 false _ s _ (by omega) ⟨⟨_, hen⟩, hst, F₂.ns.at fun o y => hk₃ _ o y, if_pos rfl, s.toks, ?_⟩ ?_ ⟨[], by simp⟩
  case hh => show (marksOver _ (A.handled, A.handled)).1 = none; rw [hh]; rfl
  case hend =>
    intro b m' s₀ s' S' M' hsuf
    refine seg_leaf (.ok .next) ?_
    have F' := fr_of S'.ns
    obtain ⟨oL, _, _, hoL, _⟩ := id S'.ns
    obtain ⟨tp, hpos⟩ := S'.pos
    show Seg _ A _ _ _ _ _ ((execs [_] (gEnv L cd)).wrap _ _ _ _) _ _
    refine seg_execs_cons (sg_If (isTrue_plain (ld F' S'.esc (wpAny_truthy_bool ?_))))
    obtain ⟨pre, hpre⟩ := hsuf
    cases b with
    | true =>
      rw [if_pos rfl]
      refine seg_execs_cons ?_
      refine gen_yield (n := 0) (rest := []) rfl rfl hpre rfl M' ⟨_, hoL⟩ S'.en hlt (fun Q hQ => ?_) fun s'' hs'' => ?_
      · refine Tuple_ (spliced_more (ld F' hpos (spliced_more (Calls.Constant_str (spliced_none ?_)))))
        exact wpAny_newObj_type (hQ _ _ _ _ (Heap.get?_push_size _ rfl) fun b o y => Heap.get?_push_of_some _ y) (by size_fits)
      · exact seg_end (.ok (.ret .none)) ⟨rfl, rfl, Mv.refl s''⟩
    | false =>
      rw [if_neg Bool.false_ne_true]
      exact seg_end (.ok (.ret .none)) ⟨rfl, rfl, M'⟩
  · show (if _ then _ else if _ then _ else _) = _
    rw [if_neg (by decide), if_pos rfl]; rfl
  · exact M₀
end
end Mine
end

section
open PySem PySem.W PyProof.Rows
set_option maxRecDepth 100000
namespace Mine
section
variable {w : World} {A : Around} {x : Str} {tx : Tok} {mg mb : Str → Option Value} {s : Shared}

abbrev Keeps0 (h h' : Heap) : Prop := ∀ b o, h.get? b = some o → h'.get? b = some o

/-- the call of the generator's def: a new frame's names, a new generator, nothing run yet -/
theorem call_gen {R : Result → Shared → Prop} (T : Tp mg mb s.heap) (hroom : A.depth < recursionLimit)
    (h : ∀ h' tk cd, Keeps0 s.heap h' → h'.Ns s.heap.objs.size (fun y => [(Str.ofString "addr", Value.str x tx)].reverse.lookup y) → h'.IsGen (s.heap.objs.size + 1) s.gens.size → h'.objs.size = s.heap.objs.size + 2 →
      R (.ok (.ret (.ref (s.heap.objs.size + 1)))) { s with heap := h', gens := s.gens.push (.fresh (.func gB (gEnv s.heap.objs.size cd))), toks := tk }) :
    codeAny (model P0 w) A (.call (.ref 21) ⟨[.str x tx], []⟩) R s := by
  obtain ⟨o, pm, code, doc, ho, hd, hc⟩ := T.f1
  refine codeAny_call_generator hroom ho hd rfl rfl rfl hc ?_
  rw [show bindArgs (Calls.docDef (nameOf (stAt 1)) (paramsOf (stAt 1)) (bodyOf (stAt 1)) (scopeOf (stAt 1)) pm code doc) ⟨[.str x tx], []⟩ = pure [(Str.ofString "addr", Value.str x tx)] from rfl]
  refine wpAny_pure (wpAny_newFunctionEnv ?_ (locs rfl) (fun h₁ hns hsb => ⟨T.nolimit.fresh _ hsb, ?_⟩) rfl)
  · show ∀ y ∈ (scopeOf (stAt 1)).names, y.2 ≠ NameKind.cell
    decide +kernel
  have hz : h₁.objs.size = s.heap.objs.size + 1 := by rw [hsb.1, Heap.size_push]
  have hk : Keeps0 s.heap h₁ := fun b o e => hsb.extBut b o (Nat.ne_of_lt (Heap.lt_size e)) (Heap.get?_push_of_some _ e)
  have := h (h₁.push { cls := .type "generator", data := .fields #[.int s.gens.size 0, .str (nameOf (stAt 1)) (s.toks + 1), .str (nameOf (stAt 1)) (s.toks + 1 + 1)] }) (s.toks + 1 + 1 + 1) code
    (fun b o e => Heap.get?_push_of_some _ (hk b o e)) (hns.at fun o e => Heap.get?_push_of_some _ e) ⟨_, _, _, by rw [← hz]; exact Heap.get?_push_size _ rfl, rfl, rfl, rfl⟩ (by rw [Heap.size_push, hz])
  rw [← hz] at this
  exact this

abbrev GoesNow (w : World) (A : Around) (items : List (Nat × Str)) (L e it : Addr) (n : Nat) (gs : GenState) (s : Shared) : Prop :=
  gs.Goes (model P0 w) A.in1 (gR L e it) (gY items L e it) n (.send .none) s

/-- one pull -/
theorem pull {items : List (Nat × Str)} {L e it ga : Addr} {g k : Nat} {gs : GenState} {Q : Option Value → Shared → Prop} {E : Value → Shared → Prop} (hh : A.handled = none) (hl : s.heap.NoLimit) (hroom : A.depth < recursionLimit)
    (hg : s.heap.IsGen ga g) (hgs : s.gens[g]? = some gs) (hk : k ≤ items.length) (hgo : GoesNow w A items L e it (items.length - k) gs (s.setGen g .running))
    (hitem : ∀ p c, items[k]? = some (p, c) → ∀ T t u h tk gs', gs'.bare = true → h.get? T = some (tupOf #[.int (p : Int) t, .str c u]) → s.heap.get? T = none → (∀ b o, b ≠ L → b ≠ e → b ≠ it → s.heap.get? b = some o → h.get? b = some o) →
      (∀ s'' : Shared, (∀ b o, b = L ∨ b = e ∨ b = it → h.get? b = some o → s''.heap.get? b = some o) → GoesNow w A items L e it (items.length - (k + 1)) gs' s'') →
      Q (some (.ref T)) { s with heap := h, toks := tk, gens := s.gens.setIfInBounds g gs' })
    (hdone : k = items.length → ∀ h tk, (∀ b o, b ≠ L → b ≠ e → b ≠ it → s.heap.get? b = some o → h.get? b = some o) → Q none { s with heap := h, toks := tk, gens := s.gens.setIfInBounds g .finished }) :
    wpAny (model P0 w) A (pyNext (.ref ga)) Q E s := by
  refine next_gen (P := fun n s₀ s₁ => n = 0 ∧ Mv L e it s₀ s₁) (Y := gY items L e it) (n := items.length - k) hh hl hroom hg hgs hgo (fun v s₁ gs' hb hY => ?_) fun s₁ hP h' hk' => ?_
  · obtain ⟨T, p, c, t, u, h1, rfl, h3, h4, ⟨⟨h, tk, rfl⟩, h5⟩, h6⟩ := hY
    cases hn : items.length - k with
    | zero =>
      have hkk : k = items.length := by omega
      rw [hn] at h6
      exact (h6 _ fun _ _ _ y => y).elim
    | succ n =>
      rw [hn] at h6 h1
      have e1 : items.length - (n + 1 - 1 + 1) = k := by omega
      rw [e1] at h1
      have e2 : n = items.length - (k + 1) := by omega
      have := hitem p c h1 T t u h tk gs' hb h3 h4 h5 (fun s'' hs'' => by rw [← e2]; exact h6 s'' hs'')
      have e3 : (({ s.setGen g .running with heap := h, toks := tk } : Shared).setGen g gs') = { s with heap := h, toks := tk, gens := s.gens.setIfInBounds g gs' } := by
        simp [Shared.setGen]
      rw [e3]; exact this
  · obtain ⟨hn, ⟨h, tk, rfl⟩, h5⟩ := hP
    have := hdone (by omega) h' tk fun b o h1 h2 h3 y => hk' b o (h5 b o h1 h2 h3 y)
    have e3 : ({ ({ s.setGen g .running with heap := h, toks := tk } : Shared).setGen g .finished with heap := h' } : Shared) = { s with heap := h', toks := tk, gens := s.gens.setIfInBounds g .finished } := by
      simp [Shared.setGen]
    rw [e3]; exact this
end
end Mine
end

section
open PySem PySem.W PyProof.Rows
set_option maxRecDepth 100000
namespace Mine
section
variable {w : World} {A : Around} {mg mb : Str → Option Value} {s : Shared}

theorem low_ne {b N L : Nat} (h1 : b < N) (h2 : N ≤ L) : b ≠ L := by omega

theorem letGo_gen {elts : List Expr} {k : Nat} {pos : Pos} {ga g : Nat} {v : Value} {Q : Unit → Shared → Prop} {E : Value → Shared → Prop} (hg : s.heap.IsGen ga g) (h : Q () s) :
    wpAny (model P0 w) A (letOwnedTupleGo (.Tuple elts k pos) (.ref ga) v) Q E s := by
  unfold letOwnedTupleGo
  cases v with
  | ref a =>
    obtain ⟨o, nm, qn, ho, hc, hd, hsl⟩ := hg
    refine wpAny_bind (wpAny_load ho ?_)
    rw [hc, hd]
    exact wpAny_pure h
  | _ => exact wpAny_pure h

theorem bare_set {gens : Array GenState} {g : Nat} {x : GenState} (h : AllBare gens) (hx : x.bare = true) : AllBare (gens.setIfInBounds g x) := by
  intro y hy
  rw [Array.mem_iff_getElem] at hy
  obtain ⟨i, hi, rfl⟩ := hy
  have hi' : i < gens.size := by rw [Array.size_setIfInBounds] at hi; exact hi
  rw [Array.getElem_setIfInBounds (hj := hi')]
  split
  · exact hx
  · exact h _ (Array.getElem_mem _)

/-- a loop over the generator: below N the caller's own, from N on the generator's -/
theorem gen_for {R : Result → Shared → Prop} {items : List (Nat × Str)} {L e it ga N Lc : Addr} {g : Nat} {gs : GenState} {h₀ : Heap} {cn : Str} {cs : Scope} {ca : Addr} {ccd : Value} {m : Str → Option Value} {body : List Stmt} {pp pc pt : Pos}
    (hh : A.handled = none) (hroom : A.depth < recursionLimit) (T : Tp mg mb h₀)
    (hkp : (envOf cn cs Lc ca ccd).kindOf (Str.ofString "pos") = some .local) (hkc : (envOf cn cs Lc ca ccd).kindOf (Str.ofString "ch") = some .local) (hkind : cs.kind = .function)
    (hN1 : N ≤ L) (hN2 : N ≤ e) (hN3 : N ≤ it) (hN4 : N ≤ ga) (hgL : ga ≠ L) (hge : ga ≠ e) (hgi : ga ≠ it) (hLN : Lc < N)
    (J : Nat → (Str → Option Value) → Heap → Prop) (hJ : ∀ k m h h', J k m h → (∀ b o, b < N → b ≠ Lc → h.get? b = some o → h'.get? b = some o) → J k m h')
    (F : Fr h₀ Lc s.heap m) (hlow : h₀.objs.size ≤ N) (hg : s.heap.IsGen ga g) (hgs : s.gens[g]? = some gs) (hb : AllBare s.gens) (hgo : GoesNow w A items L e it items.length gs (s.setGen g .running)) (h0 : J 0 m s.heap)
    (turn : ∀ k p c, items[k]? = some ((p : Nat), c) → ∀ m h tk gens t u, J k m h → Fr h₀ Lc h (fun y => if y = Str.ofString "ch" then some (.str c u) else if y = Str.ofString "pos" then some (.int (p : Int) t) else m y) → AllBare gens →
      wpAny (model P0 w) A (execs body (envOf cn cs Lc ca ccd)) (fun f s₂ => match f with
        | .next | .cont => ∃ h' tk' m', s₂ = { s with heap := h', toks := tk', gens := gens } ∧ Fr h₀ Lc h' m' ∧ (∀ b o, N ≤ b → h.get? b = some o → h'.get? b = some o) ∧ J (k + 1) m' h'
        | .brk => R (.ok .next) s₂
        | .ret v => R (.ok (.ret v)) s₂) (fun _ _ => False) { s with heap := h, toks := tk, gens := gens })
    (done : ∀ m h tk gens, J items.length m h → Fr h₀ Lc h m → AllBare gens → R (.ok .next) { s with heap := h, toks := tk, gens := gens }) :
    codeAny (model P0 w) A (.forLoop (.Tuple [.Name (Str.ofString "pos") pp, .Name (Str.ofString "ch") pc] 0 pt) (.ref ga) body [] (envOf cn cs Lc ca ccd)) R s := by
  have hp : ((envOf cn cs Lc ca ccd).scope.kind == .class || ((envOf cn cs Lc ca ccd).scope.kind == .module && (envOf cn cs Lc ca ccd).locals != (envOf cn cs Lc ca ccd).globals)) = false := by
    show (cs.kind == .class || (cs.kind == .module && _)) = false
    rw [hkind]; rfl
  refine codeAny_forLoop_any (fun n s' => ∃ h tk gens gs k m, s' = { s with heap := h, toks := tk, gens := gens } ∧ k ≤ items.length ∧ n = items.length + 1 - k ∧ Fr h₀ Lc h m ∧ h.IsGen ga g ∧ gens[g]? = some gs ∧ AllBare gens ∧ GoesNow w A items L e it (items.length - k) gs (s'.setGen g .running) ∧ J k m h) ?_ (items.length + 1)
    ⟨s.heap, s.toks, s.gens, gs, 0, m, rfl, Nat.zero_le _, rfl, F, hg, hgs, hb, hgo, h0⟩
  rintro n s' ⟨h, tk, gens, gs, k, m, rfl, hk, rfl, F, hg, hgs, hb, hgo, hJk⟩
  refine pull (g := g) (k := k) hh ((T.keeps F.keep).nolimit) hroom hg hgs hk hgo (fun p c hi T' t u h₁ tk₁ gs' hb' hT hTn hk₁ hnext => ?_) fun hkk h₁ tk₁ hk₁ => ?_
  · have up₁ : ∀ b o, b < N → h.get? b = some o → h₁.get? b = some o := fun b o hb y => hk₁ b o (low_ne hb hN1) (low_ne hb hN2) (low_ne hb hN3) y
    have hg₁ : h₁.IsGen ga g := let ⟨o, nm, qn, ho, r⟩ := hg; ⟨o, nm, qn, hk₁ _ _ hgL hge hgi ho, r⟩
    have hlt : k < items.length := by
      rcases Nat.lt_or_ge k items.length with h | h
      · exact h
      · rw [List.getElem?_eq_none h] at hi; cases hi
    refine letGo_gen hg₁ ?_
    have hT₁ : h₁.IsTuple T' #[.int (p : Int) t, .str c u] := ⟨_, hT, rfl, _, rfl⟩
    refine wpAny_assign_Tuple (s := { s with heap := h₁, toks := tk₁, gens := gens.setIfInBounds g gs' }) (items := #[.int (p : Int) t, .str c u]) hh hT₁ rfl rfl fun h₃ hx₃ => ?_
    replace hx₃ : Heap.ExtBut h₁.objs.size h₁ h₃ := hx₃
    have old₃ : ∀ b o, h₁.get? b = some o → h₃.get? b = some o := fun b o y => hx₃ b o (Nat.ne_of_lt (Heap.lt_size y)) y
    have hns₃ : h₃.Ns Lc m := F.ns.at fun o y => old₃ _ o (up₁ _ o hLN y)
    show wpAny (model P0 w) A (do holding [.str c u] (assign (.Name (Str.ofString "pos") _) (envOf cn cs Lc ca ccd) (.int (p : Int) t)); do holding [] (assign (.Name (Str.ofString "ch") _) (envOf cn cs Lc ca ccd) (.str c u)); pure ()) _ _ _
    refine wpAny_bind (wpAny_holding (wpAny_assign_Name (wpAny_storeName_local hkp hns₃ (fun h₄ hns₄ hs₄ => ?_) hp)))
    replace hs₄ : Heap.SameBut Lc h₃ h₄ := hs₄
    refine wpAny_bind (wpAny_holding (wpAny_assign_Name (wpAny_storeName_local hkc hns₄ (fun h₅ hns₅ hs₅ => wpAny_pure ?_) hp)))
    replace hs₅ : Heap.SameBut Lc h₄ h₅ := hs₅
    have up : ∀ b o, b ≠ Lc → h₁.get? b = some o → h₅.get? b = some o := fun b o hb y => hs₅.extBut b o hb (hs₄.extBut b o hb (old₃ b o y))
    have ne : ∀ b : Nat, N ≤ b → b ≠ Lc := fun b hb => Ne.symm (low_ne hLN hb)
    have F₅ : Fr h₀ Lc h₅ (fun y => if y = Str.ofString "ch" then some (.str c u) else if y = Str.ofString "pos" then some (.int (p : Int) t) else m y) :=
      ⟨hns₅, fun b o y => up b o (Nat.ne_of_lt (Nat.lt_of_lt_of_le (Heap.lt_size y) F.above)) (up₁ b o (Nat.lt_of_lt_of_le (Heap.lt_size y) hlow) (F.keep b o y)), F.above⟩
    refine wpAny_mono (turn k p c hi m h₅ _ _ t u (hJ _ _ _ _ hJk fun b o hb hbL y => up b o hbL (up₁ b o hb y)) F₅ (bare_set hb hb')) (fun f s₂ h₂ => ?_) fun _ _ x => x.elim
    cases f with
    | brk => exact h₂
    | ret v => exact h₂
    | _ =>
      obtain ⟨h', tk', m', e1, F', k', j'⟩ := h₂
      refine ⟨items.length + 1 - (k + 1), by omega, h', tk', gens.setIfInBounds g gs', gs', k + 1, m', e1, hlt, rfl, F', ?_, ?_, bare_set hb hb', ?_, j'⟩
      · exact let ⟨o, nm, qn, ho, r⟩ := hg₁; ⟨o, nm, qn, k' _ _ hN4 (up _ _ (ne _ hN4) ho), r⟩
      · have := Array.getElem?_eq_some_iff.mp hgs
        rw [Array.getElem?_setIfInBounds]; simp [this.1]
      · refine hnext _ fun b o hb y => ?_
        subst e1
        have hNb : N ≤ b := by rcases hb with rfl | rfl | rfl <;> assumption
        exact k' b o hNb (up b o (ne b hNb) y)
  · refine wpAny_execs_nil ?_
    subst hkk
    refine done m h₁ tk₁ _ (hJ _ _ _ _ hJk fun b o hb _ y => hk₁ b o (low_ne hb hN1) (low_ne hb hN2) (low_ne hb hN3) y) ?_ (bare_set hb rfl)
    exact ⟨F.ns.at fun o y => hk₁ _ o (low_ne hLN hN1) (low_ne hLN hN2) (low_ne hLN hN3) y, fun b o y => have hb := Nat.lt_of_lt_of_le (Heap.lt_size y) hlow; hk₁ b o (low_ne hb hN1) (low_ne hb hN2) (low_ne hb hN3) (F.keep b o y), F.above⟩
end
end Mine
end

section
open PySem PySem.W PyProof.Rows
set_option maxRecDepth 100000
set_option maxHeartbeats 4000000
namespace Mine
open Builtin Builtin.Str

def stq (x : Str) (st : Nat) (op : Option Nat) (res : List Str) : List (Nat × Str) → Nat × List Str
  | [] => (st, res)
  | (p, c) :: r => if (c == Str.ofString "\"") = true then (match op with
      | none => stq x st (some p) res r
      | some q => stq x (p + 1) none (if st != q then res ++ [Txt.slice x (some (st : Int)) (some (q : Int))] else res) r)
    else stq x st op res r
def stripF (x : Str) : Str := if (!(!(occurrences x (Str.ofString "\"") 0 x.length 1).isEmpty)) = true then x else
  let q := stq x 0 none [] (escL 0 false x.cps.toList)
  Txt.join (Str.ofString "") (if q.1 < x.length then q.2 ++ [Txt.slice x (some (q.1 : Int)) none] else q.2)
theorem escL_len : ∀ (l : List Nat) (i : Nat) (b : Bool), (escL i b l).length ≤ l.length + 1 := by
  intro l
  induction l with
  | nil => intro i b; cases b <;> simp [escL]
  | cons c cs ih =>
    intro i b
    unfold escL
    have h1 := ih (i + 1) false
    have h2 := ih (i + 1) true
    split
    · simp only [List.length_cons]; omega
    · split
      · simp only [List.length_cons]; omega
      · simp only [List.length_cons]; omega
theorem stq_len (x : Str) : ∀ (l : List (Nat × Str)) (st : Nat) (op : Option Nat) (res : List Str), (∀ y ∈ res, y.length ≤ x.length) → (stq x st op res l).2.length ≤ res.length + l.length ∧ ∀ y ∈ (stq x st op res l).2, y.length ≤ x.length := by
  intro l
  induction l with
  | nil => intro st op res h; exact ⟨Nat.le_refl _, h⟩
  | cons a r ih =>
    intro st op res h
    obtain ⟨p, c⟩ := a
    unfold stq
    split
    · cases op with
      | none =>
        have := ih st (some p) res h
        exact ⟨by simp only [List.length_cons]; omega, this.2⟩
      | some q =>
        have h' : ∀ y ∈ (if st != q then res ++ [Txt.slice x (some (st : Int)) (some (q : Int))] else res), y.length ≤ x.length := by
          intro y hy
          split at hy
          · rcases List.mem_append.mp hy with hy | hy
            · exact h y hy
            · rw [List.mem_singleton.mp hy]; exact Txt.slice_le x _ _
          · exact h y hy
        have := ih (p + 1) none _ h'
        refine ⟨Nat.le_trans this.1 ?_, this.2⟩
        split
        · simp only [List.length_append, List.length_cons, List.length_nil]; omega
        · simp only [List.length_cons]; omega
    · have := ih st op res h
      exact ⟨by simp only [List.length_cons]; omega, this.2⟩
theorem sum_le {ys : List Str} {B : Nat} (h : ∀ y ∈ ys, y.length ≤ B) : (ys.map (·.length)).sum ≤ ys.length * B := by
  induction ys with
  | nil => simp
  | cons y r ih =>
    have := ih fun z hz => h z (.tail _ hz)
    have := h y (.head _)
    simp only [List.map_cons, List.sum_cons, List.length_cons, Nat.add_mul]
    omega
def stripL (x : Str) : List Str := let q := stq x 0 none [] (escL 0 false x.cps.toList)
  if q.1 < x.length then q.2 ++ [Txt.slice x (some (q.1 : Int)) none] else q.2
theorem stripL_ok {x : Str} (hx : x.cps.size ≤ 500) : (stripL x).length ≤ 502 ∧ ∀ y ∈ stripL x, y.length ≤ x.length := by
  have h1 := escL_len x.cps.toList 0 false
  have h2 := stq_len x (escL 0 false x.cps.toList) 0 none [] (fun _ h => nomatch h)
  have hl : x.cps.toList.length = x.cps.size := Array.length_toList
  simp only [List.length_nil, Nat.zero_add] at h2
  unfold stripL
  dsimp only
  split
  · refine ⟨by simp only [List.length_append, List.length_cons, List.length_nil]; omega, fun y hy => ?_⟩
    rcases List.mem_append.mp hy with hy | hy
    · exact h2.2 y hy
    · rw [List.mem_singleton.mp hy]; exact Txt.slice_le x _ _
  · exact ⟨by omega, h2.2⟩
theorem stripL_sum {x : Str} (hx : x.cps.size ≤ 500) : ((stripL x).map (·.length)).sum + (stripL x).length * (Str.ofString "").length ≤ 251000 := by
  have h := stripL_ok hx
  have h1 := sum_le h.2
  have h2 : (stripL x).length * x.length ≤ 502 * 500 := Nat.mul_le_mul h.1 hx
  have h3 : (Str.ofString "").length = 0 := rfl
  rw [h3]; omega
theorem stripF_le {x : Str} (hx : x.cps.size ≤ 500) : (stripF x).cps.size + 1 ≤ sizeLine := by
  unfold stripF
  rw [sizeLine_eq]
  split
  · omega
  · have h := StrLaws.join_length_le (Str.ofString "") (stripL x)
    have h2 := stripL_sum hx
    have : (Txt.join (Str.ofString "") (stripL x)).length ≤ 251000 := by
      show (glued _ _).length ≤ _
      rw [StrLaws.glued_eq_join]; exact Nat.le_trans h h2
    show (Txt.join (Str.ofString "") (stripL x)).length + 1 ≤ _
    omega
theorem strsAre_snoc {vs : List Value} {ys : List Str} (h : StrsAre vs ys) (y : Str) (t : Tok) : StrsAre (vs ++ [.str y t]) (ys ++ [y]) := by
  induction h with
  | nil => exact .cons y t .nil
  | cons z u _ ih => exact .cons z u ih

section
variable {w : World} {A : Around} {mg mb : Str → Option Value} {s : Shared}
def opV (op : Option Nat) (t : Tok) : Value := match op with | none => .none | some q => .int (q : Int) t
def SJ (x : Str) (tx : Tok) (r : Addr) (items : List (Nat × Str)) (k : Nat) (m : Str → Option Value) (h : Heap) : Prop := ∃ (st : Nat) (op : Option Nat) (res : List Str) (vals : Array Value) (t1 t2 : Tok),
  m (Str.ofString "addr") = some (.str x tx) ∧ m (Str.ofString "start") = some (.int (st : Int) t1) ∧ m (Str.ofString "open_pos") = some (opV op t2) ∧ m (Str.ofString "result") = some (.ref r) ∧
  h.PlainList r vals ∧ StrsAre vals.toList res ∧ vals.size ≤ k ∧ stq x 0 none [] items = stq x st op res (items.drop k)
theorem strip_spec {R : Result → Shared → Prop} {x : Str} {tx : Tok} (hN : Nm mg mb) (hh : A.handled = none) (hd : A.depth + 3 < recursionLimit) (T : Tp mg mb s.heap) (hb : AllBare s.gens) (hx : x.cps.size ≤ 500)
    (hR : ∀ h' tk gens t, Keeps0 s.heap h' → AllBare gens → R (.ok (.ret (.str (stripF x) t))) { s with heap := h', toks := tk, gens := gens }) :
    codeAny (model P0 w) A (.call (.ref 28) ⟨[.str x tx], []⟩) R s := by
  obtain ⟨o, pm, code, doc, ho, hdat, hc⟩ := T.f2
  refine call_plain_ret (binds := [(Str.ofString "addr", .str x tx)]) (by omega) ho hdat T.nolimit hc rfl (locs rfl) (fun h₁ F => ?_) rfl rfl rfl (by decide +kernel)
  refine wpAny_execs_cons (wpAny_If (wpAny_isTrue_Compare1 (Calls.Constant_str (ld F rfl (P.notIn_str (wpAny_truthy_bool ?_)) rfl rfl))))
  cases hq : (!(!(occurrences x (Str.ofString "\"") 0 x.length 1).isEmpty)) with
  | true =>
    rw [if_pos rfl]
    refine wpAny_execs_cons (wpAny_Return_some (ld F rfl ?_ rfl rfl))
    have hf : stripF x = x := by unfold stripF; rw [if_pos hq]
    show R (.ok (.ret (.str x tx))) _
    rw [← hf]
    rw [hf]
    have := hR h₁ (s.toks + 1 + 1) s.gens tx F.keep hb
    rw [hf] at this
    exact this
  | false =>
    rw [if_neg Bool.false_ne_true]
    have hz₁ := F.ns.lt
    refine wpAny_execs_nil (wpAny_execs_cons (wpAny_Assign_Name (wpAny_Constant_int (wpAny_storeName_local rfl F.ns (fun h₂ hn₂ hs₂ => ?_) rfl))))
    replace hs₂ : Heap.SameBut s.heap.objs.size h₁ h₂ := hs₂
    have F₂ := F.set hn₂ hs₂
    refine wpAny_execs_cons (wpAny_Assign_Name (wpAny_Constant_none (wpAny_storeName_local rfl F₂.ns (fun h₃ hn₃ hs₃ => ?_) rfl)))
    replace hs₃ : Heap.SameBut s.heap.objs.size h₂ h₃ := hs₃
    have F₃ := F₂.set hn₃ hs₃
    refine wpAny_execs_cons (wpAny_Assign_Name (List_ (spliced_none (wpAny_newObj_type ?_ (by size_fits)))))
    have Fp := F₃.push { cls := .type "list", data := .seq ([] : List Value).toArray }
    have hgr := Heap.get?_push_size h₃ (o := { cls := .type "list", data := .seq ([] : List Value).toArray }) rfl
    refine wpAny_storeName_local rfl Fp.ns (fun h₄ hn₄ hs₄ => ?_) rfl
    replace hs₄ : Heap.SameBut s.heap.objs.size (h₃.push { cls := .type "list", data := .seq ([] : List Value).toArray }) h₄ := hs₄
    have F₄ := Fp.set hn₄ hs₄
    have hrL : h₃.objs.size ≠ s.heap.objs.size := Nat.ne_of_gt F₃.ns.lt
    have hr₄ : h₄.PlainList h₃.objs.size #[] := ⟨0, hs₄.extBut _ _ hrL hgr⟩
    have hrlt : h₃.objs.size < h₄.objs.size := by rw [hs₄.1, Heap.size_push]; exact Nat.lt_succ_self _
    have hrgt : s.heap.objs.size < h₃.objs.size := F₃.ns.lt
    generalize h₃.objs.size = r at hrL hr₄ hrlt hn₄ F₄ hrgt
    have T₄ := T.keeps F₄.keep
    refine wpAny_execs_cons (wpAny_For (Call_Name rfl (ld_global_at F₄ T.g hN.f1 ?_ rfl rfl)))
    obtain ⟨o1, pm1, code1, doc1, ho1, hdat1, hc1⟩ := T.f1
    refine callWith_def hdat1 (spliced_more (ld F₄ rfl (spliced_none ⟨F₄.keep _ _ ho1, ?_⟩ ) rfl rfl))
    refine wpAny_call (call_gen T₄ (by show A.depth + 1 < _; omega) fun h₅ tk₅ cd hk₅ hns₅ hg₅ hz₅ => ?_)
    refine wpAny_pyIter_gen hg₅ ?_
    replace hz₅ : h₅.objs.size = h₄.objs.size + 2 := hz₅
    replace hk₅ : Keeps0 h₄ h₅ := hk₅
    have F₅ : Fr s.heap s.heap.objs.size h₅ _ := ⟨F₄.ns.at fun o y => hk₅ _ o y, fun b o y => hk₅ b o (F₄.keep b o y), F₄.above⟩
    have hLc := F₄.ns.lt
    have k1 : h₄.objs.size ≤ h₅.objs.size + 1 := by omega
    have k2 : h₄.objs.size ≤ h₅.objs.size := by omega
    have k3 : h₄.objs.size + 1 ≠ h₅.objs.size + 1 := by omega
    have k4 : h₄.objs.size + 1 ≠ h₅.objs.size := by omega
    have hxs : x.cps.size + 1 ≤ sizeLine := by rw [sizeLine_eq]; omega
    have G : GoesNow w (A.deeper (envOf (nameOf (stAt 2)) (scopeOf (stAt 2)) s.heap.objs.size 28 code)) (escL 0 false x.cps.toList) h₄.objs.size (h₅.objs.size + 1) h₅.objs.size (escL 0 false x.cps.toList).length (.fresh (.func gB (gEnv h₄.objs.size cd)))
        (Shared.setGen { s with heap := h₅, gens := s.gens.push (.fresh (.func gB (gEnv h₄.objs.size cd))), toks := tk₅ } s.gens.size .running) := by
      refine ⟨rfl, ?_⟩
      exact gen_func (tx := tx) (h₀ := h₄) hN hh T₄ ⟨hns₅, hk₅, Nat.le_refl _⟩ rfl rfl rfl hxs
    refine gen_for (s := { s with heap := h₅, gens := s.gens.push (.fresh (.func gB (gEnv h₄.objs.size cd))), toks := tk₅ }) (N := h₄.objs.size) (h₀ := s.heap) hh (by show A.depth + 1 < _; omega) T rfl rfl rfl (Nat.le_refl _) k1 k2 (Nat.le_succ _) (Nat.succ_ne_self _) k3 k4 hLc
      (SJ x tx r (escL 0 false x.cps.toList)) ?_ F₅ (Nat.le_of_lt hLc) hg₅ (by simp) (hb.push rfl) G ?_ ?_ ?_
    · rintro k m h h' ⟨st, op, res, vals, t1, t2, q1, q2, q3, q4, q5, q6⟩ hk
      exact ⟨st, op, res, vals, t1, t2, q1, q2, q3, q4, q5.at fun o y => hk r o hrlt hrL y, q6⟩
    · exact ⟨0, none, [], #[], _, 0, rfl, rfl, rfl, rfl, hr₄.at fun o y => hk₅ _ o y, .nil, Nat.le_refl _, rfl⟩
    · intro k p c hi m h tk gens t u hJ F hb
      obtain ⟨st, op, res, vals, t1, t2, q1, q2, q3, q4, q5, q6, q7, q8⟩ := hJ
      have hlt : k < (escL 0 false x.cps.toList).length := by
        rcases Nat.lt_or_ge k (escL 0 false x.cps.toList).length with h | h
        · exact h
        · rw [List.getElem?_eq_none h] at hi; cases hi
      have hdr : (escL 0 false x.cps.toList).drop k = (p, c) :: (escL 0 false x.cps.toList).drop (k + 1) := by
        rw [List.drop_eq_getElem_cons hlt]
        rw [List.getElem?_eq_getElem hlt] at hi
        rw [Option.some.inj hi]
      rw [hdr] at q8
      generalize hrest : (escL 0 false x.cps.toList).drop (k + 1) = rest at q8 hdr
      have up : ∀ y v, y ≠ Str.ofString "ch" → y ≠ Str.ofString "pos" → m y = some v → (fun y => if y = Str.ofString "ch" then some (Value.str c u) else if y = Str.ofString "pos" then some (Value.int (p : Int) t) else m y) y = some v := by
        intro y v h1 h2 h3
        show (if _ then _ else if _ then _ else _) = _
        rw [if_neg h1, if_neg h2]; exact h3
      have p1 := up _ _ (by decide) (by decide) q1
      have p2 := up _ _ (by decide) (by decide) q2
      have p3 := up _ _ (by decide) (by decide) q3
      have p4 := up _ _ (by decide) (by decide) q4
      have p5 : (fun y => if y = Str.ofString "ch" then some (Value.str c u) else if y = Str.ofString "pos" then some (Value.int (p : Int) t) else m y) (Str.ofString "ch") = some (.str c u) := if_pos rfl
      have p6 : (fun y => if y = Str.ofString "ch" then some (Value.str c u) else if y = Str.ofString "pos" then some (Value.int (p : Int) t) else m y) (Str.ofString "pos") = some (.int (p : Int) t) := by
        show (if _ then _ else _) = _
        rw [if_neg (by decide)]; exact if_pos rfl
      generalize (fun y => if y = Str.ofString "ch" then some (Value.str c u) else if y = Str.ofString "pos" then some (Value.int (p : Int) t) else m y) = m' at p1 p2 p3 p4 p5 p6 F
      refine wpAny_execs_cons (wpAny_If (wpAny_isTrue_Compare1 (ld F p5 (Calls.Constant_str (PyProof.Rows.eq_str (wpAny_truthy_bool ?_))) rfl rfl)))
      cases h1 : (c == Str.ofString "\"") with
      | false =>
        rw [if_neg Bool.false_ne_true]
        refine wpAny_execs_nil (wpAny_execs_nil ⟨h, _, m', rfl, F, fun b o _ y => y, st, op, res, vals, t1, t2, p1, p2, p3, p4, q5, q6, Nat.le_succ_of_le q7, ?_⟩)
        rw [q8, hrest]
        show (if _ then _ else _) = _
        rw [if_neg (by rw [h1]; exact Bool.false_ne_true)]
      | true =>
        rw [if_pos rfl]
        refine wpAny_execs_cons (wpAny_If (wpAny_isTrue_Compare1 (ld F p3 (wpAny_Constant_none (is_none_gen (wpAny_truthy_bool ?_))) rfl rfl)))
        cases op with
        | none =>
          rw [if_pos (show (opV none t2 == Value.none) = true from rfl)]
          refine wpAny_execs_cons (wpAny_Assign_Name (ld F p6 (wpAny_storeName_local rfl F.ns (fun h₆ hn₆ hs₆ => ?_) rfl) rfl rfl))
          replace hs₆ : Heap.SameBut s.heap.objs.size h h₆ := hs₆
          refine wpAny_execs_nil (wpAny_execs_nil (wpAny_execs_nil ⟨h₆, _, _, rfl, F.set hn₆ hs₆, fun b o hb y => hs₆.extBut b o (Ne.symm (low_ne hLc hb)) y, st, some p, res, vals, t1, t, ?_, ?_, ?_, ?_, q5.at fun o y => hs₆.extBut _ o hrL y, q6, Nat.le_succ_of_le q7, ?_⟩))
          · show (if _ then _ else _) = _
            rw [if_neg (by decide)]; exact p1
          · show (if _ then _ else _) = _
            rw [if_neg (by decide)]; exact p2
          · exact if_pos rfl
          · show (if _ then _ else _) = _
            rw [if_neg (by decide)]; exact p4
          · rw [q8, hrest]
            show (if _ then _ else _) = _
            rw [if_pos h1]
        | some q =>
          rw [if_neg (show ¬ (opV (some q) t2 == Value.none) = true from fun e => by have := eq_of_beq e; cases this)]
          have e0 : stq x st (some q) res ((p, c) :: rest) = stq x (p + 1) none (if st != q then res ++ [Txt.slice x (some (st : Int)) (some (q : Int))] else res) rest := by
            show (if _ then _ else _) = _
            rw [if_pos h1]
          rw [e0] at q8
          refine wpAny_execs_cons (wpAny_mono (Q := fun f s' => f = .next ∧ ∃ (h₆ : Heap) (tk₆ : Nat) (res' : List Str) (vals' : Array Value), s' = { s with heap := h₆, toks := tk₆, gens := gens } ∧ Fr s.heap s.heap.objs.size h₆ m' ∧ (∀ b o, h₄.objs.size ≤ b → h.get? b = some o → h₆.get? b = some o) ∧ h₆.PlainList r vals' ∧ StrsAre vals'.toList res' ∧ vals'.size ≤ k + 1 ∧
              stq x 0 none [] (escL 0 false x.cps.toList) = stq x (p + 1) none res' rest) (wpAny_If (wpAny_isTrue_Compare1 (ld F p2 (ld F p3 (PyProof.Rows.ne_int (wpAny_truthy_bool ?_)) rfl rfl) rfl rfl))) (fun f s' hf => ?_) fun _ _ x => x)
          · have ebq : ((st : Int) != (q : Int)) = (st != q) := by
              rw [Bool.eq_iff_iff]; simp only [bne_iff_ne, ne_eq]; omega
            rw [ebq]
            cases h2 : (st != q) with
            | false =>
              rw [if_neg Bool.false_ne_true]
              rw [h2, if_neg Bool.false_ne_true] at q8
              exact wpAny_execs_nil ⟨rfl, h, _, res, vals, rfl, F, fun b o _ y => y, q5, q6, Nat.le_succ_of_le q7, q8⟩
            | true =>
              rw [if_pos rfl]
              rw [h2, if_pos rfl] at q8
              have hpl : PlainL h r vals := let ⟨n, e⟩ := q5; ⟨_, n, e, rfl, rfl, rfl⟩
              refine wpAny_execs_cons (wpAny_Expr (wpAny_Call_append rfl rfl rfl rfl (ld F p4 ⟨r, vals, rfl, hpl, ?_⟩ rfl rfl)) rfl rfl)
              refine Subscript_Slice (ld F p1 (wpAny_Slice (ld F p2 (ld F p3 (wpAny_pure ?_) rfl rfl) rfl rfl)) rfl rfl)
              refine SBH.sliceItem_ss (P := fun h' => Keeps0 h h') (fun h' ob hk b o y => Heap.get?_push_of_some _ (hk b o y)) (fun _ _ y => y) (fun h₆ t₆ k₆ hk₆ => ?_) (by show x.cps.size ≤ sizeLine; omega)
              have hsz : vals.size ≤ sizeLine := by
                have := escL_len x.cps.toList 0 false
                have : x.cps.toList.length = x.cps.size := Array.length_toList
                rw [sizeLine_eq]; omega
              refine wpAny_list_append_plain (q5.at fun o y => hk₆ _ o y) (fun h₇ hl₇ hs₇ => ?_) hsz
              replace hs₇ : Heap.SameBut r h₆ h₇ := hs₇
              refine wpAny_execs_nil ⟨rfl, h₇, _, _, _, rfl, ?_, fun b o hb y => hs₇.extBut b o (Ne.symm (low_ne hrlt hb)) (hk₆ b o y), hl₇, ?_, ?_, q8⟩
              · refine ⟨(F.ns.at fun o y => hk₆ _ o y).sameBut hs₇ (Ne.symm hrL), fun b o y => hs₇.extBut b o ?_ (hk₆ b o (F.keep b o y)), F.above⟩
                intro e
                rw [e] at y
                exact absurd (Heap.lt_size y) (Nat.not_lt.mpr (Nat.le_of_lt hrgt))
              · rw [Array.toList_push]; exact strsAre_snoc q6 _ _
              · rw [Array.size_push]; omega
          · obtain ⟨rfl, h₆, tk₆, res', vals', rfl, F₆, g1, g2, g3, g4, g5⟩ := hf
            refine wpAny_execs_cons (wpAny_Assign_Name (wpAny_BinOp (ld F₆ p6 (wpAny_Constant_int (PyProof.Rows.add_int (wpAny_storeName_local rfl F₆.ns (fun h₇ hn₇ hs₇ => ?_) rfl))) rfl rfl)))
            replace hs₇ : Heap.SameBut s.heap.objs.size h₆ h₇ := hs₇
            have F₇ := F₆.set hn₇ hs₇
            refine wpAny_execs_cons (wpAny_Assign_Name (wpAny_Constant_none (wpAny_storeName_local rfl F₇.ns (fun h₈ hn₈ hs₈ => ?_) rfl)))
            replace hs₈ : Heap.SameBut s.heap.objs.size h₇ h₈ := hs₈
            refine wpAny_execs_nil (wpAny_execs_nil (wpAny_execs_nil ⟨h₈, _, _, rfl, F₇.set hn₈ hs₈, fun b o hb y => hs₈.extBut b o (Ne.symm (low_ne hLc hb)) (hs₇.extBut b o (Ne.symm (low_ne hLc hb)) (g1 b o hb y)), p + 1, none, res', vals', tk₆ + 1, 0, ?_, ?_, ?_, ?_, (g2.at fun o y => hs₇.extBut _ o hrL y).at fun o y => hs₈.extBut _ o hrL y, g3, g4, by rw [hrest]; exact g5⟩))
            · show (if _ then _ else if _ then _ else _) = _
              rw [if_neg (by decide), if_neg (by decide)]; exact p1
            · show (if _ then _ else if _ then _ else _) = _
              rw [if_neg (by decide), if_pos rfl]; rfl
            · exact if_pos rfl
            · show (if _ then _ else if _ then _ else _) = _
              rw [if_neg (by decide), if_neg (by decide)]; exact p4
    · intro m h tk gens hJ F hb
      obtain ⟨st, op, res, vals, t1, t2, q1, q2, q3, q4, q5, q6, q7, q8⟩ := hJ
      rw [List.drop_length] at q8
      have q8' : stq x 0 none [] (escL 0 false x.cps.toList) = (st, res) := q8
      have eL : stripL x = if st < x.length then res ++ [Txt.slice x (some (st : Int)) none] else res := by
        unfold stripL; rw [q8']
      refine wpAny_execs_cons (wpAny_mono (Q := fun f s' => f = .next ∧ ∃ (h₆ : Heap) (tk₆ : Nat) (vals' : Array Value), s' = { s with heap := h₆, toks := tk₆, gens := gens } ∧ Fr s.heap s.heap.objs.size h₆ m ∧ h₆.PlainList r vals' ∧ StrsAre vals'.toList (stripL x)) (wpAny_If (wpAny_isTrue_Compare1 (ld F q2 (Call_Name rfl (ld_builtin_at F T.g hN.len.1 T.b hN.len.2 ?_ rfl rfl)) rfl rfl))) (fun f s' hf => ?_) fun _ _ x => x)
      · refine callWith_builtin1 (spliced_more (ld F q1 (spliced_none (PyProof.Rows.len_str ?_ (PyProof.Rows.lt_int (wpAny_truthy_bool ?_)))) rfl rfl))
        · have : x.length ≤ 500 := hx
          omega
        by_cases h2 : st < x.length
        · have h3 : decide ((st : Int) < (x.length : Int)) = true := decide_eq_true (by omega)
          rw [if_pos h2] at eL
          rw [if_pos h3]
          have hpl : PlainL h r vals := let ⟨n, e⟩ := q5; ⟨_, n, e, rfl, rfl, rfl⟩
          refine wpAny_execs_cons (wpAny_Expr (wpAny_Call_append rfl rfl rfl rfl (ld F q4 ⟨r, vals, rfl, hpl, ?_⟩ rfl rfl)) rfl rfl)
          refine Subscript_Slice (ld F q1 (wpAny_Slice (ld F q2 (wpAny_pure (wpAny_pure ?_)) rfl rfl)) rfl rfl)
          refine SBH.sliceItem_sn (P := fun h' => Keeps0 h h') (fun h' ob hk b o y => Heap.get?_push_of_some _ (hk b o y)) (fun _ _ y => y) (fun h₆ t₆ k₆ hk₆ => ?_) (by show x.cps.size ≤ sizeLine; omega)
          have hsz : vals.size ≤ sizeLine := by
            have := escL_len x.cps.toList 0 false
            have : x.cps.toList.length = x.cps.size := Array.length_toList
            rw [sizeLine_eq]; omega
          refine wpAny_list_append_plain (q5.at fun o y => hk₆ _ o y) (fun h₇ hl₇ hs₇ => ?_) hsz
          replace hs₇ : Heap.SameBut r h₆ h₇ := hs₇
          refine wpAny_execs_nil ⟨rfl, h₇, _, _, rfl, ?_, hl₇, ?_⟩
          · refine ⟨(F.ns.at fun o y => hk₆ _ o y).sameBut hs₇ (Ne.symm hrL), fun b o y => hs₇.extBut b o ?_ (hk₆ b o (F.keep b o y)), F.above⟩
            intro e
            rw [e] at y
            exact absurd (Heap.lt_size y) (Nat.not_lt.mpr (Nat.le_of_lt hrgt))
          · rw [Array.toList_push, eL]; exact strsAre_snoc q6 _ _
        · have h3 : ¬ decide ((st : Int) < (x.length : Int)) = true := by simp only [decide_eq_true_eq]; omega
          rw [if_neg h2] at eL
          rw [if_neg h3]
          exact wpAny_execs_nil ⟨rfl, h, _, vals, rfl, F, q5, by rw [eL]; exact q6⟩
      · obtain ⟨rfl, h₆, tk₆, vals', rfl, F₆, g2, g3⟩ := hf
        refine wpAny_execs_cons (wpAny_Return_some ?_)
        refine wpAny_Call_method (T := "str") (id := "str.join") rfl rfl rfl PySem.F.plainAttrs_str PySem.F.slot_str_join PySem.F.type_str_join ?_
        refine Calls.Constant_str ⟨typeIs_str _ _ _, ⟨(fun a e => nomatch e), ?_⟩⟩
        refine callWith_method1 (spliced_more (ld F₆ q4 (spliced_none ?_) rfl rfl))
        refine join_list g2.isList g3 (Nat.le_trans (stripL_sum hx) (by decide)) fun t' k' => ?_
        have hf : stripF x = Txt.join (Str.ofString "") (stripL x) := by
          unfold stripF
          rw [if_neg (by rw [hq]; exact Bool.false_ne_true)]
          rfl
        show R (.ok (.ret (.str (Txt.join (Str.ofString "") (stripL x)) t'))) _
        rw [← hf]
        exact hR h₆ _ gens t' F₆.keep hb
end
end Mine
end

section
open PySem PySem.W PyProof.Rows
set_option maxRecDepth 100000
namespace Mine

def opn (o : Int) : List (Nat × Str) → Option Int
  | [] => some o
  | (_, c) :: r => if (c == Str.ofString "(") = true then opn (o + 1) r
    else if (c == Str.ofString ")") = true then (if o - 1 < 0 then none else opn (o - 1) r) else opn o r
def chk (x : Str) : Bool := match opn 0 (escL 0 false (stripF x).cps.toList) with
  | none => false
  | some o => o == 0

section
variable {w : World} {A : Around} {mg mb : Str → Option Value} {s : Shared}
theorem depth_deep (A : Around) (e : Env) : (A.deeper e).depth = A.depth + 1 := rfl

theorem check_spec {R : Result → Shared → Prop} {x : Str} {tx : Tok} (hN : Nm mg mb) (hh : A.handled = none) (hd : A.depth + 5 < recursionLimit) (T : Tp mg mb s.heap) (hb : AllBare s.gens) (hx : x.cps.size ≤ 500)
    (hR : ∀ h' tk gens, Keeps0 s.heap h' → AllBare gens → R (.ok (.ret (.bool (chk x)))) { s with heap := h', toks := tk, gens := gens }) :
    codeAny (model P0 w) A (.call (.ref 35) ⟨[.str x tx], []⟩) R s := by
  obtain ⟨o, pm, code, doc, ho, hdat, hc⟩ := T.f3
  refine call_plain_ret (binds := [(Str.ofString "addr", .str x tx)]) (by omega) ho hdat T.nolimit hc rfl (locs rfl) (fun h₁ F => ?_) rfl rfl rfl (by decide +kernel)
  refine wpAny_execs_cons ?_
  refine wpAny_Assign_Name (Call_Name rfl (ld_global_at F T.g hN.f2 ?_ rfl rfl))
  obtain ⟨o2, pm2, code2, doc2, ho2, hdat2, hc2⟩ := T.f2
  refine callWith_def hdat2 (spliced_more (ld F rfl (spliced_none ⟨F.keep _ _ ho2, ?_⟩ ) rfl rfl))
  refine wpAny_call (strip_spec hN hh (by rw [depth_deep]; omega) (T.keeps F.keep) hb hx fun h₂ tk₂ gens₂ t₂ hk₂ hb₂ => ?_)
  have F₂ : Fr s.heap s.heap.objs.size h₂ _ := ⟨F.ns.at fun o y => hk₂ _ o y, fun b o y => hk₂ b o (F.keep b o y), F.above⟩
  refine wpAny_storeName_local rfl F₂.ns (fun h₃ hn₃ hs₃ => ?_) rfl
  replace hs₃ : Heap.SameBut s.heap.objs.size h₂ h₃ := hs₃
  have F₃ := F₂.set hn₃ hs₃
  refine wpAny_execs_cons (wpAny_Assign_Name (wpAny_Constant_int (wpAny_storeName_local rfl F₃.ns (fun h₄ hn₄ hs₄ => ?_) rfl)))
  replace hs₄ : Heap.SameBut s.heap.objs.size h₃ h₄ := hs₄
  have F₄ := F₃.set hn₄ hs₄
  have T₄ := T.keeps F₄.keep
  refine wpAny_execs_cons (wpAny_For (Call_Name rfl (ld_global_at F₄ T.g hN.f1 ?_ rfl rfl)))
  obtain ⟨o1, pm1, code1, doc1, ho1, hdat1, hc1⟩ := T.f1
  refine callWith_def hdat1 (spliced_more (ld F₄ rfl (spliced_none ⟨F₄.keep _ _ ho1, ?_⟩ ) rfl rfl))
  refine wpAny_call (call_gen T₄ (by rw [depth_deep]; omega) fun h₅ tk₅ cd hk₅ hns₅ hg₅ hz₅ => ?_)
  refine wpAny_pyIter_gen hg₅ ?_
  replace hz₅ : h₅.objs.size = h₄.objs.size + 2 := hz₅
  replace hk₅ : Keeps0 h₄ h₅ := hk₅
  have F₅ : Fr s.heap s.heap.objs.size h₅ _ := ⟨F₄.ns.at fun o y => hk₅ _ o y, fun b o y => hk₅ b o (F₄.keep b o y), F₄.above⟩
  have hLc := F₄.ns.lt
  have k1 : h₄.objs.size ≤ h₅.objs.size + 1 := by omega
  have k2 : h₄.objs.size ≤ h₅.objs.size := by omega
  have k3 : h₄.objs.size + 1 ≠ h₅.objs.size + 1 := by omega
  have k4 : h₄.objs.size + 1 ≠ h₅.objs.size := by omega
  have G : GoesNow w (A.deeper (envOf (nameOf (stAt 3)) (scopeOf (stAt 3)) s.heap.objs.size 35 code)) (escL 0 false (stripF x).cps.toList) h₄.objs.size (h₅.objs.size + 1) h₅.objs.size (escL 0 false (stripF x).cps.toList).length (.fresh (.func gB (gEnv h₄.objs.size cd)))
      (Shared.setGen { s with heap := h₅, gens := gens₂.push (.fresh (.func gB (gEnv h₄.objs.size cd))), toks := tk₅ } gens₂.size .running) := by
    refine ⟨rfl, ?_⟩
    exact gen_func (tx := t₂) (h₀ := h₄) hN hh T₄ ⟨hns₅, hk₅, Nat.le_refl _⟩ rfl rfl rfl (stripF_le hx)
  refine gen_for (s := { s with heap := h₅, gens := gens₂.push (.fresh (.func gB (gEnv h₄.objs.size cd))), toks := tk₅ }) (N := h₄.objs.size) (h₀ := s.heap) hh (by rw [depth_deep]; omega) T rfl rfl rfl (Nat.le_refl _) k1 k2 (Nat.le_succ _) (Nat.succ_ne_self _) k3 k4 hLc
    (fun k m _ => ∃ o t, m (Str.ofString "opens") = some (.int o t) ∧ opn 0 (escL 0 false (stripF x).cps.toList) = opn o ((escL 0 false (stripF x).cps.toList).drop k)) (fun _ _ _ _ y _ => y) F₅ (Nat.le_of_lt hLc) hg₅ (by simp) (hb₂.push rfl) G ⟨0, _, if_pos rfl, rfl⟩ ?_ ?_
  · intro k p c hi m h tk gens t u hJ F hb
    obtain ⟨o, to, hm, hop⟩ := hJ
    have hlt : k < (escL 0 false (stripF x).cps.toList).length := by
      rcases Nat.lt_or_ge k (escL 0 false (stripF x).cps.toList).length with h | h
      · exact h
      · rw [List.getElem?_eq_none h] at hi; cases hi
    have hdr : (escL 0 false (stripF x).cps.toList).drop k = (p, c) :: (escL 0 false (stripF x).cps.toList).drop (k + 1) := by
      rw [List.drop_eq_getElem_cons hlt]
      rw [List.getElem?_eq_getElem hlt] at hi
      rw [Option.some.inj hi]
    rw [hdr] at hop
    have hm' : (fun y => if y = Str.ofString "ch" then some (Value.str c u) else if y = Str.ofString "pos" then some (Value.int (p : Int) t) else m y) (Str.ofString "opens") = some (.int o to) := by
      show (if _ then _ else if _ then _ else _) = _
      rw [if_neg (by decide), if_neg (by decide)]; exact hm
    have hc' : (fun y => if y = Str.ofString "ch" then some (Value.str c u) else if y = Str.ofString "pos" then some (Value.int (p : Int) t) else m y) (Str.ofString "ch") = some (.str c u) := if_pos rfl
    refine wpAny_execs_cons (wpAny_If (wpAny_isTrue_Compare1 (ld F hc' (Calls.Constant_str (PyProof.Rows.eq_str (wpAny_truthy_bool ?_))) rfl rfl)))
    cases h1 : (c == Str.ofString "(") with
    | true =>
      have e1 : opn o ((p, c) :: (escL 0 false (stripF x).cps.toList).drop (k + 1)) = opn (o + 1) ((escL 0 false (stripF x).cps.toList).drop (k + 1)) := by
        show (if _ then _ else _) = _
        rw [if_pos h1]
      rw [e1] at hop
      rw [if_pos rfl]
      refine wpAny_execs_cons (wpAny_AugAssign_Name (ldn F hm' (wpAny_Constant_int (PyProof.Rows.iadd_int (wpAny_storeName_local rfl F.ns (fun h₆ hn₆ hs₆ => ?_) rfl))) rfl rfl))
      replace hs₆ : Heap.SameBut s.heap.objs.size h h₆ := hs₆
      refine wpAny_execs_nil (wpAny_execs_nil ⟨h₆, _, _, rfl, F.set hn₆ hs₆, fun b o hb y => hs₆.extBut b o (Ne.symm (low_ne hLc hb)) y, o + 1, _, if_pos rfl, hop⟩)
    | false =>
      rw [if_neg Bool.false_ne_true]
      refine wpAny_execs_cons (wpAny_If (wpAny_isTrue_Compare1 (ld F hc' (Calls.Constant_str (PyProof.Rows.eq_str (wpAny_truthy_bool ?_))) rfl rfl)))
      have e0 : opn o ((p, c) :: (escL 0 false (stripF x).cps.toList).drop (k + 1)) = if (c == Str.ofString ")") = true then (if o - 1 < 0 then none else opn (o - 1) ((escL 0 false (stripF x).cps.toList).drop (k + 1))) else opn o ((escL 0 false (stripF x).cps.toList).drop (k + 1)) := by
        show (if _ then _ else _) = _
        rw [if_neg (by rw [h1]; exact Bool.false_ne_true)]
      rw [e0] at hop
      cases h2 : (c == Str.ofString ")") with
      | true =>
        rw [if_pos h2] at hop
        rw [if_pos rfl]
        refine wpAny_execs_cons (wpAny_AugAssign_Name (ldn F hm' (wpAny_Constant_int (PyProof.Rows.isub_int (wpAny_storeName_local rfl F.ns (fun h₆ hn₆ hs₆ => ?_) rfl))) rfl rfl))
        replace hs₆ : Heap.SameBut s.heap.objs.size h h₆ := hs₆
        have F₆ := F.set hn₆ hs₆
        refine wpAny_execs_cons (wpAny_If (wpAny_isTrue_Compare1 (ld F₆ (if_pos rfl) (wpAny_Constant_int (PyProof.Rows.lt_int (wpAny_truthy_bool ?_))) rfl rfl)))
        by_cases h3 : o - 1 < 0
        · rw [if_pos h3] at hop
          rw [if_pos (decide_eq_true h3)]
          refine wpAny_execs_cons (wpAny_Return_some (wpAny_Constant_bool ?_))
          have hf : chk x = false := by unfold chk; rw [hop]
          show R (.ok (.ret (.bool false))) _
          rw [← hf]
          exact hR h₆ _ gens (fun b o y => F₆.keep b o y) hb
        · rw [if_neg h3] at hop
          rw [if_neg (by simpa using h3)]
          refine wpAny_execs_nil (wpAny_execs_nil (wpAny_execs_nil (wpAny_execs_nil ⟨h₆, _, _, rfl, F₆, fun b o hb y => hs₆.extBut b o (Ne.symm (low_ne hLc hb)) y, o - 1, _, if_pos rfl, hop⟩)))
      | false =>
        rw [if_neg (by rw [h2]; exact Bool.false_ne_true)] at hop
        rw [if_neg Bool.false_ne_true]
        refine wpAny_execs_nil (wpAny_execs_nil (wpAny_execs_nil ⟨h, _, _, rfl, F, fun b o _ y => y, o, to, hm', hop⟩))
  · intro m h tk gens hJ F hb
    obtain ⟨o, to, hm, hop⟩ := hJ
    rw [List.drop_length] at hop
    refine wpAny_execs_cons (wpAny_Return_some (wpAny_Compare1 (ld F hm (wpAny_Constant_int (PyProof.Rows.eq_int ?_)) rfl rfl)))
    have hf : chk x = (o == 0) := by unfold chk; rw [hop]; rfl
    show R (.ok (.ret (.bool (o == 0)))) _
    rw [← hf]
    exact hR h _ gens (fun b o y => F.keep b o y) hb
end
end Mine
end

section
open PySem PySem.W PyProof.Rows
set_option maxRecDepth 100000
set_option maxHeartbeats 4000000
namespace Mine
section
variable {w : World} {A : Around} {s : Shared}

theorem IsList.mv {h h' : Heap} {l : Addr} {items : Array Value} (x : h.IsList l items) (hk : ∀ o, h.get? l = some o → h'.get? l = some o) : h'.IsList l items := x.at hk

/-- a loop by one name over a list that the turns leave alone; what they change lies below N -/
theorem list_for {R : Result → Shared → Prop} {E : Value → Shared → Prop} {l Lc : Nat} {items : Array Value} {h₀ : Heap} {cn : Str} {cs : Scope} {ca : Addr} {ccd : Value} {m : Str → Option Value} {body : List Stmt} {x : Str} {px : Pos}
    (hh : A.handled = none) (hkx : (envOf cn cs Lc ca ccd).kindOf x = some .local) (hkind : cs.kind = .function)
    (J : Nat → (Str → Option Value) → Heap → Prop) (hJ : ∀ k m h h', J k m h → (∀ b o, b < s.heap.objs.size → b ≠ Lc → h.get? b = some o → h'.get? b = some o) → J k m h')
    (F : Fr h₀ Lc s.heap m) (hlL : l ≠ Lc) (hl : s.heap.IsList l items) (hb : AllBare s.gens) (h0 : J 0 m s.heap)
    (turn : ∀ (k : Nat) (v : Value), items[k]? = some v → ∀ m h tk gens, J k m h → h.IsList l items → Fr h₀ Lc h (fun y => if y = x then some v else m y) → AllBare gens →
      wpAny (model P0 w) A (execs body (envOf cn cs Lc ca ccd)) (fun f s₂ => match f with
        | .next | .cont => ∃ h' tk' gens' m', s₂ = { s with heap := h', toks := tk', gens := gens' } ∧ Fr h₀ Lc h' m' ∧ AllBare gens' ∧ (∀ b o, s.heap.objs.size ≤ b ∨ b = l → h.get? b = some o → h'.get? b = some o) ∧ J (k + 1) m' h'
        | .brk => R (.ok .next) s₂
        | .ret v => R (.ok (.ret v)) s₂) (notedBy (model P0 w) A (envOf cn cs Lc ca ccd) fun e s' => R (.error e) s') { s with heap := h, toks := tk, gens := gens })
    (done : ∀ m h tk gens, J items.size m h → Fr h₀ Lc h m → AllBare gens → R (.ok .next) { s with heap := h, toks := tk, gens := gens }) :
    wpAny (model P0 w) A (pyIter (.ref l)) (fun it s₂ => codeAny (model P0 w) A (.forLoop (.Name x px) it body [] (envOf cn cs Lc ca ccd)) R s₂) E s := by
  have hp : ((envOf cn cs Lc ca ccd).scope.kind == .class || ((envOf cn cs Lc ca ccd).scope.kind == .module && (envOf cn cs Lc ca ccd).locals != (envOf cn cs Lc ca ccd).globals)) = false := by
    show (cs.kind == .class || (cs.kind == .module && _)) = false
    rw [hkind]; rfl
  obtain ⟨ol, hol, _⟩ := id hl
  have hllt := Heap.lt_size hol
  have hLlt := F.ns.lt
  have hneI : l ≠ s.heap.objs.size := Nat.ne_of_lt hllt
  have hLI : Lc ≠ s.heap.objs.size := Nat.ne_of_lt hLlt
  refine wpAny_pyIter_list hl ?_
  refine codeAny_forLoop_any (fun n s' => ∃ h tk gens k m, s' = { s with heap := h, toks := tk, gens := gens } ∧ k ≤ items.size ∧ n = items.size + 1 - k ∧ Fr h₀ Lc h m ∧ h.IsListIter s.heap.objs.size l k ∧ h.IsList l items ∧ AllBare gens ∧ J k m h) ?_ (items.size + 1)
    ⟨_, s.toks, s.gens, 0, m, rfl, Nat.zero_le _, rfl, F.push _, ⟨_, Heap.get?_push_size _ rfl, rfl, rfl⟩, hl.at fun o e => Heap.get?_push_of_some _ e, hb, hJ _ _ _ _ h0 fun b o _ _ y => Heap.get?_push_of_some _ y⟩
  rintro n s' ⟨h, tk, gens, k, m, rfl, hk, rfl, F, hit, hl', hb, hJk⟩
  cases hv : items[k]? with
  | none =>
    have hsz : k = items.size := Nat.le_antisymm hk (by simpa using hv)
    refine wpAny_pyNext_list_end hh hit hl' hv fun h₁ he₁ => wpAny_execs_nil ?_
    subst hsz
    exact done m h₁ tk gens (hJ _ _ _ _ hJk fun b o hb _ y => he₁ b o (Nat.ne_of_lt hb) y) ⟨F.ns.at fun o y => he₁ _ o hLI y, fun b o y => he₁ b o (Nat.ne_of_lt (Nat.lt_trans (Nat.lt_of_lt_of_le (Heap.lt_size y) F.above) hLlt)) (F.keep b o y), F.above⟩ hb
  | some v =>
    have hlt : k < items.size := (Array.getElem?_eq_some_iff.mp hv).1
    refine wpAny_pyNext_list_item hit hl' hv fun h₁ hit₁ hs₁ => ?_
    replace hs₁ : Heap.SameBut s.heap.objs.size h h₁ := hs₁
    show wpAny (model P0 w) A (pure ()) _ _ _
    refine wpAny_pure ?_
    have hns₁ : h₁.Ns Lc m := F.ns.sameBut hs₁ hLI
    refine wpAny_assign_Name (wpAny_storeName_local hkx hns₁ (fun h₂ hn₂ hs₂ => ?_) hp)
    replace hs₂ : Heap.SameBut Lc h₁ h₂ := hs₂
    have up : ∀ b o, b ≠ Lc → b ≠ s.heap.objs.size → h.get? b = some o → h₂.get? b = some o := fun b o h1 h2 y => hs₂.extBut b o h1 (hs₁.extBut b o h2 y)
    have F₂ : Fr h₀ Lc h₂ (fun y => if y = x then some v else m y) := ⟨hn₂, fun b o y => up b o (Nat.ne_of_lt (Nat.lt_of_lt_of_le (Heap.lt_size y) F.above)) (Nat.ne_of_lt (Nat.lt_trans (Nat.lt_of_lt_of_le (Heap.lt_size y) F.above) hLlt)) (F.keep b o y), F.above⟩
    refine wpAny_mono (turn k v hv m h₂ _ gens (hJ _ _ _ _ hJk fun b o h1 h2 y => up b o h2 (Nat.ne_of_lt h1) y) (hl'.at fun o y => up _ o hlL hneI y) F₂ hb) (fun f s₂ hf => ?_) fun _ _ x => x
    cases f with
    | brk => exact hf
    | ret v => exact hf
    | _ =>
      obtain ⟨h', tk', gens', m', e1, F', hb', hk', hJ'⟩ := hf
      obtain ⟨oI, hoI, rI⟩ := hit₁
      exact ⟨items.size + 1 - (k + 1), by omega, h', tk', gens', k + 1, m', e1, hlt, rfl, F', ⟨oI, hk' _ _ (.inl (Nat.le_refl _)) (hs₂.extBut _ _ (Ne.symm hLI) hoI), rI⟩, (hl'.at fun o y => up _ o hlL hneI y).at fun o y => hk' _ o (.inr rfl) y, hb', hJ'⟩
end
end Mine
end

section
open PySem PySem.W PyProof.Rows
set_option maxRecDepth 100000
set_option maxHeartbeats 4000000
namespace Mine

def badS : Str := Str.ofString "('', '')"
def keepS (y : Str) : Str := if chk y = true then y else badS
theorem strs_get {vs : List Value} {ys : List Str} (h : StrsAre vs ys) : ∀ (k : Nat) (v : Value), vs[k]? = some v → ∃ (y : Str) (t : Tok), ys[k]? = some y ∧ v = Value.str y t := by
  induction h with
  | nil => intro k v h; simp at h
  | cons y t _ ih =>
    intro k v h
    cases k with
    | zero => simp at h; exact ⟨y, t, by simp, h.symm⟩
    | succ k => simp at h; simpa using ih k v h
theorem strs_len {vs : List Value} {ys : List Str} (h : StrsAre vs ys) : vs.length = ys.length := by
  induction h with
  | nil => rfl
  | cons y t _ ih => simp [ih]

section
variable {w : World} {A : Around} {mg mb : Str → Option Value} {s : Shared}

theorem pre_spec {R : Result → Shared → Prop} {l : Nat} {vs : Array Value} {xs : List Str} (hN : Nm mg mb) (hh : A.handled = none) (hd : A.depth + 8 < recursionLimit) (T : Tp mg mb s.heap) (hb : AllBare s.gens)
    (hl : s.heap.IsList l vs) (hx : StrsAre vs.toList xs) (hsz : ∀ y ∈ xs, y.cps.size ≤ 500) (hn : xs.length ≤ 1000)
    (hR : ∀ h' tk gens r vals, Keeps0 s.heap h' → AllBare gens → s.heap.get? r = none → h'.PlainList r vals → StrsAre vals.toList (xs.map keepS) → R (.ok (.ret (.ref r))) { s with heap := h', toks := tk, gens := gens }) :
    codeAny (model P0 w) A (.call (.ref 42) ⟨[.ref l], []⟩) R s := by
  obtain ⟨o, pm, code, doc, ho, hdat, hc⟩ := T.f4
  have hvx : vs.size = xs.length := by have := strs_len hx; rw [Array.length_toList] at this; exact this
  obtain ⟨ol, hol, _⟩ := id hl
  have hllt : l < s.heap.objs.size := Heap.lt_size hol
  refine call_plain_ret (binds := [(Str.ofString "email_header_fields", .ref l)]) (by omega) ho hdat T.nolimit hc rfl (locs rfl) (fun h₁ F => ?_) rfl rfl rfl (by decide +kernel)
  have hlL : l ≠ s.heap.objs.size := Nat.ne_of_lt hllt
  refine wpAny_execs_cons (wpAny_Assign_Name (List_ (spliced_none (wpAny_newObj_type ?_ (by size_fits)))))
  have Fp := F.push { cls := .type "list", data := .seq ([] : List Value).toArray }
  have hgr := Heap.get?_push_size h₁ (o := { cls := .type "list", data := .seq ([] : List Value).toArray }) rfl
  refine wpAny_storeName_local rfl Fp.ns (fun h₄ hn₄ hs₄ => ?_) rfl
  replace hs₄ : Heap.SameBut s.heap.objs.size (h₁.push { cls := .type "list", data := .seq ([] : List Value).toArray }) h₄ := hs₄
  have F₄ := Fp.set hn₄ hs₄
  have hrgt : s.heap.objs.size < h₁.objs.size := F.ns.lt
  have hrL : h₁.objs.size ≠ s.heap.objs.size := Nat.ne_of_gt hrgt
  have hr₄ : h₄.PlainList h₁.objs.size #[] := ⟨0, hs₄.extBut _ _ hrL hgr⟩
  have hrlt : h₁.objs.size < h₄.objs.size := by rw [hs₄.1, Heap.size_push]; exact Nat.lt_succ_self _
  have hrn : s.heap.get? h₁.objs.size = none := Heap.get?_none_of_le (Nat.le_of_lt hrgt)
  have hrl : h₁.objs.size ≠ l := by omega
  generalize h₁.objs.size = r at hrL hr₄ hrlt hn₄ F₄ hrgt hrn hrl
  have hl₄ : h₄.IsList l vs := hl.at fun o y => F₄.keep _ o y
  refine wpAny_execs_cons (wpAny_For (ld F₄ rfl ?_ rfl rfl))
  refine list_for (h₀ := s.heap) (Lc := s.heap.objs.size) hh rfl rfl (fun k m h => ∃ vals, m (Str.ofString "accepted_values") = some (.ref r) ∧ h.PlainList r vals ∧ StrsAre vals.toList ((xs.take k).map keepS) ∧ vals.size ≤ k) ?_ F₄ hlL hl₄ hb ⟨#[], rfl, hr₄, .nil, Nat.le_refl _⟩ ?_ ?_
  · rintro k m h h' ⟨vals, q1, q2, q3⟩ hk
    exact ⟨vals, q1, q2.at fun o y => hk r o hrlt hrL y, q3⟩
  · intro k v hv m h tk gens hJ hl' F' hb'
    obtain ⟨vals, q1, q2, q3, q4⟩ := hJ
    obtain ⟨y, ty, hy, rfl⟩ := strs_get hx k v (by rw [Array.getElem?_toList]; exact hv)
    have hyl : y ∈ xs := List.mem_of_getElem? hy
    have hkn : k < xs.length := by
      rcases Nat.lt_or_ge k xs.length with h | h
      · exact h
      · rw [List.getElem?_eq_none h] at hy; cases hy
    have hv' : (fun z => if z = Str.ofString "v" then some (Value.str y ty) else m z) (Str.ofString "v") = some (.str y ty) := if_pos rfl
    have hacc : (fun z => if z = Str.ofString "v" then some (Value.str y ty) else m z) (Str.ofString "accepted_values") = some (.ref r) := by
      show (if _ then _ else _) = _
      rw [if_neg (by decide)]; exact q1
    generalize (fun z => if z = Str.ofString "v" then some (Value.str y ty) else m z) = m' at hv' hacc F'
    refine wpAny_execs_cons (wpAny_mono (Q := fun f s' => f = .next ∧ ∃ (h₆ : Heap) (tk₆ : Nat) (gens₆ : Array GenState) (m₆ : Str → Option Value) (t₆ : Tok), s' = { s with heap := h₆, toks := tk₆, gens := gens₆ } ∧ Fr s.heap s.heap.objs.size h₆ m₆ ∧ (∀ b o, b ≠ s.heap.objs.size → h.get? b = some o → h₆.get? b = some o) ∧ AllBare gens₆ ∧ m₆ (Str.ofString "v") = some (.str (keepS y) t₆) ∧ m₆ (Str.ofString "accepted_values") = some (.ref r))
      (wpAny_If (isTrue_not (isTrue_plain (Call_Name rfl (ld_global_at F' T.g hN.f3 ?_ rfl rfl))))) (fun f s' hf => ?_) fun _ _ x => x)
    · obtain ⟨o3, pm3, code3, doc3, ho3, hdat3, hc3⟩ := T.f3
      refine callWith_def hdat3 (spliced_more (ld F' hv' (spliced_none ⟨F'.keep _ _ ho3, ?_⟩) rfl rfl))
      refine wpAny_call (check_spec hN hh (by show A.depth + 1 + 5 < _; omega) (T.keeps F'.keep) hb' (hsz y hyl) fun h₅ tk₅ gens₅ hk₅ hb₅ => ?_)
      replace hk₅ : Keeps0 h h₅ := hk₅
      refine wpAny_truthy_bool ?_
      have F₅ : Fr s.heap s.heap.objs.size h₅ m' := ⟨F'.ns.at fun o y => hk₅ _ o y, fun b o y => hk₅ b o (F'.keep b o y), F'.above⟩
      cases hck : chk y with
      | true =>
        have hkeep : keepS y = y := by unfold keepS; rw [if_pos hck]
        rw [if_neg (by decide)]
        exact wpAny_execs_nil ⟨rfl, h₅, _, gens₅, m', ty, rfl, F₅, fun b o _ y => hk₅ b o y, hb₅, by rw [hkeep]; exact hv', hacc⟩
      | false =>
        have hkeep : keepS y = badS := by unfold keepS; rw [if_neg (by rw [hck]; exact Bool.false_ne_true)]
        rw [if_pos (by decide)]
        refine wpAny_execs_cons (wpAny_Assign_Name (Calls.Constant_str (wpAny_storeName_local rfl F₅.ns (fun h₆ hn₆ hs₆ => ?_) rfl)))
        replace hs₆ : Heap.SameBut s.heap.objs.size h₅ h₆ := hs₆
        refine wpAny_execs_nil ⟨rfl, h₆, _, gens₅, _, tk₅, rfl, F₅.set hn₆ hs₆, fun b o hb y => hs₆.extBut b o hb (hk₅ b o y), hb₅, by rw [hkeep]; exact if_pos rfl, ?_⟩
        show (if _ then _ else _) = _
        rw [if_neg (by decide)]; exact hacc
    · obtain ⟨rfl, h₆, tk₆, gens₆, m₆, t₆, rfl, F₆, g1, g2, g3, g4⟩ := hf
      have q2' : h₆.PlainList r vals := q2.at fun o y => g1 r o hrL y
      have hpl : PlainL h₆ r vals := let ⟨n, e⟩ := q2'; ⟨_, n, e, rfl, rfl, rfl⟩
      refine wpAny_execs_cons (wpAny_Expr (wpAny_Call_append rfl rfl rfl rfl (ld F₆ g4 ⟨r, vals, rfl, hpl, ld F₆ g3 ?_ rfl rfl⟩ rfl rfl)) rfl rfl)
      have hszv : vals.size ≤ sizeLine := by rw [sizeLine_eq]; omega
      refine wpAny_list_append_plain q2' (fun h₇ hl₇ hs₇ => ?_) hszv
      replace hs₇ : Heap.SameBut r h₆ h₇ := hs₇
      refine wpAny_execs_nil ⟨h₇, _, gens₆, m₆, rfl, ?_, g2, ?_, _, g4, hl₇, ?_, ?_⟩
      · refine ⟨F₆.ns.sameBut hs₇ (Ne.symm hrL), fun b o y => hs₇.extBut b o ?_ (F₆.keep b o y), F₆.above⟩
        intro e
        rw [e] at y
        rw [y] at hrn; cases hrn
      · intro b o hb y
        refine hs₇.extBut b o ?_ (g1 b o ?_ y)
        · rcases hb with hb | rfl
          · exact Ne.symm (low_ne hrlt hb)
          · exact Ne.symm hrl
        · rcases hb with hb | rfl
          · exact Ne.symm (low_ne F₄.ns.lt hb)
          · exact hlL
      · rw [Array.toList_push, List.take_add_one, hy]
        simp only [Option.toList_some, List.map_append, List.map_cons, List.map_nil]
        exact strsAre_snoc q3 _ _
      · rw [Array.size_push]; omega
  · intro m h tk gens hJ F' hb'
    obtain ⟨vals, q1, q2, q3, q4⟩ := hJ
    refine wpAny_execs_cons (wpAny_Return_some (ld F' q1 ?_ rfl rfl))
    rw [hvx, List.take_length] at q3
    exact hR h _ gens r vals F'.keep hb' hrn q2 q3
end
end Mine
end

section
open PySem PySem.W PyProof.Rows
set_option maxRecDepth 100000
set_option maxHeartbeats 4000000
namespace Mine

def ddF (acc : List Str) : List Str → List Str
  | [] => acc
  | y :: r => ddF (if (!(acc.any (· == y))) = true then acc ++ [y] else acc) r

section
variable {w : World} {A : Around} {mg mb : Str → Option Value} {s : Shared}

theorem dd_spec {R : Result → Shared → Prop} {l : Nat} {vs : Array Value} {xs : List Str} (hh : A.handled = none) (hd : A.depth + 2 < recursionLimit) (T : Tp mg mb s.heap) (hb : AllBare s.gens)
    (hl : s.heap.IsList l vs) (hx : StrsAre vs.toList xs) (hn : xs.length ≤ 1000)
    (hR : ∀ h' tk gens r vals, Keeps0 s.heap h' → AllBare gens → s.heap.get? r = none → h'.PlainList r vals → StrsAre vals.toList (ddF [] xs) → R (.ok (.ret (.ref r))) { s with heap := h', toks := tk, gens := gens }) :
    codeAny (model P0 w) A (.call (.ref 57) ⟨[.ref l], []⟩) R s := by
  obtain ⟨o, pm, code, doc, ho, hdat, hc⟩ := T.f7
  have hvx : vs.size = xs.length := by have := strs_len hx; rw [Array.length_toList] at this; exact this
  obtain ⟨ol, hol, _⟩ := id hl
  have hllt : l < s.heap.objs.size := Heap.lt_size hol
  refine call_plain_ret (binds := [(Str.ofString "unhashable_params", .ref l)]) (by omega) ho hdat T.nolimit hc rfl (locs rfl) (fun h₁ F => ?_) rfl rfl rfl (by decide +kernel)
  have hlL : l ≠ s.heap.objs.size := Nat.ne_of_lt hllt
  refine wpAny_execs_cons (wpAny_Assign_Name (List_ (spliced_none (wpAny_newObj_type ?_ (by size_fits)))))
  have Fp := F.push { cls := .type "list", data := .seq ([] : List Value).toArray }
  have hgr := Heap.get?_push_size h₁ (o := { cls := .type "list", data := .seq ([] : List Value).toArray }) rfl
  refine wpAny_storeName_local rfl Fp.ns (fun h₄ hn₄ hs₄ => ?_) rfl
  replace hs₄ : Heap.SameBut s.heap.objs.size (h₁.push { cls := .type "list", data := .seq ([] : List Value).toArray }) h₄ := hs₄
  have F₄ := Fp.set hn₄ hs₄
  have hrgt : s.heap.objs.size < h₁.objs.size := F.ns.lt
  have hrL : h₁.objs.size ≠ s.heap.objs.size := Nat.ne_of_gt hrgt
  have hr₄ : h₄.PlainList h₁.objs.size #[] := ⟨0, hs₄.extBut _ _ hrL hgr⟩
  have hrlt : h₁.objs.size < h₄.objs.size := by rw [hs₄.1, Heap.size_push]; exact Nat.lt_succ_self _
  have hrn : s.heap.get? h₁.objs.size = none := Heap.get?_none_of_le (Nat.le_of_lt hrgt)
  have hrl : h₁.objs.size ≠ l := by omega
  generalize h₁.objs.size = r at hrL hr₄ hrlt hn₄ F₄ hrgt hrn hrl
  have hl₄ : h₄.IsList l vs := hl.at fun o y => F₄.keep _ o y
  refine wpAny_execs_cons (wpAny_For (ld F₄ rfl ?_ rfl rfl))
  refine list_for (h₀ := s.heap) (Lc := s.heap.objs.size) hh rfl rfl (fun k m h => ∃ vals acc, m (Str.ofString "new_unhashable") = some (.ref r) ∧ h.PlainList r vals ∧ StrsAre vals.toList acc ∧ vals.size ≤ k ∧ ddF [] xs = ddF acc (xs.drop k)) ?_ F₄ hlL hl₄ hb ⟨#[], [], rfl, hr₄, .nil, Nat.le_refl _, rfl⟩ ?_ ?_
  · rintro k m h h' ⟨vals, acc, q1, q2, q3⟩ hk
    exact ⟨vals, acc, q1, q2.at fun o y => hk r o hrlt hrL y, q3⟩
  · intro k v hv m h tk gens hJ hl' F' hb'
    obtain ⟨vals, acc, q1, q2, q3, q4, q5⟩ := hJ
    obtain ⟨y, ty, hy, rfl⟩ := strs_get hx k v (by rw [Array.getElem?_toList]; exact hv)
    have hkn : k < xs.length := by
      rcases Nat.lt_or_ge k xs.length with h | h
      · exact h
      · rw [List.getElem?_eq_none h] at hy; cases hy
    have hdr : xs.drop k = y :: xs.drop (k + 1) := by
      rw [List.drop_eq_getElem_cons hkn]
      rw [List.getElem?_eq_getElem hkn] at hy
      rw [Option.some.inj hy]
    rw [hdr] at q5
    have hv' : (fun z => if z = Str.ofString "t" then some (Value.str y ty) else m z) (Str.ofString "t") = some (.str y ty) := if_pos rfl
    have hacc : (fun z => if z = Str.ofString "t" then some (Value.str y ty) else m z) (Str.ofString "new_unhashable") = some (.ref r) := by
      show (if _ then _ else _) = _
      rw [if_neg (by decide)]; exact q1
    generalize (fun z => if z = Str.ofString "t" then some (Value.str y ty) else m z) = m' at hv' hacc F'
    refine wpAny_execs_cons (wpAny_If (wpAny_isTrue_Compare1 (ld F' hv' (ld F' hacc (notin_list_strs (by simpa using q2.isList) q3 (wpAny_truthy_bool ?_)) rfl rfl) rfl rfl)))
    cases hin : (!(acc.any (· == y))) with
    | false =>
      rw [if_neg Bool.false_ne_true]
      have e1 : ddF acc (y :: xs.drop (k + 1)) = ddF acc (xs.drop (k + 1)) := by
        show ddF (if _ then _ else _) _ = _
        rw [if_neg (by rw [hin]; exact Bool.false_ne_true)]
      rw [e1] at q5
      exact wpAny_execs_nil (wpAny_execs_nil ⟨h, _, gens, m', rfl, F', hb', fun b o _ y => y, vals, acc, hacc, q2, q3, Nat.le_succ_of_le q4, q5⟩)
    | true =>
      rw [if_pos rfl]
      have e1 : ddF acc (y :: xs.drop (k + 1)) = ddF (acc ++ [y]) (xs.drop (k + 1)) := by
        show ddF (if _ then _ else _) _ = _
        rw [if_pos hin]
      rw [e1] at q5
      have hpl : PlainL h r vals := let ⟨n, e⟩ := q2; ⟨_, n, e, rfl, rfl, rfl⟩
      refine wpAny_execs_cons (wpAny_Expr (wpAny_Call_append rfl rfl rfl rfl (ld F' hacc ⟨r, vals, rfl, hpl, ld F' hv' ?_ rfl rfl⟩ rfl rfl)) rfl rfl)
      have hszv : vals.size ≤ sizeLine := by rw [sizeLine_eq]; omega
      refine wpAny_list_append_plain q2 (fun h₇ hl₇ hs₇ => ?_) hszv
      replace hs₇ : Heap.SameBut r h h₇ := hs₇
      refine wpAny_execs_nil (wpAny_execs_nil ⟨h₇, _, gens, m', rfl, ?_, hb', ?_, _, _, hacc, hl₇, ?_, ?_, q5⟩)
      · refine ⟨F'.ns.sameBut hs₇ (Ne.symm hrL), fun b o y => hs₇.extBut b o ?_ (F'.keep b o y), F'.above⟩
        intro e
        rw [e] at y
        rw [y] at hrn; cases hrn
      · intro b o hb y
        refine hs₇.extBut b o ?_ y
        rcases hb with hb | rfl
        · exact Ne.symm (low_ne hrlt hb)
        · exact Ne.symm hrl
      · rw [Array.toList_push]; exact strsAre_snoc q3 _ _
      · rw [Array.size_push]; omega
  · intro m h tk gens hJ F' hb'
    obtain ⟨vals, acc, q1, q2, q3, q4, q5⟩ := hJ
    refine wpAny_execs_cons (wpAny_Return_some (ld F' q1 ?_ rfl rfl))
    rw [hvx, List.drop_length] at q5
    exact hR h _ gens r vals F'.keep hb' hrn q2 (by rw [q5]; exact q3)
end
end Mine
end

section
open PySem PySem.W PyProof.Rows
set_option maxRecDepth 100000
set_option maxHeartbeats 4000000
namespace Mine
section
variable {w : World} {A : Around} {s : Shared}

/-- a loop by two names over an iterator of pairs; what the turns change lies below N -/
theorem pair_for {R : Result → Shared → Prop} {I Lc N : Nat} {fp wr : List Addr} {n : Nat} {Pt : Nat → Array Value → Prop} {St : Nat → Heap → Prop} {Mid : Nat → Addr → Heap → Prop} {h₀ : Heap} {cn : Str} {cs : Scope} {ca : Addr} {ccd : Value} {m : Str → Option Value} {body : List Stmt} {xa xb : Str} {pa pb pt : Pos} {tk0 : Nat}
    (W : WalksT P0 w A I fp wr n Pt St Mid) (hh : A.handled = none) (hka : (envOf cn cs Lc ca ccd).kindOf xa = some .local) (hkb : (envOf cn cs Lc ca ccd).kindOf xb = some .local) (hkind : cs.kind = .function)
    (hPt : ∀ k vals, Pt k vals → ∃ v1 v2, vals = #[v1, v2]) (hwr : ∀ b ∈ wr, N ≤ b) (hfp : Lc ∉ fp) (hLN : Lc < N)
    (J : Nat → (Str → Option Value) → Heap → Prop) (hJ : ∀ k m h h', J k m h → (∀ b o, b < N → b ≠ Lc → h.get? b = some o → h'.get? b = some o) → J k m h')
    (F : Fr h₀ Lc s.heap m) (hb : AllBare s.gens) (hst : St 0 s.heap) (h0 : J 0 m s.heap)
    (turn : ∀ (k : Nat) (v1 v2 : Value), k < n → Pt k #[v1, v2] → ∀ m h tk gens, J k m h → St (k + 1) h → Fr h₀ Lc h (fun y => if y = xb then some v2 else if y = xa then some v1 else m y) → AllBare gens →
      wpAny (model P0 w) A (execs body (envOf cn cs Lc ca ccd)) (fun f s₂ => match f with
        | .next | .cont => ∃ h' tk' gens' m', s₂ = { s with heap := h', toks := tk', gens := gens' } ∧ Fr h₀ Lc h' m' ∧ AllBare gens' ∧ (∀ b o, N ≤ b ∨ b ∈ fp → h.get? b = some o → h'.get? b = some o) ∧ J (k + 1) m' h'
        | .brk => R (.ok .next) s₂
        | .ret v => R (.ok (.ret v)) s₂) (notedBy (model P0 w) A (envOf cn cs Lc ca ccd) fun e s' => R (.error e) s') { s with heap := h, toks := tk, gens := gens })
    (done : ∀ m h tk gens, J n m h → Fr h₀ Lc h m → AllBare gens → R (.ok .next) { s with heap := h, toks := tk, gens := gens }) :
    codeAny (model P0 w) A (.forLoop (.Tuple [.Name xa pa, .Name xb pb] tk0 pt) (.ref I) body [] (envOf cn cs Lc ca ccd)) R s := by
  have hp : ((envOf cn cs Lc ca ccd).scope.kind == .class || ((envOf cn cs Lc ca ccd).scope.kind == .module && (envOf cn cs Lc ca ccd).locals != (envOf cn cs Lc ca ccd).globals)) = false := by
    show (cs.kind == .class || (cs.kind == .module && _)) = false
    rw [hkind]; rfl
  have hlow : h₀.objs.size ≤ N := Nat.le_trans F.above (Nat.le_of_lt hLN)
  have off : ∀ b, b < N → b ∉ wr := fun b hb hm => absurd (hwr b hm) (Nat.not_le.mpr hb)
  refine codeAny_forLoop_any (fun c s' => ∃ h tk gens k m, s' = { s with heap := h, toks := tk, gens := gens } ∧ k ≤ n ∧ c = n + 1 - k ∧ Fr h₀ Lc h m ∧ St k h ∧ AllBare gens ∧ J k m h) ?_ (n + 1)
    ⟨s.heap, s.toks, s.gens, 0, m, rfl, Nat.zero_le _, rfl, F, hst, hb, h0⟩
  rintro c s' ⟨h, tk, gens, k, m, rfl, hk, rfl, F, hst, hb, hJk⟩
  have FrMv : ∀ h₁ : Heap, (∀ b o, b ∉ wr → h.get? b = some o → h₁.get? b = some o) → Fr h₀ Lc h₁ m := fun h₁ hk₁ => ⟨F.ns.at fun o y => hk₁ _ o (off _ hLN) y, fun b o y => hk₁ b o (off _ (Nat.lt_of_lt_of_le (Heap.lt_size y) hlow)) (F.keep b o y), F.above⟩
  by_cases hlt : k < n
  · refine W.item k _ _ _ hlt hst fun T vals h₁ tk₁ hP hT hT₁ hM₁ hk₁ => ?_
    obtain ⟨v1, v2, rfl⟩ := hPt _ _ hP
    refine W.go _ _ _ k T { s with heap := h₁, toks := tk₁, gens := gens } _ _ hM₁ fun h₂ hS₂ hk₂ => ?_
    have hTw := W.apart _ _ _ hM₁
    replace hk₂ : ∀ b o, b ∉ wr → h₁.get? b = some o → h₂.get? b = some o := hk₂
    have hT₂ : h₂.IsTuple T #[v1, v2] := hT₁.at fun o y => hk₂ _ o hTw y
    have F₂ := FrMv h₂ fun b o hb y => hk₂ b o hb (hk₁ b o hb y)
    refine wpAny_assign_Tuple (s := { s with heap := h₂, toks := tk₁, gens := gens }) (items := #[v1, v2]) hh hT₂ rfl rfl fun h₃ hx₃ => ?_
    replace hx₃ : Heap.ExtBut h₂.objs.size h₂ h₃ := hx₃
    have old₃ : ∀ b o, h₂.get? b = some o → h₃.get? b = some o := fun b o y => hx₃ b o (Nat.ne_of_lt (Heap.lt_size y)) y
    have hns₃ : h₃.Ns Lc m := F₂.ns.at fun o y => old₃ _ o y
    show wpAny (model P0 w) A (do holding [v2] (assign (.Name xa _) (envOf cn cs Lc ca ccd) v1); do holding [] (assign (.Name xb _) (envOf cn cs Lc ca ccd) v2); pure ()) _ _ _
    refine wpAny_bind (wpAny_holding (wpAny_assign_Name (wpAny_storeName_local hka hns₃ (fun h₄ hns₄ hs₄ => ?_) hp)))
    replace hs₄ : Heap.SameBut Lc h₃ h₄ := hs₄
    refine wpAny_bind (wpAny_holding (wpAny_assign_Name (wpAny_storeName_local hkb hns₄ (fun h₅ hns₅ hs₅ => wpAny_pure ?_) hp)))
    replace hs₅ : Heap.SameBut Lc h₄ h₅ := hs₅
    have up : ∀ b o, b ≠ Lc → h₂.get? b = some o → h₅.get? b = some o := fun b o hb y => hs₅.extBut b o hb (hs₄.extBut b o hb (old₃ b o y))
    have hS₅ : St (k + 1) h₅ := W.frame _ _ _ hS₂ fun b hb o y => up b o (fun e => hfp (e ▸ hb)) y
    have F₅ : Fr h₀ Lc h₅ (fun y => if y = xb then some v2 else if y = xa then some v1 else m y) :=
      ⟨hns₅, fun b o y => up b o (Nat.ne_of_lt (Nat.lt_of_lt_of_le (Heap.lt_size y) F.above)) (F₂.keep b o y), F.above⟩
    refine wpAny_mono (turn k v1 v2 hlt hP m h₅ _ gens (hJ _ _ _ _ hJk fun b o h1 h2 y => up b o h2 (hk₂ b o (off _ h1) (hk₁ b o (off _ h1) y))) hS₅ F₅ hb) (fun f s₂ hf => ?_) fun _ _ x => x
    cases f with
    | brk => exact hf
    | ret v => exact hf
    | _ =>
      obtain ⟨h', tk', gens', m', e1, F', hb', hk', hJ'⟩ := hf
      exact ⟨n + 1 - (k + 1), by omega, h', tk', gens', k + 1, m', e1, hlt, rfl, F', W.frame _ _ _ hS₅ fun b hb o y => hk' b o (.inr hb) y, hb', hJ'⟩
  · have hkn : k = n := by omega
    subst hkn
    refine W.done _ _ _ hst fun h₁ tk₁ hk₁ => wpAny_execs_nil ?_
    exact done m h₁ tk₁ gens (hJ _ _ _ _ hJk fun b o h1 _ y => hk₁ b o (off _ h1) y) (FrMv h₁ hk₁) hb
end
end Mine
end

section
open PySem PySem.W PyProof.Rows
set_option maxRecDepth 100000
set_option maxHeartbeats 4000000
namespace Mine

def delta (y : Str) : Int := if (y == Str.ofString "(") = true then 1 else if (y == Str.ofString ")") = true then -1 else 0
def plc (k : Nat) (p d lo : Int) : List Str → Int
  | [] => p
  | y :: r => plc (k + 1) (if d ≤ lo then (k : Int) else p) (d + delta y) (if d ≤ lo then d else lo) r
def placeF (ring : List Str) : Int := plc 0 0 0 0 ring

section
variable {w : World} {A : Around} {mg mb : Str → Option Value} {s : Shared}

theorem aio_cons {M : Model} {E : Value → Shared → Prop} {t : Value → Sem Unit} {ts : List (Value → Sem Unit)} {x : Value} {xs : List Value} {Q : Unit → Shared → Prop} (h : wpAny M A (t x) (fun _ s' => wpAny M A (assignInOrder ts xs) Q E s') E s) :
    wpAny M A (assignInOrder (t :: ts) (x :: xs)) Q E s := wpAny_bind (wpAny_holding h)
theorem aio_nil {M : Model} {E : Value → Shared → Prop} {Q : Unit → Shared → Prop} (h : Q () s) : wpAny M A (assignInOrder [] []) Q E s := wpAny_pure h

theorem place_spec {R : Result → Shared → Prop} {l : Nat} {vs : Array Value} {xs : List Str} (hN : Nm mg mb) (hh : A.handled = none) (hd : A.depth + 2 < recursionLimit) (T : Tp mg mb s.heap) (hb : AllBare s.gens)
    (hl : s.heap.IsList l vs) (hx : StrsAre vs.toList xs) (hn : xs.length ≤ 1000)
    (hR : ∀ h' tk gens t, Keeps0 s.heap h' → AllBare gens → R (.ok (.ret (.int (placeF xs) t))) { s with heap := h', toks := tk, gens := gens }) :
    codeAny (model P0 w) A (.call (.ref 83) ⟨[.ref l], []⟩) R s := by
  obtain ⟨o, pm, code, doc, ho, hdat, hc⟩ := T.f12
  have hvx : vs.size = xs.length := by have := strs_len hx; rw [Array.length_toList] at this; exact this
  obtain ⟨ol, hol, _⟩ := id hl
  have hllt : l < s.heap.objs.size := Heap.lt_size hol
  refine call_plain_ret (binds := [(Str.ofString "ring", .ref l)]) (by omega) ho hdat T.nolimit hc rfl (locs rfl) (fun h₁ F => ?_) rfl rfl rfl (by decide +kernel)
  have hlL : l ≠ s.heap.objs.size := Nat.ne_of_lt hllt
  refine wpAny_execs_cons (Assign_Tuple (Tuple_ (spliced_more (wpAny_Constant_int (spliced_more (wpAny_Constant_int (spliced_more (wpAny_Constant_int (spliced_none (wpAny_newObj_type ?_ (by size_fits)))))))))))
  have Fp := F.push (tupOf #[.int 0 (s.toks + 1), .int 0 (s.toks + 1 + 1), .int 0 (s.toks + 1 + 1 + 1)])
  have htp : (h₁.push (tupOf #[.int 0 (s.toks + 1), .int 0 (s.toks + 1 + 1), .int 0 (s.toks + 1 + 1 + 1)])).IsTuple h₁.objs.size #[.int 0 (s.toks + 1), .int 0 (s.toks + 1 + 1), .int 0 (s.toks + 1 + 1 + 1)] := ⟨_, Heap.get?_push_size _ rfl, rfl, _, rfl⟩
  refine wpAny_assign_Tuple (items := #[.int 0 (s.toks + 1), .int 0 (s.toks + 1 + 1), .int 0 (s.toks + 1 + 1 + 1)]) hh htp rfl rfl fun h₂ hx₂ => ?_
  replace hx₂ : Heap.ExtBut _ (h₁.push _) h₂ := hx₂
  have F₂ := Fp.extBut hx₂ (Nat.le_refl _)
  refine aio_cons (wpAny_assign_Name (wpAny_storeName_local rfl F₂.ns (fun h₃ hn₃ hs₃ => ?_) rfl))
  have F₃ := F₂.set hn₃ hs₃
  refine aio_cons (wpAny_assign_Name (wpAny_storeName_local rfl F₃.ns (fun h₄ hn₄ hs₄ => ?_) rfl))
  have F₄ := F₃.set hn₄ hs₄
  refine aio_cons (wpAny_assign_Name (wpAny_storeName_local rfl F₄.ns (fun h₅ hn₅ hs₅ => ?_) rfl))
  have F₅ := F₄.set hn₅ hs₅
  refine aio_nil ?_
  have hl₅ : h₅.IsList l vs := hl.at fun o y => F₅.keep _ o y
  refine wpAny_execs_cons (wpAny_For (Call_Name rfl (ld_builtin_at F₅ T.g hN.enumerate.1 T.b hN.enumerate.2 ?_ rfl rfl)))
  refine PyProof.Rows.callWith_type1 (spliced_more (ld F₅ rfl (spliced_none ?_) rfl rfl))
  refine call_enumerate_list hl₅ fun h₆ hen hit hz₆ hk₆ => ?_
  replace hz₆ : h₆.objs.size = h₅.objs.size + 2 := hz₆
  replace hk₆ : Keeps0 h₅ h₆ := hk₆
  replace hit : h₆.IsListIter h₅.objs.size l 0 := hit
  replace hen : IsEnum h₆ (h₅.objs.size + 1) h₅.objs.size 0 .none := hen
  have F₆ : Fr s.heap s.heap.objs.size h₆ _ := ⟨F₅.ns.at fun o y => hk₆ _ o y, fun b o y => hk₆ b o (F₅.keep b o y), F₅.above⟩
  refine wpAny_pyIter_enum hen ?_
  have hLlt := F₅.ns.lt
  have hl5 : l < h₅.objs.size := Nat.lt_trans hllt hLlt
  have c1 : h₅.objs.size + 1 ≠ h₅.objs.size := Nat.succ_ne_self _
  have c2 : l ≠ h₅.objs.size + 1 := by omega
  have c3 : l ≠ h₅.objs.size := by omega
  have c4 : s.heap.objs.size ∉ [h₅.objs.size + 1, h₅.objs.size, l] := by
    simp only [List.mem_cons, List.not_mem_nil, or_false, not_or]
    exact ⟨by have : s.heap.objs.size < h₅.objs.size := hLlt; omega, by have : s.heap.objs.size < h₅.objs.size := hLlt; omega, Ne.symm hlL⟩
  have W := WalksT.enumerate (prog := P0) (w := w) (A := A.deeper (envOf (nameOf (stAt 12)) (scopeOf (stAt 12)) s.heap.objs.size 83 code)) hh (h₅.objs.size + 1) h₅.objs.size l c1 c2 c3 vs
  refine pair_for (N := h₅.objs.size) (h₀ := s.heap) W hh rfl rfl rfl ?_ ?_ c4 hLlt
    (fun k m _ => ∃ p d lo t1 t2 t3, m (Str.ofString "place") = some (.int p t1) ∧ m (Str.ofString "depth") = some (.int d t2) ∧ m (Str.ofString "lowest") = some (.int lo t3) ∧ placeF xs = plc k p d lo (xs.drop k)) (fun _ _ _ _ y _ => y) F₆ hb ⟨⟨_, hen⟩, hit, hl₅.at fun o y => hk₆ _ o y⟩ ⟨0, 0, 0, _, _, _, rfl, rfl, rfl, rfl⟩ ?_ ?_
  · rintro k vals ⟨t, x, _, rfl⟩; exact ⟨_, _, rfl⟩
  · intro b hb
    simp only [List.mem_cons, List.not_mem_nil, or_false] at hb
    rcases hb with rfl | rfl
    · exact Nat.le_succ _
    · exact Nat.le_refl _
  · intro k v1 v2 hk hP m h tk gens hJ hS F' hb'
    obtain ⟨p, d, lo, t1, t2, t3, q1, q2, q3, q4⟩ := hJ
    obtain ⟨tk', x, hxk, hvals⟩ := hP
    obtain ⟨y, ty, hy, ex⟩ := strs_get hx k x (by rw [Array.getElem?_toList]; exact hxk)
    have ev : v1 = .int (k : Int) tk' ∧ v2 = .str y ty := by
      have := congrArg Array.toList hvals
      simp only [List.cons.injEq, and_true] at this
      exact ⟨this.1, this.2.trans ex⟩
    have hkn : k < xs.length := hvx ▸ hk
    have hdr : xs.drop k = y :: xs.drop (k + 1) := by
      rw [List.drop_eq_getElem_cons hkn]
      rw [List.getElem?_eq_getElem hkn] at hy
      rw [Option.some.inj hy]
    rw [hdr] at q4
    have q4' : placeF xs = plc (k + 1) (if d ≤ lo then (k : Int) else p) (d + delta y) (if d ≤ lo then d else lo) (xs.drop (k + 1)) := q4
    obtain ⟨m', F', p1, p2, p3, p5, p6⟩ : ∃ m', Fr s.heap s.heap.objs.size h m' ∧ m' (Str.ofString "place") = some (.int p t1) ∧ m' (Str.ofString "depth") = some (.int d t2) ∧ m' (Str.ofString "lowest") = some (.int lo t3) ∧ m' (Str.ofString "piece") = some (.str y ty) ∧ m' (Str.ofString "k") = some (.int (k : Int) tk') := by
      refine ⟨_, F', ?_, ?_, ?_, ?_, ?_⟩
      · show (if _ then _ else if _ then _ else _) = _
        rw [if_neg (by decide), if_neg (by decide)]; exact q1
      · show (if _ then _ else if _ then _ else _) = _
        rw [if_neg (by decide), if_neg (by decide)]; exact q2
      · show (if _ then _ else if _ then _ else _) = _
        rw [if_neg (by decide), if_neg (by decide)]; exact q3
      · show (if _ then _ else if _ then _ else _) = _
        rw [if_pos rfl, ev.2]
      · show (if _ then _ else if _ then _ else _) = _
        rw [if_neg (by decide), if_pos rfl, ev.1]
    refine wpAny_execs_cons (wpAny_mono (Q := fun f s' => f = .next ∧ ∃ (h₆ : Heap) (tk₆ : Nat) (m₆ : Str → Option Value) (t1 t3 : Tok), s' = { s with heap := h₆, toks := tk₆, gens := gens } ∧ Fr s.heap s.heap.objs.size h₆ m₆ ∧ (∀ b o, b ≠ s.heap.objs.size → h.get? b = some o → h₆.get? b = some o) ∧
        m₆ (Str.ofString "place") = some (.int (if d ≤ lo then (k : Int) else p) t1) ∧ m₆ (Str.ofString "lowest") = some (.int (if d ≤ lo then d else lo) t3) ∧ m₆ (Str.ofString "depth") = some (.int d t2) ∧ m₆ (Str.ofString "piece") = some (.str y ty))
      (wpAny_If (wpAny_isTrue_Compare1 (ld F' p2 (ld F' p3 (PyProof.Rows.le_int (wpAny_truthy_bool ?_)) rfl rfl) rfl rfl))) (fun f s' hf => ?_) fun _ _ x => x)
    · by_cases hdl : d ≤ lo
      · rw [if_pos (decide_eq_true hdl)]
        simp only [if_pos hdl]
        refine wpAny_execs_cons (Assign_Tuple_swapped (names := [Str.ofString "place", Str.ofString "lowest"]) (Tuple_ (spliced_more (ld F' p6 (spliced_more (ld F' p2 (spliced_none (wpAny_newObj_type ?_ (by size_fits))) rfl rfl)) rfl rfl))))
        have Fq := F'.push (tupOf #[.int (k : Int) tk', .int d t2])
        have htq : (h.push (tupOf #[.int (k : Int) tk', .int d t2])).IsTuple h.objs.size #[.int (k : Int) tk', .int d t2] := ⟨_, Heap.get?_push_size _ rfl, rfl, _, rfl⟩
        refine wpAny_unpackItems_tuple (items := #[.int (k : Int) tk', .int d t2]) hh htq fun h₇ hx₇ => ?_
        replace hx₇ : Heap.ExtBut _ (h.push (tupOf #[.int (k : Int) tk', .int d t2])) h₇ := hx₇
        have F₇ := Fq.extBut hx₇ (Nat.le_refl _)
        have hk₇ : Keeps0 h h₇ := fun b o y => hx₇ b o (Nat.ne_of_lt (Heap.lt_size (Heap.get?_push_of_some _ y))) (Heap.get?_push_of_some _ y)
        refine aio_cons (wpAny_bindName (wpAny_storeName_local rfl F₇.ns (fun h₈ hn₈ hs₈ => ?_) rfl))
        have F₈ := F₇.set hn₈ hs₈
        replace hs₈ : Heap.SameBut s.heap.objs.size h₇ h₈ := hs₈
        refine aio_cons (wpAny_bindName (wpAny_storeName_local rfl F₈.ns (fun h₉ hn₉ hs₉ => ?_) rfl))
        replace hs₉ : Heap.SameBut s.heap.objs.size h₈ h₉ := hs₉
        have F₉ := F₈.set hn₉ hs₉
        refine aio_nil (wpAny_execs_nil ⟨rfl, h₉, _, _, tk', t2, rfl, F₉, fun b o hb y => hs₉.extBut b o hb (hs₈.extBut b o hb (hk₇ b o y)), if_pos rfl, ?_, ?_, ?_⟩)
        · show (if _ then _ else if _ then _ else _) = _
          rw [if_neg (by decide), if_pos rfl]
        · show (if _ then _ else if _ then _ else _) = _
          rw [if_neg (by decide), if_neg (by decide)]; exact p2
        · show (if _ then _ else if _ then _ else _) = _
          rw [if_neg (by decide), if_neg (by decide)]; exact p5
      · rw [if_neg (by simpa using hdl)]
        simp only [if_neg hdl]
        exact wpAny_execs_nil ⟨rfl, h, _, m', t1, t3, rfl, F', fun b o _ y => y, p1, p3, p2, p5⟩
    · obtain ⟨rfl, h₆, tk₆, m₆, t1', t3', rfl, F₆, g1, g2, g3, g4, g5⟩ := hf
      refine wpAny_execs_cons (wpAny_AugAssign_Name (ldn F₆ g4 ?_ rfl rfl))
      refine wpAny_mono (Q := fun v s' => ∃ t tk, v = .int (delta y) t ∧ s' = { s with heap := h₆, toks := tk, gens := gens }) ?_ (fun v s' hv => ?_) fun _ _ x => x
      · refine wpAny_IfExp (wpAny_isTrue_Compare1 (ld F₆ g5 (Calls.Constant_str (PyProof.Rows.eq_str (wpAny_truthy_bool ?_))) rfl rfl))
        unfold delta
        cases h1 : (y == Str.ofString "(") with
        | true => exact wpAny_Constant_int ⟨_, _, rfl, rfl⟩
        | false =>
          refine wpAny_IfExp (wpAny_isTrue_Compare1 (ld F₆ g5 (Calls.Constant_str (PyProof.Rows.eq_str (wpAny_truthy_bool ?_))) rfl rfl))
          cases h2 : (y == Str.ofString ")") with
          | true => exact wpAny_UnaryOp (wpAny_Constant_int (PyProof.Rows.neg_int ⟨_, _, rfl, rfl⟩))
          | false => exact wpAny_Constant_int ⟨_, _, rfl, rfl⟩
      · obtain ⟨t, tk, rfl, rfl⟩ := hv
        refine PyProof.Rows.iadd_int (wpAny_storeName_local rfl F₆.ns (fun h₇ hn₇ hs₇ => ?_) rfl)
        replace hs₇ : Heap.SameBut s.heap.objs.size h₆ h₇ := hs₇
        have F₇ := F₆.set hn₇ hs₇
        refine wpAny_execs_nil ⟨h₇, _, gens, _, rfl, F₇, hb', fun b o hb y => ?_, _, _, _, t1', tk, t3', ?_, if_pos rfl, ?_, q4'⟩
        · have hbL : b ≠ s.heap.objs.size := by
            rcases hb with hb | hb
            · exact Ne.symm (low_ne hLlt hb)
            · exact fun e => c4 (e ▸ hb)
          exact hs₇.extBut b o hbL (g1 b o hbL y)
        · show (if _ then _ else _) = _
          rw [if_neg (by decide)]; exact g2
        · show (if _ then _ else _) = _
          rw [if_neg (by decide)]; exact g3
  · intro m h tk gens hJ F' hb'
    obtain ⟨p, d, lo, t1, t2, t3, q1, q2, q3, q4⟩ := hJ
    rw [hvx, List.drop_length] at q4
    refine wpAny_execs_cons (wpAny_Return_some (ld F' q1 ?_ rfl rfl))
    have : placeF xs = p := q4
    show R (.ok (.ret (.int p t1))) _
    rw [← this]
    exact hR h _ gens t1 F'.keep hb'
end
end Mine
end

section
open PySem PySem.W PyProof.Rows
set_option maxRecDepth 100000
set_option maxHeartbeats 4000000
namespace Mine
open Builtin Builtin.List

def rmv (y : Str) : List Str → Option (List Str)
  | [] => none
  | z :: r => if (z == y) = true then some r else (rmv y r).map (z :: ·)

theorem entry_remove_loop : entryFor table "list.remove.loop" = some Builtin.«list.remove.loop» := entryFor_of_tree (by kernel_rfl)
theorem plain_remove_loop : plainId "list.remove.loop" = true := by decide +kernel

section
variable {w : World} {A : Around} {E : Value → Shared → Prop} {s : Shared}

theorem rmv_app {y : Str} {ps rs : List Str} (h : ∀ z ∈ ps, (z == y) = false) : rmv y (ps ++ rs) = (rmv y rs).map (ps ++ ·) := by
  induction ps with
  | nil => simp
  | cons z r ih =>
    show (if (z == y) = true then _ else Option.map (z :: ·) (rmv y (r ++ rs))) = _
    rw [if_neg (by rw [h z (.head _)]; exact Bool.false_ne_true), ih fun a ha => h a (.tail _ ha)]
    cases rmv y rs <;> simp

theorem strs_app {vs us : List Value} {ys zs : List Str} (h : StrsAre vs ys) (k : StrsAre us zs) : StrsAre (vs ++ us) (ys ++ zs) := by
  induction h with
  | nil => exact k
  | cons y t _ ih => exact .cons y t ih

theorem remove_loop {R : Result → Shared → Prop} {l : Addr} {vals : Array Value} {y : Str} {t : Tok} {ys : List Str} (hh : A.handled = none) (hl : s.heap.PlainList l vals) (hsz : vals.size ≤ sizeLine)
    (hit : ∀ vals' ys' h', rmv y ys = some ys' → StrsAre vals'.toList ys' → h'.PlainList l vals' → Heap.SameBut l s.heap h' → R (.ok (.ret .none)) { s with heap := h' })
    (miss : rmv y ys = none → ∀ h' tk e, Heap.NewExc s.heap h' e "ValueError" → R (.error (.ref e)) { s with heap := h', toks := tk }) :
    ∀ (us : List Value) (zs : List Str) (pv : List Value) (ps : List Str), vals.toList = pv ++ us → StrsAre us zs → StrsAre pv ps → ys = ps ++ zs → (∀ z ∈ ps, (z == y) = false) →
      codeAny (model P0 w) A (.builtin "list.remove.loop" ⟨[.ref l, .str y t, rawInt (pv.length : Int)], []⟩) R s := by
  obtain ⟨n, ho⟩ := id hl
  intro us
  induction us with
  | nil =>
    intro zs pv ps h1 h2 h3 h4 h5
    cases h2
    refine codeAny_builtin entry_remove_loop ?_
    rw [Around.under_plainId plain_remove_loop _]
    unfold Builtin.«list.remove.loop»
    show wpAny _ A.in1 (listItems (.ref l) >>= _) _ _ s
    refine wpAny_bind (wpAny_listItems ho rfl ?_)
    have e1 : vals[((pv.length : Int)).toNat]? = none := by
      rw [← Array.getElem?_toList, h1]; simp
    rw [e1]
    refine wpAny_bind (wpAny_rule ?_)
    refine raiseError_exc (msg := "list.remove(x): x not in list") excClass_ValueError hh (fun h' tk e hx => ?_) (by size_fits)
    refine miss ?_ h' tk e hx
    rw [h4, rmv_app h5]; rfl
  | cons u us ih =>
    intro zs pv ps h1 h2 h3 h4 h5
    cases h2 with
    | cons z tz h2' =>
      rename_i zs'
      refine codeAny_builtin entry_remove_loop ?_
      rw [Around.under_plainId plain_remove_loop _]
      unfold Builtin.«list.remove.loop»
      show wpAny _ A.in1 (listItems (.ref l) >>= _) _ _ s
      refine wpAny_bind (wpAny_listItems ho rfl ?_)
      have e1 : vals[((pv.length : Int)).toNat]? = some (.str z tz) := by
        rw [← Array.getElem?_toList, h1]; simp
      rw [e1]
      refine wpAny_bind (eqBool_str ?_)
      cases hz : (z == y) with
      | true =>
        rw [if_pos rfl]
        show wpAny _ A.in1 (updateSeq l (·.eraseIdxIfInBounds ((pv.length : Int)).toNat) >>= _) _ _ s
        refine wpAny_bind ?_
        have hle : (vals.eraseIdxIfInBounds pv.length).size ≤ sizeLine + 1 := by
          have e2 : (vals.eraseIdxIfInBounds pv.length).size = (vals.eraseIdxIfInBounds pv.length).toList.length := Array.length_toList.symm
          rw [e2, Array.toList_eraseIdxIfInBounds]
          have e3 : vals.toList.length = vals.size := Array.length_toList
          have := List.length_eraseIdx_le vals.toList pv.length
          omega
        refine wpAny_updateSeq ho rfl (wpAny_pure ?_) hsz hle
        refine hit (vals.eraseIdxIfInBounds pv.length) (ps ++ zs') _ ?_ ?_ ⟨_, Heap.get?_update_self _ ho rfl⟩ (Heap.SameBut.update ..)
        · rw [h4, rmv_app h5]
          show (Option.map _ (if (z == y) = true then _ else _)) = _
          rw [if_pos hz]; rfl
        · have : (vals.eraseIdxIfInBounds pv.length).toList = pv ++ us := by
            rw [Array.toList_eraseIdxIfInBounds, h1]; simp [List.eraseIdx_append_of_length_le]
          rw [this]; exact strs_app h3 h2'
      | false =>
        rw [if_neg Bool.false_ne_true]
        refine wpAny_pure ⟨plainId_quiet plain_remove_loop _, ?_⟩
        have := ih zs' (pv ++ [.str z tz]) (ps ++ [z]) (by rw [h1]; simp) h2' (strsAre_snoc h3 z tz) (by rw [h4]; simp) (fun a ha => by
          rcases List.mem_append.mp ha with ha | ha
          · exact h5 a ha
          · rw [List.mem_singleton.mp ha]; exact hz)
        rw [List.length_append] at this
        exact this

theorem remove_spec {Q : Value → Shared → Prop} {l : Addr} {vals : Array Value} {y : Str} {t : Tok} {ys : List Str} (hh : A.handled = none) (hl : s.heap.PlainList l vals) (hs : StrsAre vals.toList ys) (hsz : vals.size ≤ sizeLine)
    (hit : ∀ vals' ys' h', rmv y ys = some ys' → StrsAre vals'.toList ys' → h'.PlainList l vals' → Heap.SameBut l s.heap h' → Q .none { s with heap := h' })
    (miss : rmv y ys = none → ∀ h' tk e, Heap.NewExc s.heap h' e "ValueError" → E (.ref e) { s with heap := h', toks := tk }) :
    wpAny (model P0 w) A (call (.builtin "list.remove") [.ref l, .str y t]) Q E s := by
  obtain ⟨n, ho⟩ := id hl
  refine wpAny_call (codeAny_call_builtin PySem.F.slot_list_remove.plain PySem.F.entry_list_remove (PySem.F.slot_list_remove.check _ _ _ _ _ _ _ _ ⟨_, ho, rfl⟩ (PySem.F.args_list_remove_2 _ _) ?_))
  unfold Builtin.«list.remove»
  refine wpAny_pure ⟨plainId_quiet plain_remove_loop _, ?_⟩
  exact remove_loop hh hl hsz (fun vals' ys' h' a b c d => hit vals' ys' h' a b c d) (fun a h' tk e hx => miss a h' tk e hx) vals.toList ys [] [] rfl hs .nil rfl (fun _ h => nomatch h)
end
end Mine
end

section
open PySem PySem.W PyProof.Rows
set_option maxRecDepth 100000
set_option maxHeartbeats 4000000
namespace Mine
section
variable {M : Model} {A : Around} {E : Value → Shared → Prop} {s : Shared} {base : Heap} {env : Env} {outer : List Env} {L e : Addr} {Q : Unit → Shared → Prop}

/-- the first note of a new exception, under any number of frames -/
theorem note_new {h0 : Heap} {X : String} (hfr : A.frames = some (env :: outer)) (hl : s.heap.FunFrames base (env :: outer)) (hf : env.frame = some L) (hx : Heap.NewExc h0 s.heap e X) (hkb : base.StaysIn s.heap) (hen : base.get? e = none)
    (h : ∀ h' a0, Heap.HeldW base (env :: outer) e (.type X) a0 L h' → s.heap.UpToSlots h' → Q () { s with heap := h' }) : wpAny M A (noteFrame (.ref e) env) Q E s := by
  obtain ⟨oe, t, he, hc, hd⟩ := hx.there
  unfold noteFrame
  simp only [hf]
  refine wpAny_bind (wpAny_field he hd (x := .none) rfl ?_)
  rw [if_neg (by decide)]
  refine (wpAny_entryW (head := .none) (hadNext := false) hfr hl hf he hkb hen hd (by simp) (a0 := t) rfl fun h' hN => ?_ : wpAny M A (do let a ← frameOf env; let pl ← entryPlaceOf L false; let b ← EntryCells.newEntry .none a .none (rawInt L) .none pl; setField (.ref e) 1 b) Q E s)
  obtain ⟨k1, k2, k3, k4⟩ := hN
  rw [hc] at k3
  exact h h' t ⟨k1, hen, k2, k3⟩ k4

/-- back at the statement that ran the loop -/
theorem came_back {X : Value} {a0 : Value} (hf : env.frame = some L) (hH : Heap.HeldW base (env :: outer) e X a0 L s.heap)
    (h : ∀ h', Heap.HeldW base (env :: outer) e X a0 L h' → s.heap.UpToSlots h' → E (.ref e) { s with heap := h' }) : cameBackBy M A env E (.ref e) s := by
  obtain ⟨hkb, hen, hl, oe, vs, T, oT, ts, he, hcls, hd, h1, hnT, hTe, hT, hdT, h3⟩ := hH
  have hsz3 : 3 < ts.size := (Array.getElem?_eq_some_iff.mp h3).1
  unfold cameBackBy
  refine wpAny_bind (wpAny_field he hd h1 ?_)
  rw [if_neg (show ¬ (Value.ref T == Value.none) = true from fun q => by have := eq_of_beq q; cases this)]
  unfold setFlight
  refine wpAny_bind (wpAny_field he hd h1 ?_)
  rw [if_pos (show (Value.ref T != Value.none) = true from by simp)]
  have other : ∀ b, b ≠ T → (s.heap.update T (Obj.mapFields (·.setIfInBounds 3 (env.frame.elim Value.none fun f => rawInt f)))).get? b = s.heap.get? b :=
    fun b hb => Heap.get?_update_other _ _ (Ne.symm hb)
  have noRecord : ∀ b o, s.heap.get? b = some o → (∀ vs, o.data ≠ .fields vs) → b ≠ T := fun b o hb hnf q => by
    rw [q, hT] at hb; injection hb with hb; subst hb; exact hnf ts hdT
  refine wpAny_setField hT hdT hsz3 (h _ ⟨fun b o hbo => (other b fun q => by rw [q, hnT] at hbo; cases hbo).trans (hkb b o hbo), hen,
    hl.of_keeps fun b o hb hnf => ⟨o, (other b (noRecord b o hb hnf)).trans hb, rfl⟩, ?_⟩ fun b o hb hnf => ⟨o.slots, (other b (noRecord b o hb hnf)).trans hb⟩)
  refine ⟨oe, vs, T, _, _, (other e (Ne.symm hTe)).trans he, hcls, hd, h1, hnT, hTe, Heap.get?_update_self _ hT (Obj.isFreed_of_fields (Obj.data_mapFields hdT _)), Obj.data_mapFields hdT _, ?_⟩
  rw [hf]; simp [hsz3]
end
end Mine
end

section
open PySem PySem.W PyProof.Rows
set_option maxRecDepth 100000
set_option maxHeartbeats 4000000
namespace Mine
theorem meta_VE : isSubtype (.type ((Manifest.find? "ValueError").elim "type" fun x => x.metatype)) (.type "tuple") = pure false := by
  rw [isSubtype_type]; kernel_rfl

def rmAll (t : List Str) : List Str → Option (List Str)
  | [] => some t
  | y :: r => match rmv y t with
    | none => none
    | some t' => rmAll t' r
def cmpF (a b : List Str) : Bool := match rmAll (ddF [] b) (ddF [] a) with
  | none => false
  | some t => t.isEmpty
theorem ddF_len : ∀ (l acc : List Str), (ddF acc l).length ≤ acc.length + l.length := by
  intro l
  induction l with
  | nil => intro acc; exact Nat.le_refl _
  | cons y r ih =>
    intro acc
    show (ddF (if _ then _ else _) r).length ≤ _
    split
    · have := ih (acc ++ [y])
      simp only [List.length_append, List.length_cons, List.length_nil] at this ⊢; omega
    · have := ih acc
      simp only [List.length_cons]; omega
theorem rmv_len {y : Str} : ∀ {l l' : List Str}, rmv y l = some l' → l'.length ≤ l.length
  | [], _, h => nomatch h
  | z :: r, l', h => by
    unfold rmv at h
    split at h
    · cases h; exact Nat.le_succ _
    · obtain ⟨q, hq, rfl⟩ := Option.map_eq_some_iff.mp h
      have := rmv_len hq
      simp only [List.length_cons]; omega

section
variable {w : World} {A : Around} {mg mb : Str → Option Value} {s : Shared}

theorem cmp_spec {R : Result → Shared → Prop} {base : Heap} {outer : List Env} {l1 l2 : Nat} {vs1 vs2 : Array Value} {xs1 xs2 : List Str} (hN : Nm mg mb) (hh : A.handled = none) (hd : A.depth + 4 < recursionLimit)
    (Tb : Tp mg mb base) (hst : base.StaysIn s.heap) (hbs : base.objs.size ≤ s.heap.objs.size) (hff : s.heap.FunFrames base outer) (hfr : A.frames = some outer) (hb : AllBare s.gens)
    (hl1 : s.heap.IsList l1 vs1) (hx1 : StrsAre vs1.toList xs1) (hn1 : xs1.length ≤ 1000) (hl2 : s.heap.IsList l2 vs2) (hx2 : StrsAre vs2.toList xs2) (hn2 : xs2.length ≤ 1000)
    (hR : ∀ h' tk gens, base.StaysIn h' → h'.FunFrames base outer → s.heap.UpToSlots h' → AllBare gens → R (.ok (.ret (.bool (cmpF xs1 xs2)))) { s with heap := h', toks := tk, gens := gens }) :
    codeAny (model P0 w) A (.call (.ref 64) ⟨[.ref l1, .ref l2], []⟩) R s := by
  have T := Tb.keeps hst
  obtain ⟨o, pm, code, doc, ho, hdat, hc⟩ := T.f8
  refine call_plain_ret (binds := [(Str.ofString "first_args", .ref l1), (Str.ofString "second_args", .ref l2)]) (by omega) ho hdat T.nolimit hc rfl (locs rfl) (fun h₁ F => ?_) rfl rfl rfl (by decide +kernel)
  obtain ⟨o7, pm7, code7, doc7, ho7, hdat7, hc7⟩ := T.f7
  have hfr' : (A.deeper (envOf (nameOf (stAt 8)) (scopeOf (stAt 8)) s.heap.objs.size 64 code)).frames = some (envOf (nameOf (stAt 8)) (scopeOf (stAt 8)) s.heap.objs.size 64 code :: outer) := Around.frames_deeper hfr
  -- first
  refine wpAny_execs_cons (wpAny_Assign_Name (Call_Name rfl (ld_global_at F T.g hN.f7 ?_ rfl rfl)))
  refine callWith_def hdat7 (spliced_more (ld F rfl (spliced_none ⟨F.keep _ _ ho7, ?_⟩) rfl rfl))
  refine wpAny_call (dd_spec hh (by show A.depth + 1 + 2 < _; omega) (T.keeps F.keep) hb (hl1.at fun o y => F.keep _ o y) hx1 hn1 fun h₂ tk₂ gens₂ r1 v1 hk₂ hb₂ hrn1 hp1 hs1 => ?_)
  replace hk₂ : Keeps0 h₁ h₂ := hk₂
  have F₂ : Fr s.heap s.heap.objs.size h₂ _ := ⟨F.ns.at fun o y => hk₂ _ o y, fun b o y => hk₂ b o (F.keep b o y), F.above⟩
  refine wpAny_storeName_local rfl F₂.ns (fun h₃ hn₃ hs₃ => ?_) rfl
  replace hs₃ : Heap.SameBut s.heap.objs.size h₂ h₃ := hs₃
  have F₃ := F₂.set hn₃ hs₃
  have r1L : r1 ≠ s.heap.objs.size := fun e => by rw [e] at hrn1; obtain ⟨o, _, _, ho, _⟩ := F.ns; rw [ho] at hrn1; cases hrn1
  replace hp1 : h₃.PlainList r1 v1 := hp1.at fun o y => hs₃.extBut _ o r1L y
  -- second
  refine wpAny_execs_cons (wpAny_Assign_Name (Call_Name rfl (ld_global_at F₃ T.g hN.f7 ?_ rfl rfl)))
  refine callWith_def hdat7 (spliced_more (ld F₃ rfl (spliced_none ⟨F₃.keep _ _ ho7, ?_⟩) rfl rfl))
  refine wpAny_call (dd_spec hh (by show A.depth + 1 + 2 < _; omega) (T.keeps F₃.keep) hb₂ (hl2.at fun o y => F₃.keep _ o y) hx2 hn2 fun h₄ tk₄ gens₄ r2 v2 hk₄ hb₄ hrn2 hp2 hs2 => ?_)
  replace hk₄ : Keeps0 h₃ h₄ := hk₄
  have F₄ : Fr s.heap s.heap.objs.size h₄ _ := ⟨F₃.ns.at fun o y => hk₄ _ o y, fun b o y => hk₄ b o (F₃.keep b o y), F₃.above⟩
  refine wpAny_storeName_local rfl F₄.ns (fun h₅ hn₅ hs₅ => ?_) rfl
  replace hs₅ : Heap.SameBut s.heap.objs.size h₄ h₅ := hs₅
  have F₅ := F₄.set hn₅ hs₅
  have r2L : r2 ≠ s.heap.objs.size := fun e => by rw [e] at hrn2; obtain ⟨o, _, _, ho, _⟩ := F₃.ns; rw [ho] at hrn2; cases hrn2
  replace hp1 : h₅.PlainList r1 v1 := hp1.at fun o y => hs₅.extBut _ o r1L (hk₄ _ o y)
  replace hp2 : h₅.PlainList r2 v2 := hp2.at fun o y => hs₅.extBut _ o r2L y
  -- the copy
  refine wpAny_execs_cons (wpAny_Assign_Name (Call_Name rfl (ld_builtin_at F₅ T.g hN.list.1 T.b hN.list.2 ?_ rfl rfl)))
  refine PyProof.Rows.callWith_type1 (spliced_more (ld F₅ rfl (spliced_none ?_) rfl rfl))
  have hv2 : v2.size ≤ 1000 := by
    have e1 := strs_len hs2
    have e2 : v2.toList.length = v2.size := Array.length_toList
    have e3 := ddF_len xs2 []
    simp only [List.length_nil] at e3
    omega
  have hsz2 : v2.size ≤ sizeLine := by rw [sizeLine_eq]; omega
  obtain ⟨n2, hg2⟩ := id hp2
  refine call_list_seq r2 (.inl rfl) hg2 rfl rfl (fun h₆ c₆ hk₆ hl₆ => ?_) hsz2
  replace hk₆ : Keeps0 h₅ h₆ := hk₆
  replace hl₆ : h₆.get? h₅.objs.size = some { cls := .type "list", dict := none, data := .seq v2 c₆, slots := #[] } := hl₆
  have F₆ : Fr s.heap s.heap.objs.size h₆ _ := ⟨F₅.ns.at fun o y => hk₆ _ o y, fun b o y => hk₆ b o (F₅.keep b o y), F₅.above⟩
  refine wpAny_storeName_local rfl F₆.ns (fun h₇ hn₇ hs₇ => ?_) rfl
  replace hs₇ : Heap.SameBut s.heap.objs.size h₆ h₇ := hs₇
  have F₇ := F₆.set hn₇ hs₇
  have hLt : s.heap.objs.size < h₅.objs.size := F₅.ns.lt
  have tL : h₅.objs.size ≠ s.heap.objs.size := Nat.ne_of_gt hLt
  have ht₇ : h₇.PlainList h₅.objs.size v2 := ⟨c₆, hs₇.extBut _ _ tL hl₆⟩
  have htlt : h₅.objs.size < h₇.objs.size := by obtain ⟨_, y⟩ := ht₇; exact Heap.lt_size y
  have r1t : r1 ≠ h₅.objs.size := by obtain ⟨_, y⟩ := hp1; exact Nat.ne_of_lt (Heap.lt_size y)
  have hp1' : h₇.PlainList r1 v1 := hp1.at fun o y => hs₇.extBut _ o r1L (hk₆ _ o y)
  have htn : s.heap.get? h₅.objs.size = none := Heap.get?_none_of_le (Nat.le_of_lt hLt)
  generalize h₅.objs.size = tt at hLt tL ht₇ htlt r1t htn hn₇ F₇ hl₆
  have hv1 : v1.size = (ddF [] xs1).length := by
    have e1 := strs_len hs1
    have e2 : v1.toList.length = v1.size := Array.length_toList
    omega
  refine wpAny_execs_cons (wpAny_Try_except ?_)
  refine wpAny_execs_cons (wpAny_For (ld F₇ rfl ?_ rfl rfl))
  refine list_for (l := r1) (Lc := s.heap.objs.size) (h₀ := s.heap) hh rfl rfl (fun k m h => ∃ vals ts, m (Str.ofString "t") = some (.ref tt) ∧ h.PlainList tt vals ∧ StrsAre vals.toList ts ∧ vals.size ≤ 1000 ∧ rmAll (ddF [] xs2) (ddF [] xs1) = rmAll ts ((ddF [] xs1).drop k)) ?_ F₇ r1L hp1'.isList hb₄ ⟨v2, ddF [] xs2, rfl, ht₇, hs2, hv2, rfl⟩ ?_ ?_
  · rintro k m h h' ⟨vals, ts, q1, q2, q3⟩ hk
    exact ⟨vals, ts, q1, q2.at fun o y => hk tt o htlt tL y, q3⟩
  · intro k v hv m h tk gens hJ hl' F' hb'
    obtain ⟨vals, ts, q1, q2, q3, q4, q5⟩ := hJ
    obtain ⟨y, ty, hy, rfl⟩ := strs_get hs1 k v (by rw [Array.getElem?_toList]; exact hv)
    have hkn : k < (ddF [] xs1).length := by
      rcases Nat.lt_or_ge k (ddF [] xs1).length with h | h
      · exact h
      · rw [List.getElem?_eq_none h] at hy; cases hy
    have hdr : (ddF [] xs1).drop k = y :: (ddF [] xs1).drop (k + 1) := by
      rw [List.drop_eq_getElem_cons hkn]
      rw [List.getElem?_eq_getElem hkn] at hy
      rw [Option.some.inj hy]
    rw [hdr] at q5
    have hv' : (fun z => if z = Str.ofString "elem" then some (Value.str y ty) else m z) (Str.ofString "elem") = some (.str y ty) := if_pos rfl
    have ht' : (fun z => if z = Str.ofString "elem" then some (Value.str y ty) else m z) (Str.ofString "t") = some (.ref tt) := by
      show (if _ then _ else _) = _
      rw [if_neg (by decide)]; exact q1
    generalize (fun z => if z = Str.ofString "elem" then some (Value.str y ty) else m z) = m' at hv' ht' F'
    obtain ⟨nt, hgt⟩ := id q2
    have hszv : vals.size ≤ sizeLine := by rw [sizeLine_eq]; omega
    refine wpAny_execs_cons (wpAny_Expr (wpAny_Call_method (T := "list") (id := "list.remove") rfl rfl rfl PySem.F.plainAttrs_list PySem.F.slot_list_remove PySem.F.type_list_remove (ld F' ht' ⟨⟨_, hgt, rfl⟩, ⟨fun a e => by cases e; exact ⟨_, hgt, rfl⟩, ?_⟩⟩ rfl rfl)) rfl rfl)
    refine callWith_method1 (spliced_more (ld F' hv' (spliced_none ?_) rfl rfl))
    refine remove_spec hh q2 q3 hszv (fun vals' ts' h₈ hr hs₈ hp₈ hsb₈ => ?_) fun hr h₈ tk₈ e hx => ?_
    · replace hsb₈ : Heap.SameBut tt h h₈ := hsb₈
      have q5' : rmAll (ddF [] xs2) (ddF [] xs1) = rmAll ts' ((ddF [] xs1).drop (k + 1)) := by
        rw [q5]
        show (match rmv y ts with | none => none | some t' => rmAll t' _) = _
        rw [hr]
      refine wpAny_execs_nil ⟨h₈, _, gens, m', rfl, ?_, hb', fun b o hb y => hsb₈.extBut b o ?_ y, vals', ts', ht', hp₈, hs₈, ?_, q5'⟩
      · refine ⟨F'.ns.sameBut hsb₈ (Ne.symm tL), fun b o y => hsb₈.extBut b o (fun e => ?_) (F'.keep b o y), F'.above⟩
        rw [e, htn] at y; cases y
      · rcases hb with hb | rfl
        · exact Ne.symm (low_ne htlt hb)
        · exact r1t
      · have e1 := strs_len hs₈
        have e2 := strs_len q3
        have e3 := rmv_len hr
        have e4 : vals'.toList.length = vals'.size := Array.length_toList
        have e5 : vals.toList.length = vals.size := Array.length_toList
        omega
    · have hF : cmpF xs1 xs2 = false := by
        unfold cmpF
        rw [q5]
        show (match (match rmv y ts with | none => none | some t' => rmAll t' _) with | none => false | some t => t.isEmpty) = _
        rw [hr]
      obtain ⟨oL, es, ep, hoL, hdL, _⟩ := id F'.ns
      have hst₈ : base.StaysIn h₈ := fun b o y => hx.keeps _ _ (F'.keep b o (hst b o y))
      have hff₈ : h₈.FunFrames base (envOf (nameOf (stAt 8)) (scopeOf (stAt 8)) s.heap.objs.size 64 code :: outer) :=
        ⟨(by decide : (scopeOf (stAt 8)).kind ≠ .module), ⟨s.heap.objs.size, oL, rfl, hst.fresh, hx.keeps _ _ hoL, fun vs q => by rw [hdL] at q; cases q⟩, hff.of_keeps fun b o y _ => ⟨o, hx.keeps _ _ (F'.keep b o y), rfl⟩⟩
      have hen : base.get? e = none := by
        cases q : base.get? e with
        | none => rfl
        | some o => have := F'.keep _ _ (hst _ _ q); rw [hx.new] at this; cases this
      have hup₈ : s.heap.UpToSlots h₈ := Heap.UpToSlots.of_keeps fun b o y => hx.keeps _ _ (F'.keep b o y)
      have hup₈' : h.UpToSlots h₈ := Heap.UpToSlots.of_keeps hx.keeps
      refine note_new (base := base) (outer := outer) hfr' hff₈ rfl hx hst₈ hen fun h₉ a0 hH₉ hu₉ => ?_
      refine came_back rfl hH₉ fun h₁₀ hH₁₀ hu₁₀ => ?_
      refine wpAny_noteFrame_againW rfl hH₁₀.2.2.2 ?_
      refine wpAny_landsW hH₁₀ fun h₁₁ hfl hu₁₁ => ?_
      have U : h.UpToSlots h₁₁ := hup₈'.trans (hu₉.trans (hu₁₀.trans hu₁₁))
      have F₁₁ : Fr base s.heap.objs.size h₁₁ m' := ⟨U.ns F'.ns, hfl.1, hbs⟩
      obtain ⟨ob, hob, hobc⟩ := hfl.there
      refine wpAny_handleBy_builtin (X := "ValueError") (T := "ValueError") (b := true) PySem.F.isExc_ValueError meta_VE PySem.F.self_ValueError (ld_builtin_at F₁₁ Tb.g hN.valueError.1 Tb.b hN.valueError.2 ⟨rfl, ⟨ob, hob, hobc⟩, ?_⟩ rfl rfl)
      refine lands_againW hfl fun h₁₂ hfl₁₂ hu₁₂ => ?_
      refine wpAny_execs_cons (wpAny_Return_some (wpAny_Constant_bool ?_))
      show R (.ok (.ret (.bool false))) _
      rw [← hF]
      exact hR h₁₂ _ gens hfl₁₂.1 hfl₁₂.2.2.1.2.2 (hup₈.trans (hu₉.trans (hu₁₀.trans (hu₁₁.trans hu₁₂)))) hb'
  · intro m h tk gens hJ F' hb'
    obtain ⟨vals, ts, q1, q2, q3, q4, q5⟩ := hJ
    rw [hv1, List.drop_length] at q5
    have hF : cmpF xs1 xs2 = ts.isEmpty := by
      unfold cmpF
      rw [q5]; rfl
    refine wpAny_execs_nil (wpAny_execs_nil (wpAny_execs_cons (wpAny_Return_some (wpAny_UnaryOp (ld F' q1 (not_of (wpAny_truthy_list q2.isList ?_ ?_)) rfl rfl)))))
    · have := q4; omega
    · have e1 : (!(!vals.isEmpty)) = ts.isEmpty := by
        have e1 := strs_len q3
        have e2 : vals.toList.length = vals.size := Array.length_toList
        rw [Bool.not_not, Bool.eq_iff_iff, Array.isEmpty_iff_size_eq_zero, List.isEmpty_iff_length_eq_zero]
        omega
      show R (.ok (.ret (.bool (!(!vals.isEmpty))))) _
      rw [e1, ← hF]
      exact hR h _ gens (fun b o y => F'.keep b o (hst b o y)) (hff.of_keeps fun b o y _ => ⟨o, F'.keep b o y, rfl⟩) (Heap.UpToSlots.of_keeps F'.keep) hb'
end
end Mine
end

section
open PySem PySem.W PyProof.Rows
set_option maxRecDepth 100000
set_option maxHeartbeats 4000000
namespace Mine
section
variable {w : World} {A : Around} {mg mb : Str → Option Value} {s : Shared} {E : Value → Shared → Prop}

/-- a cut of a list by a name: a new list, all else kept -/
theorem slice_new {cn : Str} {cs : Scope} {L ca : Addr} {ccd : Value} {h₀ : Heap} {m : Str → Option Value} {x : Str} {p0 p pos : Pos} {lower upper : Option Expr} {l : Addr} {items : Array Value} {lo hi : Option Int} {Q : Value → Shared → Prop}
    (F : Fr h₀ L s.heap m) (hx : m x = some (.ref l)) (hl : s.heap.IsList l items) (hsz : items.size ≤ sizeLine)
    (hlow : ∀ (s₁ : Shared) (Q' : Value → Shared → Prop), s₁.heap = s.heap → s₁.gens = s.gens → s₁.drawn = s.drawn → s₁.os = s.os → (∀ v tk, IsPart v lo → Q' v { s with toks := tk }) → wpAny (model P0 w) A (evalPart lower (envOf cn cs L ca ccd)) Q' E s₁)
    (hupp : ∀ (s₁ : Shared) (Q' : Value → Shared → Prop), s₁.heap = s.heap → s₁.gens = s.gens → s₁.drawn = s.drawn → s₁.os = s.os → (∀ v tk, IsPart v hi → Q' v { s with toks := tk }) → wpAny (model P0 w) A (evalPart upper (envOf cn cs L ca ccd)) Q' E s₁)
    (h : ∀ h' tk r, Keeps0 s.heap h' → s.heap.get? r = none → h'.PlainList r (slicePick items lo hi none) → Q (.ref r) { s with heap := h', toks := tk })
    (hk : cs.kind = .function := by rfl) (hkl : (envOf cn cs L ca ccd).kindOf x = some .local := by rfl) (hd : (x == ("__debug__" : Str)) = false := by decide) :
    wpAny (model P0 w) A (eval (.Subscript (.Name x p0) (.Slice lower upper none p) pos) (envOf cn cs L ca ccd)) Q E s := by
  refine wpAny_Subscript_list_slice (ld F hx ?_ hk hkl hd)
  refine hlow s _ rfl rfl rfl rfl fun vl tk1 pl => ?_
  refine hupp _ _ rfl rfl rfl rfl fun vu tk2 pu => ?_
  refine ⟨l, items, lo, hi, rfl, hl, hsz, pl, pu, ?_⟩
  refine h _ tk2 _ (fun b o y => Heap.get?_push_of_some _ (Heap.get?_push_of_some _ y)) (Heap.get?_none_of_le (Nat.le_succ _)) ⟨0, ?_⟩
  have := Heap.get?_push_size (s.heap.push { cls := .type "slice", data := .fields #[vl, vu, .none] }) (o := { cls := .type "list", data := .seq (slicePick items lo hi none) }) rfl
  rw [Heap.size_push] at this
  exact this

theorem part_none {env : Env} (s₁ : Shared) (Q' : Value → Shared → Prop) (e1 : s₁.heap = s.heap) (e2 : s₁.gens = s.gens) (e3 : s₁.drawn = s.drawn) (e4 : s₁.os = s.os) (h : ∀ v tk, IsPart v none → Q' v { s with toks := tk }) : wpAny (model P0 w) A (evalPart none env) Q' E s₁ := by
  rw [evalPart_none]
  obtain ⟨a, b, c, d, e⟩ := s₁
  subst e1 e2 e3 e4
  exact wpAny_pure (h _ d .none)
theorem part_int {env : Env} {i : Int} {k : Nat} {p : Pos} (s₁ : Shared) (Q' : Value → Shared → Prop) (e1 : s₁.heap = s.heap) (e2 : s₁.gens = s.gens) (e3 : s₁.drawn = s.drawn) (e4 : s₁.os = s.os) (h : ∀ v tk, IsPart v (some i) → Q' v { s with toks := tk }) : wpAny (model P0 w) A (evalPart (some (.Constant (.int i) k p)) env) Q' E s₁ := by
  rw [evalPart_some]
  obtain ⟨a, b, c, d, e⟩ := s₁
  subst e1 e2 e3 e4
  exact wpAny_Constant_int (h _ (d + 1) (.int i _))

theorem item_at {cn : Str} {cs : Scope} {L ca : Addr} {ccd : Value} {h₀ : Heap} {m : Str → Option Value} {x : Str} {p0 p1 pos : Pos} {kk : Nat} {l : Addr} {items : Array Value} {i : Int} {v : Value} {Q : Value → Shared → Prop}
    (F : Fr h₀ L s.heap m) (hx : m x = some (.ref l)) (hl : s.heap.IsList l items) (h0 : 0 ≤ i) (h1 : i < 2 ^ 63) (hv : items[i.toNat]? = some v) (h : ∀ tk, Q v { s with toks := tk })
    (hk : cs.kind = .function := by rfl) (hkl : (envOf cn cs L ca ccd).kindOf x = some .local := by rfl) (hd : (x == ("__debug__" : Str)) = false := by decide) :
    wpAny (model P0 w) A (eval (.Subscript (.Name x p0) (.Constant (.int i) kk p1) pos) (envOf cn cs L ca ccd)) Q E s := by
  refine Subscript_ (ld F hx (wpAny_Constant_int ?_) hk hkl hd)
  exact tail_any (s := { s with toks := s.toks + 1 }) hl.typeIs slot_list_getitem.lookup (wpAny_getItem_list hl h0 h1 hv (h _)) (by with_unfolding_all rfl)

theorem add_to {l b : Addr} {items items2 r : Array Value} {n n2 : Nat} {Q : Value → Shared → Prop} (hl : IsL s.heap l items n) (hb : IsL s.heap b items2 n2) (e : items ++ items2 = r) (hsz : items.size + items2.size ≤ sizeLine)
    (h : Q (.ref s.heap.objs.size) { s with heap := s.heap.push { cls := .type "list", data := .seq r } }) : wpAny (model P0 w) A (binaryOp .Add (.ref l) (.ref b)) Q E s := by
  subst e
  exact P.add_list hl hb h hsz

theorem rings_spec {R : Result → Shared → Prop} {l : Nat} {v0 v1 v2 v3 v4 v5 : Value} (hh : A.handled = none) (hd : A.depth + 2 < recursionLimit) (T : Tp mg mb s.heap)
    (hl : s.heap.PlainList l #[v0, v1, v2, v3, v4, v5])
    (hR : ∀ h' tk r a b c, Keeps0 s.heap h' → s.heap.get? r = none → h'.PlainList r #[.ref l, .ref a, .ref b, .ref c] → s.heap.get? a = none → h'.PlainList a #[v1, v2, v3, v4, v5, v0] → s.heap.get? b = none → h'.PlainList b #[v1, v0, v2, v3, v4, v5] → s.heap.get? c = none → h'.PlainList c #[v0, v1, v3, v2, v4, v5] →
      R (.ok (.ret (.ref r))) { s with heap := h', toks := tk }) :
    codeAny (model P0 w) A (.call (.ref 76) ⟨[.ref l], []⟩) R s := by
  obtain ⟨o, pm, code, doc, ho, hdat, hc⟩ := T.f11
  refine call_plain_ret (binds := [(Str.ofString "ring", .ref l)]) (by omega) ho hdat T.nolimit hc rfl (locs rfl) (fun h₁ F => ?_) rfl rfl rfl (by decide +kernel)
  have six : (#[v0, v1, v2, v3, v4, v5] : Array Value).size ≤ sizeLine := by show (6 : Nat) ≤ sizeLine; decide
  have hl₁ : h₁.PlainList l #[v0, v1, v2, v3, v4, v5] := hl.at fun o y => F.keep _ o y
  refine wpAny_execs_cons (wpAny_Assign_Name (wpAny_BinOp ?_))
  -- turned
  refine slice_new (lo := some 1) (hi := none) F rfl hl₁.isList six part_int part_none fun h₂ tk₂ a1 hk₂ hn₂ hp₂ => ?_
  replace hk₂ : Keeps0 h₁ h₂ := hk₂
  rw [show slicePick #[v0, v1, v2, v3, v4, v5] (some 1) none none = #[v1, v2, v3, v4, v5] from by kernel_rfl] at hp₂
  have F₂ : Fr s.heap s.heap.objs.size h₂ _ := ⟨F.ns.at fun o y => hk₂ _ o y, fun b o y => hk₂ b o (F.keep b o y), F.above⟩
  refine slice_new (lo := none) (hi := some 1) F₂ rfl (hl₁.at fun o y => hk₂ _ o y).isList six part_none part_int fun h₃ tk₃ a2 hk₃ hn₃ hp₃ => ?_
  replace hk₃ : Keeps0 h₂ h₃ := hk₃
  rw [show slicePick #[v0, v1, v2, v3, v4, v5] none (some 1) none = #[v0] from by kernel_rfl] at hp₃
  have F₃ : Fr s.heap s.heap.objs.size h₃ _ := ⟨F₂.ns.at fun o y => hk₃ _ o y, fun b o y => hk₃ b o (F₂.keep b o y), F₂.above⟩
  obtain ⟨n1, g1⟩ := hp₂.at fun o y => hk₃ _ o y
  obtain ⟨n2, g2⟩ := hp₃
  refine add_to (r := #[v1, v2, v3, v4, v5, v0]) g1 g2 (by kernel_rfl) (by show (6 : Nat) ≤ sizeLine; decide) ?_
  have Fa := F₃.push { cls := .type "list", data := .seq #[v1, v2, v3, v4, v5, v0] }
  have ga := Heap.get?_push_size h₃ (o := { cls := .type "list", data := .seq #[v1, v2, v3, v4, v5, v0] }) rfl
  have na : s.heap.get? h₃.objs.size = none := Heap.get?_none_of_le (Nat.le_of_lt F₃.ns.lt)
  have aL : h₃.objs.size ≠ s.heap.objs.size := Nat.ne_of_gt F₃.ns.lt
  refine wpAny_storeName_local rfl Fa.ns (fun h₄ hn₄ hs₄ => ?_) rfl
  replace hs₄ : Heap.SameBut s.heap.objs.size (h₃.push { cls := .type "list", data := .seq #[v1, v2, v3, v4, v5, v0] }) h₄ := hs₄
  have F₄ := Fa.set hn₄ hs₄
  have pa : h₄.PlainList h₃.objs.size #[v1, v2, v3, v4, v5, v0] := ⟨0, hs₄.extBut _ _ aL ga⟩
  generalize h₃.objs.size = a at na aL hn₄ F₄ pa
  have hl₄ : h₄.PlainList l #[v0, v1, v2, v3, v4, v5] := hl.at fun o y => F₄.keep _ o y
  -- front
  refine wpAny_execs_cons (wpAny_Assign_Name (wpAny_BinOp ?_))
  refine List_ (spliced_more (item_at F₄ rfl hl₄.isList (by decide) (by decide) rfl fun tk₅ => spliced_more (item_at F₄ rfl hl₄.isList (by decide) (by decide) rfl fun tk₆ => spliced_none (wpAny_newObj_type ?_ (by show (2 : Nat) ≤ sizeLine; decide)))))
  have F₅ := F₄.push { cls := .type "list", data := .seq [v1, v0].toArray }
  have g5 := Heap.get?_push_size h₄ (o := { cls := .type "list", data := .seq [v1, v0].toArray }) rfl
  refine slice_new (lo := some 2) (hi := none) F₅ rfl (hl.at fun o y => F₅.keep _ o y).isList six part_int part_none fun h₆ tk₇ a3 hk₆ hn₆ hp₆ => ?_
  replace hk₆ : Keeps0 (h₄.push { cls := .type "list", data := .seq [v1, v0].toArray }) h₆ := hk₆
  rw [show slicePick #[v0, v1, v2, v3, v4, v5] (some 2) none none = #[v2, v3, v4, v5] from by kernel_rfl] at hp₆
  have F₆ : Fr s.heap s.heap.objs.size h₆ _ := ⟨F₅.ns.at fun o y => hk₆ _ o y, fun b o y => hk₆ b o (F₅.keep b o y), F₅.above⟩
  obtain ⟨n6, g6⟩ := hp₆
  refine add_to (r := #[v1, v0, v2, v3, v4, v5]) (hk₆ _ _ g5) g6 (by kernel_rfl) (by show (6 : Nat) ≤ sizeLine; decide) ?_
  have Fb := F₆.push { cls := .type "list", data := .seq #[v1, v0, v2, v3, v4, v5] }
  have gb := Heap.get?_push_size h₆ (o := { cls := .type "list", data := .seq #[v1, v0, v2, v3, v4, v5] }) rfl
  have nb : s.heap.get? h₆.objs.size = none := Heap.get?_none_of_le (Nat.le_of_lt F₆.ns.lt)
  have bL : h₆.objs.size ≠ s.heap.objs.size := Nat.ne_of_gt F₆.ns.lt
  have pa₆ : h₆.PlainList a #[v1, v2, v3, v4, v5, v0] := pa.at fun o y => hk₆ _ o (Heap.get?_push_of_some _ y)
  refine wpAny_storeName_local rfl Fb.ns (fun h₇ hn₇ hs₇ => ?_) rfl
  replace hs₇ : Heap.SameBut s.heap.objs.size (h₆.push { cls := .type "list", data := .seq #[v1, v0, v2, v3, v4, v5] }) h₇ := hs₇
  have F₇ := Fb.set hn₇ hs₇
  have pb : h₇.PlainList h₆.objs.size #[v1, v0, v2, v3, v4, v5] := ⟨0, hs₇.extBut _ _ bL gb⟩
  have pa₇ : h₇.PlainList a #[v1, v2, v3, v4, v5, v0] := pa₆.at fun o y => hs₇.extBut _ o aL (Heap.get?_push_of_some _ y)
  generalize h₆.objs.size = b at nb bL hn₇ F₇ pb
  have hl₇ : h₇.PlainList l #[v0, v1, v2, v3, v4, v5] := hl.at fun o y => F₇.keep _ o y
  -- middle
  refine wpAny_execs_cons (wpAny_Assign_Name (wpAny_BinOp (wpAny_BinOp ?_)))
  refine slice_new (lo := none) (hi := some 2) F₇ rfl hl₇.isList six part_none part_int fun h₈ tk₈ c1 hk₈ hn₈ hp₈ => ?_
  replace hk₈ : Keeps0 h₇ h₈ := hk₈
  rw [show slicePick #[v0, v1, v2, v3, v4, v5] none (some 2) none = #[v0, v1] from by kernel_rfl] at hp₈
  have F₈ : Fr s.heap s.heap.objs.size h₈ _ := ⟨F₇.ns.at fun o y => hk₈ _ o y, fun b o y => hk₈ b o (F₇.keep b o y), F₇.above⟩
  have hl₈ : h₈.PlainList l #[v0, v1, v2, v3, v4, v5] := hl.at fun o y => F₈.keep _ o y
  refine List_ (spliced_more (item_at F₈ rfl hl₈.isList (by decide) (by decide) rfl fun tk₅ => spliced_more (item_at F₈ rfl hl₈.isList (by decide) (by decide) rfl fun tk₆ => spliced_none (wpAny_newObj_type ?_ (by show (2 : Nat) ≤ sizeLine; decide)))))
  have F₉ := F₈.push { cls := .type "list", data := .seq [v3, v2].toArray }
  have g9 := Heap.get?_push_size h₈ (o := { cls := .type "list", data := .seq [v3, v2].toArray }) rfl
  obtain ⟨n8, g8⟩ := hp₈
  refine add_to (r := #[v0, v1, v3, v2]) (Heap.get?_push_of_some _ g8) g9 (by kernel_rfl) (by show (4 : Nat) ≤ sizeLine; decide) ?_
  have F₁₀ := F₉.push { cls := .type "list", data := .seq #[v0, v1, v3, v2] }
  have g10 := Heap.get?_push_size (h₈.push { cls := .type "list", data := .seq [v3, v2].toArray }) (o := { cls := .type "list", data := .seq #[v0, v1, v3, v2] }) rfl
  refine slice_new (lo := some 4) (hi := none) F₁₀ rfl (hl.at fun o y => F₁₀.keep _ o y).isList six part_int part_none fun h₁₁ tk₁₁ c3 hk₁₁ hn₁₁ hp₁₁ => ?_
  replace hk₁₁ : Keeps0 ((h₈.push { cls := .type "list", data := .seq [v3, v2].toArray }).push { cls := .type "list", data := .seq #[v0, v1, v3, v2] }) h₁₁ := hk₁₁
  rw [show slicePick #[v0, v1, v2, v3, v4, v5] (some 4) none none = #[v4, v5] from by kernel_rfl] at hp₁₁
  have F₁₁ : Fr s.heap s.heap.objs.size h₁₁ _ := ⟨F₁₀.ns.at fun o y => hk₁₁ _ o y, fun b o y => hk₁₁ b o (F₁₀.keep b o y), F₁₀.above⟩
  obtain ⟨n11, g11⟩ := hp₁₁
  refine add_to (r := #[v0, v1, v3, v2, v4, v5]) (hk₁₁ _ _ g10) g11 (by kernel_rfl) (by show (6 : Nat) ≤ sizeLine; decide) ?_
  have Fc := F₁₁.push { cls := .type "list", data := .seq #[v0, v1, v3, v2, v4, v5] }
  have gc := Heap.get?_push_size h₁₁ (o := { cls := .type "list", data := .seq #[v0, v1, v3, v2, v4, v5] }) rfl
  have nc : s.heap.get? h₁₁.objs.size = none := Heap.get?_none_of_le (Nat.le_of_lt F₁₁.ns.lt)
  have cL : h₁₁.objs.size ≠ s.heap.objs.size := Nat.ne_of_gt F₁₁.ns.lt
  have k711 : Keeps0 h₇ h₁₁ := fun b o y => hk₁₁ b o (Heap.get?_push_of_some _ (Heap.get?_push_of_some _ (hk₈ b o y)))
  refine wpAny_storeName_local rfl Fc.ns (fun h₁₂ hn₁₂ hs₁₂ => ?_) rfl
  replace hs₁₂ : Heap.SameBut s.heap.objs.size (h₁₁.push { cls := .type "list", data := .seq #[v0, v1, v3, v2, v4, v5] }) h₁₂ := hs₁₂
  have F₁₂ := Fc.set hn₁₂ hs₁₂
  have pc : h₁₂.PlainList h₁₁.objs.size #[v0, v1, v3, v2, v4, v5] := ⟨0, hs₁₂.extBut _ _ cL gc⟩
  have pa₁₂ : h₁₂.PlainList a #[v1, v2, v3, v4, v5, v0] := pa₇.at fun o y => hs₁₂.extBut _ o aL (Heap.get?_push_of_some _ (k711 _ o y))
  have pb₁₂ : h₁₂.PlainList b #[v1, v0, v2, v3, v4, v5] := pb.at fun o y => hs₁₂.extBut _ o bL (Heap.get?_push_of_some _ (k711 _ o y))
  refine wpAny_execs_cons (wpAny_Return_some (List_ (spliced_more (ld F₁₂ rfl (spliced_more (ld F₁₂ rfl (spliced_more (ld F₁₂ rfl (spliced_more (ld F₁₂ rfl (spliced_none (wpAny_newObj_type ?_ (by show (4 : Nat) ≤ sizeLine; decide))) rfl rfl)) rfl rfl)) rfl rfl)) rfl rfl))))
  have kp : ∀ {x : Addr} {items : Array Value}, h₁₂.PlainList x items → (h₁₂.push { cls := .type "list", data := .seq [Value.ref l, .ref a, .ref b, .ref h₁₁.objs.size].toArray }).PlainList x items := fun q => q.at fun o y => Heap.get?_push_of_some _ y
  exact hR _ _ h₁₂.objs.size a b h₁₁.objs.size (fun b o y => Heap.get?_push_of_some _ (F₁₂.keep b o y)) (Heap.get?_none_of_le (Nat.le_of_lt F₁₂.ns.lt)) ⟨0, Heap.get?_push_size _ rfl⟩ na (kp pa₁₂) nb (kp pb₁₂) nc (kp pc)
end
end Mine
end

section
open PySem PySem.W PyProof.Rows
set_option maxRecDepth 100000
set_option maxHeartbeats 4000000
namespace Mine
section
variable {w : World} {A : Around} {s : Shared}

/-- a list comprehension's loop by one name, without tests: the elements make new things and change nothing -/
theorem comp_walk {R : Result → Shared → Prop} {elt iter : Expr} {x : Str} {px pos : Pos} {scope : Scope} {cenv : Env} {I D C : Addr} {fp wr : List Addr} {n : Nat} {P : Nat → Value → Prop} {St : Nat → Heap → Prop} {m : Str → Option Value}
    (W : Walks P0 w A I fp wr n P St) (hC : cenv.locals = C) (hx : cenv.kindOf x = some .local) (hp : (cenv.scope.kind == .class || (cenv.scope.kind == .module && cenv.locals != cenv.globals)) = false)
    (hDC : D ≠ C) (hDf : D ∉ fp) (hCf : C ∉ fp) (hnz : n ≤ 1000)
    (J : Nat → List Value → Heap → Prop) (hJ : ∀ k ys h h', J k ys h → (∀ b o, b ≠ C → b ≠ D → b ∉ wr → h.get? b = some o → h'.get? b = some o) → J k ys h')
    (hst : St 0 s.heap) (hacc : s.heap.PlainList D #[]) (hn : s.heap.Ns C m) (hb : AllBare s.gens) (h0 : J 0 [] s.heap)
    (helt : ∀ k v ys m h tk gens, k < n → P k v → J k ys h → h.Ns C m → m x = some v → St (k + 1) h → AllBare gens →
      wpAny (model P0 w) A (eval elt cenv) (fun y s₂ => ∃ h' tk' gens', s₂ = { s with heap := h', toks := tk', gens := gens' } ∧ AllBare gens' ∧ Keeps0 h h' ∧ J (k + 1) (ys ++ [y]) h') (fun _ _ => False) { s with heap := h, toks := tk, gens := gens })
    (hR : ∀ ys m h tk gens, J n ys h → ys.length = n → h.PlainList D ys.toArray → h.Ns C m → AllBare gens → R (.ok .next) { s with heap := h, toks := tk, gens := gens }) :
    codeAny (model P0 w) A (.compLoop (.ListComp elt [⟨.Name x px, iter, [], 0⟩] scope pos) 0 (.ref I) (.ref D) cenv) R s := by
  subst hC
  have hCw : cenv.locals ∉ wr := fun h => hCf (W.sub _ h)
  have hDw : D ∉ wr := fun h => hDf (W.sub _ h)
  refine codeAny_compLoop_tests (fun c s' => ∃ h tk gens k ys m, s' = { s with heap := h, toks := tk, gens := gens } ∧ k ≤ n ∧ c = n + 1 - k ∧ ys.length = k ∧ St k h ∧ h.PlainList D ys.toArray ∧ h.Ns cenv.locals m ∧ AllBare gens ∧ J k ys h) ?_ (n + 1)
    ⟨s.heap, s.toks, s.gens, 0, [], m, rfl, Nat.zero_le _, rfl, rfl, hst, hacc, hn, hb, h0⟩
  rintro c s' ⟨h, tk, gens, k, ys, m, rfl, hk, rfl, hlen, hst, hacc, hn, hb, hJk⟩
  by_cases hlt : k < n
  · refine W.item k _ _ _ hlt hst fun v h₁ tk₁ hPv hst₁ hk₁ => ?_
    refine wpAny_assign_Name (wpAny_storeName_local hx (hn.at fun o e => hk₁ _ o hCw e) (fun h₂ hn₂ hs₂ => ?_) hp)
    replace hs₂ : Heap.SameBut cenv.locals h₁ h₂ := hs₂
    have up₂ : ∀ b o, b ≠ cenv.locals → b ∉ wr → h.get? b = some o → h₂.get? b = some o := fun b o h1 h2 e => hs₂.extBut b o h1 (hk₁ b o h2 e)
    have hst₂ : St (k + 1) h₂ := W.frame _ _ _ hst₁ fun b hb o e => hs₂.extBut b o (fun q => hCf (q ▸ hb)) e
    show wpAny (model P0 w) A (pure true) _ _ _
    refine wpAny_pure ?_
    rw [if_pos rfl]
    refine wpAny_mono (helt k v ys _ h₂ _ gens hlt hPv (hJ _ _ _ _ hJk fun b o h1 _ h3 e => up₂ b o h1 h3 e) hn₂ (if_pos rfl) hst₂ hb) (fun y s₃ h₃ => ?_) fun _ _ q => q.elim
    obtain ⟨h', tk', gens', rfl, hb', hk', hJ'⟩ := h₃
    have hacc' : h'.PlainList D ys.toArray := hacc.at fun o e => hk' _ o (up₂ D o hDC hDw e)
    have hys : ys.toArray.size ≤ sizeLine := by
      have : ys.toArray.size = ys.length := by simp
      rw [sizeLine_eq]; omega
    refine wpAny_list_append_plain hacc' (fun h₅ hl₅ hs₅ => ?_) hys
    replace hs₅ : Heap.SameBut D h' h₅ := hs₅
    refine ⟨n + 1 - (k + 1), by omega, h₅, _, gens', k + 1, ys ++ [y], _, rfl, hlt, rfl, by simp [hlen], ?_, ?_, (hn₂.at fun o e => hk' _ o e).sameBut hs₅ (Ne.symm hDC), hb', hJ _ _ _ _ hJ' fun b o _ h2 _ e => hs₅.extBut b o h2 e⟩
    · exact W.frame _ _ _ hst₂ fun b hb o e => hs₅.extBut b o (fun q => hDf (q ▸ hb)) (hk' b o e)
    · have : (ys ++ [y]).toArray = ys.toArray.push y := by simp
      rw [this]; exact hl₅
  · have hkn : k = n := by omega
    subst hkn
    refine W.done _ _ _ hst fun h₁ tk₁ hk₁ => ?_
    exact hR ys m h₁ tk₁ gens (hJ _ _ _ _ hJk fun b o _ _ h3 e => hk₁ b o h3 e) hlen (hacc.at fun o e => hk₁ _ o hDw e) (hn.at fun o e => hk₁ _ o hCw e) hb
end
end Mine
end

section
open PySem PySem.W PyProof.Rows
set_option maxRecDepth 100000
set_option maxHeartbeats 4000000
namespace Mine
section
variable {w : World} {A : Around} {s : Shared} {E : Value → Shared → Prop}

/-- a list comprehension from its iterator on: the new list lies at D, the block's names at D + 1 -/
theorem comp_tail {RR : Value → Addr → Result → Shared → Prop} {elt iter : Expr} {x : Str} {px pos : Pos} {scope : Scope} {cl : List (Str × Addr)} {env : Env} {I : Addr} {fp wr : List Addr} {n : Nat} {P : Nat → Value → Prop} {St : Nat → Heap → Prop}
    (W : Walks P0 w A I fp wr n P St) (hcell : ∀ y ∈ scope.names, y.2 ≠ .cell) (hkind : scope.kind = .function) (hx : scope.names.lookup x = some .local) (hnz : n ≤ 1000)
    (hst : St 0 s.heap) (hfp : ∀ b ∈ fp, b < s.heap.objs.size) (hb : AllBare s.gens)
    (J : Nat → List Value → Heap → Prop) (hJ : ∀ k ys h h', J k ys h → (∀ b o, b ≠ s.heap.objs.size + 1 → b ≠ s.heap.objs.size → b ∉ wr → h.get? b = some o → h'.get? b = some o) → J k ys h')
    (h0 : ∀ h, Keeps0 s.heap h → J 0 [] h)
    (helt : ∀ k v ys m h tk gens, k < n → P k v → J k ys h → h.Ns (s.heap.objs.size + 1) m → m x = some v → St (k + 1) h → AllBare gens →
      wpAny (model P0 w) A (eval elt (compEnvC scope cl (s.heap.objs.size + 1) env)) (fun y s₂ => ∃ h' tk' gens', s₂ = { s with heap := h', toks := tk', gens := gens' } ∧ AllBare gens' ∧ Keeps0 h h' ∧ J (k + 1) (ys ++ [y]) h') (fun _ _ => False) { s with heap := h, toks := tk, gens := gens })
    (hRR : ∀ ys m h tk gens, J n ys h → ys.length = n → h.PlainList s.heap.objs.size ys.toArray → h.Ns (s.heap.objs.size + 1) m → AllBare gens → RR (.ref s.heap.objs.size) (s.heap.objs.size + 1) (.ok .next) { s with heap := h, toks := tk, gens := gens }) :
    wpAny (model P0 w) A (newList []) (fun acc s₃ => wpAny (model P0 w) A (newFunctionEnv scope env.globals cl [] env.qual none .none (some env)) (fun cenv s₄ =>
      codeAny (model P0 w) A (.compStart (.ListComp elt [⟨.Name x px, iter, [], 0⟩] scope pos) 0 (.ref I) acc { cenv with scope := relabel scope env }) (RR acc cenv.locals) s₄) E s₃) E s := by
  refine wpAny_newObj_type (wpAny_newFunctionEnv hcell (by intro y hy; simp at hy) (fun h₁ hns₁ hsb₁ => ?_) hkind)
  dsimp only at hns₁ hsb₁ ⊢
  have hz : (s.heap.push { cls := .type "list", dict := none, data := .seq ([] : List Value).toArray }).objs.size = s.heap.objs.size + 1 := Heap.size_push ..
  rw [hz] at hns₁ hsb₁ ⊢
  have hDC : s.heap.objs.size ≠ s.heap.objs.size + 1 := Nat.ne_of_lt (Nat.lt_succ_self _)
  have hDf : s.heap.objs.size ∉ fp := fun hm => Nat.lt_irrefl _ (hfp _ hm)
  have hCf : s.heap.objs.size + 1 ∉ fp := fun hm => Nat.lt_irrefl _ (Nat.lt_of_succ_lt (hfp _ hm))
  have old : Keeps0 s.heap h₁ := fun b o e => hsb₁.extBut b o (Nat.ne_of_lt (Nat.lt_succ_of_lt (Heap.lt_size e))) (Heap.get?_push_of_some _ (Heap.get?_push_of_some _ e))
  have hacc : h₁.PlainList s.heap.objs.size #[] := ⟨_, hsb₁.extBut _ _ hDC (Heap.get?_push_of_some _ (Heap.get?_push_size _ rfl))⟩
  have hst₁ : St 0 h₁ := W.frame _ _ _ hst fun b _ o e => old b o e
  have loop : codeAny (model P0 w) A (.compLoop (.ListComp elt [⟨.Name x px, iter, [], 0⟩] scope pos) 0 (.ref I) (.ref s.heap.objs.size) (compEnvC scope cl (s.heap.objs.size + 1) env)) (RR (.ref s.heap.objs.size) (s.heap.objs.size + 1)) { s with heap := h₁, toks := s.toks + ([] : List (Str × Value)).length } :=
    comp_walk (s := { s with heap := h₁, toks := s.toks + ([] : List (Str × Value)).length }) (cenv := compEnvC scope cl (s.heap.objs.size + 1) env) W rfl (lookup_relabel_local hx) (by simp [compEnvC, relabel, hkind]) hDC hDf hCf hnz J hJ hst₁ hacc hns₁ hb (h0 h₁ old) helt hRR
  exact codeAny_compStart_list loop (W.self 0 _ _ _ hst₁ loop)
end
end Mine
end

section
open PySem PySem.W PyProof.Rows
set_option maxRecDepth 100000
set_option maxHeartbeats 4000000
namespace Mine
section
variable {w : World} {A : Around} {s : Shared} {E : Value → Shared → Prop}

/-- as comp_walk, by two names over pairs -/
theorem comp_walk2 {R : Result → Shared → Prop} {elt iter : Expr} {xa xb : Str} {pa pb pt pos : Pos} {tk0 : Nat} {scope : Scope} {cenv : Env} {I D C : Addr} {fp wr : List Addr} {n : Nat} {Pt : Nat → Array Value → Prop} {St : Nat → Heap → Prop} {Mid : Nat → Addr → Heap → Prop} {m : Str → Option Value}
    (W : WalksT P0 w A I fp wr n Pt St Mid) (hh : A.handled = none) (hC : cenv.locals = C) (hxa : cenv.kindOf xa = some .local) (hxb : cenv.kindOf xb = some .local) (hp : (cenv.scope.kind == .class || (cenv.scope.kind == .module && cenv.locals != cenv.globals)) = false)
    (hPt : ∀ k vals, Pt k vals → ∃ v1 v2, vals = #[v1, v2]) (hDC : D ≠ C) (hDf : D ∉ fp) (hCf : C ∉ fp) (hnz : n ≤ 1000)
    (J : Nat → List Value → Heap → Prop) (hJ : ∀ k ys h h', J k ys h → (∀ b o, b ≠ C → b ≠ D → b ∉ wr → h.get? b = some o → h'.get? b = some o) → J k ys h')
    (hst : St 0 s.heap) (hacc : s.heap.PlainList D #[]) (hn : s.heap.Ns C m) (hb : AllBare s.gens) (h0 : J 0 [] s.heap)
    (helt : ∀ k v1 v2 ys (m : Str → Option Value) h tk gens, k < n → Pt k #[v1, v2] → J k ys h → h.Ns C (fun z => if z = xb then some v2 else if z = xa then some v1 else m z) → St (k + 1) h → AllBare gens →
      wpAny (model P0 w) A (eval elt cenv) (fun y s₂ => ∃ h' tk' gens', s₂ = { s with heap := h', toks := tk', gens := gens' } ∧ AllBare gens' ∧ Keeps0 h h' ∧ J (k + 1) (ys ++ [y]) h') (fun _ _ => False) { s with heap := h, toks := tk, gens := gens })
    (hR : ∀ ys m h tk gens, J n ys h → ys.length = n → h.PlainList D ys.toArray → h.Ns C m → AllBare gens → R (.ok .next) { s with heap := h, toks := tk, gens := gens }) :
    codeAny (model P0 w) A (.compLoop (.ListComp elt [⟨.Tuple [.Name xa pa, .Name xb pb] tk0 pt, iter, [], 0⟩] scope pos) 0 (.ref I) (.ref D) cenv) R s := by
  subst hC
  have hCw : cenv.locals ∉ wr := fun h => hCf (W.sub _ h)
  have hDw : D ∉ wr := fun h => hDf (W.sub _ h)
  refine kcp_loop (fun c s' => ∃ h tk gens k ys m, s' = { s with heap := h, toks := tk, gens := gens } ∧ k ≤ n ∧ c = n + 1 - k ∧ ys.length = k ∧ St k h ∧ h.PlainList D ys.toArray ∧ h.Ns cenv.locals m ∧ AllBare gens ∧ J k ys h) ?_ (n + 1)
    ⟨s.heap, s.toks, s.gens, 0, [], m, rfl, Nat.zero_le _, rfl, rfl, hst, hacc, hn, hb, h0⟩
  rintro c s' ⟨h, tk, gens, k, ys, m, rfl, hk, rfl, hlen, hst, hacc, hn, hb, hJk⟩
  by_cases hlt : k < n
  · refine W.item k _ _ _ hlt hst fun T vals h₁ tk₁ hP hT hT₁ hM₁ hk₁ => ?_
    obtain ⟨v1, v2, rfl⟩ := hPt _ _ hP
    refine W.go _ _ _ k T { s with heap := h₁, toks := tk₁, gens := gens } _ _ hM₁ fun h₂ hS₂ hk₂ => ?_
    have hTw := W.apart _ _ _ hM₁
    replace hk₂ : ∀ b o, b ∉ wr → h₁.get? b = some o → h₂.get? b = some o := hk₂
    have hT₂ : h₂.IsTuple T #[v1, v2] := hT₁.at fun o y => hk₂ _ o hTw y
    have hn₂ : h₂.Ns cenv.locals m := hn.at fun o y => hk₂ _ o hCw (hk₁ _ o hCw y)
    refine wpAny_assign_Tuple (s := { s with heap := h₂, toks := tk₁, gens := gens }) (items := #[v1, v2]) hh hT₂ rfl rfl fun h₃ hx₃ => ?_
    replace hx₃ : Heap.ExtBut h₂.objs.size h₂ h₃ := hx₃
    have old₃ : ∀ b o, h₂.get? b = some o → h₃.get? b = some o := fun b o y => hx₃ b o (Nat.ne_of_lt (Heap.lt_size y)) y
    have hns₃ : h₃.Ns cenv.locals m := hn₂.at fun o y => old₃ _ o y
    show wpAny (model P0 w) A (do holding [v2] (assign (.Name xa _) cenv v1); do holding [] (assign (.Name xb _) cenv v2); pure ()) _ _ _
    refine wpAny_bind (wpAny_holding (wpAny_assign_Name (wpAny_storeName_local hxa hns₃ (fun h₄ hns₄ hs₄ => ?_) hp)))
    replace hs₄ : Heap.SameBut cenv.locals h₃ h₄ := hs₄
    refine wpAny_bind (wpAny_holding (wpAny_assign_Name (wpAny_storeName_local hxb hns₄ (fun h₅ hns₅ hs₅ => wpAny_pure ?_) hp)))
    replace hs₅ : Heap.SameBut cenv.locals h₄ h₅ := hs₅
    have up : ∀ b o, b ≠ cenv.locals → h₂.get? b = some o → h₅.get? b = some o := fun b o hb y => hs₅.extBut b o hb (hs₄.extBut b o hb (old₃ b o y))
    have hS₅ : St (k + 1) h₅ := W.frame _ _ _ hS₂ fun b hb o y => up b o (fun e => hCf (e ▸ hb)) y
    have hJ₅ : J k ys h₅ := hJ _ _ _ _ hJk fun b o h1 _ h3 y => up b o h1 (hk₂ b o h3 (hk₁ b o h3 y))
    refine wpAny_mono (helt k v1 v2 ys m h₅ _ gens hlt hP hJ₅ hns₅ hS₅ hb) (fun y s₃ h₃ => ?_) fun _ _ q => q.elim
    obtain ⟨h', tk', gens', rfl, hb', hk', hJ'⟩ := h₃
    have hacc' : h'.PlainList D ys.toArray := hacc.at fun o e => hk' _ o (up D o hDC (hk₂ _ o hDw (hk₁ _ o hDw e)))
    have hys : ys.toArray.size ≤ sizeLine := by
      have : ys.toArray.size = ys.length := by simp
      rw [sizeLine_eq]; omega
    refine wpAny_list_append_plain hacc' (fun h₆ hl₆ hs₆ => ?_) hys
    replace hs₆ : Heap.SameBut D h' h₆ := hs₆
    refine ⟨n + 1 - (k + 1), by omega, h₆, _, gens', k + 1, ys ++ [y], _, rfl, hlt, rfl, by simp [hlen], ?_, ?_, (hns₅.at fun o e => hk' _ o e).sameBut hs₆ (Ne.symm hDC), hb', hJ _ _ _ _ hJ' fun b o _ h2 _ e => hs₆.extBut b o h2 e⟩
    · exact W.frame _ _ _ hS₅ fun b hb o e => hs₆.extBut b o (fun q => hDf (q ▸ hb)) (hk' b o e)
    · have : (ys ++ [y]).toArray = ys.toArray.push y := by simp
      rw [this]; exact hl₆
  · have hkn : k = n := by omega
    subst hkn
    refine W.done _ _ _ hst fun h₁ tk₁ hk₁ => ?_
    exact hR ys m h₁ tk₁ gens (hJ _ _ _ _ hJk fun b o _ _ h3 e => hk₁ b o h3 e) hlen (hacc.at fun o e => hk₁ _ o hDw e) (hn.at fun o e => hk₁ _ o hCw e) hb

theorem comp_tail2 {RR : Value → Addr → Result → Shared → Prop} {elt iter : Expr} {xa xb : Str} {pa pb pt pos : Pos} {tk0 : Nat} {scope : Scope} {cl : List (Str × Addr)} {env : Env} {I : Addr} {fp wr : List Addr} {n : Nat} {Pt : Nat → Array Value → Prop} {St : Nat → Heap → Prop} {Mid : Nat → Addr → Heap → Prop}
    (W : WalksT P0 w A I fp wr n Pt St Mid) (hh : A.handled = none) (hcell : ∀ y ∈ scope.names, y.2 ≠ .cell) (hkind : scope.kind = .function) (hxa : scope.names.lookup xa = some .local) (hxb : scope.names.lookup xb = some .local) (hPt : ∀ k vals, Pt k vals → ∃ v1 v2, vals = #[v1, v2]) (hnz : n ≤ 1000)
    (hst : St 0 s.heap) (hfp : ∀ b ∈ fp, b < s.heap.objs.size) (hb : AllBare s.gens)
    (J : Nat → List Value → Heap → Prop) (hJ : ∀ k ys h h', J k ys h → (∀ b o, b ≠ s.heap.objs.size + 1 → b ≠ s.heap.objs.size → b ∉ wr → h.get? b = some o → h'.get? b = some o) → J k ys h')
    (h0 : ∀ h, Keeps0 s.heap h → J 0 [] h)
    (helt : ∀ k v1 v2 ys (m : Str → Option Value) h tk gens, k < n → Pt k #[v1, v2] → J k ys h → h.Ns (s.heap.objs.size + 1) (fun z => if z = xb then some v2 else if z = xa then some v1 else m z) → St (k + 1) h → AllBare gens →
      wpAny (model P0 w) A (eval elt (compEnvC scope cl (s.heap.objs.size + 1) env)) (fun y s₂ => ∃ h' tk' gens', s₂ = { s with heap := h', toks := tk', gens := gens' } ∧ AllBare gens' ∧ Keeps0 h h' ∧ J (k + 1) (ys ++ [y]) h') (fun _ _ => False) { s with heap := h, toks := tk, gens := gens })
    (hRR : ∀ ys m h tk gens, J n ys h → ys.length = n → h.PlainList s.heap.objs.size ys.toArray → h.Ns (s.heap.objs.size + 1) m → AllBare gens → RR (.ref s.heap.objs.size) (s.heap.objs.size + 1) (.ok .next) { s with heap := h, toks := tk, gens := gens }) :
    wpAny (model P0 w) A (newList []) (fun acc s₃ => wpAny (model P0 w) A (newFunctionEnv scope env.globals cl [] env.qual none .none (some env)) (fun cenv s₄ =>
      codeAny (model P0 w) A (.compStart (.ListComp elt [⟨.Tuple [.Name xa pa, .Name xb pb] tk0 pt, iter, [], 0⟩] scope pos) 0 (.ref I) acc { cenv with scope := relabel scope env }) (RR acc cenv.locals) s₄) E s₃) E s := by
  refine wpAny_newObj_type (wpAny_newFunctionEnv hcell (by intro y hy; simp at hy) (fun h₁ hns₁ hsb₁ => ?_) hkind)
  dsimp only at hns₁ hsb₁ ⊢
  have hz : (s.heap.push { cls := .type "list", dict := none, data := .seq ([] : List Value).toArray }).objs.size = s.heap.objs.size + 1 := Heap.size_push ..
  rw [hz] at hns₁ hsb₁ ⊢
  have hDC : s.heap.objs.size ≠ s.heap.objs.size + 1 := Nat.ne_of_lt (Nat.lt_succ_self _)
  have hDf : s.heap.objs.size ∉ fp := fun hm => Nat.lt_irrefl _ (hfp _ hm)
  have hCf : s.heap.objs.size + 1 ∉ fp := fun hm => Nat.lt_irrefl _ (Nat.lt_of_succ_lt (hfp _ hm))
  have old : Keeps0 s.heap h₁ := fun b o e => hsb₁.extBut b o (Nat.ne_of_lt (Nat.lt_succ_of_lt (Heap.lt_size e))) (Heap.get?_push_of_some _ (Heap.get?_push_of_some _ e))
  have hacc : h₁.PlainList s.heap.objs.size #[] := ⟨_, hsb₁.extBut _ _ hDC (Heap.get?_push_of_some _ (Heap.get?_push_size _ rfl))⟩
  have hst₁ : St 0 h₁ := W.frame _ _ _ hst fun b _ o e => old b o e
  have loop : codeAny (model P0 w) A (.compLoop (.ListComp elt [⟨.Tuple [.Name xa pa, .Name xb pb] tk0 pt, iter, [], 0⟩] scope pos) 0 (.ref I) (.ref s.heap.objs.size) (compEnvC scope cl (s.heap.objs.size + 1) env)) (RR (.ref s.heap.objs.size) (s.heap.objs.size + 1)) { s with heap := h₁, toks := s.toks + ([] : List (Str × Value)).length } :=
    comp_walk2 (s := { s with heap := h₁, toks := s.toks + ([] : List (Str × Value)).length }) (cenv := compEnvC scope cl (s.heap.objs.size + 1) env) W hh rfl (lookup_relabel_local hxa) (lookup_relabel_local hxb) (by simp [compEnvC, relabel, hkind]) hPt hDC hDf hCf hnz J hJ hst₁ hacc hns₁ hb (h0 h₁ old) helt hRR
  exact codeAny_compStart_list loop (W.self 0 _ _ _ hst₁ loop)
end
end Mine
end

section
open PySem PySem.W PyProof.Rows
set_option maxRecDepth 100000
set_option maxHeartbeats 4000000
namespace Mine
section
variable {w : World} {A : Around} {s : Shared} {E : Value → Shared → Prop}

/-- the sum of a list of ints is an int -/
theorem sum_any {l : Nat} {items : Array Value} {Q : Value → Shared → Prop} (hh : A.handled = none) (hl : s.heap.IsList l items) (hi : ∀ (i : Nat) v, items[i]? = some v → ∃ z t, v = Value.int z t)
    (h : ∀ z t h' tk, Keeps0 s.heap h' → Q (.int z t) { s with heap := h', toks := tk }) : wpAny (model P0 w) A (call (.builtin "sum") [.ref l]) Q E s := by
  obtain ⟨ol, hol, _⟩ := id hl
  have hlt : l < s.heap.objs.size := Heap.lt_size hol
  refine call_sum_walkAnyS (wpAny_pyIter_list hl ?_)
  have W := (Walks.list (prog := P0) (w := w) (A := A.in1) hh s.heap.objs.size l (Nat.ne_of_lt hlt) items).toS
  refine ⟨_, _, _, _, _, _, _, (fun i => match items[i]? with | some (.int z _) => z | _ => 0), rfl, W, ⟨⟨_, Heap.get?_push_size _ rfl, rfl, rfl⟩, hl.at fun o e => Heap.get?_push_of_some _ e⟩, ?_, ?_, ?_⟩
  · intro b hb
    show b < (s.heap.push _).objs.size
    rw [Heap.size_push]
    simp only [List.mem_cons, List.not_mem_nil, or_false] at hb
    rcases hb with rfl | rfl
    · exact Nat.lt_succ_self _
    · exact Nat.lt_succ_of_lt hlt
  · intro i v hv
    obtain ⟨z, t, rfl⟩ := hi i v hv
    exact ⟨t, by simp only [hv]⟩
  · rintro ⟨h', g', d', tk', o'⟩ t' hm
    obtain ⟨m1, m2, m3, m4, _⟩ := hm
    cases m2; cases m3; cases m4
    refine h _ t' h' tk' fun b o y => m1 b o (fun hb => ?_) (Heap.get?_push_of_some _ y)
    rw [List.mem_singleton.mp hb] at y
    exact absurd (Heap.lt_size y) (Nat.lt_irrefl _)
end
end Mine
end

section
open PySem PySem.W PyProof.Rows
set_option maxRecDepth 100000
set_option maxHeartbeats 4000000
namespace Mine
section
variable {w : World} {A : Around} {s : Shared} {E : Value → Shared → Prop} {env : Env} {m mg mb : Str → Option Value} {x : Str} {pos : Pos} {v : Value} {Q : Value → Shared → Prop}
theorem ldE (hn : s.heap.Ns env.locals m) (hv : m x = some v) (h : Q v s) (hk : env.scope.kind = .function := by rfl) (hl : env.kindOf x = some .local := by rfl) (hd : (x == ("__debug__" : Str)) = false := by decide) :
    wpAny (model P0 w) A (eval (.Name x pos) env) Q E s := wpAny_Name (wpAny_loadName_local hk hl hn hv h) hd
theorem ldG (hg : s.heap.Ns env.globals mg) (hb : mg x = some v) (h : Q v s) (hk : env.scope.kind = .function := by rfl) (hx : env.kindOf x = some .globalImplicit := by rfl) (hd : (x == ("__debug__" : Str)) = false := by decide) :
    wpAny (model P0 w) A (eval (.Name x pos) env) Q E s := Calls.Name_function_global hk hx (Calls.loadGlobal_global hg hb h) hd
theorem ldB (hg : s.heap.Ns env.globals mg) (hm : mg x = none) (hb : s.heap.Ns env.builtins mb) (hv : mb x = some v) (h : Q v s) (hk : env.scope.kind = .function := by rfl) (hx : env.kindOf x = some .globalImplicit := by rfl) (hd : (x == ("__debug__" : Str)) = false := by decide) :
    wpAny (model P0 w) A (eval (.Name x pos) env) Q E s := Calls.Name_function_global hk hx (Calls.loadGlobal_builtin hg hm hb hv h) hd
theorem ldC {c : Addr} (hc : env.cells.lookup x = some c) (hv : s.heap.IsCell c (some v)) (h : Q v s) (hk : env.scope.kind = .function := by rfl) (hl : env.kindOf x = some .cell := by rfl) (hd : (x == ("__debug__" : Str)) = false := by decide) :
    wpAny (model P0 w) A (eval (.Name x pos) env) Q E s := wpAny_Name (wpAny_loadName_cell hk hl hc hv h) hd
end
section
variable {w : World} {A : Around} {s : Shared} {E : Value → Shared → Prop}
/-- a new list, its place hidden -/
theorem newList_any {vs : List Value} {Q : Value → Shared → Prop} (hsz : vs.length ≤ 1000)
    (h : ∀ h' r, Keeps0 s.heap h' → s.heap.get? r = none → h'.PlainList r vs.toArray → Q (.ref r) { s with heap := h' }) : wpAny (model P0 w) A (newList vs) Q E s :=
  wpAny_newObj_type (h _ s.heap.objs.size (fun b o y => Heap.get?_push_of_some _ y) (Heap.get?_none_of_le (Nat.le_refl _)) ⟨0, Heap.get?_push_size _ rfl⟩) (by
    show vs.toArray.size ≤ sizeLine
    have : vs.toArray.size = vs.length := by simp
    rw [sizeLine_eq]; omega)
theorem newTuple_any {vs : List Value} {Q : Value → Shared → Prop} (hsz : vs.length ≤ 1000)
    (h : ∀ h' r, Keeps0 s.heap h' → s.heap.get? r = none → h'.get? r = some (tupOf vs.toArray) → Q (.ref r) { s with heap := h' }) : wpAny (model P0 w) A (newTuple vs) Q E s :=
  wpAny_newObj_type (h _ s.heap.objs.size (fun b o y => Heap.get?_push_of_some _ y) (Heap.get?_none_of_le (Nat.le_refl _)) (Heap.get?_push_size _ rfl)) (by
    show vs.toArray.size ≤ sizeLine
    have : vs.toArray.size = vs.length := by simp
    rw [sizeLine_eq]; omega)
/-- enumerate of a list, the places hidden -/
theorem enum_any {l : Nat} {items : Array Value} {Q : Value → Shared → Prop} (hL : s.heap.IsList l items)
    (h : ∀ h' (e it : Nat), Keeps0 s.heap h' → s.heap.objs.size ≤ e → s.heap.objs.size ≤ it → e < h'.objs.size → it < h'.objs.size → e ≠ it → IsEnum h' e it 0 .none → h'.IsListIter it l 0 → Q (.ref e) { s with heap := h' }) :
    wpAny (model P0 w) A (call (.type "enumerate") [.ref l]) Q E s :=
  call_enumerate_list hL fun h' h1 h2 h3 h4 => h h' _ _ h4 (Nat.le_succ _) (Nat.le_refl _) (by omega) (by omega) (Nat.succ_ne_self _) h1 h2
end
end Mine
end

section
open PySem PySem.W PyProof.Rows
set_option maxRecDepth 100000
set_option maxHeartbeats 4000000
namespace Mine
section
variable {w : World} {A : Around} {s : Shared} {E : Value → Shared → Prop}
theorem draw_list {it l : Addr} {items : Array Value} (hne : l ≠ it) : ∀ (n i : Nat) (s : Shared) (Q : List Value → Shared → Prop), s.heap.IsListIter it l i → s.heap.IsList l items → i + n ≤ items.size →
    (∀ h', h'.IsListIter it l (i + n) → Heap.SameBut it s.heap h' → Q ((items.toList.drop i).take n) { s with heap := h' }) → wpAny (model P0 w) A (draw (.ref it) n) Q E s
  | 0, i, s, Q, hit, _, _, hQ => by
    show wpAny _ _ (pure []) Q E s
    exact wpAny_pure (by simpa using hQ s.heap hit (Heap.SameBut.refl ..))
  | n + 1, i, s, Q, hit, ht, hle, hQ => by
    have hlt : i < items.size := by omega
    show wpAny _ _ (pyNext (.ref it) >>= _) Q E s
    refine wpAny_bind (wpAny_pyNext_list_item hit ht (x := items[i]) (by simp [hlt]) fun h₁ hit₁ hs₁ => ?_)
    refine wpAny_bind (wpAny_holding (draw_list hne n (i + 1) _ _ hit₁ (ht.extBut hs₁.extBut hne) (by omega) fun h₂ hit₂ hs₂ => wpAny_pure ?_))
    have hd : items.toList.drop i = items[i] :: items.toList.drop (i + 1) := by simp [List.drop_eq_getElem_cons, hlt]
    have := hQ h₂ (by rw [show i + (n + 1) = i + 1 + n by omega]; exact hit₂) (hs₁.trans hs₂)
    rw [hd, List.take_succ_cons] at this
    exact this
/-- a list taken apart by as many names as it has items -/
theorem assign_list {env : Env} {elts : List Expr} {x1} {pos : Pos} {l : Addr} {items : Array Value} {Q : Unit → Shared → Prop} (hh : A.handled = none) (hl : s.heap.IsList l items)
    (hn : (assignEach elts env).length = items.size) (hstar : (assignEach elts env).findIdx? (·.1) = none)
    (h : ∀ h', Keeps0 s.heap h' → wpAny (model P0 w) A (assignInOrder ((assignEach elts env).map (·.2)) items.toList) Q E { s with heap := h' }) :
    wpAny (model P0 w) A (assign (.Tuple elts x1 pos) env (.ref l)) Q E s := by
  have hlt : l ≠ s.heap.objs.size := by obtain ⟨o, ho, _⟩ := hl; exact Nat.ne_of_lt (Heap.lt_size ho)
  rw [arm_assign_Tuple]
  refine wpAny_bind (wpAny_standAt ?_)
  unfold unpack
  rw [hn, hstar]
  refine wpAny_bind (wpAny_holding ?_)
  unfold unpackItems
  refine wpAny_bind ?_
  unfold notIterableAtAll
  refine wpAny_bind (wpAny_specialOf hl.typeIs PySem.F.slot_list_iter.lookup ?_)
  refine wpAny_pure ?_
  simp only [Bool.false_eq_true, if_false]
  refine wpAny_bind (wpAny_holding (wpAny_pyIter_list hl ?_))
  refine wpAny_bind (wpAny_holding (draw_list hlt items.size 0 _ _ ⟨_, Heap.get?_push_size _ rfl, rfl, rfl⟩ (hl.push _) (by omega) fun h₁ hit₁ hs₁ => ?_))
  have hall : List.take items.size (List.drop 0 items.toList) = items.toList := by
    rw [List.drop_zero]; exact List.take_of_length_le (by simp)
  rw [hall]
  rw [if_neg (by simp)]
  have hl₁ : h₁.IsList l items := (hl.push _).extBut hs₁.extBut hlt
  refine wpAny_bind (wpAny_holding (wpAny_pyNext_list_end hh hit₁ hl₁ (by simp) fun h₂ he₂ => ?_))
  simp only [Option.isSome_none, Bool.false_eq_true, if_false]
  exact wpAny_pure (h h₂ fun b o e => he₂ b o (Nat.ne_of_lt (Heap.lt_size e)) (hs₁.extBut b o (Nat.ne_of_lt (Heap.lt_size e)) (Heap.get?_push_of_some _ e)))
end
end Mine
end

section
open PySem PySem.W PyProof.Rows
set_option maxRecDepth 100000
set_option maxHeartbeats 4000000
namespace Mine
section
variable {w : World} {A : Around} {s : Shared} {E : Value → Shared → Prop}
theorem fits_small {x : Int} (h0 : 0 ≤ x) (h1 : x ≤ 1000) : ¬(!Builtin.List.listFitsIndex x) = true := by
  have h1 : decide (x < 2 ^ 63) = true := decide_eq_true (by omega)
  have h2 : decide (-(2 ^ 63 : Int) ≤ x) = true := decide_eq_true (by omega)
  unfold Builtin.List.listFitsIndex
  rw [h1, h2]; decide
theorem insert_any {l : Addr} {vals : Array Value} {x : Int} {u : Tok} {y : Value} {Q : Value → Shared → Prop} (hl : s.heap.PlainList l vals) (h0 : 0 ≤ x) (hk : x.toNat ≤ vals.size) (hsz : vals.size ≤ 1000)
    (h : ∀ h', h'.PlainList l ((vals.extract 0 x.toNat).push y ++ vals.extract x.toNat) → Heap.SameBut l s.heap h' → Q .none { s with heap := h' }) :
    wpAny (model P0 w) A (call (.builtin "list.insert") [.ref l, .int x u, y]) Q E s := by
  obtain ⟨n, ho⟩ := hl
  have hf : ¬(!Builtin.List.listFitsIndex x) = true := fits_small h0 (by omega)
  have hszl : vals.size ≤ sizeLine := by rw [sizeLine_eq]; omega
  have hT : s.TypeIs (.ref l) "list" := ⟨_, ho, rfl⟩
  refine call_meets (self := .ref l) (rest := [.int x u, y]) PySem.F.slot_list_insert hT PySem.F.entry_list_insert (PySem.F.args_list_insert_3 _ _ _) (AutoSeq1.list_insert_list_int_val_1 l vals n x u y hf hszl) ⟨ho, ?_⟩
  have e : (fun xs : Array Value => have k' := if x < 0 then (x + (xs.size : Int)).toNat else min x.toNat xs.size; (xs.extract 0 k').push y ++ xs.extract k') vals = (vals.extract 0 x.toNat).push y ++ vals.extract x.toNat := by
    show (vals.extract 0 (if x < 0 then _ else min x.toNat vals.size)).push y ++ vals.extract (if x < 0 then _ else min x.toNat vals.size) = _
    rw [if_neg (by omega), Nat.min_eq_left hk]
  have g := Heap.get?_update_self (Obj.mapSeq fun xs : Array Value => have k' := if x < 0 then (x + (xs.size : Int)).toNat else min x.toNat xs.size; (xs.extract 0 k').push y ++ xs.extract k') ho rfl
  have p : (s.heap.update l (Obj.mapSeq fun xs : Array Value => have k' := if x < 0 then (x + (xs.size : Int)).toNat else min x.toNat xs.size; (xs.extract 0 k').push y ++ xs.extract k')).PlainList l ((vals.extract 0 x.toNat).push y ++ vals.extract x.toNat) := by
    rw [← e]; exact ⟨_, g⟩
  exact h _ p (Heap.SameBut.update ..)
end
end Mine
end

section
open PySem PySem.W PyProof.Rows
set_option maxRecDepth 100000
set_option maxHeartbeats 4000000
namespace Mine
def insS (k : Nat) (y : Str) (l : List Str) : List Str := l.take k ++ y :: l.drop k
def menu : List Str := [Str.ofString "\")\"", Str.ofString "\\(", Str.ofString "\\\"", Str.ofString "a"]
def mkRing (a b c d : Nat) : List Str := insS d ((menu[c]?).getD (Str.ofString "")) (insS b (Str.ofString ")") (insS a (Str.ofString ")") [Str.ofString "(", Str.ofString "(", Str.ofString "("]))
theorem strs_take {vs : List Value} {ys : List Str} (h : StrsAre vs ys) : ∀ k, StrsAre (vs.take k) (ys.take k) := by
  induction h with
  | nil => intro k; simp; exact .nil
  | cons y t _ ih => intro k; cases k with
    | zero => exact .nil
    | succ k => exact .cons y t (ih k)
theorem strs_drop {vs : List Value} {ys : List Str} (h : StrsAre vs ys) : ∀ k, StrsAre (vs.drop k) (ys.drop k) := by
  induction h with
  | nil => intro k; simp; exact .nil
  | cons y t r ih => intro k; cases k with
    | zero => exact .cons y t r
    | succ k => exact ih k
theorem strs_ins {vals : Array Value} {ys : List Str} (h : StrsAre vals.toList ys) (k : Nat) (y : Str) (t : Tok) : StrsAre ((vals.extract 0 k).push (.str y t) ++ vals.extract k).toList (insS k y ys) := by
  have e : ((vals.extract 0 k).push (.str y t) ++ vals.extract k).toList = vals.toList.take k ++ Value.str y t :: vals.toList.drop k := by
    simp
    exact List.take_of_length_le (by simp)
  rw [e]
  have hd : StrsAre (Value.str y t :: vals.toList.drop k) (y :: ys.drop k) := .cons y t (strs_drop h k)
  clear e
  revert hd
  have ht := strs_take h k
  generalize vals.toList.take k = us at ht
  intro hd
  unfold insS
  generalize ys.take k = zs at ht
  induction ht with
  | nil => exact hd
  | cons y t _ ih => exact .cons y t ih
end Mine
end

section
open PySem PySem.W PyProof.Rows
set_option maxRecDepth 100000
set_option maxHeartbeats 4000000
namespace Mine
section
variable {w : World} {A : Around} {s : Shared} {E : Value → Shared → Prop}

/-- ring.insert(name % k, text) -/
theorem insert_stmt {env : Env} {r : Addr} {m : Str → Option Value} {x : Str} {p1 p2 p3 p4 p5 p6 p7 p8 : Pos} {k1 k2 : Nat} {z md : Int} {u : Tok} {y : Str} {vals : Array Value} {Q : Flow → Shared → Prop}
    (hn : s.heap.Ns env.locals m) (hr : m (Str.ofString "ring") = some (.ref r)) (hx : m x = some (.int z u)) (hp : s.heap.PlainList r vals) (hmd : 0 < md) (hsz : md ≤ vals.size + 1) (hs : vals.size ≤ 1000)
    (hk : env.scope.kind = .function) (hkr : env.kindOf (Str.ofString "ring") = some .local) (hkx : env.kindOf x = some .local) (hdx : (x == ("__debug__" : Str)) = false) (hint : interactive env = false)
    (hline : (p2.endLine == p7.line) = true)
    (h : ∀ h' tk t, h'.PlainList r ((vals.extract 0 (z.fmod md).toNat).push (.str y t) ++ vals.extract (z.fmod md).toNat) → Heap.SameBut r s.heap h' → Q .next { s with heap := h', toks := tk }) :
    wpAny (model P0 w) A (exec (.Expr (.Call (.Attribute (.Name (Str.ofString "ring") p1) (Str.ofString "insert") p2) [.BinOp (.Name x p3) .Mod (.Constant (.int md) k1 p4) p5, .Constant (.str y) k2 p6] [] p7) p8) env) Q E s := by
  obtain ⟨nr, gr⟩ := id hp
  refine wpAny_Expr (wpAny_Call_method (T := "list") (id := "list.insert") rfl rfl hline PySem.F.plainAttrs_list PySem.F.slot_list_insert PySem.F.type_list_insert (ldE hn hr ⟨⟨_, gr, rfl⟩, ⟨fun a e => by cases e; exact ⟨_, gr, rfl⟩, ?_⟩⟩ hk hkr)) hint rfl
  refine callWith_method1 (spliced_more (wpAny_BinOp (ldE hn hx (wpAny_Constant_int (PyProof.Rows.mod_int (Int.ne_of_gt hmd) ?_)) hk hkx hdx)))
  refine spliced_more (Calls.Constant_str (spliced_none ?_))
  have b0 : 0 ≤ z.fmod md := Int.fmod_nonneg_of_pos z hmd
  have b1 : z.fmod md < md := Int.fmod_lt_of_pos z hmd
  refine insert_any hp b0 (by omega) hs fun h' hp' hs' => ?_
  exact h h' _ _ hp' hs'
end
end Mine
end

section
open PySem PySem.W PyProof.Rows
set_option maxRecDepth 100000
set_option maxHeartbeats 4000000
namespace Mine
section
variable {w : World} {A : Around} {s : Shared} {E : Value → Shared → Prop}
/-- an item of a written menu of four texts at name % 4 -/
theorem menu_item {env : Env} {m : Str → Option Value} {x : Str} {p1 p2 p3 p4 p5 p6 p7 p8 p9 : Pos} {k1 k2 k3 k4 k5 : Nat} {z : Int} {u : Tok} {y1 y2 y3 y4 : Str} {Q : Value → Shared → Prop}
    (hn : s.heap.Ns env.locals m) (hx : m x = some (.int z u)) (hk : env.scope.kind = .function) (hkx : env.kindOf x = some .local) (hdx : (x == ("__debug__" : Str)) = false)
    (h : ∀ h' tk t y, Keeps0 s.heap h' → [y1, y2, y3, y4][(z.fmod 4).toNat]? = some y → Q (.str y t) { s with heap := h', toks := tk }) :
    wpAny (model P0 w) A (eval (.Subscript (.List [.Constant (.str y1) k1 p1, .Constant (.str y2) k2 p2, .Constant (.str y3) k3 p3, .Constant (.str y4) k4 p4] p5) (.BinOp (.Name x p6) .Mod (.Constant (.int 4) k5 p7) p8) p9) env) Q E s := by
  refine Subscript_ (List_ ?_)
  refine spliced_more (Calls.Constant_str (spliced_more (Calls.Constant_str ?_)))
  refine spliced_more (Calls.Constant_str (spliced_more (Calls.Constant_str (spliced_none ?_))))
  refine newList_any (Nat.le_of_ble_eq_true rfl) fun h₁ r hk₁ hn₁ hp₁ => ?_
  replace hk₁ : Keeps0 s.heap h₁ := hk₁
  refine wpAny_BinOp (ldE (hn.at fun o y => hk₁ _ o y) hx (wpAny_Constant_int (PyProof.Rows.mod_int (by decide) ?_)) hk hkx hdx)
  have b0 := Int.fmod_nonneg_of_pos z (show (0 : Int) < 4 by decide)
  have b1 := Int.fmod_lt_of_pos z (show (0 : Int) < 4 by decide)
  refine item_strsT (l := [(y1, _), (y2, _), (y3, _), (y4, _)]) hp₁.isList b0 (by show z.fmod 4 < 4; exact b1) (by omega) (fun y t' hy => ?_) (by with_unfolding_all rfl)
  exact h h₁ _ t' y hk₁ hy
end
end Mine
end

section
open PySem PySem.W PyProof.Rows
set_option maxRecDepth 100000
set_option maxHeartbeats 4000000
namespace Mine
section
variable {w : World} {A : Around} {s : Shared} {E : Value → Shared → Prop}
/-- ring.insert(name % k, [..][other % 4]) -/
theorem insert_stmt2 {env : Env} {r : Addr} {m : Str → Option Value} {x x' : Str} {p1 p2 p3 p4 p5 p7 p8 q1 q2 q3 q4 q5 q6 q7 q8 q9 : Pos} {k1 j1 j2 j3 j4 j5 : Nat} {z z' md : Int} {u u' : Tok} {y1 y2 y3 y4 : Str} {vals : Array Value} {Q : Flow → Shared → Prop}
    (hn : s.heap.Ns env.locals m) (hr : m (Str.ofString "ring") = some (.ref r)) (hx : m x = some (.int z u)) (hx' : m x' = some (.int z' u')) (hp : s.heap.PlainList r vals) (hmd : 0 < md) (hsz : md ≤ vals.size + 1) (hs : vals.size ≤ 1000)
    (hk : env.scope.kind = .function) (hkr : env.kindOf (Str.ofString "ring") = some .local) (hkx : env.kindOf x = some .local) (hkx' : env.kindOf x' = some .local) (hdx : (x == ("__debug__" : Str)) = false) (hdx' : (x' == ("__debug__" : Str)) = false) (hint : interactive env = false)
    (hline : (p2.endLine == p7.line) = true)
    (h : ∀ h' tk t y, [y1, y2, y3, y4][(z'.fmod 4).toNat]? = some y → h'.PlainList r ((vals.extract 0 (z.fmod md).toNat).push (.str y t) ++ vals.extract (z.fmod md).toNat) → (∀ b o, b ≠ r → s.heap.get? b = some o → h'.get? b = some o) → Q .next { s with heap := h', toks := tk }) :
    wpAny (model P0 w) A (exec (.Expr (.Call (.Attribute (.Name (Str.ofString "ring") p1) (Str.ofString "insert") p2) [.BinOp (.Name x p3) .Mod (.Constant (.int md) k1 p4) p5,
      .Subscript (.List [.Constant (.str y1) j1 q1, .Constant (.str y2) j2 q2, .Constant (.str y3) j3 q3, .Constant (.str y4) j4 q4] q5) (.BinOp (.Name x' q6) .Mod (.Constant (.int 4) j5 q7) q8) q9] [] p7) p8) env) Q E s := by
  obtain ⟨nr, gr⟩ := id hp
  refine wpAny_Expr (wpAny_Call_method (T := "list") (id := "list.insert") rfl rfl hline PySem.F.plainAttrs_list PySem.F.slot_list_insert PySem.F.type_list_insert (ldE hn hr ⟨⟨_, gr, rfl⟩, ⟨fun a e => by cases e; exact ⟨_, gr, rfl⟩, ?_⟩⟩ hk hkr)) hint rfl
  refine callWith_method1 (spliced_more (wpAny_BinOp (ldE hn hx (wpAny_Constant_int (PyProof.Rows.mod_int (Int.ne_of_gt hmd) ?_)) hk hkx hdx)))
  refine spliced_more (menu_item hn hx' hk hkx' hdx' fun h₁ tk₁ t y hk₁ hy => spliced_none ?_)
  have b0 : 0 ≤ z.fmod md := Int.fmod_nonneg_of_pos z hmd
  have b1 : z.fmod md < md := Int.fmod_lt_of_pos z hmd
  replace hk₁ : Keeps0 s.heap h₁ := hk₁
  refine insert_any (hp.at fun o y => hk₁ _ o y) b0 (by omega) hs fun h' hp' hs' => ?_
  exact h h' _ t y hy hp' fun b o hb y => Heap.SameBut.extBut hs' b o hb (hk₁ b o y)
end
end Mine
end

section
open PySem PySem.W PyProof.Rows
set_option maxRecDepth 100000
set_option maxHeartbeats 4000000
namespace Mine
section
variable {w : World} {A : Around} {s : Shared}
theorem ring_tail {L r : Nat} {code : Value} {h₀ : Heap} {m : Str → Option Value} {vals : Array Value} {a1 a2 a3 a4 : Int} {u1 u2 u3 u4 : Tok} {R : Flow → Shared → Prop}
    (F : Fr h₀ L s.heap m) (q1 : m (Str.ofString "one") = some (.int a1 u1)) (q2 : m (Str.ofString "two") = some (.int a2 u2)) (q3 : m (Str.ofString "three") = some (.int a3 u3)) (q4 : m (Str.ofString "four") = some (.int a4 u4))
    (q5 : m (Str.ofString "ring") = some (.ref r)) (hp : s.heap.PlainList r vals) (hv : vals.size = 3) (hs : StrsAre vals.toList [Str.ofString "(", Str.ofString "(", Str.ofString "("]) (hr : h₀.get? r = none) (hrL : r ≠ L)
    (hR : ∀ h' tk vals (a b c d : Nat), (∀ x o, h₀.get? x = some o → h'.get? x = some o) → a < 4 → b < 5 → c < 4 → d < 6 → h'.PlainList r vals → StrsAre vals.toList (mkRing a b c d) → R (.ret (.ref r)) { s with heap := h', toks := tk }) :
    wpAny (model P0 w) A (execs ((bodyOf (stAt 10)).drop 2) (envOfC (nameOf (stAt 10)) (scopeOf (stAt 10)) L 69 code)) R (fun _ _ => False) s := by
  have keep : ∀ {h h' : Heap}, Heap.SameBut r h h' → Fr h₀ L h m → Fr h₀ L h' m := fun hsb F => ⟨F.ns.sameBut hsb (Ne.symm hrL), fun b o y => hsb.extBut b o (fun e => by rw [e, hr] at y; cases y) (F.keep b o y), F.above⟩
  refine wpAny_execs_cons (insert_stmt (m := m) F.ns q5 q1 hp (by decide) (by rw [hv]; decide) (by rw [hv]; decide) rfl rfl rfl (by decide) rfl rfl fun h₁ tk₁ t₁ hp₁ hs₁ => ?_)
  have F₁ := keep hs₁ F
  have st₁ := strs_ins hs (a1.fmod 4).toNat (Str.ofString ")") t₁
  have size_of : ∀ {vs : Array Value} {ys : List Str}, StrsAre vs.toList ys → vs.size = ys.length := fun h => by
    have := strs_len h
    rw [Array.length_toList] at this; exact this
  have b1 : (a1.fmod 4).toNat < 4 := by have := Int.fmod_nonneg_of_pos a1 (show (0 : Int) < 4 by decide); have := Int.fmod_lt_of_pos a1 (show (0 : Int) < 4 by decide); omega
  have b2 : (a2.fmod 5).toNat < 5 := by have := Int.fmod_nonneg_of_pos a2 (show (0 : Int) < 5 by decide); have := Int.fmod_lt_of_pos a2 (show (0 : Int) < 5 by decide); omega
  have z₁ := size_of st₁
  rw [show (insS (a1.fmod 4).toNat (Str.ofString ")") [Str.ofString "(", Str.ofString "(", Str.ofString "("]).length = 4 from by unfold insS; simp; omega] at z₁
  refine wpAny_execs_cons (insert_stmt (m := m) F₁.ns q5 q2 hp₁ (by decide) (by rw [z₁]; decide) (by rw [z₁]; decide) rfl rfl rfl (by decide) rfl rfl fun h₂ tk₂ t₂ hp₂ hs₂ => ?_)
  have F₂ := keep hs₂ F₁
  have st₂ := strs_ins st₁ (a2.fmod 5).toNat (Str.ofString ")") t₂
  have z₂ := size_of st₂
  rw [show (insS (a2.fmod 5).toNat (Str.ofString ")") (insS (a1.fmod 4).toNat (Str.ofString ")") [Str.ofString "(", Str.ofString "(", Str.ofString "("])).length = 5 from by unfold insS; simp; omega] at z₂
  have b3 : (a3.fmod 4).toNat < 4 := by have := Int.fmod_nonneg_of_pos a3 (show (0 : Int) < 4 by decide); have := Int.fmod_lt_of_pos a3 (show (0 : Int) < 4 by decide); omega
  have b4 : (a4.fmod 6).toNat < 6 := by have := Int.fmod_nonneg_of_pos a4 (show (0 : Int) < 6 by decide); have := Int.fmod_lt_of_pos a4 (show (0 : Int) < 6 by decide); omega
  refine wpAny_execs_cons (insert_stmt2 (m := m) F₂.ns q5 q4 q3 hp₂ (by decide) (by rw [z₂]; decide) (by rw [z₂]; decide) rfl rfl rfl rfl (by decide) (by decide) rfl rfl fun h₃ tk₃ t₃ y hy hp₃ hs₃ => ?_)
  have hn₃ : h₃.Ns L m := F₂.ns.at fun o y => hs₃ _ o (Ne.symm hrL) y
  have st₃ := strs_ins st₂ (a4.fmod 6).toNat y t₃
  refine wpAny_execs_cons (wpAny_Return_some (ldE hn₃ q5 ?_ rfl rfl))
  refine hR h₃ _ _ _ _ _ _ (fun x o y => hs₃ x o (fun e => by rw [e, hr] at y; cases y) (F₂.keep x o y)) b1 b2 b3 b4 hp₃ ?_
  have hy' : (menu[(a3.fmod 4).toNat]?).getD (Str.ofString "") = y := by
    unfold menu; rw [hy]; rfl
  unfold mkRing
  rw [hy']
  exact st₃
end
end Mine
end

section
open PySem PySem.W PyProof.Rows
set_option maxRecDepth 100000
set_option maxHeartbeats 4000000
namespace Mine
theorem slicePick_mem {items : Array Value} {lo hi st : Option Int} {i : Nat} {v : Value} (h : (slicePick items lo hi st)[i]? = some v) : ∃ j : Nat, items[j]? = some v := by
  unfold slicePick at h
  have hm : v ∈ (sliceRange (sliceBounds lo hi st items.size).1 (sliceBounds lo hi st items.size).2.1 (sliceBounds lo hi st items.size).2.2).filterMap (items[·]?) := by
    have := List.mem_of_getElem? (by simpa using h)
    exact this
  obtain ⟨j, _, hj⟩ := List.mem_filterMap.mp hm
  exact ⟨j, hj⟩

section
variable {w : World} {A : Around} {mg mb : Str → Option Value} {s : Shared}
theorem ring_spec {R : Result → Shared → Prop} {l : Nat} {vs : Array Value} (hN : Nm mg mb) (hh : A.handled = none) (hd : A.depth + 2 < recursionLimit) (T : Tp mg mb s.heap) (hb : AllBare s.gens)
    (hl : s.heap.IsList l vs) (hi : ∀ (i : Nat) v, vs[i]? = some v → ∃ z t, v = Value.int z t) (hsz : vs.size ≤ 1000)
    (hR : ∀ h' tk gens r vals (a b c d : Nat), Keeps0 s.heap h' → AllBare gens → s.heap.get? r = none → a < 4 → b < 5 → c < 4 → d < 6 → h'.PlainList r vals → StrsAre vals.toList (mkRing a b c d) → R (.ok (.ret (.ref r))) { s with heap := h', toks := tk, gens := gens }) :
    codeAny (model P0 w) A (.call (.ref 69) ⟨[.ref l], []⟩) R s := by
  obtain ⟨o, pm, code, doc, ho, hdat, hc⟩ := T.f10
  refine call_cells_ret (binds := [(Str.ofString "script", .ref l)]) (by omega) ho hdat T.nolimit hc rfl ?_ (fun h₁ tk F X => ?_) rfl rfl rfl
  · intro x hx
    rw [List.mem_singleton.mp hx]
    exact .inr ⟨(by decide +kernel : List.lookup (Str.ofString "script") (scopeOf (stAt 10)).names = some NameKind.cell), rfl⟩
  refine wpAny_execs_cons (Assign_Tuple ?_)
  rw [eval_ListComp]
  refine wpAny_comprehension_free (cl := [(Str.ofString "script", s.heap.objs.size + 1)]) (use := none) rfl (fun _ => rfl) rfl rfl (by decide +kernel) ?_
  have T₁ := T.keeps F.keep
  have hcl : h₁.IsCell (s.heap.objs.size + 1) (some (.ref l)) := X.cell (Str.ofString "script") _ rfl
  have hl₁ : h₁.IsList l vs := hl.at fun o y => F.keep _ o y
  refine Call_Name rfl (ldB T₁.g hN.enumerate.1 T₁.b hN.enumerate.2 ?_ rfl rfl)
  refine PyProof.Rows.callWith_type1 (spliced_more (List_ ?_))
  refine spliced_more (wpAny_Constant_int (spliced_more (wpAny_Constant_int ?_)))
  refine spliced_more (wpAny_Constant_int (spliced_more (wpAny_Constant_int (spliced_none ?_))))
  refine newList_any (Nat.le_of_ble_eq_true rfl) fun h₂ r₂ hk₂ hn₂ hp₂ => ?_
  refine spliced_none ?_
  replace hk₂ : Keeps0 h₁ h₂ := hk₂
  refine enum_any hp₂.isList fun h₃ e it hk₃ he₁ hi₁ he₂ hi₂ hei hen hit => ?_
  replace hk₃ : Keeps0 h₂ h₃ := hk₃
  replace he₁ : h₂.objs.size ≤ e := he₁
  replace hi₁ : h₂.objs.size ≤ it := hi₁
  refine wpAny_pyIter_enum hen ?_
  have hr₂ : r₂ < h₂.objs.size := by obtain ⟨_, y⟩ := hp₂; exact Heap.lt_size y
  have c2 : r₂ ≠ e := low_ne hr₂ he₁
  have c3 : r₂ ≠ it := low_ne hr₂ hi₁
  have W := WalksT.enumerate (prog := P0) (w := w) (A := A.deeper (envOfC (nameOf (stAt 10)) (scopeOf (stAt 10)) s.heap.objs.size 69 code)) hh e it r₂ hei c2 c3 [Value.int 1 tk, .int 3 (tk + 1), .int 0 (tk + 1 + 1), .int 2 (tk + 1 + 1 + 1)].toArray
  have hk13 : Keeps0 h₁ h₃ := fun b o y => hk₃ b o (hk₂ b o y)
  have hr₃ : r₂ < h₃.objs.size := by obtain ⟨_, y⟩ := hp₂; exact Heap.lt_size (hk₃ _ _ y)
  refine comp_tail2 W hh (by decide +kernel) rfl (by decide +kernel) (by decide +kernel) ?_ (by show (4 : Nat) ≤ 1000; decide) ⟨⟨_, hen⟩, hit, (hp₂.at fun o y => hk₃ _ o y).isList⟩ ?_ hb
    (fun k ys h => (∀ b o, b < h₂.objs.size → h₃.get? b = some o → h.get? b = some o) ∧ ∀ y ∈ ys, ∃ z t, y = Value.int z t) ?_ ?_ ?_ ?_
  · rintro k vals ⟨t, x, _, rfl⟩; exact ⟨_, _, rfl⟩
  · intro b hb
    simp only [List.mem_cons, List.not_mem_nil, or_false] at hb
    rcases hb with rfl | rfl | rfl
    · exact he₂
    · exact hi₂
    · exact hr₃
  · rintro k ys h h' ⟨j1, j2⟩ hk
    refine ⟨fun b o hb y => hk b o ?_ ?_ ?_ (j1 b o hb y), j2⟩
    · show b ≠ h₃.objs.size + 1
      exact low_ne (Nat.lt_of_lt_of_le hb he₁) (Nat.le_succ_of_le (Nat.le_of_lt he₂))
    · show b ≠ h₃.objs.size
      exact low_ne (Nat.lt_of_lt_of_le hb he₁) (Nat.le_of_lt he₂)
    · simp only [List.mem_cons, List.not_mem_nil, or_false, not_or]
      exact ⟨low_ne hb he₁, low_ne hb hi₁⟩
  · intro h hk
    exact ⟨fun b o _ y => hk b o y, fun _ hy => nomatch hy⟩
  · intro k v1 v2 ys m h tk' gens hkn hP hJ hn hS hb'
    obtain ⟨t, x, hx, hvals⟩ := hP
    obtain ⟨rfl, rfl⟩ : v1 = .int (k : Int) t ∧ v2 = x := by
      have := congrArg Array.toList hvals
      simp only [List.cons.injEq, and_true] at this
      exact this
    obtain ⟨z0, t0, rfl⟩ : ∃ z t, v2 = Value.int z t := by
      have hm : v2 ∈ [Value.int 1 tk, .int 3 (tk + 1), .int 0 (tk + 1 + 1), .int 2 (tk + 1 + 1 + 1)] := by
        have := List.mem_of_getElem? (l := [Value.int 1 tk, .int 3 (tk + 1), .int 0 (tk + 1 + 1), .int 2 (tk + 1 + 1 + 1)]) (i := k) (by simpa using hx)
        exact this
      simp only [List.mem_cons, List.not_mem_nil, or_false] at hm
      rcases hm with rfl | rfl | rfl | rfl <;> exact ⟨_, _, rfl⟩
    have kp : Keeps0 h₁ h := fun b o y => hJ.1 b o (Heap.lt_size (hk₂ b o y)) (hk13 b o y)
    have Th := T₁.keeps kp
    have hlh : h.IsList l vs := hl₁.at fun o y => kp _ o y
    have hch : h.IsCell (s.heap.objs.size + 1) (some (.ref l)) := by obtain ⟨o, ho, hd⟩ := hcl; exact ⟨o, kp _ _ ho, hd⟩
    refine wpAny_BinOp (ldE hn (if_pos rfl) ?_ rfl rfl)
    refine Call_Name rfl (ldB Th.g hN.sum.1 Th.b hN.sum.2 ?_ rfl rfl)
    refine callWith_builtin1 (spliced_more ?_)
    refine Subscript_ (ldC rfl hch (wpAny_Slice ?_) rfl rfl)
    have hpl : (fun z => if z = Str.ofString "first" then some (Value.int z0 t0) else if z = Str.ofString "place" then some (Value.int (k : Int) t) else m z) (Str.ofString "place") = some (.int (k : Int) t) := by
      show (if _ then _ else if _ then _ else _) = _
      rw [if_neg (by decide), if_pos rfl]
    refine ldE hn hpl ?_ rfl rfl
    rw [evalPart_none]
    refine wpAny_pure ?_
    rw [evalPart_some]
    refine wpAny_Constant_int ?_
    have hsl : (h.push { cls := .type "slice", data := .fields #[.int (k : Int) t, .none, .int 4 tk'] }).IsSliceOf h.objs.size (.int (k : Int) t) .none (.int 4 tk') := Heap.IsSliceOf.new ..
    have hlp : (h.push { cls := .type "slice", data := .fields #[.int (k : Int) t, .none, .int 4 tk'] }).IsList l vs := hlh.at fun o y => Heap.get?_push_of_some _ y
    refine tail_any hlp.typeIs slot_list_getitem.lookup (wpAny_getItem_list_slice (lo := some (k : Int)) (hi := none) (st := some 4) hlp hsl (.int _ _) .none (.int _ _) (by decide) ?_ (by rw [sizeLine_eq]; omega)) (by with_unfolding_all rfl)
    refine spliced_none ?_
    have hk5 : ∀ (c : Obj), Keeps0 h ((h.push { cls := .type "slice", data := .fields #[.int (k : Int) t, .none, .int 4 tk'] }).push c) := fun c b o y => Heap.get?_push_of_some _ (Heap.get?_push_of_some _ y)
    refine sum_any (items := slicePick vs (some (k : Int)) none (some 4)) hh ⟨_, Heap.get?_push_size _ rfl, rfl, _, rfl⟩ (fun i v hv => ?_) fun z t' h' tk'' hk' => ?_
    · obtain ⟨j, hj⟩ := slicePick_mem hv
      exact hi j v hj
    · refine PyProof.Rows.add_int ⟨h', _, gens, rfl, hb', fun b o y => hk' b o (hk5 _ b o y), fun b o hb y => hk' b o (hk5 _ b o (hJ.1 b o hb y)), fun y hy => ?_⟩
      rcases List.mem_append.mp hy with hy | hy
      · exact hJ.2 y hy
      · rw [List.mem_singleton.mp hy]; exact ⟨_, _, rfl⟩
  · intro ys m h tk' gens hJ hlen hp hn hb'
    refine ⟨m, hn, fun h₄ hs₄ => ?_⟩
    replace hlen : ys.length = 4 := hlen
    replace hs₄ : Heap.SameBut (h₃.objs.size + 1) h h₄ := hs₄
    replace hp : h.PlainList h₃.objs.size ys.toArray := hp
    obtain ⟨y1, y2, y3, y4, rfl⟩ : ∃ y1 y2 y3 y4, ys = [y1, y2, y3, y4] := by
      match ys, hlen with
      | [y1, y2, y3, y4], _ => exact ⟨_, _, _, _, rfl⟩
    obtain ⟨a1, u1, rfl⟩ := hJ.2 y1 (by simp)
    obtain ⟨a2, u2, rfl⟩ := hJ.2 y2 (by simp)
    obtain ⟨a3, u3, rfl⟩ := hJ.2 y3 (by simp)
    obtain ⟨a4, u4, rfl⟩ := hJ.2 y4 (by simp)
    have kp : Keeps0 h₁ h₄ := fun b o y => hs₄.extBut b o (low_ne (Nat.lt_of_lt_of_le (Heap.lt_size (hk₂ b o y)) he₁) (Nat.le_succ_of_le (Nat.le_of_lt he₂))) (hJ.1 b o (Heap.lt_size (hk₂ b o y)) (hk13 b o y))
    have hp₄ : h₄.PlainList h₃.objs.size #[.int a1 u1, .int a2 u2, .int a3 u3, .int a4 u4] := hp.at fun o y => hs₄.extBut _ o (Nat.ne_of_lt (Nat.lt_succ_self _)) y
    refine assign_list hh hp₄.isList rfl rfl fun h₅ hk₅ => ?_
    replace hk₅ : Keeps0 h₄ h₅ := hk₅
    have F₅ : Fr s.heap s.heap.objs.size h₅ _ := ⟨F.ns.at fun o y => hk₅ _ o (kp _ o y), fun b o y => hk₅ b o (kp b o (F.keep b o y)), F.above⟩
    refine aio_cons (wpAny_assign_Name (wpAny_storeName_local rfl F₅.ns (fun h₆ hn₆ hs₆ => ?_) rfl))
    have F₆ := F₅.set hn₆ hs₆
    refine aio_cons (wpAny_assign_Name (wpAny_storeName_local rfl F₆.ns (fun h₇ hn₇ hs₇ => ?_) rfl))
    have F₇ := F₆.set hn₇ hs₇
    refine aio_cons (wpAny_assign_Name (wpAny_storeName_local rfl F₇.ns (fun h₈ hn₈ hs₈ => ?_) rfl))
    have F₈ := F₇.set hn₈ hs₈
    refine aio_cons (wpAny_assign_Name (wpAny_storeName_local rfl F₈.ns (fun h₉ hn₉ hs₉ => ?_) rfl))
    have F₉ := F₈.set hn₉ hs₉
    refine aio_nil ?_
    refine wpAny_execs_cons (wpAny_Assign_Name (List_ ?_))
    refine spliced_more (Calls.Constant_str (spliced_more (Calls.Constant_str ?_)))
    refine spliced_more (Calls.Constant_str (spliced_none ?_))
    refine newList_any (Nat.le_of_ble_eq_true rfl) fun h₁₀ r hk₁₀ hnr hpr => ?_
    replace hk₁₀ : Keeps0 h₉ h₁₀ := hk₁₀
    replace hnr : h₉.get? r = none := hnr
    have F₁₀ : Fr s.heap s.heap.objs.size h₁₀ _ := ⟨F₉.ns.at fun o y => hk₁₀ _ o y, fun b o y => hk₁₀ b o (F₉.keep b o y), F₉.above⟩
    refine wpAny_storeName_local rfl F₁₀.ns (fun h₁₁ hn₁₁ hs₁₁ => ?_) rfl
    replace hs₁₁ : Heap.SameBut s.heap.objs.size h₁₀ h₁₁ := hs₁₁
    have F₁₁ := F₁₀.set hn₁₁ hs₁₁
    have rL : r ≠ s.heap.objs.size := fun e => by rw [e] at hnr; obtain ⟨o, _, _, ho, _⟩ := F₉.ns; rw [ho] at hnr; cases hnr
    have hrn : s.heap.get? r = none := by
      cases q : s.heap.get? r with
      | none => rfl
      | some o => have := F₉.keep _ _ q; rw [hnr] at this; cases this
    have hp₁₁ := hpr.at fun o y => hs₁₁.extBut _ o rL y
    exact ring_tail (s := { s with heap := h₁₁, toks := _, gens := _ }) F₁₁ rfl rfl rfl rfl rfl hp₁₁ rfl (.cons _ _ (.cons _ _ (.cons _ _ .nil))) hrn rL
      fun h' tk vals a b c d hkk ha hb' hc hd hp hs => hR h' tk _ r vals a b c d hkk (by assumption) hrn ha hb' hc hd hp hs
end
end Mine
end

section
open PySem PySem.W PySem.Calls PyProof.Rows
set_option maxRecDepth 100000
set_option maxHeartbeats 4000000
namespace Mine
namespace FK
theorem typeCall_dict_0 : checkTypeCall "dict" ⟨[], []⟩ = pure () := by kernel_rfl
theorem newCall_dict_0 : checkBuiltinCall "dict.__new__" ⟨[.type "dict"], []⟩ = pure () := by kernel_rfl
theorem args_init_1 (a : Value) : argsOk "dict.__init__" ⟨[a], []⟩ := by unfold argsOk; kernel_rfl
def bound : Obj := { cls := .type "builtin_function_or_method", data := .fields #[.builtin "dict.fromkeys", .type "dict"] }
theorem type_fk : typeOf (.builtin "dict.fromkeys") = pure (.type "classmethod_descriptor") := by show builtinType _ = _; rw [builtinType_eq_fast]; kernel_rfl
theorem entry_fk : entryFor table "dict.fromkeys" = some Builtin.«dict.fromkeys» := entryFor_of_tree (by kernel_rfl)
theorem quiet_fk {as : Args} : (Code.builtin "dict.fromkeys" as).quiet = true := Code.quiet_builtin _ (by decide +kernel)
theorem entry_fkl : entryFor table "dict.fromkeys.loop" = some Builtin.«dict.fromkeys.loop» := entryFor_of_tree (by kernel_rfl)
theorem plain_fkl : plainId "dict.fromkeys.loop" = true := by decide +kernel
theorem plain_fk : plainId "dict.fromkeys" = true := by decide +kernel
theorem type_dict : isType (.type "dict") = pure true := by first | rfl | kernel_rfl
theorem owner_fk : (kfb_private% "ownerAndName") "dict.fromkeys" = ("dict", "fromkeys") := by first | decide +kernel | kernel_rfl
theorem check_fk (a : Value) : checkBoundCall "dict.fromkeys" ⟨[.type "dict", a], []⟩ = pure () := by first | kernel_rfl | rfl
theorem find_fk : findCls [] (.type "dict") (.type "type") (PySem.Str.ofString "fromkeys") = some (.get (.builtin "classmethod_descriptor.__get__") (.builtin "dict.fromkeys") .none (.type "dict")) := by kernel_rfl
section
variable {w : World} {A : Around} {E : Value → Shared → Prop} {s : Shared}
theorem run_get {P : Fin → Shared → Prop} (h : P (.done (.ret (.ref s.heap.objs.size))) { s with heap := s.heap.push bound }) :
    wpAny (model P0 w) A (Builtin.«classmethod_descriptor.__get__» ⟨[.builtin "dict.fromkeys", .none, .type "dict"], []⟩) P E s := by
  unfold Builtin.«classmethod_descriptor.__get__»
  refine wpAny_bind (wpAny_of_eq (a := (.builtin "dict.fromkeys", none, some (.type "dict"))) (by first | rfl | kernel_rfl) ?_)
  simp only [owner_fk]
  refine wpAny_bind (wpAny_of_eq (a := .type "dict") rfl ?_)
  refine wpAny_bind (wpAny_of_eq (a := true) type_dict ?_)
  refine KFB.if_not rfl ?_
  refine wpAny_bind (wpAny_of_eq (a := true) PySem.F.kt_sub_dict ?_)
  refine KFB.if_not rfl ?_
  exact wpAny_bind (wpAny_newObj_type (wpAny_pure h))
theorem getm {pl : Sem Bool} {Q : Value × List Value → Shared → Prop}
    (h : Q (.ref s.heap.objs.size, []) { s with heap := s.heap.push bound, toks := s.toks + 1 }) :
    wpAny (model P0 w) A (getMethod (.type "dict") (PySem.Str.ofString "fromkeys") pl) Q E s := by
  have X : Frag.In [] s.heap := fun a o e => nomatch e
  have hstub : opaqueClassAbove (.type "dict") = pure none := by unfold opaqueClassAbove; dsimp only; rw [show Manifest.isStub "dict" = false by decide +kernel]; rfl
  have ht : typeOf (.type "dict") = pure (.type "type") := by first | rfl | kernel_rfl
  have L0 : Looks (model P0 w) s.heap (typeOf (.type "dict")) (.type "type") := Looks.of_pure ht
  have hg := type_tga
  unfold getMethod specialOf
  refine wpAny_bind (wpAny_bind (L0.here ((looks_findIn X hg).here ?_)))
  dsimp only
  rw [if_pos canon_tga]
  refine wpAny_bind (wpAny_mono (Q := fun v => Q (v, [])) (E := E) ?_ (fun _ _ z => wpAny_pure z) fun _ _ z => z)
  have LO : Looks (model P0 w) s.heap (opaqueClassAbove (.type "dict")) none := Looks.of_pure hstub
  refine cls_open X LO L0 hg (looks_hook X (r := none) (by rfl)) (by show subIn [] _ _ = _; rfl) find_fk ?_
  show wpAny _ _ (holding [.builtin "dict.fromkeys"] (call (.builtin "classmethod_descriptor.__get__") [.builtin "dict.fromkeys", .none, .type "dict"]) >>= fun v => ret v) _ _ _
  refine wpAny_bind (wpAny_holding (wpAny_call_entry KFB.slot_get type_fk KFB.entry_get (run_get ⟨_, rfl, wpAny_pure (wpAny_pure h)⟩) (KFB.args_get _ _ _)))
theorem callWith_bound {pos : Pos} {u : Addr} {env : Env} {e : Expr} {Q : Value → Shared → Prop}
    (h : wpAny (model P0 w) A (spliced (backTo pos (starEach [e] env))) (fun vs s₁ => s₁.heap.get? u = some bound ∧ wpAny (model P0 w) A (call (.ref u) vs) Q E s₁) E s)
    (he : starEach [e] env = [(false, eval e env)] := by rfl) :
    wpAny (model P0 w) A (callWith pos (.ref u) [] (backTo pos (starEach [e] env)) []) Q E s := by
  rw [he] at h ⊢
  unfold callWith
  refine wpAny_bind (wpAny_holding (evalArgs_plain (wpAny_mono h (fun x s₁ h₁ => wpAny_bind (wpAny_standAt ?_)) fun _ _ x => x)))
  obtain ⟨ho, hcall⟩ := h₁
  show wpAny _ _ (keeperOf (.ref u) >>= _) _ _ _
  refine wpAny_bind (m := keeperOf (.ref u)) ?_
  unfold keeperOf
  refine wpAny_bind (wpAny_load ho ?_)
  simp only [bound, show (Value.type "builtin_function_or_method" != Value.type "method") = true by decide, show (Value.type "builtin_function_or_method" == Value.type "builtin_function_or_method" || Value.type "builtin_function_or_method" == Value.type "method-wrapper") = true by decide, if_true]
  refine wpAny_pure ?_
  exact wpAny_bind (wpAny_mono hcall (fun r s₂ hr => wpAny_bind (wpAny_holding (wpAny_point (wpAny_pure hr)))) fun _ _ x => x)
theorem newDict0 {Q : Value → Shared → Prop} (h : Q (.ref s.heap.objs.size) { s with heap := s.heap.push { cls := .type "dict", data := .dict #[] } }) :
    wpAny (model P0 w) A (call (.type "dict") []) Q E s := by
  refine callType_codes (Q₁ := fun obj s₁ => obj = .ref s.heap.objs.size ∧ s₁ = { s with heap := s.heap.push { cls := .type "dict", data := .dict #[] } }) PySem.F.kt_called_dict typeCall_dict_0 PySem.F.entry_dict_init ?_ ?_
  · refine codeAny_call_builtin PySem.F.kt_plain_dict_new PySem.F.kt_entry_dict_new (wpAny_of_eq newCall_dict_0 ?_)
    have hsub := PySem.F.kt_sub_dict
    have hmro := PySem.F.kt_mro_dict
    obtain ⟨hp, g, d, tk, os⟩ := s
    unfold Builtin.«dict.__new__»
    wp_walk
    exact ⟨rfl, rfl⟩
  rintro obj s₁ ⟨rfl, rfl⟩
  have hnew : (s.heap.push { cls := .type "dict", data := .dict #[] }).DictOf (strKind P0 w) s.heap.objs.size [] := Heap.DictOf.new s.heap
  refine ⟨hnew.typeIs, args_init_1 _, ?_⟩
  unfold Builtin.«dict.__init__»
  refine wpAny_bind ?_
  unfold Builtin.Dict.selfAndRest
  refine wpAny_bind (wpAny_notOrdered_dict hnew.typeIs ?_)
  refine wpAny_pure ?_
  show wpAny _ _ (Builtin.Dict.addKeywords s.heap.objs.size [] >>= _) _ _ _
  exact wpAny_bind (wpAny_pure (wpAny_pure ⟨rfl, h⟩))
end
end FK
end Mine
end

section
open PySem PySem.W PySem.Calls PyProof.Rows
set_option maxRecDepth 100000
set_option maxHeartbeats 4000000
namespace Mine
namespace FK
def kvsOf (l : List Str) : List (Str × Value) := l.map fun y => (y, Value.none)
theorem stored_kvs (acc : List Str) (y : Str) : stored (kvsOf acc) y .none = kvsOf (if (!(acc.any (· == y))) = true then acc ++ [y] else acc) := by
  have e : (kvsOf acc).any (fun kv => decide (kv.1 = y)) = acc.any (· == y) := by
    unfold kvsOf
    rw [List.any_map]
    congr 1
  unfold stored
  rw [e]
  cases q : acc.any (· == y) with
  | true =>
    rw [if_pos rfl, if_neg (by decide)]
    unfold kvsOf
    rw [List.map_map]
    apply List.map_congr_left
    intro z _
    show (if z = y then (z, Value.none) else (z, Value.none)) = _
    split <;> rfl
  | false =>
    rw [if_neg (by decide), if_pos (by decide)]
    unfold kvsOf; simp
section
variable {w : World} {A : Around} {E : Value → Shared → Prop}
theorem loop {R : Result → Shared → Prop} {l I d : Addr} {vals : Array Value} (hh : A.handled = none) (hsz : vals.size ≤ 1000) (hlI : l ≠ I) (hdI : d ≠ I) (hld : l ≠ d) :
    ∀ (us : List Value) (zs : List Str) (pv : List Value) (acc : List Str) (s : Shared), vals.toList = pv ++ us → StrsAre us zs → acc.length ≤ pv.length → s.heap.IsListIter I l pv.length → s.heap.IsList l vals → s.heap.DictOf (strKind P0 w) d (kvsOf acc) →
      (∀ h' tk, (∀ b o, b ≠ I → b ≠ d → s.heap.get? b = some o → h'.get? b = some o) → h'.DictOf (strKind P0 w) d (kvsOf (ddF acc zs)) → R (.ok (.ret (.ref d))) { s with heap := h', toks := tk }) →
      codeAny (model P0 w) A (.builtin "dict.fromkeys.loop" ⟨[.ref d, .ref I, .none], []⟩) R s := by
  have W := Walks.list (prog := P0) (w := w) (A := A.in1) hh I l hlI vals
  intro us
  induction us with
  | nil =>
    intro zs pv acc s h1 h2 h3 hit hl hd hR
    cases h2
    have hsize : pv.length = vals.size := by rw [← Array.length_toList, h1]; simp
    refine codeAny_builtin entry_fkl ?_
    rw [Around.under_plainId plain_fkl _]
    unfold Builtin.«dict.fromkeys.loop»
    show wpAny _ A.in1 (pyNext (.ref I) >>= _) _ _ s
    refine wpAny_bind (W.done _ _ _ ⟨hsize ▸ hit, hl⟩ fun h' tk hk => ?_)
    show wpAny _ A.in1 (ret (.ref d)) _ _ _
    refine wpAny_pure ?_
    have hk' : ∀ b o, b ≠ I → s.heap.get? b = some o → h'.get? b = some o := fun b o hb y => hk b o (by simpa using hb) y
    exact hR h' tk (fun b o hb _ y => hk' b o hb y) (by obtain ⟨o, es, ep, ho, r⟩ := hd; exact ⟨o, es, ep, hk' d o hdI ho, r⟩)
  | cons u us ih =>
    intro zs pv acc s h1 h2 h3 hit hl hd hR
    cases h2 with
    | cons z tz h2' =>
      rename_i zs'
      have hlt : pv.length < vals.size := by rw [← Array.length_toList, h1]; simp
      have e1 : vals[pv.length]? = some (.str z tz) := by rw [← Array.getElem?_toList, h1]; simp
      refine codeAny_builtin entry_fkl ?_
      rw [Around.under_plainId plain_fkl _]
      unfold Builtin.«dict.fromkeys.loop»
      show wpAny _ A.in1 (pyNext (.ref I) >>= _) _ _ s
      refine wpAny_bind (W.item _ _ _ _ hlt ⟨hit, hl⟩ fun v h' tk hP hst hk => ?_)
      rw [e1] at hP
      cases hP
      have hk' : ∀ b o, b ≠ I → s.heap.get? b = some o → h'.get? b = some o := fun b o hb y => hk b o (by simpa using hb) y
      have hd' : h'.DictOf (strKind P0 w) d (kvsOf acc) := by obtain ⟨o, es, ep, ho, r⟩ := hd; exact ⟨o, es, ep, hk' d o hdI ho, r⟩
      refine wpAny_bind (wpAny_typeOf hd'.typeIs ?_)
      rw [if_pos (by decide)]
      refine wpAny_bind (m := Builtin.Dict.addrOf (.ref d)) (wpAny_pure ?_)
      refine wpAny_bind (wpAny_holding ?_)
      refine wpAny_dictSet_pairs (knd := strKind P0 w) (k := z) (v := .none) (show Value.isStrOf z (.str z tz) = true from by simp [Value.isStrOf]) hd' (fun h'' hd'' hs'' => ?_) (by unfold kvsOf; rw [List.length_map, sizeLine_eq]; omega)
      replace hs'' : Heap.SameBut d h' h'' := hs''
      rw [stored_kvs] at hd''
      refine wpAny_pure ⟨plainId_quiet plain_fkl _, ?_⟩
      have := ih zs' (pv ++ [.str z tz]) _ { s with heap := h'', toks := tk + 1 } (by rw [h1]; simp) h2' (by rw [List.length_append]; split <;> simp <;> omega) (by rw [List.length_append]; exact hst.1.at fun o y => hs''.extBut _ o (Ne.symm hdI) y) (hst.2.at fun o y => hs''.extBut _ o hld y) hd'' (fun h₃ tk₃ hk₃ hd₃ => hR h₃ tk₃ (fun b o b1 b2 y => hk₃ b o b1 b2 (hs''.extBut b o b2 (hk' b o b1 y))) hd₃)
      exact this
end
section
variable {w : World} {A : Around} {E : Value → Shared → Prop} {s : Shared}
theorem call_fk {Q : Value → Shared → Prop} {u l : Addr} {vals : Array Value} {xs : List Str} (hh : A.handled = none) (hu : s.heap.get? u = some bound) (hl : s.heap.IsList l vals) (hs : StrsAre vals.toList xs) (hsz : vals.size ≤ 1000)
    (h : ∀ h' tk d, Keeps0 s.heap h' → s.heap.objs.size ≤ d → h'.DictOf (strKind P0 w) d (kvsOf (ddF [] xs)) → Q (.ref d) { s with heap := h', toks := tk }) :
    wpAny (model P0 w) A (call (.ref u) [.ref l]) Q E s := by
  refine wpAny_call (codeAny_of_tree ?_)
  show wpAny _ A.in1 (callAny (.ref u) ⟨[.ref l], []⟩) _ _ s
  simp only [callAny]
  refine wpAny_bind (wpAny_load hu ?_)
  simp only [bound, show (Value.type "builtin_function_or_method" == Value.type "method" || Value.type "builtin_function_or_method" == Value.type "builtin_function_or_method" || Value.type "builtin_function_or_method" == Value.type "method-wrapper") = true by decide, if_true]
  refine KFB.if_so (by decide) ?_
  refine wpAny_bind (wpAny_of_eq (a := ()) (check_fk _) ?_)
  refine wpAny_bind (wpAny_pure (wpAny_pure ?_))
  refine ⟨quiet_fk, codeAny_builtin entry_fk ?_⟩
  rw [Around.under_plainId plain_fk _]
  unfold Builtin.«dict.fromkeys»
  refine wpAny_bind (wpAny_of_eq (a := true) type_dict ?_)
  refine KFB.if_not rfl ?_
  refine wpAny_bind (wpAny_of_eq (a := true) PySem.F.kt_sub_dict ?_)
  refine KFB.if_not rfl ?_
  refine KFB.if_not rfl ?_
  refine wpAny_bind (wpAny_rule ?_)
  refine wpAny_bind (wpAny_pure ?_)
  show wpAny _ A.in1 (call (.type "dict") [] >>= _) _ _ s
  refine wpAny_bind (newDict0 ?_)
  refine wpAny_holding ?_
  have hl' : (s.heap.push { cls := .type "dict", data := .dict #[] }).IsList l vals := hl.at fun o y => Heap.get?_push_of_some _ y
  have hd' : (s.heap.push { cls := .type "dict", data := .dict #[] }).DictOf (strKind P0 w) s.heap.objs.size [] := Heap.DictOf.new s.heap
  refine wpAny_bind (wpAny_typeOf hl'.typeIs ?_)
  refine wpAny_bind (wpAny_typeOf hd'.typeIs ?_)
  refine KFB.if_not (by decide) ?_
  refine wpAny_bind (wpAny_typeOf hd'.typeIs ?_)
  refine KFB.if_not (by decide) ?_
  refine wpAny_bind (wpAny_pyIter_list hl' ?_)
  refine wpAny_pure ⟨plainId_quiet plain_fkl _, ?_⟩
  have hllt : l < s.heap.objs.size := by obtain ⟨_, y, _⟩ := hl; exact Heap.lt_size y
  have hI : (s.heap.push { cls := .type "dict", data := .dict #[] }).objs.size = s.heap.objs.size + 1 := Heap.size_push _ _
  have c1 : l ≠ (s.heap.push { cls := .type "dict", data := .dict #[] }).objs.size := by rw [hI]; exact Nat.ne_of_lt (Nat.lt_succ_of_lt hllt)
  have c2 : s.heap.objs.size ≠ (s.heap.push { cls := .type "dict", data := .dict #[] }).objs.size := by rw [hI]; exact Nat.ne_of_lt (Nat.lt_succ_self _)
  refine loop hh hsz c1 c2 (Nat.ne_of_lt hllt) vals.toList xs [] [] _ rfl hs (Nat.le_refl _) ⟨_, Heap.get?_push_size _ rfl, rfl, rfl⟩ (hl'.at fun o y => Heap.get?_push_of_some _ y) (hd'.push _) fun h' tk hk hd => ?_
  refine h h' tk _ (fun b o y => hk b o ?_ ?_ (Heap.get?_push_of_some _ (Heap.get?_push_of_some _ y))) (Nat.le_refl _) hd
  · rw [hI]; exact Nat.ne_of_lt (Nat.lt_succ_of_lt (Heap.lt_size y))
  · exact Nat.ne_of_lt (Heap.lt_size y)
end
end FK
end Mine
end

section
open PySem PySem.W PySem.Calls PyProof.Rows
set_option maxRecDepth 100000
set_option maxHeartbeats 4000000
namespace Mine
def ddFd (pm code doc kd : Value) : FuncData := { Calls.docDef (nameOf (stAt 6)) (paramsOf (stAt 6)) (bodyOf (stAt 6)) (scopeOf (stAt 6)) pm code doc with kwdefaults := kd }
def DdAt (h : Heap) : Prop := ∃ o pm code doc kd md, h.get? 50 = some o ∧ o.data = .func (ddFd pm code doc (.ref kd)) ∧ h.CodeRec code (nameOf (stAt 6)) ∧ h.Ns kd md ∧ md (Str.ofString "unhashable_fallback") = some (.bool false)
theorem DdAt.keeps {h h' : Heap} (x : DdAt h) (hk : ∀ b o, h.get? b = some o → h'.get? b = some o) : DdAt h' :=
  let ⟨o, pm, code, doc, kd, md, h1, h2, h3, h4, h5⟩ := x; ⟨o, pm, code, doc, kd, md, hk _ _ h1, h2, h3.keeps hk, h4.keeps hk, h5⟩
section
variable {w : World} {A : Around} {mg mb : Str → Option Value} {s : Shared}
theorem dedup_binds {pm code doc : Value} {kd l : Addr} {md : Str → Option Value} (hm : s.heap.Ns kd md) (hv : md (Str.ofString "unhashable_fallback") = some (.bool false)) :
    BindsTo s (ddFd pm code doc (.ref kd)) ⟨[.ref l], []⟩ [(Str.ofString "params", .ref l), (Str.ofString "unhashable_fallback", .bool false)] := by
  intro M A E Q hq
  show wpAny M A (((nsGet kd (Str.ofString "unhashable_fallback") >>= _) >>= _) >>= _) Q E s
  refine wpAny_bind (wpAny_bind (wpAny_bind (wpAny_nsGet hm ?_)))
  rw [hv]
  refine wpAny_pure (wpAny_pure (wpAny_pure ?_))
  exact hq
theorem dedup_spec {R : Result → Shared → Prop} {l : Nat} {vs : Array Value} {xs : List Str} (hN : Nm mg mb) (hh : A.handled = none) (hd : A.depth + 2 < recursionLimit) (T : Tp mg mb s.heap) (D : DdAt s.heap)
    (hl : s.heap.IsList l vs) (hx : StrsAre vs.toList xs) (hn : vs.size ≤ 1000)
    (hR : ∀ h' tk d, Keeps0 s.heap h' → s.heap.objs.size ≤ d → h'.DictOf (strKind P0 w) d (FK.kvsOf (ddF [] xs)) → R (.ok (.ret (.ref d))) { s with heap := h', toks := tk }) :
    codeAny (model P0 w) A (.call (.ref 50) ⟨[.ref l], []⟩) R s := by
  obtain ⟨o, pm, code, doc, kd, md, ho, hdat, hc, hm, hv⟩ := D
  refine codeAny_call_def (by omega) ho hdat T.nolimit hc rfl (dedup_binds hm hv) (show ∀ x ∈ (scopeOf (stAt 6)).names, x.2 ≠ .cell by decide +kernel) (by
    intro x hx
    simp only [List.mem_cons, List.not_mem_nil, or_false] at hx
    rcases hx with rfl | rfl
    · show List.lookup (Str.ofString "params") (scopeOf (stAt 6)).names = some .local
      decide +kernel
    · show List.lookup (Str.ofString "unhashable_fallback") (scopeOf (stAt 6)).names = some .local
      decide +kernel) (fun h₁ hn₁ hk₁ => ?_) rfl rfl rfl
  have T₁ := T.keeps hk₁
  refine wpAny_mono (Q := fun f s' => ∃ d h' tk, f = .ret (.ref d) ∧ s' = { s with heap := h', toks := tk } ∧ Keeps0 s.heap h' ∧ s.heap.objs.size ≤ d ∧ h'.DictOf (strKind P0 w) d (FK.kvsOf (ddF [] xs))) (E := fun _ _ => False) ?_ ?_ ?_
  · refine wpAny_execs_cons (wpAny_Try_except ?_)
    refine wpAny_execs_cons (wpAny_Return_some ?_)
    refine methodCall_KW (ldB T₁.g hN.dict.1 T₁.b hN.dict.2 (FK.getm ?_) rfl rfl)
    have hl₁ : h₁.IsList l vs := hl.at fun o y => hk₁ _ o y
    have kb : ∀ b o, h₁.get? b = some o → (h₁.push FK.bound).get? b = some o := fun b o y => Heap.get?_push_of_some _ y
    refine FK.callWith_bound (spliced_more (ldE (hn₁.at fun o y => kb _ o y) rfl (spliced_none ⟨Heap.get?_push_size _ rfl, ?_⟩) rfl rfl))
    refine FK.call_fk hh (Heap.get?_push_size _ rfl) (hl₁.at fun o y => kb _ o y) hx hn fun h' tk d hk hdn hdd => ?_
    have kk : Keeps0 s.heap h' := fun b o y => hk b o (kb b o (hk₁ b o y))
    refine ⟨d, h', tk, rfl, rfl, kk, ?_, hdd⟩
    replace hdn : (h₁.push FK.bound).objs.size ≤ d := hdn
    rw [Heap.size_push] at hdn
    exact Nat.le_trans (Nat.le_of_lt hn₁.lt) (Nat.le_trans (Nat.le_succ _) hdn)
  · rintro f s' ⟨d, h', tk, rfl, rfl, h1, h2, h3⟩
    exact hR h' tk d h1 h2 h3
  · intro _ _ q; exact q.elim
end
end Mine
end

section
open PySem PySem.W PySem.Calls PyProof.Rows
set_option maxRecDepth 100000
set_option maxHeartbeats 4000000
namespace Mine
def joinS (l : List Str) : Str := Txt.join (Str.ofString "") l
def cutK (xs : List Str) (k : Nat) : List Str := xs.drop k ++ xs.take k
def cutsOf (xs : List Str) : List (List Str) := [0, 1, 2, 3, 4, 5].map (cutK xs)
def toldsOf (xs : List Str) : List Str := ((cutsOf xs).map fun c => joinS (c.drop 1)).map keepS
def expectAt (p : Int) (k : Nat) (c : List Str) : Str := if (k : Int) = p then joinS (c.drop 1) else badS
def expectsOf (xs : List Str) : List Str := ((cutsOf xs).zipIdx).map fun ck => expectAt (placeF xs) ck.2 ck.1
def keptOf (xs : List Str) : Str := ((toldsOf xs)[(placeF xs).toNat]?).getD badS
def wholesOf (xs : List Str) : List Str := (cutsOf xs).map joinS
def good12 (xs : List Str) : Bool := decide (0 ≤ placeF xs) && decide (placeF xs < 6) && (toldsOf xs == expectsOf xs) && (ddF [] (toldsOf xs) == [((toldsOf xs)[0]?).getD badS, ((toldsOf xs)[(max (placeF xs) 1).toNat]?).getD badS])
def good3 (xs ys : List Str) : Bool := cmpF (wholesOf xs) (wholesOf ys) == (keptOf xs == keptOf ys)
def varsOf : List Str → List (List Str)
  | [v0, v1, v2, v3, v4, v5] => [[v0, v1, v2, v3, v4, v5], [v1, v2, v3, v4, v5, v0], [v1, v0, v2, v3, v4, v5], [v0, v1, v3, v2, v4, v5]]
  | _ => []
def goodAll (l : List (List Str)) : Bool := l.all good12 && l.all fun x => l.all fun y => good3 x y
theorem t1 : good12 (mkRing 1 2 0 3) = true := by decide +kernel
theorem t2 : goodAll (varsOf (mkRing 1 2 0 3)) = true := by decide +kernel
end Mine
end

section
open PySem PySem.W PyProof.Rows
set_option maxRecDepth 100000
set_option maxHeartbeats 4000000
namespace Mine
/-- the name x reads v in every state over the heap h -/
def Ldh (w : World) (A : Around) (env : Env) (h : Heap) (x : Str) (v : Value) : Prop :=
  ∀ (p : Pos) (s : Shared) (Q : Value → Shared → Prop) (E : Value → Shared → Prop), s.heap = h → Q v s → wpAny (model P0 w) A (eval (.Name x p) env) Q E s
section
variable {w : World} {A : Around} {s : Shared} {E : Value → Shared → Prop} {env : Env}
theorem Ldh.local_ {h : Heap} {m : Str → Option Value} {x : Str} {v : Value} (hn : h.Ns env.locals m) (hv : m x = some v) (hk : env.scope.kind = .function := by rfl) (hl : env.kindOf x = some .local := by rfl) (hd : (x == ("__debug__" : Str)) = false := by decide) : Ldh w A env h x v :=
  fun p s Q E e hq => by subst e; exact ldE hn hv hq hk hl hd
theorem Ldh.cell_ {h : Heap} {x : Str} {v : Value} {c : Addr} (hc : env.cells.lookup x = some c) (hv : h.IsCell c (some v)) (hk : env.scope.kind = .function := by rfl) (hl : env.kindOf x = some .cell := by rfl) (hd : (x == ("__debug__" : Str)) = false := by decide) : Ldh w A env h x v :=
  fun p s Q E e hq => by subst e; exact ldC hc hv hq hk hl hd
theorem Ldh.go {h : Heap} {x : Str} {v : Value} {p : Pos} {Q : Value → Shared → Prop} (l : Ldh w A env h x v) (e : s.heap = h) (hq : Q v s) : wpAny (model P0 w) A (eval (.Name x p) env) Q E s := l p s Q E e hq
/-- reads that live on over later heaps -/
def LdU (w : World) (A : Around) (env : Env) (h : Heap) (x : Str) (v : Value) : Prop := ∀ h', Keeps0 h h' → Ldh w A env h' x v
theorem LdU.local_ {h : Heap} {m : Str → Option Value} {x : Str} {v : Value} (hn : h.Ns env.locals m) (hv : m x = some v) (hk : env.scope.kind = .function := by rfl) (hl : env.kindOf x = some .local := by rfl) (hd : (x == ("__debug__" : Str)) = false := by decide) : LdU w A env h x v :=
  fun _ k => Ldh.local_ (hn.at fun o y => k _ o y) hv hk hl hd
theorem LdU.cell_ {h : Heap} {x : Str} {v : Value} {c : Addr} (hc : env.cells.lookup x = some c) (hv : h.IsCell c (some v)) (hk : env.scope.kind = .function := by rfl) (hl : env.kindOf x = some .cell := by rfl) (hd : (x == ("__debug__" : Str)) = false := by decide) : LdU w A env h x v :=
  fun _ k => Ldh.cell_ hc (by obtain ⟨o, ho, hd⟩ := hv; exact ⟨o, k _ _ ho, hd⟩) hk hl hd
theorem LdU.keeps {h h' : Heap} {x : Str} {v : Value} (l : LdU w A env h x v) (k : Keeps0 h h') : LdU w A env h' x v := fun h'' k' => l h'' fun b o y => k' b o (k b o y)
theorem LdU.now {h : Heap} {x : Str} {v : Value} (l : LdU w A env h x v) : Ldh w A env h x v := l h fun _ _ y => y

theorem part_name {h : Heap} {x : Str} {p : Pos} {i : Int} {t : Tok} (l : Ldh w A env h x (.int i t)) (eh : s.heap = h) (s₁ : Shared) (Q' : Value → Shared → Prop) (e1 : s₁.heap = s.heap) (e2 : s₁.gens = s.gens) (e3 : s₁.drawn = s.drawn) (e4 : s₁.os = s.os) (hq : ∀ v tk, IsPart v (some i) → Q' v { s with toks := tk }) : wpAny (model P0 w) A (evalPart (some (.Name x p)) env) Q' E s₁ := by
  rw [evalPart_some]
  obtain ⟨a, b, c, d, e⟩ := s₁
  subst e1 e2 e3 e4
  exact l.go eh (hq _ d (.int i _))

/-- a cut of a named list, in any env -/
theorem sliceE {x : Str} {p0 p pos : Pos} {lower upper : Option Expr} {l : Addr} {items : Array Value} {lo hi : Option Int} {Q : Value → Shared → Prop}
    (hx : Ldh w A env s.heap x (.ref l)) (hl : s.heap.IsList l items) (hsz : items.size ≤ sizeLine)
    (hlow : ∀ (s₁ : Shared) (Q' : Value → Shared → Prop), s₁.heap = s.heap → s₁.gens = s.gens → s₁.drawn = s.drawn → s₁.os = s.os → (∀ v tk, IsPart v lo → Q' v { s with toks := tk }) → wpAny (model P0 w) A (evalPart lower env) Q' E s₁)
    (hupp : ∀ (s₁ : Shared) (Q' : Value → Shared → Prop), s₁.heap = s.heap → s₁.gens = s.gens → s₁.drawn = s.drawn → s₁.os = s.os → (∀ v tk, IsPart v hi → Q' v { s with toks := tk }) → wpAny (model P0 w) A (evalPart upper env) Q' E s₁)
    (h : ∀ h' tk r, Keeps0 s.heap h' → s.heap.objs.size ≤ r → s.heap.objs.size ≤ h'.objs.size → h'.PlainList r (slicePick items lo hi none) → Q (.ref r) { s with heap := h', toks := tk }) :
    wpAny (model P0 w) A (eval (.Subscript (.Name x p0) (.Slice lower upper none p) pos) env) Q E s := by
  refine wpAny_Subscript_list_slice (hx.go rfl ?_)
  refine hlow s _ rfl rfl rfl rfl fun vl tk1 pl => ?_
  refine hupp _ _ rfl rfl rfl rfl fun vu tk2 pu => ?_
  refine ⟨l, items, lo, hi, rfl, hl, hsz, pl, pu, ?_⟩
  refine h _ tk2 _ (fun b o y => Heap.get?_push_of_some _ (Heap.get?_push_of_some _ y)) (Nat.le_succ _) (by
    show s.heap.objs.size ≤ (Heap.push _ _).objs.size
    rw [Heap.size_push, Heap.size_push]; exact Nat.le_succ_of_le (Nat.le_succ _)) ⟨0, ?_⟩
  have := Heap.get?_push_size (s.heap.push { cls := .type "slice", data := .fields #[vl, vu, .none] }) (o := { cls := .type "list", data := .seq (slicePick items lo hi none) }) rfl
  rw [Heap.size_push] at this
  exact this

theorem pick_from {vals : Array Value} {ys : List Str} (hs : StrsAre vals.toList ys) (k : Nat) : StrsAre (slicePick vals (some (k : Int)) none none).toList (ys.drop k) := by
  rw [slicePick_from' vals k]
  have := strs_drop hs k
  simpa using this
theorem pick_upto {vals : Array Value} {ys : List Str} (hs : StrsAre vals.toList ys) (k : Nat) : StrsAre (slicePick vals none (some (k : Int)) none).toList (ys.take k) := by
  rw [slicePick_upto' vals k]
  have := strs_take hs k
  simpa using this
theorem size_of {vs : Array Value} {ys : List Str} (h : StrsAre vs.toList ys) : vs.size = ys.length := by
  have := strs_len h
  rw [Array.length_toList] at this; exact this
/-- ring[k:] + ring[:k] -/
theorem cut_elt {x y : Str} {p1 p2 p3 p4 p5 p6 p7 p8 p9 : Pos} {l : Addr} {vals : Array Value} {xs : List Str} {k : Nat} {t : Tok} {Q : Value → Shared → Prop}
    (hx : LdU w A env s.heap x (.ref l)) (hy : LdU w A env s.heap y (.int (k : Int) t)) (hl : s.heap.IsList l vals) (hs : StrsAre vals.toList xs) (hn : xs.length ≤ 1000)
    (h : ∀ h' tk r vs, Keeps0 s.heap h' → s.heap.objs.size ≤ r → h'.PlainList r vs → StrsAre vs.toList (cutK xs k) → Q (.ref r) { s with heap := h', toks := tk }) :
    wpAny (model P0 w) A (eval (.BinOp (.Subscript (.Name x p1) (.Slice (some (.Name y p2)) none none p3) p4) .Add (.Subscript (.Name x p5) (.Slice none (some (.Name y p6)) none p7) p8) p9) env) Q E s := by
  have hsz := size_of hs
  refine wpAny_BinOp ?_
  refine sliceE (lo := some (k : Int)) (hi := none) hx.now hl (by rw [sizeLine_eq]; omega) (part_name hy.now rfl) part_none fun h₁ tk₁ r₁ hk₁ hr₁ hz₁ hp₁ => ?_
  refine sliceE (s := { s with heap := h₁, toks := tk₁ }) (lo := none) (hi := some (k : Int)) (hx h₁ hk₁) (hl.at fun o y => hk₁ _ o y) (by rw [sizeLine_eq]; omega) part_none (part_name (hy h₁ hk₁) rfl) fun h₂ tk₂ r₂ hk₂ hr₂ hz₂ hp₂ => ?_
  replace hk₂ : Keeps0 h₁ h₂ := hk₂
  replace hz₂ : h₁.objs.size ≤ h₂.objs.size := hz₂
  have s1 := pick_from hs k
  have s2 := pick_upto hs k
  have z1 := size_of s1
  have z2 := size_of s2
  obtain ⟨n1, g1⟩ := hp₁.at fun o y => hk₂ _ o y
  obtain ⟨n2, g2⟩ := hp₂
  refine add_to g1 g2 rfl (by rw [z1, z2, List.length_drop, List.length_take, sizeLine_eq]; omega) ?_
  refine h _ _ _ _ (fun b o y => Heap.get?_push_of_some _ (hk₂ b o (hk₁ b o y))) (Nat.le_trans hz₁ hz₂) ⟨0, Heap.get?_push_size _ rfl⟩ ?_
  rw [Array.toList_append]
  exact strs_app s1 s2
theorem strs_sum {ys : List Str} {n : Nat} (h : ∀ y ∈ ys, y.cps.size ≤ n) : (ys.map (·.length)).sum ≤ ys.length * n := by
  induction ys with
  | nil => simp
  | cons y r ih =>
    have h1 := h y (.head _)
    have h2 := ih fun z hz => h z (.tail _ hz)
    simp only [List.map_cons, List.sum_cons, List.length_cons]
    have : y.length = y.cps.size := rfl
    rw [Nat.add_mul, Nat.one_mul]
    omega
/-- ''.join(name) -/
theorem join_name {x : Str} {p1 p2 p3 p4 : Pos} {kk : Nat} {l : Addr} {vals : Array Value} {xs : List Str} {Q : Value → Shared → Prop}
    (hx : LdU w A env s.heap x (.ref l)) (hl : s.heap.IsList l vals) (hs : StrsAre vals.toList xs) (hn : xs.length ≤ 1000) (hc : ∀ y ∈ xs, y.cps.size ≤ 20)
    (hline : (p2.endLine == p4.line) = true)
    (h : ∀ tk t, Q (.str (joinS xs) t) { s with toks := tk }) :
    wpAny (model P0 w) A (eval (.Call (.Attribute (.Constant (.str (Str.ofString "")) kk p1) (Str.ofString "join") p2) [.Name x p3] [] p4) env) Q E s := by
  refine @wpAny_Call_method P0 w A E s env (.Constant (.str (Str.ofString "")) kk p1) (Str.ofString "join") p2 p4 [.Name x p3] "str" "str.join" Q ?_ ?_ hline PySem.F.plainAttrs_str PySem.F.slot_str_join PySem.F.type_str_join ?_
  · exact rfl
  · exact rfl
  refine Calls.Constant_str ⟨typeIs_str _ _ _, ⟨(fun a e => nomatch e), ?_⟩⟩
  refine callWith_method1 (spliced_more ((hx.now).go rfl (spliced_none ?_)))
  refine join_list (s := { s with toks := _ }) hl hs ?_ fun t' k' => h _ _
  have := strs_sum hc
  show _ + _ * 0 ≤ _
  omega
/-- ''.join(name[1:]) -/
theorem join_cut {x : Str} {p1 p2 p3 p4 p5 p6 p7 : Pos} {kk k2 : Nat} {l : Addr} {vals : Array Value} {xs : List Str} {Q : Value → Shared → Prop}
    (hx : LdU w A env s.heap x (.ref l)) (hl : s.heap.IsList l vals) (hs : StrsAre vals.toList xs) (hn : xs.length ≤ 1000) (hc : ∀ y ∈ xs, y.cps.size ≤ 20)
    (hline : (p2.endLine == p4.line) = true)
    (h : ∀ h' tk t, Keeps0 s.heap h' → Q (.str (joinS (xs.drop 1)) t) { s with heap := h', toks := tk }) :
    wpAny (model P0 w) A (eval (.Call (.Attribute (.Constant (.str (Str.ofString "")) kk p1) (Str.ofString "join") p2) [.Subscript (.Name x p3) (.Slice (some (.Constant (.int 1) k2 p5)) none none p6) p7] [] p4) env) Q E s := by
  have hsz := size_of hs
  refine @wpAny_Call_method P0 w A E s env (.Constant (.str (Str.ofString "")) kk p1) (Str.ofString "join") p2 p4 [.Subscript (.Name x p3) (.Slice (some (.Constant (.int 1) k2 p5)) none none p6) p7] "str" "str.join" Q ?_ ?_ hline PySem.F.plainAttrs_str PySem.F.slot_str_join PySem.F.type_str_join ?_
  · exact rfl
  · exact rfl
  refine Calls.Constant_str ⟨typeIs_str _ _ _, ⟨(fun a e => nomatch e), ?_⟩⟩
  refine callWith_method1 (spliced_more (sliceE (s := { s with toks := _ }) (lo := some 1) (hi := none) hx.now hl (by rw [sizeLine_eq]; omega) part_int part_none fun h₁ tk₁ r₁ hk₁ hr₁ hz₁ hp₁ => spliced_none ?_))
  have s1 : StrsAre (slicePick vals (some 1) none none).toList (xs.drop 1) := pick_from hs 1
  refine join_list (s := { s with heap := h₁, toks := tk₁ }) hp₁.isList s1 ?_ fun t' k' => h _ _ _ hk₁
  have h1 := strs_sum (ys := xs.drop 1) (n := 20) fun y hy => hc y (List.mem_of_mem_drop hy)
  rw [List.length_drop] at h1
  show _ + _ * 0 ≤ _
  omega
end
end Mine
end

section
open PySem PySem.W PyProof.Rows
set_option maxRecDepth 100000
set_option maxHeartbeats 4000000
namespace Mine
section
variable {w : World} {A : Around} {s : Shared} {E : Value → Shared → Prop}
/-- what a comprehension of new things leaves behind: item j of the list stands in relation Y to j -/
theorem compY {RR : Value → Addr → Result → Shared → Prop} {elt iter : Expr} {x : Str} {px pos : Pos} {scope : Scope} {cl : List (Str × Addr)} {env : Env} {I : Addr} {fp wr : List Addr} {n : Nat} {P : Nat → Value → Prop} {St : Nat → Heap → Prop}
    (W : Walks P0 w A I fp wr n P St) (hcell : ∀ y ∈ scope.names, y.2 ≠ .cell) (hkind : scope.kind = .function) (hx : scope.names.lookup x = some .local) (hnz : n ≤ 1000)
    (hst : St 0 s.heap) (hfp : ∀ b ∈ fp, b < s.heap.objs.size) (hb : AllBare s.gens)
    (Y : Nat → Value → Heap → Prop) (hY : ∀ j y h h', Y j y h → (∀ b o, s.heap.objs.size + 1 < b → h.get? b = some o → h'.get? b = some o) → Y j y h')
    (helt : ∀ k v m h tk gens, k < n → P k v → (∀ b o, b ∉ wr → s.heap.get? b = some o → h.get? b = some o) → s.heap.objs.size + 1 < h.objs.size → h.Ns (s.heap.objs.size + 1) m → m x = some v → AllBare gens →
      wpAny (model P0 w) A (eval elt (compEnvC scope cl (s.heap.objs.size + 1) env)) (fun y s₂ => ∃ h' tk' gens', s₂ = { s with heap := h', toks := tk', gens := gens' } ∧ AllBare gens' ∧ Keeps0 h h' ∧ Y k y h') (fun _ _ => False) { s with heap := h, toks := tk, gens := gens })
    (hRR : ∀ (ys : List Value) m h tk gens, ys.length = n → (∀ (j : Nat) y, ys[j]? = some y → Y j y h) → (∀ b o, b ∉ wr → s.heap.get? b = some o → h.get? b = some o) → h.PlainList s.heap.objs.size ys.toArray → h.Ns (s.heap.objs.size + 1) m → AllBare gens → RR (.ref s.heap.objs.size) (s.heap.objs.size + 1) (.ok .next) { s with heap := h, toks := tk, gens := gens }) :
    wpAny (model P0 w) A (newList []) (fun acc s₃ => wpAny (model P0 w) A (newFunctionEnv scope env.globals cl [] env.qual none .none (some env)) (fun cenv s₄ =>
      codeAny (model P0 w) A (.compStart (.ListComp elt [⟨.Name x px, iter, [], 0⟩] scope pos) 0 (.ref I) acc { cenv with scope := relabel scope env }) (RR acc cenv.locals) s₄) E s₃) E s := by
  refine comp_tail W hcell hkind hx hnz hst hfp hb (fun k ys h => ys.length = k ∧ (∀ b o, b ∉ wr → s.heap.get? b = some o → h.get? b = some o) ∧ ∀ (j : Nat) y, ys[j]? = some y → Y j y h) ?_ ?_ ?_ ?_
  · rintro k ys h h' ⟨j1, j2, j3⟩ hk
    refine ⟨j1, fun b o hw y => hk b o ?_ ?_ hw (j2 b o hw y), fun j y hy => hY _ _ _ _ (j3 j y hy) fun b o hb q => hk b o ?_ ?_ (fun hw => ?_) q⟩
    · exact Nat.ne_of_lt (Nat.lt_succ_of_lt (Heap.lt_size y))
    · exact Nat.ne_of_lt (Heap.lt_size y)
    · exact Nat.ne_of_gt hb
    · exact Nat.ne_of_gt (Nat.lt_trans (Nat.lt_succ_self _) hb)
    · exact absurd (hfp b (W.sub b hw)) (Nat.not_lt.mpr (Nat.le_of_lt (Nat.lt_trans (Nat.lt_succ_self _) hb)))
  · intro h hk
    exact ⟨rfl, fun b o _ y => hk b o y, fun j y hy => by simp at hy⟩
  · rintro k v ys m h tk gens hk hP ⟨j1, j2, j3⟩ hn hm hS hb'
    refine wpAny_mono (helt k v m h tk gens hk hP j2 hn.lt hn hm hb') (fun y s₂ hq => ?_) fun _ _ q => q
    obtain ⟨h', tk', gens', e, hb'', hkk, hy⟩ := hq
    refine ⟨h', tk', gens', e, hb'', hkk, by rw [List.length_append, j1]; rfl, fun b o hw y => hkk b o (j2 b o hw y), fun j z hz => ?_⟩
    rcases Nat.lt_trichotomy j k with hj | hj | hj
    · rw [List.getElem?_append_left (by omega)] at hz
      exact hY _ _ _ _ (j3 j z hz) fun b o _ q => hkk b o q
    · subst hj
      rw [List.getElem?_append_right (by omega), j1, Nat.sub_self] at hz
      cases hz
      exact hy
    · rw [List.getElem?_eq_none (by rw [List.length_append, j1]; simp; omega)] at hz
      cases hz
  · rintro ys m h tk gens ⟨j1, j2, j3⟩ hlen hp hn hb'
    exact hRR ys m h tk gens hlen j3 j2 hp hn hb'
theorem compY2 {RR : Value → Addr → Result → Shared → Prop} {elt iter : Expr} {xa xb : Str} {pa pb pt pos : Pos} {tk0 : Nat} {scope : Scope} {cl : List (Str × Addr)} {env : Env} {I : Addr} {fp wr : List Addr} {n : Nat} {Pt : Nat → Array Value → Prop} {St : Nat → Heap → Prop} {Mid : Nat → Addr → Heap → Prop}
    (W : WalksT P0 w A I fp wr n Pt St Mid) (hh : A.handled = none) (hcell : ∀ y ∈ scope.names, y.2 ≠ .cell) (hkind : scope.kind = .function) (hxa : scope.names.lookup xa = some .local) (hxb : scope.names.lookup xb = some .local) (hPt : ∀ k vals, Pt k vals → ∃ v1 v2, vals = #[v1, v2]) (hnz : n ≤ 1000)
    (hst : St 0 s.heap) (hfp : ∀ b ∈ fp, b < s.heap.objs.size) (hb : AllBare s.gens)
    (Y : Nat → Value → Heap → Prop) (hY : ∀ j y h h', Y j y h → (∀ b o, s.heap.objs.size + 1 < b → h.get? b = some o → h'.get? b = some o) → Y j y h')
    (helt : ∀ k v1 v2 (m : Str → Option Value) h tk gens, k < n → Pt k #[v1, v2] → (∀ b o, b ∉ wr → s.heap.get? b = some o → h.get? b = some o) → s.heap.objs.size + 1 < h.objs.size → h.Ns (s.heap.objs.size + 1) (fun z => if z = xb then some v2 else if z = xa then some v1 else m z) → AllBare gens →
      wpAny (model P0 w) A (eval elt (compEnvC scope cl (s.heap.objs.size + 1) env)) (fun y s₂ => ∃ h' tk' gens', s₂ = { s with heap := h', toks := tk', gens := gens' } ∧ AllBare gens' ∧ Keeps0 h h' ∧ Y k y h') (fun _ _ => False) { s with heap := h, toks := tk, gens := gens })
    (hRR : ∀ (ys : List Value) m h tk gens, ys.length = n → (∀ (j : Nat) y, ys[j]? = some y → Y j y h) → (∀ b o, b ∉ wr → s.heap.get? b = some o → h.get? b = some o) → h.PlainList s.heap.objs.size ys.toArray → h.Ns (s.heap.objs.size + 1) m → AllBare gens → RR (.ref s.heap.objs.size) (s.heap.objs.size + 1) (.ok .next) { s with heap := h, toks := tk, gens := gens }) :
    wpAny (model P0 w) A (newList []) (fun acc s₃ => wpAny (model P0 w) A (newFunctionEnv scope env.globals cl [] env.qual none .none (some env)) (fun cenv s₄ =>
      codeAny (model P0 w) A (.compStart (.ListComp elt [⟨.Tuple [.Name xa pa, .Name xb pb] tk0 pt, iter, [], 0⟩] scope pos) 0 (.ref I) acc { cenv with scope := relabel scope env }) (RR acc cenv.locals) s₄) E s₃) E s := by
  refine comp_tail2 W hh hcell hkind hxa hxb hPt hnz hst hfp hb (fun k ys h => ys.length = k ∧ (∀ b o, b ∉ wr → s.heap.get? b = some o → h.get? b = some o) ∧ ∀ (j : Nat) y, ys[j]? = some y → Y j y h) ?_ ?_ ?_ ?_
  · rintro k ys h h' ⟨j1, j2, j3⟩ hk
    refine ⟨j1, fun b o hw y => hk b o ?_ ?_ hw (j2 b o hw y), fun j y hy => hY _ _ _ _ (j3 j y hy) fun b o hb q => hk b o ?_ ?_ (fun hw => ?_) q⟩
    · exact Nat.ne_of_lt (Nat.lt_succ_of_lt (Heap.lt_size y))
    · exact Nat.ne_of_lt (Heap.lt_size y)
    · exact Nat.ne_of_gt hb
    · exact Nat.ne_of_gt (Nat.lt_trans (Nat.lt_succ_self _) hb)
    · exact absurd (hfp b (W.sub b hw)) (Nat.not_lt.mpr (Nat.le_of_lt (Nat.lt_trans (Nat.lt_succ_self _) hb)))
  · intro h hk
    exact ⟨rfl, fun b o _ y => hk b o y, fun j y hy => by simp at hy⟩
  · rintro k v1 v2 ys m h tk gens hk hP ⟨j1, j2, j3⟩ hn hS hb'
    refine wpAny_mono (helt k v1 v2 m h tk gens hk hP j2 hn.lt hn hb') (fun y s₂ hq => ?_) fun _ _ q => q
    obtain ⟨h', tk', gens', e, hb'', hkk, hy⟩ := hq
    refine ⟨h', tk', gens', e, hb'', hkk, by rw [List.length_append, j1]; rfl, fun b o hw y => hkk b o (j2 b o hw y), fun j z hz => ?_⟩
    rcases Nat.lt_trichotomy j k with hj | hj | hj
    · rw [List.getElem?_append_left (by omega)] at hz
      exact hY _ _ _ _ (j3 j z hz) fun b o _ q => hkk b o q
    · subst hj
      rw [List.getElem?_append_right (by omega), j1, Nat.sub_self] at hz
      cases hz
      exact hy
    · rw [List.getElem?_eq_none (by rw [List.length_append, j1]; simp; omega)] at hz
      cases hz
  · rintro ys m h tk gens ⟨j1, j2, j3⟩ hlen hp hn hb'
    exact hRR ys m h tk gens hlen j3 j2 hp hn hb'
/-- items that are texts, one by one -/
theorem strs_of {f : Nat → Str} : ∀ (ys : List Value) (a : Nat), (∀ (j : Nat) (y : Value), ys[j]? = some y → ∃ t, y = Value.str (f (a + j)) t) → StrsAre ys ((List.range' a ys.length).map f) := by
  intro ys
  induction ys with
  | nil => intro a _; exact .nil
  | cons y r ih =>
    intro a h
    obtain ⟨t, rfl⟩ := h 0 y rfl
    rw [List.length_cons, List.range'_succ, List.map_cons]
    refine .cons _ t (ih (a + 1) fun j z hz => ?_)
    obtain ⟨t', e⟩ := h (j + 1) z hz
    exact ⟨t', by rw [e, Nat.add_assoc, Nat.add_comm 1 j]⟩
end
end Mine
end

section
open PySem PySem.W PyProof.Rows
set_option maxRecDepth 100000
set_option maxHeartbeats 4000000
namespace Mine
def lawB : List Stmt := bodyOf (stAt 13)
def lawFor : Stmt := lawB[1]?.getD (.Pass default)
def loopB : List Stmt := forB lawFor
def lawE (L : Addr) (cd : Value) : Env := envOfC (nameOf (stAt 13)) (scopeOf (stAt 13)) L 88 cd
section
variable {w : World} {A : Around} {s : Shared} {E : Value → Shared → Prop} {mg mb : Str → Option Value}
/-- range(6), its iterator; places hidden -/
theorem range_iter {n : Nat} {t : Tok} {Q : Value → Shared → Prop} (hn : n ≤ 1000)
    (h : ∀ h' tk I, Keeps0 s.heap h' → s.heap.objs.size ≤ I → I < h'.objs.size → s.heap.objs.size ≤ h'.objs.size → IsRangeIter h' I 0 n 1 → Q (.ref I) { s with heap := h', toks := tk }) :
    wpAny (model P0 w) A (call (.type "range") [.int (n : Int) t]) (fun x s₁ => wpAny (model P0 w) A (pyIter x) Q E s₁) E s := by
  refine call_range_1 ?_
  have hr := IsRange.new s.heap 0 (n : Int) 1 s.toks t (s.toks + 1)
  refine wpAny_pyIter_range hr (small_one (by decide) (by decide) (by omega) (by omega)) ?_
  have e : Builtin.Range.rangeSize 0 (n : Int) 1 = (n : Int) := by
    rw [rangeSize_one]; split <;> omega
  refine h _ _ _ (fun b o y => Heap.get?_push_of_some _ (Heap.get?_push_of_some _ y)) (by rw [Heap.size_push]; exact Nat.le_succ _) (by
    show _ < (Heap.push _ _).objs.size
    rw [Heap.size_push _ { cls := .type "range_iterator", data := .fields #[rawInt 0, rawInt (Builtin.Range.rangeSize 0 (n : Int) 1), rawInt 1] }]; exact Nat.lt_succ_self _) (by
    show _ ≤ (Heap.push (Heap.push _ _) _).objs.size
    rw [Heap.size_push, Heap.size_push]; exact Nat.le_succ_of_le (Nat.le_succ _)) ?_
  show Heap.get? _ _ = _
  rw [e]
  exact Heap.get?_push_size _ rfl
theorem law_cuts {L l : Nat} {cd : Value} {m : Str → Option Value} {vals : Array Value} {xs : List Str} {Q : Flow → Shared → Prop} (hN : Nm mg mb) (T : Tp mg mb s.heap) (hh : A.handled = none) (hb : AllBare s.gens)
    (hn : s.heap.Ns L m) (hc : s.heap.IsCell (L + 1) (some (.ref l))) (hl : s.heap.IsList l vals) (hs : StrsAre vals.toList xs) (hx : xs.length ≤ 1000)
    (h : ∀ h' tk gens r (ys : List Value), AllBare gens → h'.Ns L (fun z => if z = Str.ofString "cuts" then some (.ref r) else m z) → (∀ b o, b ≠ L → s.heap.get? b = some o → h'.get? b = some o) → s.heap.objs.size ≤ r → h'.PlainList r ys.toArray → ys.length = 6 →
      (∀ (j : Nat) y, ys[j]? = some y → ∃ c vs, y = .ref c ∧ s.heap.objs.size ≤ c ∧ h'.PlainList c vs ∧ StrsAre vs.toList (cutK xs j)) → Q .next { s with heap := h', toks := tk, gens := gens }) :
    wpAny (model P0 w) A (exec (loopB[0]?.getD (.Pass default)) (lawE L cd)) Q E s := by
  show wpAny (model P0 w) A (exec (.Assign [.Name _ _] (.ListComp _ _ _ _) _) (lawE L cd)) Q E s
  rw [exec_Assign_Name_used _ _ _ _ (by kernel_rfl)]
  refine wpAny_bind (wpAny_standAt (wpAny_bind ?_))
  show wpAny _ A (do let _ ← comprehension (.ListComp _ _ _ _) _ (lawE L cd) _ (newList []) false (eval (.Call _ _ _ _) (lawE L cd)) (some (assign (.Name _ _) (lawE L cd)))) _ _ s
  refine wpAny_bind (wpAny_mono (Q := fun _ s' => Q .next s') (E := E) (wpAny_comprehension_free (cl := [(Str.ofString "ring", L + 1)]) rfl (fun _ => rfl) (by kernel_rfl) rfl (by decide +kernel) ?_) (fun _ s' hq => wpAny_pure (wpAny_pure hq)) fun _ _ e => e)
  refine Call_Name rfl (ldB T.g hN.range.1 T.b hN.range.2 ?_ rfl rfl)
  refine PyProof.Rows.callWith_type1 (spliced_more (wpAny_Constant_int (spliced_none ?_)))
  refine range_iter (n := 6) (by decide) fun h₁ tk₁ I hk₁ hI₁ hI₂ hz₁ hit => ?_
  replace hk₁ : Keeps0 s.heap h₁ := hk₁
  replace hI₁ : s.heap.objs.size ≤ I := hI₁
  replace hz₁ : s.heap.objs.size ≤ h₁.objs.size := hz₁
  have W := Walks.range (prog := P0) (w := w) (A := A) hh I 0 1 6
  have hlow : ∀ b o, s.heap.get? b = some o → b ∉ [I] := fun b o y hm => by
    rw [List.mem_singleton.mp hm] at y
    exact absurd (Heap.lt_size y) (Nat.not_lt.mpr hI₁)
  refine compY (s := { s with heap := h₁, toks := tk₁ }) W (by decide +kernel) rfl (by decide +kernel) (by decide) (show IsRangeIter h₁ I _ _ _ from hit) (fun b hb => by rw [List.mem_singleton.mp hb]; exact hI₂) hb
    (fun j y h => ∃ c vs, y = .ref c ∧ h₁.objs.size + 1 < c ∧ h.PlainList c vs ∧ StrsAre vs.toList (cutK xs j)) ?_ ?_ ?_
  · rintro j y h h' ⟨c, vs, rfl, h1, h2, h3⟩ hk
    exact ⟨c, vs, rfl, h1, h2.at fun o q => hk c o h1 q, h3⟩
  · intro k v m' h tk gens hk hP hkeep hsz hns hm hb'
    obtain ⟨t, rfl⟩ := hP
    replace hkeep : ∀ b o, b ∉ [I] → h₁.get? b = some o → h.get? b = some o := hkeep
    have kp : Keeps0 s.heap h := fun b o y => hkeep b o (hlow b o y) (hk₁ b o y)
    have hm' : m' (Str.ofString "k") = some (.int (k : Int) t) := by rw [hm]; congr 2; omega
    refine cut_elt (s := { s with heap := h, toks := tk, gens := gens }) (k := k) (LdU.cell_ (c := L + 1) rfl (by obtain ⟨o, ho, hd⟩ := hc; exact ⟨o, kp _ _ ho, hd⟩) rfl rfl) (LdU.local_ hns hm' rfl rfl) (hl.at fun o y => kp _ o y) hs hx fun h' tk' r vs hk' hr hp hst => ?_
    exact ⟨h', tk', gens, rfl, hb', hk', r, vs, rfl, Nat.lt_of_lt_of_le hsz hr, hp, hst⟩
  · intro ys m' h₂ tk₂ gens hlen hYs hkeep hp hns hb'
    replace hkeep : ∀ b o, b ∉ [I] → h₁.get? b = some o → h₂.get? b = some o := hkeep
    replace hns : h₂.Ns (h₁.objs.size + 1) m' := hns
    replace hp : h₂.PlainList h₁.objs.size ys.toArray := hp
    have kp : Keeps0 s.heap h₂ := fun b o y => hkeep b o (hlow b o y) (hk₁ b o y)
    have hLlt : L < h₁.objs.size := Nat.lt_of_lt_of_le hn.lt hz₁
    show wpAny _ A (assign (.Name _ _) (lawE L cd) (.ref h₁.objs.size)) _ _ _
    refine wpAny_assign_Name (wpAny_storeName_local rfl (hn.at fun o y => kp _ o y) (fun h₃ hn₃ hs₃ => ?_) rfl)
    replace hs₃ : Heap.SameBut L h₂ h₃ := hs₃
    refine ⟨m', hns.sameBut hs₃ (Nat.ne_of_gt (Nat.lt_succ_of_lt hLlt)), fun h₄ hs₄ => ?_⟩
    replace hs₄ : Heap.SameBut (h₁.objs.size + 1) h₃ h₄ := hs₄
    have up : ∀ b o, b ≠ L → b ≠ h₁.objs.size + 1 → h₂.get? b = some o → h₄.get? b = some o := fun b o b1 b2 y => hs₄.extBut b o b2 (hs₃.extBut b o b1 y)
    refine h h₄ _ gens h₁.objs.size ys hb' (hn₃.sameBut hs₄ (Nat.ne_of_lt (Nat.lt_succ_of_lt hLlt))) (fun b o hbL y => up b o hbL (Nat.ne_of_lt (Nat.lt_succ_of_lt (Nat.lt_of_lt_of_le (Heap.lt_size y) hz₁))) (kp b o y)) hz₁ (hp.at fun o y => up _ o (Nat.ne_of_gt hLlt) (Nat.ne_of_lt (Nat.lt_succ_self _)) y) hlen fun j y hy => ?_
    obtain ⟨c, vs, rfl, h1, h2, h3⟩ := hYs j y hy
    replace h1 : h₁.objs.size + 1 < c := h1
    exact ⟨c, vs, rfl, Nat.le_trans hz₁ (Nat.le_of_lt (Nat.lt_of_succ_lt h1)), h2.at fun o q => up _ o (Nat.ne_of_gt (Nat.lt_trans hLlt (Nat.lt_of_succ_lt h1))) (Nat.ne_of_gt h1) q, h3⟩
end
end Mine
end

section
open PySem PySem.W PyProof.Rows
set_option maxRecDepth 100000
set_option maxHeartbeats 4000000
namespace Mine
section
variable {w : World} {A : Around} {s : Shared} {E : Value → Shared → Prop} {mg mb : Str → Option Value}
theorem list_iter {l : Nat} {items : Array Value} {Q : Value → Shared → Prop} (hl : s.heap.IsList l items)
    (h : ∀ h' I, Keeps0 s.heap h' → s.heap.objs.size ≤ I → I < h'.objs.size → s.heap.objs.size ≤ h'.objs.size → h'.IsListIter I l 0 → Q (.ref I) { s with heap := h' }) : wpAny (model P0 w) A (pyIter (.ref l)) Q E s := by
  refine wpAny_pyIter_list hl (h _ _ (fun b o y => Heap.get?_push_of_some _ y) (Nat.le_refl _) ?_ ?_ ⟨_, Heap.get?_push_size _ rfl, rfl, rfl⟩)
  · rw [Heap.size_push]; exact Nat.lt_succ_self _
  · rw [Heap.size_push]; exact Nat.le_succ _
/-- a comprehension of texts over a named list -/
theorem comp_texts {elt : Expr} {x src : Str} {px ps pos : Pos} {sc : Scope} {cl : List (Str × Addr)} {env : Env} {r : Nat} {ys : List Value} {F : Nat → Str} {Q : Value → Shared → Prop} (hh : A.handled = none)
    (hsrc : LdU w A env s.heap src (.ref r)) (hp : s.heap.PlainList r ys.toArray) (hlen : ys.length ≤ 1000) (hb : AllBare s.gens)
    (hclos : closureFor sc env = pure cl) (hcell : ∀ y ∈ sc.names, y.2 ≠ .cell) (hkind : sc.kind = .function) (hnames : ∀ x ∈ sc.names, x.2 = .local → sc.names.lookup x.1 = some .local) (hx : sc.names.lookup x = some .local)
    (helt : ∀ (C : Addr) k v m h tk gens, ys[k]? = some v → Keeps0 s.heap h → h.Ns C m → m x = some v → AllBare gens →
      wpAny (model P0 w) A (eval elt (compEnvC sc cl C env)) (fun y s₂ => ∃ h' tk' gens' t, s₂ = { s with heap := h', toks := tk', gens := gens' } ∧ AllBare gens' ∧ Keeps0 h h' ∧ y = .str (F k) t) (fun _ _ => False) { s with heap := h, toks := tk, gens := gens })
    (h : ∀ h' tk gens r' vals, AllBare gens → Keeps0 s.heap h' → s.heap.objs.size ≤ r' → h'.PlainList r' vals → StrsAre vals.toList ((List.range' 0 ys.length).map F) → Q (.ref r') { s with heap := h', toks := tk, gens := gens }) :
    wpAny (model P0 w) A (eval (.ListComp elt [⟨.Name x px, .Name src ps, [], 0⟩] sc pos) env) Q E s := by
  rw [eval_ListComp]
  refine wpAny_comprehension_free (use := none) rfl (fun _ => rfl) hclos hkind hnames ?_
  refine hsrc.now.go rfl ?_
  have hrlt : r < s.heap.objs.size := by obtain ⟨_, y⟩ := hp; exact Heap.lt_size y
  refine list_iter hp.isList fun h₀ I hk₀ hI₁ hI₂ hz₀ hit => ?_
  replace hk₀ : Keeps0 s.heap h₀ := hk₀
  replace hI₁ : s.heap.objs.size ≤ I := hI₁
  replace hz₀ : s.heap.objs.size ≤ h₀.objs.size := hz₀
  have W := Walks.list (prog := P0) (w := w) (A := A) hh I r (low_ne hrlt hI₁) ys.toArray
  have hlow : ∀ b o, s.heap.get? b = some o → b ∉ [I] := fun b o y hm => by
    rw [List.mem_singleton.mp hm] at y
    exact absurd (Heap.lt_size y) (Nat.not_lt.mpr hI₁)
  have hyl : ys.toArray.size = ys.length := by simp
  refine compY (s := { s with heap := h₀ }) W hcell hkind hx (by rw [hyl]; exact hlen) ⟨hit, hp.isList.at fun o y => hk₀ _ o y⟩ (fun b hb => ?_) hb (fun j y _ => ∃ t, y = Value.str (F j) t) ?_ ?_ ?_
  · show b < h₀.objs.size
    simp only [List.mem_cons, List.not_mem_nil, or_false] at hb
    rcases hb with rfl | rfl
    · exact hI₂
    · exact Nat.lt_of_lt_of_le hrlt hz₀
  · intro j y _ _ hy _; exact hy
  · intro k v m h₁ tk gens hk hP hkeep _ hns hm hb'
    replace hkeep : ∀ b o, b ∉ [I] → h₀.get? b = some o → h₁.get? b = some o := hkeep
    have kp : Keeps0 s.heap h₁ := fun b o y => hkeep b o (hlow b o y) (hk₀ b o y)
    have hv : ys[k]? = some v := by simpa using hP
    refine wpAny_mono (helt _ k v m h₁ tk gens hv kp hns hm hb') (fun y s₂ hq => ?_) fun _ _ q => q
    obtain ⟨h', tk', gens', t, e, hb'', hk', hy⟩ := hq
    exact ⟨h', tk', gens', e, hb'', hk', t, hy⟩
  · intro vs m h₂ tk gens hlen₂ hYs hkeep hp₂ hns hb'
    replace hkeep : ∀ b o, b ∉ [I] → h₀.get? b = some o → h₂.get? b = some o := hkeep
    have kp : Keeps0 s.heap h₂ := fun b o y => hkeep b o (hlow b o y) (hk₀ b o y)
    replace hp₂ : h₂.PlainList h₀.objs.size vs.toArray := hp₂
    refine ⟨m, hns, fun h₃ hs₃ => ?_⟩
    replace hs₃ : Heap.SameBut (h₀.objs.size + 1) h₂ h₃ := hs₃
    refine h h₃ tk gens h₀.objs.size vs.toArray hb' (fun b o y => hs₃.extBut b o (Nat.ne_of_lt (Nat.lt_succ_of_lt (Nat.lt_of_lt_of_le (Heap.lt_size y) hz₀))) (kp b o y)) hz₀ (hp₂.at fun o y => hs₃.extBut _ o (Nat.ne_of_lt (Nat.lt_succ_self _)) y) ?_
    rw [hyl] at hlen₂
    have := strs_of vs 0 (f := F) fun j y hy => by
      obtain ⟨t, e⟩ := hYs j y hy
      exact ⟨t, by rw [e, Nat.zero_add]⟩
    rw [hlen₂] at this
    simpa using this
end
end Mine
end

section
open PySem PySem.W PyProof.Rows
set_option maxRecDepth 100000
set_option maxHeartbeats 4000000
namespace Mine
/-- the six cuts of a ring stand in the heap -/
def CutsAt (h : Heap) (r : Addr) (xs : List Str) : Prop := ∃ ys : List Value, h.PlainList r ys.toArray ∧ ys.length = 6 ∧ ∀ (j : Nat) y, ys[j]? = some y → ∃ c vs, y = .ref c ∧ h.PlainList c vs ∧ StrsAre vs.toList (cutK xs j)
def Small (xs : List Str) : Prop := xs.length = 6 ∧ ∀ y ∈ xs, y.cps.size ≤ 20
theorem cutK_len (xs : List Str) (k : Nat) : (cutK xs k).length ≤ 2 * xs.length := by
  unfold cutK; rw [List.length_append, List.length_drop, List.length_take]; omega
theorem cutK_mem {xs : List Str} {k : Nat} {y : Str} (h : y ∈ cutK xs k) : y ∈ xs := by
  unfold cutK at h
  rcases List.mem_append.mp h with h | h
  · exact List.mem_of_mem_drop h
  · exact List.mem_of_mem_take h
theorem joinS_small {l : List Str} (h1 : l.length ≤ 12) (h2 : ∀ y ∈ l, y.cps.size ≤ 20) : (joinS l).cps.size ≤ 500 := by
  have a := strs_sum h2
  have b := StrLaws.join_length_le (Str.ofString "") l
  have d : (Str.ofString "").length = 0 := rfl
  rw [d] at b
  have e : (joinS l).cps.size = ((Str.ofString "").join l).length := by
    rw [← StrLaws.glued_eq_join]; rfl
  rw [e]
  omega
section
variable {w : World} {A : Around} {s : Shared} {E : Value → Shared → Prop} {mg mb : Str → Option Value}
theorem law_told {L r : Nat} {cd : Value} {m : Str → Option Value} {xs : List Str} {Q : Flow → Shared → Prop} (hN : Nm mg mb) (T : Tp mg mb s.heap) (hh : A.handled = none) (hd : A.depth + 8 < recursionLimit) (hb : AllBare s.gens)
    (hn : s.heap.Ns L m) (hm : m (Str.ofString "cuts") = some (.ref r)) (hc : CutsAt s.heap r xs) (hx : Small xs)
    (h : ∀ h' tk gens q vals, AllBare gens → h'.Ns L (fun z => if z = Str.ofString "told" then some (.ref q) else m z) → (∀ b o, b ≠ L → s.heap.get? b = some o → h'.get? b = some o) → s.heap.get? q = none → h'.PlainList q vals → StrsAre vals.toList (toldsOf xs) → Q .next { s with heap := h', toks := tk, gens := gens }) :
    wpAny (model P0 w) A (exec (loopB[1]?.getD (.Pass default)) (lawE L cd)) Q E s := by
  obtain ⟨o, pm, code, doc, ho, hdat, hcd⟩ := T.f4
  obtain ⟨ys, hp, hlen, hys⟩ := hc
  refine wpAny_Assign_Name (Call_Name rfl (ldG T.g hN.f4 ?_ rfl rfl))
  refine callWith_def hdat (spliced_more ?_)
  refine comp_texts (cl := []) (F := fun j => joinS ((cutK xs j).drop 1)) hh (LdU.local_ hn hm rfl rfl) hp (by omega) hb (by kernel_rfl) (by decide +kernel) rfl (by decide +kernel) (by decide +kernel) ?_ ?_
  · intro C k v m' h₁ tk gens hv kp hns hmx hb'
    obtain ⟨c, vs, rfl, hpc, hsc⟩ := hys k v hv
    refine join_cut (s := { s with heap := h₁, toks := tk, gens := gens }) (LdU.local_ hns hmx rfl rfl) (hpc.at fun o y => kp _ o y).isList hsc (by have := cutK_len xs k; have := hx.1; omega) (fun y hy => hx.2 y (cutK_mem hy)) rfl fun h₂ tk₂ t hk₂ => ?_
    exact ⟨h₂, tk₂, gens, t, rfl, hb', hk₂, rfl⟩
  · intro h₁ tk₁ gens₁ r₁ vals₁ hb₁ hk₁ hr₁ hp₁ hs₁
    refine spliced_none ⟨hk₁ _ _ ho, ?_⟩
    rw [hlen] at hs₁
    refine wpAny_call (pre_spec (s := { s with heap := h₁, toks := tk₁, gens := gens₁ }) hN hh hd (T.keeps hk₁) hb₁ hp₁.isList hs₁ ?_ (by simp) fun h₂ tk₂ gens₂ q vals hk₂ hb₂ hq hp₂ hs₂ => ?_)
    · intro y hy
      obtain ⟨j, _, rfl⟩ := List.mem_map.mp hy
      refine joinS_small ?_ fun z hz => hx.2 z (cutK_mem (List.mem_of_mem_drop hz))
      rw [List.length_drop]; have := cutK_len xs j; have := hx.1; omega
    · replace hk₂ : Keeps0 h₁ h₂ := hk₂
      replace hq : h₁.get? q = none := hq
      have kp : Keeps0 s.heap h₂ := fun b o y => hk₂ b o (hk₁ b o y)
      refine wpAny_storeName_local rfl (hn.at fun o y => kp _ o y) (fun h₃ hn₃ hs₃ => ?_) rfl
      replace hs₃ : Heap.SameBut L h₂ h₃ := hs₃
      have hqs : s.heap.get? q = none := by
        cases e : s.heap.get? q with
        | none => rfl
        | some o => exact absurd (hq.symm.trans (hk₁ _ _ e)) (by simp)
      have hqL : q ≠ L := fun e => by obtain ⟨o, _, _, ho, _⟩ := hn; rw [e, ho] at hqs; cases hqs
      exact h h₃ _ gens₂ q vals hb₂ hn₃ (fun b o hbL y => hs₃.extBut b o hbL (kp b o y)) hqs (hp₂.at fun o y => hs₃.extBut _ o hqL y) hs₂
end
end Mine
end

section
open PySem PySem.W PyProof.Rows
set_option maxRecDepth 100000
set_option maxHeartbeats 4000000
namespace Mine
section
variable {w : World} {A : Around} {s : Shared} {E : Value → Shared → Prop} {mg mb : Str → Option Value}
theorem law_place {L l : Nat} {cd : Value} {vals : Array Value} {xs : List Str} {v₀ : Option Value} {Q : Flow → Shared → Prop} (hN : Nm mg mb) (T : Tp mg mb s.heap) (hh : A.handled = none) (hd : A.depth + 8 < recursionLimit) (hb : AllBare s.gens)
    (hc : s.heap.IsCell (L + 1) (some (.ref l))) (hc2 : s.heap.IsCell (L + 2) v₀) (hl : s.heap.IsList l vals) (hs : StrsAre vals.toList xs) (hx : xs.length ≤ 1000)
    (h : ∀ h' tk gens t, AllBare gens → h'.IsCell (L + 2) (some (.int (placeF xs) t)) → (∀ b o, b ≠ L + 2 → s.heap.get? b = some o → h'.get? b = some o) → Q .next { s with heap := h', toks := tk, gens := gens }) :
    wpAny (model P0 w) A (exec (loopB[2]?.getD (.Pass default)) (lawE L cd)) Q E s := by
  obtain ⟨o, pm, code, doc, ho, hdat, hcd⟩ := T.f12
  refine wpAny_Assign_Name (Call_Name rfl (ldG T.g hN.f12 ?_ rfl rfl))
  refine callWith_def hdat (spliced_more (ldC (c := L + 1) rfl hc (spliced_none ⟨ho, ?_⟩) rfl rfl))
  refine wpAny_call (place_spec hN hh (by omega) T hb hl hs hx fun h₁ tk₁ gens₁ t hk₁ hb₁ => ?_)
  replace hk₁ : Keeps0 s.heap h₁ := hk₁
  refine wpAny_storeName_cell (c := L + 2) rfl rfl rfl (hc2.keeps hk₁) (fun h₂ hc₂ hs₂ => ?_)
  replace hs₂ : Heap.SameBut (L + 2) h₁ h₂ := hs₂
  exact h h₂ _ gens₁ t hb₁ hc₂ fun b o hb y => hs₂.extBut b o hb (hk₁ b o y)

/-- [''.join(cut[1:]) if k == place else "('', '')" for k, cut in enumerate(cuts)] -/
theorem comp_expect {L r : Nat} {cd : Value} {m : Str → Option Value} {xs : List Str} {p : Int} {tp : Tok} {sc : Scope} {p1 p2 p3 p4 p5 p6 p7 p8 p9 p10 p11 p12 p13 p14 p15 p16 p17 p18 p19 : Pos} {k1 k2 k3 k4 : Nat} {Q : Value → Shared → Prop} (hN : Nm mg mb) (T : Tp mg mb s.heap) (hh : A.handled = none) (hb : AllBare s.gens)
    (hn : s.heap.Ns L m) (hm : m (Str.ofString "cuts") = some (.ref r)) (hc : CutsAt s.heap r xs) (hx : Small xs) (hc2 : s.heap.IsCell (L + 2) (some (.int p tp)))
    (hclos : closureFor sc (lawE L cd) = pure [(Str.ofString "place", L + 2)]) (hcell : ∀ y ∈ sc.names, y.2 ≠ .cell) (hkind : sc.kind = .function) (hnames : ∀ x ∈ sc.names, x.2 = .local → sc.names.lookup x.1 = some .local)
    (hxa : sc.names.lookup (Str.ofString "k") = some .local) (hxb : sc.names.lookup (Str.ofString "cut") = some .local) (hkp : ∀ C, (compEnvC sc [(Str.ofString "place", L + 2)] C (lawE L cd)).kindOf (Str.ofString "place") = some .cell)
    (hline : (p6.endLine == p11.line) = true)
    (h : ∀ h' tk gens r' vals, AllBare gens → Keeps0 s.heap h' → s.heap.objs.size ≤ r' → h'.PlainList r' vals → StrsAre vals.toList ((List.range' 0 6).map fun j => expectAt p j (cutK xs j)) → Q (.ref r') { s with heap := h', toks := tk, gens := gens }) :
    wpAny (model P0 w) A (eval (.ListComp (.IfExp (.Compare (.Name (Str.ofString "k") p1) [.Eq] [.Name (Str.ofString "place") p2] p3)
      (.Call (.Attribute (.Constant (.str (Str.ofString "")) k1 p5) (Str.ofString "join") p6) [.Subscript (.Name (Str.ofString "cut") p7) (.Slice (some (.Constant (.int 1) k2 p8)) none none p9) p10] [] p11) (.Constant (.str (Str.ofString "('', '')")) k3 p12) p13)
      [⟨.Tuple [.Name (Str.ofString "k") p14, .Name (Str.ofString "cut") p15] k4 p16, .Call (.Name (Str.ofString "enumerate") p17) [.Name (Str.ofString "cuts") p18] [] p19, [], 0⟩] sc p4) (lawE L cd)) Q E s := by
  obtain ⟨ys, hp, hlen, hys⟩ := hc
  rw [eval_ListComp]
  refine wpAny_comprehension_free (use := none) rfl (fun _ => rfl) hclos hkind hnames ?_
  refine Call_Name rfl (ldB T.g hN.enumerate.1 T.b hN.enumerate.2 ?_ rfl rfl)
  refine PyProof.Rows.callWith_type1 (spliced_more (ldE hn hm (spliced_none ?_) rfl rfl))
  refine enum_any hp.isList fun h₀ e it hk₀ he₁ hi₁ he₂ hi₂ hei hen hit => ?_
  replace hk₀ : Keeps0 s.heap h₀ := hk₀
  replace he₁ : s.heap.objs.size ≤ e := he₁
  replace hi₁ : s.heap.objs.size ≤ it := hi₁
  refine wpAny_pyIter_enum hen ?_
  have hrlt : r < s.heap.objs.size := by obtain ⟨_, y⟩ := hp; exact Heap.lt_size y
  have hr₀ : r < h₀.objs.size := by obtain ⟨_, y⟩ := hp; exact Heap.lt_size (hk₀ _ _ y)
  have hz₀ : s.heap.objs.size ≤ h₀.objs.size := Nat.le_trans he₁ (Nat.le_of_lt he₂)
  have W := WalksT.enumerate (prog := P0) (w := w) (A := A) hh e it r hei (low_ne hrlt he₁) (low_ne hrlt hi₁) ys.toArray
  have hlow : ∀ b o, s.heap.get? b = some o → b ∉ [e, it] := fun b o y hm => by
    simp only [List.mem_cons, List.not_mem_nil, or_false] at hm
    rcases hm with rfl | rfl
    · exact absurd (Heap.lt_size y) (Nat.not_lt.mpr he₁)
    · exact absurd (Heap.lt_size y) (Nat.not_lt.mpr hi₁)
  have hyl : ys.toArray.size = ys.length := by simp
  refine compY2 (s := { s with heap := h₀ }) W hh hcell hkind hxa hxb ?_ (by rw [hyl, hlen]; decide) ⟨⟨_, hen⟩, hit, (hp.at fun o y => hk₀ _ o y).isList⟩ (fun b hb => ?_) hb (fun j y _ => ∃ t, y = Value.str (expectAt p j (cutK xs j)) t) ?_ ?_ ?_
  · rintro k vals ⟨t, x, _, rfl⟩; exact ⟨_, _, rfl⟩
  · simp only [List.mem_cons, List.not_mem_nil, or_false] at hb
    rcases hb with rfl | rfl | rfl
    · exact he₂
    · exact hi₂
    · exact hr₀
  · intro j y _ _ hy _; exact hy
  · intro k v1 v2 m' h₁ tk gens hk hP hkeep _ hns hb'
    obtain ⟨t, x, hxk, hvals⟩ := hP
    obtain ⟨rfl, rfl⟩ : v1 = .int (k : Int) t ∧ v2 = x := by
      have := congrArg Array.toList hvals
      simp only [List.cons.injEq, and_true] at this
      exact this
    replace hkeep : ∀ b o, b ∉ [e, it] → h₀.get? b = some o → h₁.get? b = some o := hkeep
    have kp : Keeps0 s.heap h₁ := fun b o y => hkeep b o (hlow b o y) (hk₀ b o y)
    have hv : ys[k]? = some v2 := by simpa using hxk
    obtain ⟨c, vs, rfl, hpc, hsc⟩ := hys k v2 hv
    have hpk : (fun z => if z = Str.ofString "cut" then some (Value.ref c) else if z = Str.ofString "k" then some (Value.int (k : Int) t) else m' z) (Str.ofString "k") = some (.int (k : Int) t) := by
      show (if _ then _ else if _ then _ else _) = _
      rw [if_neg (by decide), if_pos rfl]
    have hkl := lookup_relabel_local (env := lawE L cd) hxa
    have hcl := lookup_relabel_local (env := lawE L cd) hxb
    refine wpAny_IfExp (wpAny_isTrue_Compare1 (ldE hns hpk (ldC (c := L + 2) rfl (hc2.keeps kp) (PyProof.Rows.eq_int (wpAny_truthy_bool ?_)) hkind (hkp _)) hkind hkl))
    by_cases hkp' : (k : Int) = p
    · rw [if_pos (by simpa using hkp')]
      refine join_cut (s := { s with heap := h₁, toks := tk, gens := gens }) (LdU.local_ hns (if_pos rfl) hkind hcl) (hpc.at fun o y => kp _ o y).isList hsc (by have := cutK_len xs k; have := hx.1; omega) (fun y hy => hx.2 y (cutK_mem hy)) hline fun h₂ tk₂ t hk₂ => ?_
      exact ⟨h₂, tk₂, gens, rfl, hb', hk₂, t, by unfold expectAt; rw [if_pos hkp']⟩
    · rw [if_neg (by simpa using hkp')]
      refine Calls.Constant_str ⟨h₁, _, gens, rfl, hb', fun _ _ y => y, _, by unfold expectAt; rw [if_neg hkp']; rfl⟩
  · intro vs m' h₂ tk gens hlen₂ hYs hkeep hp₂ hns hb'
    replace hkeep : ∀ b o, b ∉ [e, it] → h₀.get? b = some o → h₂.get? b = some o := hkeep
    have kp : Keeps0 s.heap h₂ := fun b o y => hkeep b o (hlow b o y) (hk₀ b o y)
    replace hp₂ : h₂.PlainList h₀.objs.size vs.toArray := hp₂
    refine ⟨m', hns, fun h₃ hs₃ => ?_⟩
    replace hs₃ : Heap.SameBut (h₀.objs.size + 1) h₂ h₃ := hs₃
    refine h h₃ tk gens h₀.objs.size vs.toArray hb' (fun b o y => hs₃.extBut b o (Nat.ne_of_lt (Nat.lt_succ_of_lt (Nat.lt_of_lt_of_le (Heap.lt_size y) hz₀))) (kp b o y)) hz₀ (hp₂.at fun o y => hs₃.extBut _ o (Nat.ne_of_lt (Nat.lt_succ_self _)) y) ?_
    rw [hyl, hlen] at hlen₂
    have := strs_of vs 0 (f := fun j => expectAt p j (cutK xs j)) fun j y hy => by
      obtain ⟨t, e⟩ := hYs j y hy
      exact ⟨t, by rw [e, Nat.zero_add]⟩
    rw [hlen₂] at this
    simpa using this
end
end Mine
end

section
open PySem PySem.W PySem.SeqAt PyProof.Rows
set_option maxRecDepth 100000
set_option maxHeartbeats 4000000
namespace Mine
theorem strs_at {vs : Array Value} {ys : List Str} (h : StrsAre vs.toList ys) (j : Nat) (hj : j < vs.size) : ∃ y t, ys[j]? = some y ∧ vs[j] = Value.str y t := by
  have e : vs.toList[j]? = some vs[j] := by rw [Array.getElem?_toList]; exact Array.getElem?_eq_getElem hj
  exact strs_get h j _ e
section
variable {w : World} {A : Around} {s : Shared} {E : Value → Shared → Prop} {mg mb : Str → Option Value}
theorem ne_same {q r : Addr} {v1 v2 : Array Value} {ys : List Str} {Q : Value → Shared → Prop} (hu : A.units < cLine) (h1 : s.heap.IsList q v1) (h2 : s.heap.IsList r v2) (s1 : StrsAre v1.toList ys) (s2 : StrsAre v2.toList ys) (h : Q (.bool false) s) :
    wpAny (model P0 w) A (compareOp .NotEq (.ref q) (.ref r)) Q E s := by
  have z1 := size_of s1
  have z2 := size_of s2
  refine RcNeAt.lists (e := fun _ => true) h1 h2 (by omega) hu (fun j j1 j2 => ?_) P0 w E Q ?_
  · obtain ⟨y, t, e1, e2⟩ := strs_at s1 j j1
    obtain ⟨y', t', e3, e4⟩ := strs_at s2 j j2
    rw [e1] at e3
    cases e3
    rw [e2, e4]
    have := EqAt.str_str (A := A.in1) (s := s) y t y t'
    rw [beq_self_eq_true] at this
    exact this
  · have : (List.range v1.size).all (fun _ => true) = true := by simp
    rw [this]; exact h

theorem law_if1 {L r q : Nat} {cd : Value} {m : Str → Option Value} {xs : List Str} {tp : Tok} {vals : Array Value} {Q : Flow → Shared → Prop} (hN : Nm mg mb) (T : Tp mg mb s.heap) (hh : A.handled = none) (hu : A.units < cLine) (hb : AllBare s.gens)
    (hn : s.heap.Ns L m) (hm : m (Str.ofString "cuts") = some (.ref r)) (hmt : m (Str.ofString "told") = some (.ref q)) (hc : CutsAt s.heap r xs) (hx : Small xs) (hc2 : s.heap.IsCell (L + 2) (some (.int (placeF xs) tp)))
    (hq : s.heap.PlainList q vals) (hs : StrsAre vals.toList (toldsOf xs)) (hg : toldsOf xs = expectsOf xs)
    (h : ∀ h' tk gens, AllBare gens → Keeps0 s.heap h' → Q .next { s with heap := h', toks := tk, gens := gens }) :
    wpAny (model P0 w) A (exec (loopB[3]?.getD (.Pass default)) (lawE L cd)) Q E s := by
  refine wpAny_If (wpAny_isTrue_Compare1 (ldE hn hmt ?_ rfl rfl))
  refine comp_expect hN T hh hb hn hm hc hx hc2 (by kernel_rfl) (by decide +kernel) rfl (by decide +kernel) (by decide +kernel) (by decide +kernel) (fun _ => rfl) rfl fun h₁ tk₁ gens₁ r' v2 hb₁ hk₁ hr₁ hp₁ hs₁ => ?_
  rw [show ((List.range' 0 6).map fun j => expectAt (placeF xs) j (cutK xs j)) = expectsOf xs from rfl, ← hg] at hs₁
  refine ne_same (s := { s with heap := h₁, toks := tk₁, gens := gens₁ }) hu (hq.at fun o y => hk₁ _ o y).isList hp₁.isList hs hs₁ (wpAny_truthy_bool ?_)
  exact wpAny_execs_nil (h h₁ tk₁ gens₁ hb₁ hk₁)

end
end Mine
end

section
open PySem PySem.W PySem.SeqAt PyProof.Rows
set_option maxRecDepth 100000
set_option maxHeartbeats 4000000
namespace Mine
section
variable {w : World} {A : Around} {s : Shared} {E : Value → Shared → Prop} {mg mb : Str → Option Value}
/-- told[max(place, 1)] -/
theorem item_max {L q : Nat} {cd : Value} {m : Str → Option Value} {p : Int} {tp : Tok} {vals : Array Value} {v : Value} {p8 p9 p10 p11 p12 p13 : Pos} {k4 : Nat} {Q : Value → Shared → Prop} (hN : Nm mg mb) (T : Tp mg mb s.heap) (hh : A.handled = none)
    (hn : s.heap.Ns L m) (hmt : m (Str.ofString "told") = some (.ref q)) (hc2 : s.heap.IsCell (L + 2) (some (.int p tp))) (hp0 : 0 ≤ p) (hp6 : p < 6)
    (hq : s.heap.PlainList q vals) (hv : vals[(max p 1).toNat]? = some v) (h : ∀ h' tk, Keeps0 s.heap h' → Q v { s with heap := h', toks := tk }) :
    wpAny (model P0 w) A (eval (.Subscript (.Name (Str.ofString "told") p8) (.Call (.Name (Str.ofString "max") p9) [.Name (Str.ofString "place") p10, .Constant (.int 1) k4 p11] [] p12) p13) (lawE L cd)) Q E s := by
  refine Subscript_ (ldE hn hmt ?_ rfl rfl)
  refine Call_Name rfl (ldB T.g hN.max.1 T.b hN.max.2 ?_ rfl rfl)
  refine PyProof.Rows.callWith_builtin1 ?_
  refine spliced_more ?_
  refine ldC (c := L + 2) rfl hc2 ?_ rfl rfl
  refine spliced_more ?_
  refine wpAny_Constant_int ?_
  refine spliced_none ?_
  refine max_two_ints hh fun h₁ tk₁ hk₁ => ?_
  replace hk₁ : Keeps0 s.heap h₁ := hk₁
  have hl₁ : h₁.IsList q vals := (hq.at fun o y => hk₁ _ o y).isList
  by_cases h1 : (1 : Int) > p
  · rw [if_pos h1]
    refine tail_any (s := { s with heap := h₁, toks := tk₁ }) hl₁.typeIs slot_list_getitem.lookup (wpAny_getItem_list hl₁ (by decide) (by decide) (x := v) ?_ (h h₁ tk₁ hk₁)) (by with_unfolding_all rfl)
    rw [← hv]; congr 2; omega
  · rw [if_neg h1]
    refine tail_any (s := { s with heap := h₁, toks := tk₁ }) hl₁.typeIs slot_list_getitem.lookup (wpAny_getItem_list hl₁ hp0 (by omega) (x := v) ?_ (h h₁ tk₁ hk₁)) (by with_unfolding_all rfl)
    rw [← hv]; congr 2; omega
/-- [(text, None) for text in [told[0], told[max(place, 1)]]] -/
theorem comp_pairs {L q : Nat} {cd : Value} {m : Str → Option Value} {p : Int} {tp : Tok} {vals : Array Value} {a b : Str} {ta tb : Tok} {sc : Scope} {p1 p2 p3 p4 p5 p6 p7 p8 p9 p10 p11 p12 p13 p14 p15 : Pos} {k1 k2 k3 k4 : Nat} {Q : Value → Shared → Prop} (hN : Nm mg mb) (T : Tp mg mb s.heap) (hh : A.handled = none) (hb : AllBare s.gens)
    (hn : s.heap.Ns L m) (hmt : m (Str.ofString "told") = some (.ref q)) (hc2 : s.heap.IsCell (L + 2) (some (.int p tp))) (hp0 : 0 ≤ p) (hp6 : p < 6)
    (hq : s.heap.PlainList q vals) (ha : vals[0]? = some (.str a ta)) (hb2 : vals[(max p 1).toNat]? = some (.str b tb))
    (hclos : closureFor sc (lawE L cd) = pure []) (hcell : ∀ y ∈ sc.names, y.2 ≠ .cell) (hkind : sc.kind = .function) (hnames : ∀ x ∈ sc.names, x.2 = .local → sc.names.lookup x.1 = some .local)
    (hx : sc.names.lookup (Str.ofString "text") = some .local)
    (h : ∀ h' tk gens r' c d, AllBare gens → Keeps0 s.heap h' → h'.PlainList r' #[.ref c, .ref d] → s.heap.get? c = none → s.heap.get? d = none → h'.IsTuple c #[.str a ta, .none] → h'.IsTuple d #[.str b tb, .none] → Q (.ref r') { s with heap := h', toks := tk, gens := gens }) :
    wpAny (model P0 w) A (eval (.ListComp (.Tuple [.Name (Str.ofString "text") p1, .Constant .none k1 p2] k2 p3)
      [⟨.Name (Str.ofString "text") p4, .List [.Subscript (.Name (Str.ofString "told") p5) (.Constant (.int 0) k3 p6) p7, .Subscript (.Name (Str.ofString "told") p8) (.Call (.Name (Str.ofString "max") p9) [.Name (Str.ofString "place") p10, .Constant (.int 1) k4 p11] [] p12) p13] p14, [], 0⟩] sc p15) (lawE L cd)) Q E s := by
  rw [eval_ListComp]
  refine wpAny_comprehension_free (use := none) rfl (fun _ => rfl) hclos hkind hnames ?_
  refine List_ (spliced_more (Subscript_ (ldE hn hmt (wpAny_Constant_int ?_) rfl rfl)))
  refine tail_any (s := { s with toks := s.toks + 1 }) hq.isList.typeIs slot_list_getitem.lookup (wpAny_getItem_list hq.isList (by decide) (by decide) ha ?_) (by with_unfolding_all rfl)
  refine spliced_more (item_max (s := { s with toks := s.toks + 1 }) hN T hh hn hmt hc2 hp0 hp6 hq hb2 fun h₁ tk₁ hk₁ => spliced_none ?_)
  replace hk₁ : Keeps0 s.heap h₁ := hk₁
  refine newList_any (Nat.le_of_ble_eq_true rfl) fun h₂ r₂ hk₂ hn₂ hp₂ => ?_
  replace hk₂ : Keeps0 h₁ h₂ := hk₂
  refine list_iter hp₂.isList fun h₀ I hk₀ hI₁ hI₂ hz₀ hit => ?_
  replace hk₀ : Keeps0 h₂ h₀ := hk₀
  replace hI₁ : h₂.objs.size ≤ I := hI₁
  replace hz₀ : h₂.objs.size ≤ h₀.objs.size := hz₀
  have hr₂ : r₂ < h₂.objs.size := by obtain ⟨_, y⟩ := hp₂; exact Heap.lt_size y
  have W := Walks.list (prog := P0) (w := w) (A := A) hh I r₂ (low_ne hr₂ hI₁) [Value.str a ta, .str b tb].toArray
  have k02 : Keeps0 s.heap h₂ := fun b o y => hk₂ b o (hk₁ b o y)
  have hlow : ∀ b o, s.heap.get? b = some o → b ∉ [I] := fun b o y hm => by
    rw [List.mem_singleton.mp hm] at y
    exact absurd (Heap.lt_size (k02 _ _ y)) (Nat.not_lt.mpr hI₁)
  have new : ∀ c, h₀.objs.size + 1 < c → s.heap.get? c = none := fun c hc => by
    cases e : s.heap.get? c with
    | none => rfl
    | some o => exact absurd (Heap.lt_size (hk₀ _ _ (k02 _ _ e))) (Nat.not_lt.mpr (Nat.le_of_lt (Nat.lt_of_succ_lt hc)))
  refine compY (s := { s with heap := h₀, toks := tk₁ }) W hcell hkind hx (by show (2 : Nat) ≤ 1000; decide) ⟨hit, hp₂.isList.at fun o y => hk₀ _ o y⟩ (fun b hb => ?_) hb
    (fun j y h => ∃ c, y = .ref c ∧ h₀.objs.size + 1 < c ∧ ∃ v, [Value.str a ta, .str b tb][j]? = some v ∧ h.IsTuple c #[v, .none]) ?_ ?_ ?_
  · show b < h₀.objs.size
    simp only [List.mem_cons, List.not_mem_nil, or_false] at hb
    rcases hb with rfl | rfl
    · exact hI₂
    · exact Nat.lt_of_lt_of_le hr₂ hz₀
  · rintro j y h h' ⟨c, rfl, h1, v, h2, h3⟩ hk
    exact ⟨c, rfl, h1, v, h2, h3.at fun o q => hk c o h1 q⟩
  · intro k v m' h₃ tk gens hk hP hkeep hsz hns hm hb'
    have hv : [Value.str a ta, .str b tb][k]? = some v := by simpa using hP
    refine Tuple_ (spliced_more (ldE hns hm (spliced_more (wpAny_Constant_none (spliced_none ?_))) hkind (lookup_relabel_local (env := lawE L cd) hx)))
    refine wpAny_newObj_type ?_ (by show (2 : Nat) ≤ sizeLine; decide)
    refine ⟨_, tk, gens, rfl, hb', fun b o y => Heap.get?_push_of_some _ y, _, rfl, hsz, v, hv, ⟨_, Heap.get?_push_size _ rfl, rfl, _, rfl⟩⟩
  · intro ys m' h₃ tk gens hlen hYs hkeep hp₃ hns hb'
    replace hkeep : ∀ b o, b ∉ [I] → h₀.get? b = some o → h₃.get? b = some o := hkeep
    have kp : Keeps0 s.heap h₃ := fun b o y => hkeep b o (hlow b o y) (hk₀ b o (k02 b o y))
    replace hp₃ : h₃.PlainList h₀.objs.size ys.toArray := hp₃
    refine ⟨m', hns, fun h₄ hs₄ => ?_⟩
    replace hs₄ : Heap.SameBut (h₀.objs.size + 1) h₃ h₄ := hs₄
    replace hlen : ys.length = 2 := hlen
    obtain ⟨y1, y2, rfl⟩ : ∃ y1 y2, ys = [y1, y2] := by
      match ys, hlen with
      | [y1, y2], _ => exact ⟨_, _, rfl⟩
    obtain ⟨c, rfl, c1, v1, c2, c3⟩ := hYs 0 _ rfl
    obtain ⟨d, rfl, d1, v2, d2, d3⟩ := hYs 1 _ rfl
    cases c2
    cases d2
    replace c1 : h₀.objs.size + 1 < c := c1
    replace d1 : h₀.objs.size + 1 < d := d1
    exact h h₄ tk gens h₀.objs.size c d hb' (fun b o y => hs₄.extBut b o (Nat.ne_of_lt (Nat.lt_succ_of_lt (Nat.lt_of_lt_of_le (Heap.lt_size (k02 _ _ y)) hz₀))) (kp b o y))
      (hp₃.at fun o y => hs₄.extBut _ o (Nat.ne_of_lt (Nat.lt_succ_self _)) y) (new c c1) (new d d1)
      (c3.at fun o y => hs₄.extBut _ o (Nat.ne_of_gt c1) y) (d3.at fun o y => hs₄.extBut _ o (Nat.ne_of_gt d1) y)
end
end Mine
end

section
open PySem PySem.W PySem.SeqAt PyProof.Rows
set_option maxRecDepth 100000
set_option maxHeartbeats 4000000
namespace Mine
section
variable {w : World} {A : Around} {s : Shared} {E : Value → Shared → Prop} {mg mb : Str → Option Value}
/-- list(_deduplicate(told).items()) where two keys are left -/
theorem items_list {L q : Nat} {cd : Value} {m : Str → Option Value} {vals : Array Value} {ys : List Str} {a b : Str} {p1 p2 p3 p4 p5 p6 p7 : Pos} {Q : Value → Shared → Prop} (hN : Nm mg mb) (T : Tp mg mb s.heap) (D : DdAt s.heap) (hh : A.handled = none) (hd : A.depth + 2 < recursionLimit)
    (hn : s.heap.Ns L m) (hmt : m (Str.ofString "told") = some (.ref q)) (hq : s.heap.PlainList q vals) (hs : StrsAre vals.toList ys) (hz : vals.size ≤ 1000) (hdd : ddF [] ys = [a, b]) (hline : (p4.endLine == p5.line) = true)
    (h : ∀ h' tk r c d t1 t2, Keeps0 s.heap h' → h'.PlainList r #[.ref c, .ref d] → h'.IsTuple c #[.str a t1, .none] → h'.IsTuple d #[.str b t2, .none] → Q (.ref r) { s with heap := h', toks := tk }) :
    wpAny (model P0 w) A (eval (.Call (.Name (Str.ofString "list") p1) [.Call (.Attribute (.Call (.Name (Str.ofString "_deduplicate") p2) [.Name (Str.ofString "told") p3] [] p7) (Str.ofString "items") p4) [] [] p5] [] p6) (lawE L cd)) Q E s := by
  obtain ⟨o, pm, code, doc, kd, md, ho, hdat, _⟩ := id D
  refine Call_Name rfl (ldB T.g hN.list.1 T.b hN.list.2 ?_ rfl rfl)
  refine PyProof.Rows.callWith_type1 (spliced_more ?_)
  refine wpAny_Call_method (T := "dict") (id := "dict.items") rfl rfl hline PySem.F.plainAttrs_dict PySem.F.slot_dict_items PySem.F.type_dict_items ?_
  refine Call_Name rfl (ldG T.g hN.f6 ?_ rfl rfl)
  refine callWith_def hdat (spliced_more (ldE hn hmt (spliced_none ⟨ho, ?_⟩) rfl rfl))
  refine wpAny_call (dedup_spec hN hh hd T D hq.isList hs hz fun h₁ tk₁ d hk₁ hd₁ hD₁ => ?_)
  replace hk₁ : Keeps0 s.heap h₁ := hk₁
  replace hd₁ : s.heap.objs.size ≤ d := hd₁
  rw [hdd] at hD₁
  refine ⟨hD₁.typeIs, hD₁.mapOf.noDict, callWith_method0 ?_⟩
  have hlo : (d == sysModules) = false := by
    obtain ⟨o', _, _, _, ho', _⟩ := T.f12
    have h83 := Heap.lt_size ho'
    refine beq_eq_false_iff_ne.mpr (Ne.symm (low_ne (show (1 : Nat) < s.heap.objs.size from Nat.lt_trans (by decide) h83) hd₁))
  refine call_meetsIn PySem.F.slot_dict_items hD₁.typeIs PySem.F.entry_dict_items (PySem.F.args_dict_items_1 _) (meets_dict_items (strKind P0 w) d hlo) ⟨⟨_, hD₁⟩, ?_⟩
  refine spliced_none ?_
  have hD₂ := hD₁.push { cls := .type "dict_items", data := .fields #[.ref d] }
  obtain ⟨ep, hD₂⟩ := hD₂.dictAt
  refine kdx_call (knd := strKind P0 w) (s := { s with heap := h₁.push { cls := .type "dict_items", data := .fields #[.ref d] }, toks := tk₁ }) (d := d) hh ⟨_, Heap.get?_push_size _ rfl, rfl, rfl⟩ hD₂ (by show (2 : Nat) ≤ sizeLine; decide) fun h₂ tk₂ acc c as hk₂ hg hl hG hacc => ?_
  replace hk₂ : Keeps0 (h₁.push { cls := .type "dict_items", data := .fields #[.ref d] }) h₂ := hk₂
  replace hl : as.length = 2 := hl
  obtain ⟨a1, a2, rfl⟩ : ∃ y1 y2, as = [y1, y2] := by
    match as, hl with
    | [y1, y2], _ => exact ⟨_, _, rfl⟩
  obtain ⟨key1, k1, x1, e1, f1, g1⟩ := hG.pairs 0 a1 rfl
  obtain ⟨key2, k2, x2, e2, f2, g2⟩ := hG.pairs 1 a2 rfl
  replace e1 : some (a, Value.none) = some (k1, x1) := e1
  replace e2 : some (b, Value.none) = some (k2, x2) := e2
  cases e1; cases e2
  obtain ⟨t1, rfl⟩ := Value.isStrOf_shape f1
  obtain ⟨t2, rfl⟩ := Value.isStrOf_shape f2
  have hacc' : acc = #[.ref a1, .ref a2] := by
    obtain ⟨l⟩ := acc
    have : l = [.ref a1, .ref a2] := hacc
    rw [this]
  subst hacc'
  exact h h₂ tk₂ _ a1 a2 t1 t2 (fun b o y => hk₂ b o (Heap.get?_push_of_some _ (hk₁ b o y))) ⟨c, hg⟩ ⟨_, g1, rfl, _, rfl⟩ ⟨_, g2, rfl, _, rfl⟩
end
end Mine
end

section
open PySem PySem.W PySem.SeqAt PyProof.Rows
set_option maxRecDepth 100000
set_option maxHeartbeats 4000000
namespace Mine
/-- what law asks of one ring -/
structure Good (xs : List Str) : Prop where
  small : Small xs
  p0 : 0 ≤ placeF xs
  p6 : placeF xs < 6
  told : toldsOf xs = expectsOf xs
  keys : ddF [] (toldsOf xs) = [((toldsOf xs)[0]?).getD badS, ((toldsOf xs)[(max (placeF xs) 1).toNat]?).getD badS]
theorem told_len (xs : List Str) : (toldsOf xs).length = 6 := rfl
theorem strs_val {vs : Array Value} {ys : List Str} (h : StrsAre vs.toList ys) (j : Nat) (hj : j < ys.length) : ∃ t, vs[j]? = some (Value.str ((ys[j]?).getD badS) t) := by
  have z := size_of h
  obtain ⟨y, t, e1, e2⟩ := strs_at h j (by omega)
  exact ⟨t, by rw [Array.getElem?_eq_getElem (by omega), e2, e1]; rfl⟩
section
variable {w : World} {A : Around} {s : Shared} {E : Value → Shared → Prop} {mg mb : Str → Option Value}
theorem eq_pair {c d : Addr} {a : Str} {t u : Tok} (hu : A.units + 1 < cLine) (hne : c ≠ d) (h1 : s.heap.IsTuple c #[.str a t, .none]) (h2 : s.heap.IsTuple d #[.str a u, .none]) : EqAt A.in1 s (.ref c) (.ref d) true := by
  have := RcAt.tuples (A := A.in1) (e := fun _ => true) h1 h2 hu (fun j j1 j2 => ?_)
  · exact EqAt.of_refs hne this
  · match j, j1 with
    | 0, _ =>
      have := EqAt.str_str (A := A.in1.in1) (s := s) a t a u
      rw [beq_self_eq_true] at this
      exact this
    | 1, _ => exact EqAt.same .none
theorem law_if2 {L q : Nat} {cd : Value} {m : Str → Option Value} {xs : List Str} {tp : Tok} {vals : Array Value} {Q : Flow → Shared → Prop} (hN : Nm mg mb) (T : Tp mg mb s.heap) (D : DdAt s.heap) (hh : A.handled = none) (hd : A.depth + 2 < recursionLimit) (hu : A.units + 1 < cLine) (hb : AllBare s.gens)
    (hn : s.heap.Ns L m) (hmt : m (Str.ofString "told") = some (.ref q)) (hc2 : s.heap.IsCell (L + 2) (some (.int (placeF xs) tp)))
    (hq : s.heap.PlainList q vals) (hs : StrsAre vals.toList (toldsOf xs)) (hg : Good xs)
    (h : ∀ h' tk gens, AllBare gens → Keeps0 s.heap h' → Q .next { s with heap := h', toks := tk, gens := gens }) :
    wpAny (model P0 w) A (exec (loopB[4]?.getD (.Pass default)) (lawE L cd)) Q E s := by
  have hz : vals.size = 6 := by rw [size_of hs, told_len]
  obtain ⟨ta, ha⟩ := strs_val hs 0 (by rw [told_len]; decide)
  obtain ⟨tb, hb2⟩ := strs_val hs (max (placeF xs) 1).toNat (by rw [told_len]; have := hg.p6; omega)
  refine wpAny_If (wpAny_isTrue_Compare1 ?_)
  refine items_list hN T D hh hd hn hmt hq hs (by omega) hg.keys rfl fun h₁ tk₁ r c d t1 t2 hk₁ hp₁ hc₁ hd₁ => ?_
  replace hk₁ : Keeps0 s.heap h₁ := hk₁
  refine comp_pairs (s := { s with heap := h₁, toks := tk₁ }) hN (T.keeps hk₁) hh hb (hn.at fun o y => hk₁ _ o y) hmt (hc2.keeps hk₁) hg.p0 hg.p6 (hq.at fun o y => hk₁ _ o y) ha hb2 (by kernel_rfl) (by decide +kernel) rfl (by decide +kernel) (by decide +kernel) fun h₂ tk₂ gens₂ r' c' d' hb₂ hk₂ hp₂ hcn hdn hc₂ hd₂ => ?_
  replace hk₂ : Keeps0 h₁ h₂ := hk₂
  replace hcn : h₁.get? c' = none := hcn
  replace hdn : h₁.get? d' = none := hdn
  have n1 : c ≠ c' := fun e => by obtain ⟨o, ho, _⟩ := hc₁; rw [e, hcn] at ho; cases ho
  have n2 : d ≠ d' := fun e => by obtain ⟨o, ho, _⟩ := hd₁; rw [e, hdn] at ho; cases ho
  have hc₃ : h₂.IsTuple c _ := hc₁.at fun o y => hk₂ _ o y
  have hd₃ : h₂.IsTuple d _ := hd₁.at fun o y => hk₂ _ o y
  refine RcNeAt.lists (A := A) (s := { s with heap := h₂, toks := tk₂, gens := gens₂ }) (l := r) (b := r') (items := #[.ref c, .ref d]) (items2 := #[.ref c', .ref d']) (e := fun _ => true) (hp₁.at fun o y => hk₂ _ o y).isList hp₂.isList rfl (by omega) (fun j j1 j2 => ?_) P0 w E _ ?_
  · match j, j1 with
    | 0, _ => exact eq_pair hu n1 hc₃ hc₂
    | 1, _ => exact eq_pair hu n2 hd₃ hd₂
  · refine wpAny_truthy_bool ?_
    exact wpAny_execs_nil (h h₂ tk₂ gens₂ hb₂ fun b o y => hk₂ b o (hk₁ b o y))
theorem law_kept {L q kp : Nat} {cd : Value} {m : Str → Option Value} {xs : List Str} {tp : Tok} {vals kv : Array Value} {Q : Flow → Shared → Prop}
    (hn : s.heap.Ns L m) (hmt : m (Str.ofString "told") = some (.ref q)) (hmk : m (Str.ofString "kept") = some (.ref kp)) (hc2 : s.heap.IsCell (L + 2) (some (.int (placeF xs) tp)))
    (hq : s.heap.PlainList q vals) (hs : StrsAre vals.toList (toldsOf xs)) (hk : s.heap.PlainList kp kv) (hkz : kv.size ≤ 1000) (hg : Good xs)
    (h : ∀ h' tk t, h'.PlainList kp (kv.push (.str (keptOf xs) t)) → Heap.SameBut kp s.heap h' → Q .next { s with heap := h', toks := tk }) :
    wpAny (model P0 w) A (exec (loopB[5]?.getD (.Pass default)) (lawE L cd)) Q E s := by
  obtain ⟨tb, hb2⟩ := strs_val hs (placeF xs).toNat (by rw [told_len]; have := hg.p6; have := hg.p0; omega)
  have hpl : PlainL s.heap kp kv := by
    obtain ⟨n, e⟩ := hk
    exact ⟨_, n, e, rfl, rfl, rfl⟩
  refine wpAny_Expr (wpAny_Call_append rfl rfl rfl rfl (ldE hn hmk ⟨kp, kv, rfl, hpl, Subscript_ (ldE hn hmt (ldC (c := L + 2) rfl hc2 ?_ rfl rfl) rfl rfl)⟩ rfl rfl)) rfl rfl
  refine tail_any hq.isList.typeIs slot_list_getitem.lookup (wpAny_getItem_list hq.isList hg.p0 (by have := hg.p6; omega) hb2 ?_) (by with_unfolding_all rfl)
  refine wpAny_list_append_plain hk (fun h₇ hl₇ hs₇ => ?_) (by rw [sizeLine_eq]; omega)
  exact h h₇ _ tb hl₇ hs₇
theorem law_whole {L r wh : Nat} {cd : Value} {m : Str → Option Value} {xs : List Str} {wv : Array Value} {Q : Flow → Shared → Prop} (hh : A.handled = none) (hb : AllBare s.gens)
    (hn : s.heap.Ns L m) (hm : m (Str.ofString "cuts") = some (.ref r)) (hmw : m (Str.ofString "whole") = some (.ref wh)) (hc : CutsAt s.heap r xs) (hx : Small xs) (hw : s.heap.PlainList wh wv) (hwz : wv.size ≤ 1000)
    (h : ∀ h' tk gens q vals, AllBare gens → (∀ b o, b ≠ wh → s.heap.get? b = some o → h'.get? b = some o) → h'.PlainList wh (wv.push (.ref q)) → s.heap.get? q = none → h'.PlainList q vals → StrsAre vals.toList (wholesOf xs) → Q .next { s with heap := h', toks := tk, gens := gens }) :
    wpAny (model P0 w) A (exec (loopB[6]?.getD (.Pass default)) (lawE L cd)) Q E s := by
  obtain ⟨ys, hp, hlen, hys⟩ := hc
  have hpl : PlainL s.heap wh wv := by
    obtain ⟨n, e⟩ := hw
    exact ⟨_, n, e, rfl, rfl, rfl⟩
  refine wpAny_Expr (wpAny_Call_append rfl rfl rfl rfl (ldE hn hmw ⟨wh, wv, rfl, hpl, ?_⟩ rfl rfl)) rfl rfl
  refine comp_texts (cl := []) (F := fun j => joinS (cutK xs j)) hh (LdU.local_ hn hm rfl rfl) hp (by omega) hb (by kernel_rfl) (by decide +kernel) rfl (by decide +kernel) (by decide +kernel) ?_ ?_
  · intro C k v m' h₁ tk gens hv kp hns hmx hb'
    obtain ⟨c, vs, rfl, hpc, hsc⟩ := hys k v hv
    refine join_name (s := { s with heap := h₁, toks := tk, gens := gens }) (LdU.local_ hns hmx rfl rfl) (hpc.at fun o y => kp _ o y).isList hsc (by have := cutK_len xs k; have := hx.1; omega) (fun y hy => hx.2 y (cutK_mem hy)) rfl fun tk₂ t => ?_
    exact ⟨h₁, tk₂, gens, t, rfl, hb', fun _ _ y => y, rfl⟩
  · intro h₁ tk₁ gens₁ r₁ vals₁ hb₁ hk₁ hr₁ hp₁ hs₁
    rw [hlen] at hs₁
    refine wpAny_list_append_plain (s := { s with heap := h₁, toks := tk₁, gens := gens₁ }) (hw.at fun o y => hk₁ _ o y) (fun h₂ hl₂ hs₂ => ?_) (by rw [sizeLine_eq]; omega)
    replace hs₂ : Heap.SameBut wh h₁ h₂ := hs₂
    have hr : s.heap.get? r₁ = none := Heap.get?_none_of_le hr₁
    have hrw : r₁ ≠ wh := fun e => by obtain ⟨n, y⟩ := hw; rw [e, y] at hr; cases hr
    exact h h₂ _ gens₁ r₁ vals₁ hb₁ (fun b o hb y => hs₂.extBut b o hb (hk₁ b o y)) hl₂ hr (hp₁.at fun o y => hs₂.extBut _ o hrw y) hs₁
end
end Mine
end

section
open PySem PySem.W PySem.SeqAt PyProof.Rows
set_option maxRecDepth 100000
set_option maxHeartbeats 4000000
namespace Mine
def Off (L kp wh b : Nat) : Prop := b ≠ L ∧ b ≠ L + 1 ∧ b ≠ L + 2 ∧ b ≠ kp ∧ b ≠ wh
/-- what law has gathered after the rings rs -/
structure LJ (L kp wh iv : Nat) (rs : List (List Str)) (m : Str → Option Value) (h : Heap) : Prop where
  ns : h.Ns L m
  nk : m (Str.ofString "kept") = some (.ref kp)
  nw : m (Str.ofString "whole") = some (.ref wh)
  c1 : ∃ v, h.IsCell (L + 1) v
  c2 : ∃ v, h.IsCell (L + 2) v
  kept : ∃ kv, h.PlainList kp kv ∧ StrsAre kv.toList (rs.map keptOf)
  whole : ∃ wv : List Value, h.PlainList wh wv.toArray ∧ wv.length = rs.length ∧ ∀ (j : Nat) y, wv[j]? = some y → ∃ q vals xs, y = .ref q ∧ rs[j]? = some xs ∧ h.PlainList q vals ∧ StrsAre vals.toList (wholesOf xs) ∧ Off L kp wh q ∧ q ≠ iv
structure Apart (L kp wh : Nat) : Prop where
  k0 : kp ≠ L
  k1 : kp ≠ L + 1
  k2 : kp ≠ L + 2
  w0 : wh ≠ L
  w1 : wh ≠ L + 1
  w2 : wh ≠ L + 2
  kw : kp ≠ wh
theorem LJ.lt {L kp wh iv : Nat} {rs : List (List Str)} {m : Str → Option Value} {h : Heap} (J : LJ L kp wh iv rs m h) : L < h.objs.size ∧ L + 1 < h.objs.size ∧ L + 2 < h.objs.size ∧ kp < h.objs.size ∧ wh < h.objs.size := by
  obtain ⟨v1, c1⟩ := J.c1
  obtain ⟨v2, c2⟩ := J.c2
  obtain ⟨kv, ⟨n, k1⟩, _⟩ := J.kept
  obtain ⟨wv, ⟨n', w1⟩, _⟩ := J.whole
  exact ⟨J.ns.lt, c1.lt, c2.lt, Heap.lt_size k1, Heap.lt_size w1⟩
theorem LJ.off {L kp wh iv q : Nat} {rs : List (List Str)} {m : Str → Option Value} {h : Heap} (J : LJ L kp wh iv rs m h) (hq : h.get? q = none) : Off L kp wh q := by
  obtain ⟨v1, o1, c1, _⟩ := J.c1
  obtain ⟨v2, o2, c2, _⟩ := J.c2
  obtain ⟨kv, ⟨n, k1⟩, _⟩ := J.kept
  obtain ⟨wv, ⟨n', w1⟩, _⟩ := J.whole
  obtain ⟨o, _, _, ho, _⟩ := J.ns
  refine ⟨?_, ?_, ?_, ?_, ?_⟩ <;> intro e <;> subst e <;> simp_all
theorem low_off {N L kp wh b : Nat} (h : L < N ∧ L + 1 < N ∧ L + 2 < N ∧ kp < N ∧ wh < N) (hb : N ≤ b) : Off L kp wh b := by
  obtain ⟨h1, h2, h3, h4, h5⟩ := h
  refine ⟨?_, ?_, ?_, ?_, ?_⟩ <;> omega
/-- the loop's own steps: the iterator moves, the ring's cell takes the next ring -/
theorem LJ.step {L kp wh iv : Nat} {rs : List (List Str)} {m : Str → Option Value} {h h' : Heap} (J : LJ L kp wh iv rs m h) (ap : Apart L kp wh) (hIo : Off L kp wh iv) (hc : ∃ v, h'.IsCell (L + 1) v) (hk : ∀ b o, b ≠ iv → b ≠ L + 1 → h.get? b = some o → h'.get? b = some o) : LJ L kp wh iv rs m h' := by
  obtain ⟨v2, o2, c2, e2⟩ := J.c2
  obtain ⟨kv, k1, k2⟩ := J.kept
  obtain ⟨wv, w1, w2, w3⟩ := J.whole
  obtain ⟨i0, i1, i2, i3, i4⟩ := hIo
  refine ⟨J.ns.at fun o y => hk _ o (Ne.symm i0) (by omega) y, J.nk, J.nw, hc, ⟨v2, o2, hk _ _ (Ne.symm i2) (by omega) c2, e2⟩, ⟨kv, k1.at fun o y => hk _ o (Ne.symm i3) ap.k1 y, k2⟩, wv, w1.at fun o y => hk _ o (Ne.symm i4) ap.w1 y, w2, fun j y hy => ?_⟩
  obtain ⟨q, vals, xs, e1, e2, e3, e4, e5, e6⟩ := w3 j y hy
  exact ⟨q, vals, xs, e1, e2, e3.at fun o y => hk _ o e6 e5.2.1 y, e4, e5, e6⟩
/-- all of it lives on where only unrelated things change -/
theorem LJ.move {L kp wh iv : Nat} {rs : List (List Str)} {m : Str → Option Value} {h h' : Heap} (J : LJ L kp wh iv rs m h) (hk : Keeps0 h h') : LJ L kp wh iv rs m h' := by
  obtain ⟨v1, c1⟩ := J.c1
  obtain ⟨v2, c2⟩ := J.c2
  obtain ⟨kv, k1, k2⟩ := J.kept
  obtain ⟨wv, w1, w2, w3⟩ := J.whole
  refine ⟨J.ns.at fun o y => hk _ o y, J.nk, J.nw, ⟨v1, c1.keeps hk⟩, ⟨v2, c2.keeps hk⟩, ⟨kv, k1.at fun o y => hk _ o y, k2⟩, wv, w1.at fun o y => hk _ o y, w2, fun j y hy => ?_⟩
  obtain ⟨q, vals, xs, e1, e2, e3, e4, e5⟩ := w3 j y hy
  exact ⟨q, vals, xs, e1, e2, e3.at fun o y => hk _ o y, e4, e5⟩
section
variable {w : World} {A : Around} {s : Shared} {E : Value → Shared → Prop} {mg mb : Str → Option Value}
theorem law_turn {L kp wh iv l : Nat} {cd : Value} {m : Str → Option Value} {rs : List (List Str)} {vals : Array Value} {xs : List Str} {Q : Flow → Shared → Prop} (hN : Nm mg mb) (T : Tp mg mb s.heap) (D : DdAt s.heap)
    (tk0 : ∀ h', (∀ b o, Off L kp wh b → s.heap.get? b = some o → h'.get? b = some o) → Tp mg mb h' ∧ DdAt h')
    (hh : A.handled = none) (hd : A.depth + 8 < recursionLimit) (hu : A.units + 1 < cLine) (hb : AllBare s.gens) (ap : Apart L kp wh)
    (J : LJ L kp wh iv rs m s.heap) (hI : ∃ o, s.heap.get? iv = some o) (hIo : Off L kp wh iv) (hr : rs.length ≤ 900) (hc : s.heap.IsCell (L + 1) (some (.ref l))) (hl : s.heap.IsList l vals) (hlo : Off L kp wh l) (hs : StrsAre vals.toList xs) (hg : Good xs)
    (h : ∀ h' tk gens m', AllBare gens → LJ L kp wh iv (rs ++ [xs]) m' h' → (∀ b o, b ≠ L → b ≠ L + 2 → b ≠ kp → b ≠ wh → s.heap.get? b = some o → h'.get? b = some o) → Q .next { s with heap := h', toks := tk, gens := gens }) :
    wpAny (model P0 w) A (execs loopB (lawE L cd)) Q E s := by
  have lt := J.lt
  obtain ⟨v2, c2⟩ := J.c2
  obtain ⟨kv, kp1, ks1⟩ := J.kept
  obtain ⟨wv, w1, w2, w3⟩ := J.whole
  show wpAny (model P0 w) A (execs (_ :: _ :: _ :: _ :: _ :: _ :: _ :: []) (lawE L cd)) Q E s
  refine wpAny_execs_cons (law_cuts hN T hh hb J.ns hc hl hs (by have := hg.small.1; omega) fun h₁ tk₁ gens₁ r ys hb₁ hn₁ hk₁ hr₁ hp₁ hlen₁ hys₁ => ?_)
  have kN : ∀ {h h' : Heap}, (∀ b o, b ≠ L → h.get? b = some o → h'.get? b = some o) → ∀ b o, Off L kp wh b → h.get? b = some o → h'.get? b = some o := fun k b o ho y => k b o ho.1 y
  have K₁ : ∀ b o, Off L kp wh b → s.heap.get? b = some o → h₁.get? b = some o := kN hk₁
  obtain ⟨T₁, D₁⟩ := tk0 h₁ K₁
  have C₁ : CutsAt h₁ r xs := ⟨ys, hp₁, hlen₁, fun j y hy => by obtain ⟨c, vs, e1, _, e3, e4⟩ := hys₁ j y hy; exact ⟨c, vs, e1, e3, e4⟩⟩
  have CM : ∀ h' : Heap, (∀ b o, Off L kp wh b → h₁.get? b = some o → h'.get? b = some o) → CutsAt h' r xs := fun h' k =>
    ⟨ys, hp₁.at fun o y => k _ o (low_off lt hr₁) y, hlen₁, fun j y hy => by obtain ⟨c, vs, e1, e2, e3, e4⟩ := hys₁ j y hy; exact ⟨c, vs, e1, e3.at fun o y => k _ o (low_off lt e2) y, e4⟩⟩
  -- told
  refine wpAny_execs_cons (law_told (s := { s with heap := h₁, toks := tk₁, gens := gens₁ }) hN T₁ hh hd hb₁ hn₁ (if_pos rfl) C₁ hg.small fun h₂ tk₂ gens₂ q tv hb₂ hn₂ hk₂ hq₂ hp₂ hs₂ => ?_)
  replace hk₂ : ∀ b o, b ≠ L → h₁.get? b = some o → h₂.get? b = some o := hk₂
  replace hq₂ : h₁.get? q = none := hq₂
  have kp₁ : h₁.PlainList kp kv := kp1.at fun o y => hk₁ _ o ap.k0 y
  have wh₁ : h₁.PlainList wh wv.toArray := w1.at fun o y => hk₁ _ o ap.w0 y
  have c2₁ : h₁.IsCell (L + 2) v2 := by obtain ⟨o, ho, e⟩ := c2; exact ⟨o, hk₁ _ o (Nat.ne_of_gt (by omega)) ho, e⟩
  have c1₁ : h₁.IsCell (L + 1) (some (.ref l)) := by obtain ⟨o, ho, e⟩ := hc; exact ⟨o, hk₁ _ o (Nat.ne_of_gt (by omega)) ho, e⟩
  have qo : Off L kp wh q := by
    obtain ⟨o1, d1, _⟩ := c1₁
    obtain ⟨o2, d2, _⟩ := c2₁
    obtain ⟨n, k1⟩ := kp₁
    obtain ⟨n', k2⟩ := wh₁
    obtain ⟨o, _, _, ho, _⟩ := hn₁
    refine ⟨?_, ?_, ?_, ?_, ?_⟩ <;> intro e <;> rw [e] at hq₂
    · rw [ho] at hq₂; cases hq₂
    · rw [d1] at hq₂; cases hq₂
    · rw [d2] at hq₂; cases hq₂
    · rw [k1] at hq₂; cases hq₂
    · rw [k2] at hq₂; cases hq₂
  have K₂ : ∀ b o, Off L kp wh b → h₁.get? b = some o → h₂.get? b = some o := kN hk₂
  obtain ⟨T₂, D₂⟩ := tk0 h₂ fun b o ho y => K₂ b o ho (K₁ b o ho y)
  have C₂ := CM h₂ K₂
  have c2₂ : h₂.IsCell (L + 2) v2 := by obtain ⟨o, ho, e⟩ := c2₁; exact ⟨o, hk₂ _ o (Nat.ne_of_gt (by omega)) ho, e⟩
  have c1₂ : h₂.IsCell (L + 1) (some (.ref l)) := by obtain ⟨o, ho, e⟩ := c1₁; exact ⟨o, hk₂ _ o (Nat.ne_of_gt (by omega)) ho, e⟩
  have hl₂ : h₂.IsList l vals := hl.at fun o y => K₂ _ o hlo (K₁ _ o hlo y)
  -- place
  refine wpAny_execs_cons (law_place (s := { s with heap := h₂, toks := tk₂, gens := gens₂ }) hN T₂ hh hd hb₂ c1₂ c2₂ hl₂ hs (by have := hg.small.1; omega) fun h₃ tk₃ gens₃ tp hb₃ hc₃ hk₃ => ?_)
  replace hk₃ : ∀ b o, b ≠ L + 2 → h₂.get? b = some o → h₃.get? b = some o := hk₃
  have K₃ : ∀ b o, Off L kp wh b → h₂.get? b = some o → h₃.get? b = some o := fun b o ho y => hk₃ b o ho.2.2.1 y
  obtain ⟨T₃, D₃⟩ := tk0 h₃ fun b o ho y => K₃ b o ho (K₂ b o ho (K₁ b o ho y))
  have C₃ := CM h₃ fun b o ho y => K₃ b o ho (K₂ b o ho y)
  have hn₃ := hn₂.at (h' := h₃) fun o y => hk₃ _ o (Nat.ne_of_lt (by omega)) y
  have hp₃ : h₃.PlainList q tv := hp₂.at fun o y => K₃ _ o qo y
  have mt : ∀ z, (fun z => if z = Str.ofString "told" then some (Value.ref q) else (fun z => if z = Str.ofString "cuts" then some (Value.ref r) else m z) z) z = if z = Str.ofString "told" then some (Value.ref q) else if z = Str.ofString "cuts" then some (Value.ref r) else m z := fun _ => rfl
  have mc : (if Str.ofString "cuts" = Str.ofString "told" then some (Value.ref q) else if Str.ofString "cuts" = Str.ofString "cuts" then some (Value.ref r) else m (Str.ofString "cuts")) = some (.ref r) := by rw [if_neg (by decide), if_pos rfl]
  have mk : (if Str.ofString "kept" = Str.ofString "told" then some (Value.ref q) else if Str.ofString "kept" = Str.ofString "cuts" then some (Value.ref r) else m (Str.ofString "kept")) = some (.ref kp) := by rw [if_neg (by decide), if_neg (by decide)]; exact J.nk
  have mw : (if Str.ofString "whole" = Str.ofString "told" then some (Value.ref q) else if Str.ofString "whole" = Str.ofString "cuts" then some (Value.ref r) else m (Str.ofString "whole")) = some (.ref wh) := by rw [if_neg (by decide), if_neg (by decide)]; exact J.nw
  -- the two questions
  refine wpAny_execs_cons (law_if1 (s := { s with heap := h₃, toks := tk₃, gens := gens₃ }) hN T₃ hh (by omega) hb₃ hn₃ mc (if_pos rfl) C₃ hg.small hc₃ hp₃ hs₂ hg.told fun h₄ tk₄ gens₄ hb₄ hk₄ => ?_)
  replace hk₄ : Keeps0 h₃ h₄ := hk₄
  refine wpAny_execs_cons (law_if2 (s := { s with heap := h₄, toks := tk₄, gens := gens₄ }) hN (T₃.keeps hk₄) (D₃.keeps hk₄) hh (by omega) hu hb₄ (hn₃.at fun o y => hk₄ _ o y) (if_pos rfl) (hc₃.keeps hk₄) (hp₃.at fun o y => hk₄ _ o y) hs₂ hg fun h₅ tk₅ gens₅ hb₅ hk₅ => ?_)
  replace hk₅ : Keeps0 h₄ h₅ := hk₅
  have k35 : Keeps0 h₃ h₅ := fun b o y => hk₅ b o (hk₄ b o y)
  have kp₅ : h₅.PlainList kp kv := kp₁.at fun o y => k35 _ o (hk₃ _ o ap.k2 (hk₂ _ o ap.k0 y))
  have wh₅ : h₅.PlainList wh wv.toArray := wh₁.at fun o y => k35 _ o (hk₃ _ o ap.w2 (hk₂ _ o ap.w0 y))
  have kz : kv.size ≤ 1000 := by rw [size_of ks1, List.length_map]; omega
  -- kept
  refine wpAny_execs_cons (law_kept (s := { s with heap := h₅, toks := tk₅, gens := gens₅ }) (hn₃.at fun o y => k35 _ o y) (if_pos rfl) mk (hc₃.keeps k35) (hp₃.at fun o y => k35 _ o y) hs₂ kp₅ kz hg fun h₆ tk₆ t₆ hp₆ hs₆ => ?_)
  replace hs₆ : Heap.SameBut kp h₅ h₆ := hs₆
  have K₆ : ∀ b o, Off L kp wh b → h₁.get? b = some o → h₆.get? b = some o := fun b o ho y => hs₆.extBut b o ho.2.2.2.1 (k35 b o (K₃ b o ho (K₂ b o ho y)))
  have C₆ := CM h₆ K₆
  have wh₆ : h₆.PlainList wh wv.toArray := wh₅.at fun o y => hs₆.extBut _ o (Ne.symm ap.kw) y
  -- whole
  refine wpAny_execs_cons (law_whole (s := { s with heap := h₆, toks := tk₆, gens := gens₅ }) hh hb₅ ((hn₃.at fun o y => k35 _ o y).sameBut hs₆ (Ne.symm ap.k0)) mc mw C₆ hg.small wh₆ (by simp; omega) fun h₇ tk₇ gens₇ q' wq hb₇ hk₇ hp₇ hq₇ hpq₇ hsq₇ => ?_)
  replace hk₇ : ∀ b o, b ≠ wh → h₆.get? b = some o → h₇.get? b = some o := hk₇
  replace hq₇ : h₆.get? q' = none := hq₇
  have hn₆ := (hn₃.at (h' := h₅) fun o y => k35 _ o y).sameBut hs₆ (Ne.symm ap.k0)
  have c1₆ : h₆.IsCell (L + 1) (some (.ref l)) := by obtain ⟨o, ho, e⟩ := c1₂; exact ⟨o, hs₆.extBut _ o (Ne.symm ap.k1) (k35 _ o (hk₃ _ o (Nat.ne_of_lt (by omega)) ho)), e⟩
  have c2₆ : h₆.IsCell (L + 2) (some (.int (placeF xs) tp)) := (hc₃.keeps k35).sameBut hs₆ (Ne.symm ap.k2)
  have qo' : Off L kp wh q' := by
    obtain ⟨o1, d1, _⟩ := c1₆
    obtain ⟨o2, d2, _⟩ := c2₆
    obtain ⟨n, k1⟩ := hp₆
    obtain ⟨n', k2⟩ := wh₆
    obtain ⟨o, _, _, ho, _⟩ := hn₆
    refine ⟨?_, ?_, ?_, ?_, ?_⟩ <;> intro e <;> rw [e] at hq₇
    · rw [ho] at hq₇; cases hq₇
    · rw [d1] at hq₇; cases hq₇
    · rw [d2] at hq₇; cases hq₇
    · rw [k1] at hq₇; cases hq₇
    · rw [k2] at hq₇; cases hq₇
  refine wpAny_execs_nil (h h₇ tk₇ gens₇ _ hb₇ ⟨hn₆.at fun o y => hk₇ _ o (Ne.symm ap.w0) y, mk, mw, ⟨some (.ref l), ?_⟩, ⟨some (.int (placeF xs) tp), ?_⟩, ⟨_, hp₆.at fun o y => hk₇ _ o ap.kw y, ?_⟩, wv ++ [.ref q'], ?_, ?_, ?_⟩ fun b o b1 b2 b3 b4 y => hk₇ b o b4 (hs₆.extBut b o b3 (k35 b o (hk₃ b o b2 (hk₂ b o b1 (hk₁ b o b1 y))))))
  · exact (let ⟨o, ho, e⟩ := c1₆; ⟨o, hk₇ _ o (Ne.symm ap.w1) ho, e⟩ : h₇.IsCell (L + 1) (some (.ref l)))
  · exact (let ⟨o, ho, e⟩ := c2₆; ⟨o, hk₇ _ o (Ne.symm ap.w2) ho, e⟩ : h₇.IsCell (L + 2) (some (.int (placeF xs) tp)))
  · rw [Array.toList_push, List.map_append]
    exact strs_app ks1 (.cons _ t₆ .nil)
  · have e : (wv ++ [Value.ref q']).toArray = wv.toArray.push (.ref q') := by simp
    rw [e]; exact hp₇
  · rw [List.length_append, List.length_append, w2]; rfl
  · intro j y hy
    rcases Nat.lt_trichotomy j wv.length with hj | hj | hj
    · rw [List.getElem?_append_left hj] at hy
      obtain ⟨q0, vs0, xs0, e1, e2, e3, e4, e5⟩ := w3 j y hy
      refine ⟨q0, vs0, xs0, e1, ?_, ?_, e4, e5⟩
      · rw [List.getElem?_append_left (by omega)]; exact e2
      · exact e3.at fun o y => hk₇ _ o e5.1.2.2.2.2 (K₆ _ o e5.1 (K₁ _ o e5.1 y))
    · subst hj
      rw [List.getElem?_append_right (Nat.le_refl _), Nat.sub_self] at hy
      cases hy
      exact ⟨q', wq, xs, rfl, by rw [w2, List.getElem?_append_right (Nat.le_refl _), Nat.sub_self]; rfl, hpq₇, hsq₇, qo', fun e => by obtain ⟨o, ho⟩ := hI; rw [e, K₆ _ _ hIo (K₁ _ _ hIo ho)] at hq₇; cases hq₇⟩
    · rw [List.getElem?_eq_none (by rw [List.length_append]; simp; omega)] at hy
      cases hy
end
end Mine
end

section
open PySem PySem.W PySem.SeqAt PyProof.Rows
set_option maxRecDepth 100000
set_option maxHeartbeats 4000000
namespace Mine
section
variable {w : World} {A : Around} {s : Shared} {E : Value → Shared → Prop} {mg mb : Str → Option Value}
theorem law_loop1 {L kp wh rl : Nat} {cd : Value} {m : Str → Option Value} {rings : List (List Str)} {rvs : List Value} {px : Pos} {R : Result → Shared → Prop} (hN : Nm mg mb)
    (tk1 : ∀ h', (∀ b o, b < L → s.heap.get? b = some o → h'.get? b = some o) → Tp mg mb h' ∧ DdAt h')
    (hh : A.handled = none) (hd : A.depth + 8 < recursionLimit) (hu : A.units + 1 < cLine) (hb : AllBare s.gens) (ap : Apart L kp wh) (hkL : L < kp) (hwL : L < wh)
    (J : ∀ iv, LJ L kp wh iv [] m s.heap) (hrl : s.heap.PlainList rl rvs.toArray) (hrlo : Off L kp wh rl) (hlen : rvs.length = rings.length) (hl9 : rings.length ≤ 900)
    (hrv : ∀ (j : Nat) y, rvs[j]? = some y → ∃ l vals xs, y = .ref l ∧ rings[j]? = some xs ∧ s.heap.IsList l vals ∧ StrsAre vals.toList xs ∧ Off L kp wh l ∧ Good xs)
    (hR : ∀ h' tk gens m' iv, AllBare gens → LJ L kp wh iv rings m' h' → (∀ b o, b < L → s.heap.get? b = some o → h'.get? b = some o) → R (.ok .next) { s with heap := h', toks := tk, gens := gens }) :
    wpAny (model P0 w) A (pyIter (.ref rl)) (fun it s₂ => codeAny (model P0 w) A (.forLoop (.Name (Str.ofString "ring") px) it loopB [] (lawE L cd)) R s₂) E s := by
  refine list_iter hrl.isList fun h₀ I hk₀ hI₁ hI₂ hz₀ hit => ?_
  replace hk₀ : Keeps0 s.heap h₀ := hk₀
  replace hI₁ : s.heap.objs.size ≤ I := hI₁
  have hIo : Off L kp wh I := low_off (J I).lt hI₁
  have hin : ∀ b o, s.heap.get? b = some o → b ≠ I := fun b o y => low_ne (Heap.lt_size y) hI₁
  have offlow : ∀ b, b < L → Off L kp wh b := fun b hb => ⟨by omega, by omega, by omega, by omega, by omega⟩
  refine codeAny_forLoop_any (fun c s' => ∃ h tk gens k m, s' = { s with heap := h, toks := tk, gens := gens } ∧ k ≤ rings.length ∧ c = rings.length + 1 - k ∧ LJ L kp wh I (rings.take k) m h ∧ h.IsListIter I rl k ∧ AllBare gens ∧
      (∀ b o, Off L kp wh b → b ≠ I → s.heap.get? b = some o → h.get? b = some o)) ?_ (rings.length + 1)
    ⟨h₀, s.toks, s.gens, 0, m, rfl, Nat.zero_le _, rfl, (J I).move hk₀, hit, hb, fun b o _ _ y => hk₀ b o y⟩
  rintro c s' ⟨h, tk, gens, k, m, rfl, hk, rfl, Jk, hit, hb, hkeep⟩
  have hrl' : h.IsList rl rvs.toArray := (hrl.at fun o y => hkeep _ o hrlo (hin _ o y) y).isList
  cases hv : rvs.toArray[k]? with
  | none =>
    have hsz : k = rings.length := by
      have h1 : rvs.length ≤ k := by simpa using hv
      omega
    refine wpAny_pyNext_list_end hh hit hrl' hv fun h₁ he₁ => wpAny_execs_nil ?_
    subst hsz
    rw [List.take_length] at Jk
    refine hR h₁ tk gens m I hb (Jk.step ap hIo (let ⟨v, o, ho, e⟩ := Jk.c1; ⟨v, o, he₁ _ o (Ne.symm hIo.2.1) ho, e⟩) fun b o b1 _ y => he₁ b o b1 y) fun b o hb y => he₁ b o (hin _ _ y) (hkeep b o (offlow b hb) (hin _ _ y) y)
  | some v =>
    have hv' : rvs[k]? = some v := by simpa using hv
    have hlt : k < rings.length := by
      have := (List.getElem?_eq_some_iff.mp hv').1
      omega
    obtain ⟨l, vals, xs, rfl, hxs, hl, hs, hlo, hg⟩ := hrv k v hv'
    refine wpAny_pyNext_list_item hit hrl' hv fun h₁ hit₁ hs₁ => ?_
    replace hs₁ : Heap.SameBut I h h₁ := hs₁
    show wpAny (model P0 w) A (pure ()) _ _ _
    refine wpAny_pure ?_
    obtain ⟨v1, c1⟩ := Jk.c1
    refine wpAny_assign_Name (wpAny_storeName_cell (c := L + 1) rfl rfl rfl (c1.sameBut hs₁ (Ne.symm hIo.2.1)) (fun h₂ hc₂ hs₂ => ?_))
    replace hs₂ : Heap.SameBut (L + 1) h₁ h₂ := hs₂
    have up : ∀ b o, b ≠ I → b ≠ L + 1 → h.get? b = some o → h₂.get? b = some o := fun b o b1 b2 y => hs₂.extBut b o b2 (hs₁.extBut b o b1 y)
    have J₂ : LJ L kp wh I (rings.take k) m h₂ := Jk.step ap hIo ⟨_, hc₂⟩ up
    have up₀ : ∀ b o, Off L kp wh b → b ≠ I → s.heap.get? b = some o → h₂.get? b = some o := fun b o ho hi y => up b o hi ho.2.1 (hkeep b o ho hi y)
    have tkl : ∀ h', (∀ b o, b < L → h₂.get? b = some o → h'.get? b = some o) → Tp mg mb h' ∧ DdAt h' := fun h' k => tk1 h' fun b o hb y => k b o hb (up₀ b o (offlow b hb) (hin _ _ y) y)
    obtain ⟨T₂, D₂⟩ := tkl h₂ fun b o _ y => y
    obtain ⟨oI, hoI, rI⟩ := id hit₁
    have hoI₂ : h₂.get? I = some oI := hs₂.extBut _ _ hIo.2.1 hoI
    refine law_turn (s := { s with heap := h₂, toks := _, gens := gens }) hN T₂ D₂ (fun h' k => tkl h' fun b o hb y => k b o (offlow b hb) y) hh hd hu hb ap J₂ ⟨_, hoI₂⟩ hIo (by rw [List.length_take]; omega) hc₂ (hl.at fun o y => up₀ _ o hlo (hin _ _ y) y) hlo hs hg fun h' tk' gens' m' hb' J' hk' => ?_
    replace hk' : ∀ b o, b ≠ L → b ≠ L + 2 → b ≠ kp → b ≠ wh → h₂.get? b = some o → h'.get? b = some o := hk'
    refine ⟨rings.length + 1 - (k + 1), by omega, h', tk', gens', k + 1, m', rfl, hlt, rfl, ?_, ⟨oI, hk' _ _ hIo.1 hIo.2.2.1 hIo.2.2.2.1 hIo.2.2.2.2 hoI₂, rI⟩, hb', fun b o ho hi y => hk' b o ho.1 ho.2.2.1 ho.2.2.2.1 ho.2.2.2.2 (up₀ b o ho hi y)⟩
    rw [List.take_succ, hxs]
    exact J'
end
end Mine
end

section
open PySem PySem.W PySem.SeqAt PyProof.Rows
set_option maxRecDepth 100000
set_option maxHeartbeats 4000000
namespace Mine
section
variable {w : World} {A : Around} {s : Shared} {E : Value → Shared → Prop} {mg mb : Str → Option Value}
/-- for xa, xb in zip(whole, kept): a turn changes nothing but law's own names -/
theorem zip_for {L l1 l2 : Nat} {cd : Value} {m : Str → Option Value} {xs ys : Array Value} {xa xb : Str} {pa pb pt p1 p2 p3 p4 : Pos} {tk0 : Nat} {body : List Stmt} {R : Result → Shared → Prop} (hN : Nm mg mb) (T : Tp mg mb s.heap) (hh : A.handled = none) (hb : AllBare s.gens)
    (hn : s.heap.Ns L m) (hm1 : m (Str.ofString "whole") = some (.ref l1)) (hm2 : m (Str.ofString "kept") = some (.ref l2)) (hl1 : s.heap.IsList l1 xs) (hl2 : s.heap.IsList l2 ys) (n1 : l1 ≠ L) (n2 : l2 ≠ L)
    (hka : (lawE L cd).kindOf xa = some .local) (hkb : (lawE L cd).kindOf xb = some .local)
    (PN : (Str → Option Value) → Prop) (hPN : ∀ m v1 v2, PN m → PN (fun z => if z = xb then some v2 else if z = xa then some v1 else m z)) (h0 : PN m) (hab : xa ≠ xb)
    (turn : ∀ (k : Nat) v1 v2, xs[k]? = some v1 → ys[k]? = some v2 → ∀ m h tk gens, PN m → m xa = some v1 → m xb = some v2 → h.Ns L m → (∀ b o, b ≠ L → s.heap.get? b = some o → h.get? b = some o) → AllBare gens →
      wpAny (model P0 w) A (execs body (lawE L cd)) (fun f s₂ => match f with
        | .next | .cont => ∃ h' tk' gens' m', s₂ = { s with heap := h', toks := tk', gens := gens' } ∧ AllBare gens' ∧ h'.Ns L m' ∧ PN m' ∧ ∀ b o, b ≠ L → h.get? b = some o → h'.get? b = some o
        | .brk => R (.ok .next) s₂
        | .ret v => R (.ok (.ret v)) s₂) (notedBy (model P0 w) A (lawE L cd) fun e s' => R (.error e) s') { s with heap := h, toks := tk, gens := gens })
    (done : ∀ m h tk gens, PN m → h.Ns L m → (∀ b o, b ≠ L → s.heap.get? b = some o → h.get? b = some o) → AllBare gens → R (.ok .next) { s with heap := h, toks := tk, gens := gens }) :
    wpAny (model P0 w) A (eval (.Call (.Name (Str.ofString "zip") p1) [.Name (Str.ofString "whole") p2, .Name (Str.ofString "kept") p3] [] p4) (lawE L cd)) (fun x s₁ => wpAny (model P0 w) A (pyIter x) (fun it s₂ =>
      codeAny (model P0 w) A (.forLoop (.Tuple [.Name xa pa, .Name xb pb] tk0 pt) it body [] (lawE L cd)) R s₂) E s₁) E s := by
  refine Call_Name rfl (ldB T.g hN.zip.1 T.b hN.zip.2 ?_ rfl rfl)
  refine PyProof.Rows.callWith_type1 (spliced_more (ldE hn hm1 ?_ rfl rfl))
  refine spliced_more (ldE hn hm2 (spliced_none ?_) rfl rfl)
  refine call_zip_2 hl1 hl2 fun h₁ hz hTI hTO hit1 hit2 hsz hk₁ => ?_
  replace hk₁ : Keeps0 s.heap h₁ := hk₁
  refine wpAny_pyIter_zip hz ?_
  have a1 : l1 < s.heap.objs.size := by obtain ⟨_, y, _⟩ := hl1; exact Heap.lt_size y
  have a2 : l2 < s.heap.objs.size := by obtain ⟨_, y, _⟩ := hl2; exact Heap.lt_size y
  have hLlt : L < s.heap.objs.size := hn.lt
  obtain ⟨fp, wr, St, Mid, W, hst, hLf, hwr⟩ : ∃ fp wr St Mid, WalksT P0 w A (s.heap.objs.size + 4) fp wr (min xs.size ys.size) (fun i vals => ∃ x y, xs[i]? = some x ∧ ys[i]? = some y ∧ vals = #[x, y]) St Mid ∧ St 0 h₁ ∧ L ∉ fp ∧ ∀ b o, s.heap.get? b = some o → b ∉ wr := by
    refine ⟨_, _, _, _, WalksT.zip2 (prog := P0) (w := w) (A := A) hh _ _ _ _ _ l1 l2 (zipApart_new a1 a2) xs ys, ⟨hz, hTI, ⟨_, _, hTO⟩, hit1, hit2, hl1.at fun o y => hk₁ _ o y, hl2.at fun o y => hk₁ _ o y⟩, ?_, fun b o y => ?_⟩
    · simp only [List.mem_cons, List.not_mem_nil, or_false, not_or]
      exact ⟨Nat.ne_of_lt (Nat.lt_add_right _ hLlt), Nat.ne_of_lt (Nat.lt_add_right _ hLlt), Nat.ne_of_lt (Nat.lt_add_right _ hLlt), Nat.ne_of_lt hLlt, Nat.ne_of_lt (Nat.lt_add_right _ hLlt), Ne.symm n1, Ne.symm n2⟩
    · have hb : b < s.heap.objs.size := Heap.lt_size y
      simp only [List.mem_cons, List.not_mem_nil, or_false, not_or]
      exact ⟨Nat.ne_of_lt (Nat.lt_add_right _ hb), Nat.ne_of_lt (Nat.lt_add_right _ hb), Nat.ne_of_lt hb, Nat.ne_of_lt (Nat.lt_add_right _ hb)⟩
  have hLw : L ∉ wr := fun hm => hLf (W.sub _ hm)
  clear hz hTI hTO hit1 hit2
  generalize s.heap.objs.size + 4 = I at W ⊢
  refine codeAny_forLoop_any (fun c s' => ∃ h tk gens k m, s' = { s with heap := h, toks := tk, gens := gens } ∧ k ≤ min xs.size ys.size ∧ c = min xs.size ys.size + 1 - k ∧ h.Ns L m ∧ PN m ∧ St k h ∧ AllBare gens ∧ (∀ b o, b ≠ L → s.heap.get? b = some o → h.get? b = some o)) ?_ (min xs.size ys.size + 1)
    ⟨h₁, s.toks, s.gens, 0, m, rfl, Nat.zero_le _, rfl, hn.at fun o y => hk₁ _ o y, h0, hst, hb, fun b o _ y => hk₁ b o y⟩
  rintro c s' ⟨h, tk, gens, k, m, rfl, hk, rfl, hns, hP, hst, hb, hkeep⟩
  by_cases hlt : k < min xs.size ys.size
  · refine W.item k _ _ _ hlt hst fun T vals h₁ tk₁ hPt hT hT₁ hM₁ hk₁ => ?_
    obtain ⟨v1, v2, e1, e2, rfl⟩ := hPt
    refine W.go _ _ _ k T { s with heap := h₁, toks := tk₁, gens := gens } _ _ hM₁ fun h₂ hS₂ hk₂ => ?_
    have hTw := W.apart _ _ _ hM₁
    replace hk₁ : ∀ b o, b ∉ wr → h.get? b = some o → h₁.get? b = some o := hk₁
    replace hk₂ : ∀ b o, b ∉ wr → h₁.get? b = some o → h₂.get? b = some o := hk₂
    have hT₂ : h₂.IsTuple T #[v1, v2] := hT₁.at fun o y => hk₂ _ o hTw y
    have hn₂ : h₂.Ns L m := hns.at fun o y => hk₂ _ o hLw (hk₁ _ o hLw y)
    refine wpAny_assign_Tuple (s := { s with heap := h₂, toks := tk₁, gens := gens }) (items := #[v1, v2]) hh hT₂ rfl rfl fun h₃ hx₃ => ?_
    replace hx₃ : Heap.ExtBut h₂.objs.size h₂ h₃ := hx₃
    have old₃ : ∀ b o, h₂.get? b = some o → h₃.get? b = some o := fun b o y => hx₃ b o (Nat.ne_of_lt (Heap.lt_size y)) y
    show wpAny (model P0 w) A (do holding [v2] (assign (.Name xa _) (lawE L cd) v1); do holding [] (assign (.Name xb _) (lawE L cd) v2); pure ()) _ _ _
    refine wpAny_bind (wpAny_holding (wpAny_assign_Name (wpAny_storeName_local hka (hn₂.at fun o y => old₃ _ o y) (fun h₄ hns₄ hs₄ => ?_) rfl)))
    replace hs₄ : Heap.SameBut L h₃ h₄ := hs₄
    refine wpAny_bind (wpAny_holding (wpAny_assign_Name (wpAny_storeName_local hkb hns₄ (fun h₅ hns₅ hs₅ => wpAny_pure ?_) rfl)))
    replace hs₅ : Heap.SameBut L h₄ h₅ := hs₅
    have up : ∀ b o, b ≠ L → h₂.get? b = some o → h₅.get? b = some o := fun b o hb y => hs₅.extBut b o hb (hs₄.extBut b o hb (old₃ b o y))
    have hS₅ : St (k + 1) h₅ := W.frame _ _ _ hS₂ fun b hb o y => up b o (fun e => hLf (e ▸ hb)) y
    refine wpAny_mono (turn k v1 v2 e1 e2 _ h₅ _ gens (hPN m v1 v2 hP) ?_ (if_pos rfl) hns₅ (fun b o hbL y => up b o hbL (hk₂ b o (hwr b o y) (hk₁ b o (hwr b o y) (hkeep b o hbL y)))) hb) (fun f s₂ hf => ?_) fun _ _ x => x
    · show (if _ then _ else if _ then _ else _) = _
      rw [if_neg hab, if_pos rfl]
    cases f with
    | brk => exact hf
    | ret v => exact hf
    | _ =>
      obtain ⟨h', tk', gens', m', e1, hb', hn', hP', hk'⟩ := hf
      exact ⟨min xs.size ys.size + 1 - (k + 1), by omega, h', tk', gens', k + 1, m', e1, hlt, rfl, hn', hP', W.frame _ _ _ hS₅ fun b hb o y => hk' b o (fun e => hLf (e ▸ hb)) y, hb', fun b o hbL y => hk' b o hbL (up b o hbL (hk₂ b o (hwr b o y) (hk₁ b o (hwr b o y) (hkeep b o hbL y))))⟩
  · have hkn : k = min xs.size ys.size := by omega
    subst hkn
    refine W.done _ _ _ hst fun h₁ tk₁ hk₁ => wpAny_execs_nil ?_
    exact done m h₁ tk₁ gens hP (hns.at fun o y => hk₁ _ o hLw y) (fun b o hbL y => hk₁ b o (hwr b o y) (hkeep b o hbL y)) hb
end
end Mine
end

section
open PySem PySem.W PySem.SeqAt PyProof.Rows
set_option maxRecDepth 100000
set_option maxHeartbeats 4000000
namespace Mine
def loop2 : Stmt := lawB[2]?.getD (.Pass default)
def loop2B : List Stmt := forB loop2
def loop3B : List Stmt := forB (loop2B[0]?.getD (.Pass default))
section
variable {w : World} {A : Around} {s : Shared} {E : Value → Shared → Prop} {mg mb : Str → Option Value}
theorem law_if3 {L l1 l2 : Nat} {cd : Value} {m : Str → Option Value} {vs1 vs2 : Array Value} {xs1 xs2 : List Str} {a b : Str} {ta tb : Tok} {Q : Flow → Shared → Prop} (hN : Nm mg mb)
    (tk1 : ∀ h', (∀ b o, b < L → s.heap.get? b = some o → h'.get? b = some o) → Tp mg mb h')
    (hh : A.handled = none) (hd : A.depth + 8 < recursionLimit) (hfr : A.frames = some [lawE L cd]) (hb : AllBare s.gens)
    (hn : s.heap.Ns L m) (m1 : m (Str.ofString "first") = some (.ref l1)) (m2 : m (Str.ofString "second") = some (.ref l2)) (m3 : m (Str.ofString "one") = some (.str a ta)) (m4 : m (Str.ofString "other") = some (.str b tb))
    (hl1 : s.heap.IsList l1 vs1) (hx1 : StrsAre vs1.toList xs1) (hn1 : xs1.length ≤ 1000) (hl2 : s.heap.IsList l2 vs2) (hx2 : StrsAre vs2.toList xs2) (hn2 : xs2.length ≤ 1000) (hg : cmpF xs1 xs2 = (a == b))
    (h : ∀ h' tk gens, AllBare gens → h'.Ns L m → (∀ b o, b ≠ L → s.heap.get? b = some o → h'.get? b = some o) → Q .next { s with heap := h', toks := tk, gens := gens }) :
    wpAny (model P0 w) A (execs loop3B (lawE L cd)) Q E s := by
  have T := tk1 s.heap fun b o _ y => y
  obtain ⟨o, pm, code, doc, ho, hdat, hc⟩ := T.f8
  show wpAny (model P0 w) A (execs (_ :: []) (lawE L cd)) Q E s
  refine wpAny_execs_cons (wpAny_If (wpAny_isTrue_Compare1 ?_))
  refine Call_Name rfl (ldG T.g hN.f8 ?_ rfl rfl)
  refine callWith_def hdat (spliced_more (ldE hn m1 ?_ rfl rfl))
  refine spliced_more (ldE hn m2 (spliced_none ⟨ho, ?_⟩) rfl rfl)
  have hst : (hideAll s.heap [L]).StaysIn s.heap := fun b o y => of_hideAll _ y
  have hkeepL : ∀ b o, b ≠ L → s.heap.get? b = some o → (hideAll s.heap [L]).get? b = some o := fun b o hb y => hideAll_get _ y (by simpa using hb)
  have Tb : Tp mg mb (hideAll s.heap [L]) := tk1 _ fun b o hb y => hkeepL b o (Nat.ne_of_lt hb) y
  have hff : s.heap.FunFrames (hideAll s.heap [L]) [lawE L cd] := by
    obtain ⟨oL, es, ep, hoL, hdL, _⟩ := id hn
    exact ⟨(by decide : (scopeOf (stAt 13)).kind ≠ .module), ⟨L, oL, rfl, hideAll_none _ (.head _), hoL, fun vs q => by rw [hdL] at q; cases q⟩, trivial⟩
  refine wpAny_call (cmp_spec (base := hideAll s.heap [L]) (outer := [lawE L cd]) hN hh (by omega) Tb hst (Nat.le_of_eq (hideAll_size _ _)) hff hfr hb hl1 hx1 hn1 hl2 hx2 hn2 fun h₁ tk₁ gens₁ hst₁ hff₁ hup₁ hb₁ => ?_)
  have hn₁ : h₁.Ns L m := hup₁.ns hn
  have k₁ : ∀ b o, b ≠ L → s.heap.get? b = some o → h₁.get? b = some o := fun b o hb y => hst₁ b o (hkeepL b o hb y)
  refine wpAny_Compare1 (ldE hn₁ m3 (ldE hn₁ m4 (PyProof.Rows.eq_str (PyProof.Rows.isnot_bool (wpAny_truthy_bool ?_))) rfl rfl) rfl rfl)
  rw [hg]
  have e : ((a == b) != (a == b)) = false := by simp
  rw [e, if_neg (by decide)]
  exact wpAny_execs_nil (wpAny_execs_nil (h h₁ tk₁ gens₁ hb₁ hn₁ k₁))
end
end Mine
end

section
open PySem PySem.W PySem.SeqAt PyProof.Rows
set_option maxRecDepth 100000
set_option maxHeartbeats 4000000
namespace Mine
structure Gath (L kp wh : Nat) (rings : List (List Str)) (kv : Array Value) (wv : List Value) (h : Heap) : Prop where
  k : h.PlainList kp kv
  ks : StrsAre kv.toList (rings.map keptOf)
  w : h.PlainList wh wv.toArray
  wl : ∀ (j : Nat) y, wv[j]? = some y → ∃ q vals xs, y = .ref q ∧ rings[j]? = some xs ∧ h.PlainList q vals ∧ StrsAre vals.toList (wholesOf xs) ∧ q ≠ L
theorem Gath.move {L kp wh : Nat} {rings : List (List Str)} {kv : Array Value} {wv : List Value} {h h' : Heap} (G : Gath L kp wh rings kv wv h) (hk : kp ≠ L) (hw : wh ≠ L) (k : ∀ b o, b ≠ L → h.get? b = some o → h'.get? b = some o) : Gath L kp wh rings kv wv h' :=
  ⟨G.k.at fun o y => k _ o hk y, G.ks, G.w.at fun o y => k _ o hw y, fun j y hy => let ⟨q, vals, xs, e1, e2, e3, e4, e5⟩ := G.wl j y hy; ⟨q, vals, xs, e1, e2, e3.at fun o y => k _ o e5 y, e4, e5⟩⟩
theorem wholes_len (xs : List Str) : (wholesOf xs).length = 6 := rfl
section
variable {w : World} {A : Around} {s : Shared} {E : Value → Shared → Prop} {mg mb : Str → Option Value}
theorem kept_at {rings : List (List Str)} {kv : Array Value} {k : Nat} {v : Value} {xs : List Str} (ks : StrsAre kv.toList (rings.map keptOf)) (hv : kv[k]? = some v) (hx : rings[k]? = some xs) : ∃ t, v = Value.str (keptOf xs) t := by
  obtain ⟨y, t, e1, e2⟩ := strs_get ks k v (by rw [Array.getElem?_toList]; exact hv)
  rw [List.getElem?_map, hx] at e1
  cases e1
  exact ⟨t, e2⟩
theorem law_loop3 {L kp wh q1 : Nat} {cd : Value} {m : Str → Option Value} {rings : List (List Str)} {kv : Array Value} {wv : List Value} {x1 : List Str} {v1 : Array Value} {t1 : Tok} {Q : Flow → Shared → Prop} (hN : Nm mg mb)
    (tk1 : ∀ h', (∀ b o, b < L → s.heap.get? b = some o → h'.get? b = some o) → Tp mg mb h')
    (hh : A.handled = none) (hd : A.depth + 8 < recursionLimit) (hfr : A.frames = some [lawE L cd]) (hb : AllBare s.gens) (hkL : kp ≠ L) (hwL : wh ≠ L)
    (hn : s.heap.Ns L m) (m1 : m (Str.ofString "first") = some (.ref q1)) (m2 : m (Str.ofString "one") = some (.str (keptOf x1) t1)) (m3 : m (Str.ofString "whole") = some (.ref wh)) (m4 : m (Str.ofString "kept") = some (.ref kp))
    (hq : q1 ≠ L) (hl1 : s.heap.PlainList q1 v1) (hs1 : StrsAre v1.toList (wholesOf x1)) (G : Gath L kp wh rings kv wv s.heap) (hg : ∀ x ∈ rings, cmpF (wholesOf x1) (wholesOf x) = (keptOf x1 == keptOf x))
    (h : ∀ h' tk gens m', AllBare gens → h'.Ns L m' → m' (Str.ofString "whole") = some (.ref wh) → m' (Str.ofString "kept") = some (.ref kp) → (∀ b o, b ≠ L → s.heap.get? b = some o → h'.get? b = some o) → Q .next { s with heap := h', toks := tk, gens := gens }) :
    wpAny (model P0 w) A (execs loop2B (lawE L cd)) Q E s := by
  have T := tk1 s.heap fun b o _ y => y
  show wpAny (model P0 w) A (execs (_ :: []) (lawE L cd)) Q E s
  refine wpAny_execs_cons (wpAny_For ?_)
  refine zip_for hN T hh hb hn m3 m4 G.w.isList G.k.isList hwL hkL rfl rfl (fun m => m (Str.ofString "first") = some (.ref q1) ∧ m (Str.ofString "one") = some (.str (keptOf x1) t1) ∧ m (Str.ofString "whole") = some (.ref wh) ∧ m (Str.ofString "kept") = some (.ref kp)) ?_ ⟨m1, m2, m3, m4⟩ (by decide) ?_ ?_
  · rintro m v1 v2 ⟨a1, a2, a3, a4⟩
    refine ⟨?_, ?_, ?_, ?_⟩ <;> show (if _ then _ else if _ then _ else _) = _ <;> rw [if_neg (by decide), if_neg (by decide)] <;> assumption
  · rintro k w1 w2 e1 e2 m h₁ tk gens ⟨a1, a2, a3, a4⟩ ma mb' hns hkp hb'
    obtain ⟨q2, v2, x2, rfl, f1, f2, f3, f4⟩ := G.wl k w1 (by simpa using e1)
    obtain ⟨t2, rfl⟩ := kept_at G.ks e2 f1
    have hx2 : x2 ∈ rings := List.mem_of_getElem? f1
    refine law_if3 (s := { s with heap := h₁, toks := tk, gens := gens }) hN (fun h' k => tk1 h' fun b o hb y => k b o hb (hkp b o (Nat.ne_of_lt hb) y)) hh hd hfr hb' hns a1 ma a2 mb' (hl1.at fun o y => hkp _ o hq y).isList hs1 (by rw [wholes_len]; decide) (f2.at fun o y => hkp _ o f4 y).isList f3 (by rw [wholes_len]; decide) (hg x2 hx2) fun h₂ tk₂ gens₂ hb₂ hn₂ hk₂ => ?_
    exact ⟨h₂, tk₂, gens₂, m, rfl, hb₂, hn₂, ⟨a1, a2, a3, a4⟩, hk₂⟩
  · rintro m h₁ tk gens ⟨a1, a2, a3, a4⟩ hns hkp hb'
    exact wpAny_execs_nil (h h₁ tk gens m hb' hns a3 a4 hkp)
theorem law_loop2 {L kp wh : Nat} {cd : Value} {m : Str → Option Value} {rings : List (List Str)} {kv : Array Value} {wv : List Value} {Q : Flow → Shared → Prop} (hN : Nm mg mb)
    (tk1 : ∀ h', (∀ b o, b < L → s.heap.get? b = some o → h'.get? b = some o) → Tp mg mb h')
    (hh : A.handled = none) (hd : A.depth + 8 < recursionLimit) (hfr : A.frames = some [lawE L cd]) (hb : AllBare s.gens) (hkL : kp ≠ L) (hwL : wh ≠ L)
    (hn : s.heap.Ns L m) (m3 : m (Str.ofString "whole") = some (.ref wh)) (m4 : m (Str.ofString "kept") = some (.ref kp))
    (G : Gath L kp wh rings kv wv s.heap) (hg : ∀ x ∈ rings, ∀ y ∈ rings, cmpF (wholesOf x) (wholesOf y) = (keptOf x == keptOf y))
    (h : ∀ h' tk gens, AllBare gens → (∀ b o, b ≠ L → s.heap.get? b = some o → h'.get? b = some o) → Q .next { s with heap := h', toks := tk, gens := gens }) :
    wpAny (model P0 w) A (exec loop2 (lawE L cd)) Q E s := by
  have T := tk1 s.heap fun b o _ y => y
  refine wpAny_For ?_
  refine zip_for hN T hh hb hn m3 m4 G.w.isList G.k.isList hwL hkL rfl rfl (fun m => m (Str.ofString "whole") = some (.ref wh) ∧ m (Str.ofString "kept") = some (.ref kp)) ?_ ⟨m3, m4⟩ (by decide) ?_ ?_
  · rintro m v1 v2 ⟨a3, a4⟩
    refine ⟨?_, ?_⟩ <;> show (if _ then _ else if _ then _ else _) = _ <;> rw [if_neg (by decide), if_neg (by decide)] <;> assumption
  · rintro k w1 w2 e1 e2 m h₁ tk gens ⟨a3, a4⟩ ma mb' hns hkp hb'
    obtain ⟨q2, v2, x2, rfl, f1, f2, f3, f4⟩ := G.wl k w1 (by simpa using e1)
    obtain ⟨t2, rfl⟩ := kept_at G.ks e2 f1
    have hx2 : x2 ∈ rings := List.mem_of_getElem? f1
    refine law_loop3 (s := { s with heap := h₁, toks := tk, gens := gens }) hN (fun h' k => tk1 h' fun b o hb y => k b o hb (hkp b o (Nat.ne_of_lt hb) y)) hh hd hfr hb' hkL hwL hns ma mb' a3 a4 f4 (f2.at fun o y => hkp _ o f4 y) f3 (G.move hkL hwL hkp) (fun y hy => hg x2 hx2 y hy) fun h₂ tk₂ gens₂ m₂ hb₂ hn₂ b3 b4 hk₂ => ?_
    exact ⟨h₂, tk₂, gens₂, m₂, rfl, hb₂, hn₂, ⟨b3, b4⟩, hk₂⟩
  · rintro m h₁ tk gens ⟨a3, a4⟩ hns hkp hb'
    exact h h₁ tk gens hb' hkp
end
end Mine
end

section
open PySem PySem.W PySem.SeqAt PyProof.Rows
set_option maxRecDepth 100000
set_option maxHeartbeats 4000000
namespace Mine
section
variable {w : World} {A : Around} {s : Shared} {E : Value → Shared → Prop} {mg mb : Str → Option Value}
theorem newList_sz {vs : List Value} {Q : Value → Shared → Prop} (hsz : vs.length ≤ 1000)
    (h : ∀ h' (r : Nat), Keeps0 s.heap h' → s.heap.objs.size ≤ r → r < h'.objs.size → h'.PlainList r vs.toArray → Q (.ref r) { s with heap := h' }) : wpAny (model P0 w) A (newList vs) Q E s :=
  wpAny_newObj_type (h _ s.heap.objs.size (fun b o y => Heap.get?_push_of_some _ y) (Nat.le_refl _) (by rw [Heap.size_push]; exact Nat.lt_succ_self _) ⟨0, Heap.get?_push_size _ rfl⟩) (by
    show vs.toArray.size ≤ sizeLine
    have : vs.toArray.size = vs.length := by simp
    rw [sizeLine_eq]; omega)
/-- kept, whole = [], [] -/
theorem law_start {L : Nat} {cd : Value} {h₀ : Heap} {m : Str → Option Value} {Q : Flow → Shared → Prop} (hh : A.handled = none) (F : Fr h₀ L s.heap m) (hc1 : s.heap.IsCell (L + 1) none) (hc2 : s.heap.IsCell (L + 2) none)
    (h : ∀ h' tk kp wh m', (∀ iv, LJ L kp wh iv [] m' h') → Apart L kp wh → L < kp → L < wh → (∀ x, x ≠ Str.ofString "kept" → x ≠ Str.ofString "whole" → m' x = m x) → (∀ b o, b ≠ L → s.heap.get? b = some o → h'.get? b = some o) → Q .next { s with heap := h', toks := tk }) :
    wpAny (model P0 w) A (exec (lawB[0]?.getD (.Pass default)) (lawE L cd)) Q E s := by
  refine Assign_Tuple_swapped (names := [Str.ofString "kept", Str.ofString "whole"]) (Tuple_ (spliced_more ?_))
  refine List_ (spliced_none (newList_sz (Nat.zero_le _) fun h₁ kp hk₁ k1 k2 hpk => ?_))
  replace hk₁ : Keeps0 s.heap h₁ := hk₁
  replace k1 : s.heap.objs.size ≤ kp := k1
  refine spliced_more (List_ (spliced_none (newList_sz (Nat.zero_le _) fun h₂ wh hk₂ w1 w2 hpw => ?_)))
  replace hk₂ : Keeps0 h₁ h₂ := hk₂
  replace w1 : h₁.objs.size ≤ wh := w1
  refine spliced_none ?_
  refine newTuple_any (vs := [.ref kp, .ref wh]) (Nat.le_of_ble_eq_true rfl) fun h₃ T hk₃ hT₁ hT => ?_
  replace hk₃ : Keeps0 h₂ h₃ := hk₃
  have htq : h₃.IsTuple T #[.ref kp, .ref wh] := ⟨_, hT, rfl, _, rfl⟩
  refine wpAny_unpackItems_tuple (items := #[.ref kp, .ref wh]) hh htq fun h₄ hx₄ => ?_
  replace hx₄ : Heap.ExtBut _ h₃ h₄ := hx₄
  have k4 : Keeps0 s.heap h₄ := fun b o y => hx₄ b o (Nat.ne_of_lt (Heap.lt_size (hk₃ _ _ (hk₂ _ _ (hk₁ _ _ y))))) (hk₃ _ _ (hk₂ _ _ (hk₁ _ _ y)))
  have hL : @LT.lt Nat _ L s.heap.objs.size := F.ns.lt
  have l1 : @LT.lt Nat _ (L + 1) s.heap.objs.size := hc1.lt
  have l2 : @LT.lt Nat _ (L + 2) s.heap.objs.size := hc2.lt
  replace k2 : @LT.lt Nat _ kp h₁.objs.size := k2
  have ap : Apart L kp wh := ⟨by omega, by omega, by omega, by omega, by omega, by omega, by omega⟩
  have hpk₄ : h₄.PlainList kp #[] := hpk.at fun o y => hx₄ _ o (Nat.ne_of_lt (Heap.lt_size (hk₃ _ _ (hk₂ _ _ y)))) (hk₃ _ _ (hk₂ _ _ y))
  have hpw₄ : h₄.PlainList wh #[] := hpw.at fun o y => hx₄ _ o (Nat.ne_of_lt (Heap.lt_size (hk₃ _ _ y))) (hk₃ _ _ y)
  refine aio_cons (wpAny_bindName (wpAny_storeName_local rfl (F.ns.at fun o y => k4 _ o y) (fun h₅ hn₅ hs₅ => ?_) rfl))
  replace hs₅ : Heap.SameBut L h₄ h₅ := hs₅
  refine aio_cons (wpAny_bindName (wpAny_storeName_local rfl hn₅ (fun h₆ hn₆ hs₆ => ?_) rfl))
  replace hs₆ : Heap.SameBut L h₅ h₆ := hs₆
  have up : ∀ b o, b ≠ L → h₄.get? b = some o → h₆.get? b = some o := fun b o hb y => hs₆.extBut b o hb (hs₅.extBut b o hb y)
  refine aio_nil (h h₆ _ kp wh _ (fun iv => ⟨hn₆, if_pos rfl, ?_, ⟨none, ?_⟩, ⟨none, ?_⟩, ⟨#[], hpk₄.at fun o y => up _ o ap.k0 y, .nil⟩, [], hpw₄.at fun o y => up _ o ap.w0 y, rfl, fun j y hy => by simp at hy⟩) ap (by omega) (by omega) (fun x h1 h2 => ?_) fun b o hb y => up b o hb (k4 b o y))
  · show (if _ then _ else if _ then _ else _) = _
    rw [if_neg (by decide), if_pos rfl]
  · exact (let ⟨o, ho, e⟩ := hc1; ⟨o, up _ o (Nat.ne_of_gt (Nat.lt_succ_self _)) (k4 _ o ho), e⟩ : h₆.IsCell (L + 1) none)
  · exact (let ⟨o, ho, e⟩ := hc2; ⟨o, up _ o (Nat.ne_of_gt (Nat.lt_succ_of_lt (Nat.lt_succ_self _))) (k4 _ o ho), e⟩ : h₆.IsCell (L + 2) none)
  · show (if _ then _ else if _ then _ else _) = _
    rw [if_neg h1, if_neg h2]
end
end Mine
end

section
open PySem PySem.W PySem.SeqAt PyProof.Rows
set_option maxRecDepth 100000
set_option maxHeartbeats 4000000
namespace Mine
/-- the plain law: the four rings of a ring -/
def Plain (y : List Str) : Prop := y.length = 6 ∧ (∀ x ∈ varsOf y, Good x) ∧ ∀ x ∈ varsOf y, ∀ z ∈ varsOf y, cmpF (wholesOf x) (wholesOf z) = (keptOf x == keptOf z)
theorem strs_six {vs : Array Value} {ys : List Str} (h : StrsAre vs.toList ys) (h6 : ys.length = 6) :
    ∃ y0 y1 y2 y3 y4 y5 t0 t1 t2 t3 t4 t5, ys = [y0, y1, y2, y3, y4, y5] ∧ vs = #[.str y0 t0, .str y1 t1, .str y2 t2, .str y3 t3, .str y4 t4, .str y5 t5] := by
  obtain ⟨l⟩ := vs
  replace h : StrsAre l ys := h
  cases h with
  | nil => cases h6
  | cons y0 t0 h => cases h with
    | nil => cases h6
    | cons y1 t1 h => cases h with
      | nil => cases h6
      | cons y2 t2 h => cases h with
        | nil => cases h6
        | cons y3 t3 h => cases h with
          | nil => cases h6
          | cons y4 t4 h => cases h with
            | nil => cases h6
            | cons y5 t5 h => cases h with
              | nil => exact ⟨_, _, _, _, _, _, _, _, _, _, _, _, rfl, rfl⟩
              | cons y6 t6 h => simp at h6
section
variable {w : World} {A : Around} {s : Shared} {E : Value → Shared → Prop} {mg mb : Str → Option Value}
/-- the rings: the for's source -/
theorem law_source {L l : Nat} {cd : Value} {m : Str → Option Value} {vs : Array Value} {p1 p2 p3 p4 p5 : Pos} {Q : Value → Shared → Prop} (hN : Nm mg mb) (T : Tp mg mb s.heap) (hh : A.handled = none) (hd : A.depth + 8 < recursionLimit) (hb : AllBare s.gens)
    (hn : s.heap.Ns L m) (hm : m (Str.ofString "script") = some (.ref l)) (hl : s.heap.IsList l vs) (hi : ∀ (i : Nat) v, vs[i]? = some v → ∃ z t, v = Value.int z t) (hsz : vs.size ≤ 1000)
    (plain : ∀ a b c d, a < 4 → b < 5 → c < 4 → d < 6 → Plain (mkRing a b c d))
    (h : ∀ h' tk gens rl (rvs : List Value) (rings : List (List Str)), AllBare gens → Keeps0 s.heap h' → h'.PlainList rl rvs.toArray → s.heap.get? rl = none → rvs.length = rings.length → rings.length ≤ 900 →
      (∀ (j : Nat) y, rvs[j]? = some y → ∃ l vals xs, y = .ref l ∧ rings[j]? = some xs ∧ h'.IsList l vals ∧ StrsAre vals.toList xs ∧ s.heap.get? l = none ∧ Good xs) →
      (∀ x ∈ rings, ∀ z ∈ rings, cmpF (wholesOf x) (wholesOf z) = (keptOf x == keptOf z)) → Q (.ref rl) { s with heap := h', toks := tk, gens := gens }) :
    wpAny (model P0 w) A (eval (.Call (.Name (Str.ofString "_law_rings") p1) [.Call (.Name (Str.ofString "_law_ring") p2) [.Name (Str.ofString "script") p3] [] p4] [] p5) (lawE L cd)) Q E s := by
  obtain ⟨o10, pm10, code10, doc10, ho10, hdat10, _⟩ := T.f10
  obtain ⟨o11, pm11, code11, doc11, ho11, hdat11, _⟩ := T.f11
  refine Call_Name rfl (ldG T.g hN.f11 ?_ rfl rfl)
  refine callWith_def hdat11 (spliced_more ?_)
  refine Call_Name rfl (ldG T.g hN.f10 ?_ rfl rfl)
  refine callWith_def hdat10 (spliced_more (ldE hn hm (spliced_none ⟨ho10, ?_⟩) rfl rfl))
  refine wpAny_call (ring_spec hN hh (by omega) T hb hl hi hsz fun h₁ tk₁ gens₁ r vals a b c d hk₁ hb₁ hr ha hb' hc hd' hp₁ hs₁ => ?_)
  replace hk₁ : Keeps0 s.heap h₁ := hk₁
  refine spliced_none ⟨hk₁ _ _ ho11, ?_⟩
  obtain ⟨h6, hg, h3⟩ := plain a b c d ha hb' hc hd'
  obtain ⟨y0, y1, y2, y3, y4, y5, t0, t1, t2, t3, t4, t5, e1, rfl⟩ := strs_six hs₁ h6
  rw [e1] at hg h3
  refine wpAny_call (rings_spec (s := { s with heap := h₁, toks := tk₁, gens := gens₁ }) hh (by omega) (T.keeps hk₁) hp₁ fun h₂ tk₂ rl a' b' c' hk₂ hrl hprl na pa nb pb nc pc => ?_)
  replace hk₂ : Keeps0 h₁ h₂ := hk₂
  have low : ∀ {x : Addr}, h₁.get? x = none → s.heap.get? x = none := fun {x} hx => by
    cases e : s.heap.get? x with
    | none => rfl
    | some o => exact absurd (hx.symm.trans (hk₁ _ _ e)) (by simp)
  refine h h₂ tk₂ gens₁ rl [.ref r, .ref a', .ref b', .ref c'] (varsOf [y0, y1, y2, y3, y4, y5]) hb₁ (fun b o y => hk₂ b o (hk₁ b o y)) hprl (low hrl) rfl (by show (4 : Nat) ≤ 900; decide) ?_ h3
  intro j y hy
  match j, hy with
  | 0, hy => cases hy; exact ⟨r, _, [y0, y1, y2, y3, y4, y5], rfl, rfl, (hp₁.at fun o y => hk₂ _ o y).isList, .cons _ _ (.cons _ _ (.cons _ _ (.cons _ _ (.cons _ _ (.cons _ _ .nil))))), hr, hg _ (.head _)⟩
  | 1, hy => cases hy; exact ⟨a', _, [y1, y2, y3, y4, y5, y0], rfl, rfl, pa.isList, .cons _ _ (.cons _ _ (.cons _ _ (.cons _ _ (.cons _ _ (.cons _ _ .nil))))), low na, hg _ (.tail _ (.head _))⟩
  | 2, hy => cases hy; exact ⟨b', _, [y1, y0, y2, y3, y4, y5], rfl, rfl, pb.isList, .cons _ _ (.cons _ _ (.cons _ _ (.cons _ _ (.cons _ _ (.cons _ _ .nil))))), low nb, hg _ (.tail _ (.tail _ (.head _)))⟩
  | 3, hy => cases hy; exact ⟨c', _, [y0, y1, y3, y2, y4, y5], rfl, rfl, pc.isList, .cons _ _ (.cons _ _ (.cons _ _ (.cons _ _ (.cons _ _ (.cons _ _ .nil))))), low nc, hg _ (.tail _ (.tail _ (.tail _ (.head _))))⟩
  | j + 4, hy => simp at hy
theorem law_spec {R : Result → Shared → Prop} {l : Nat} {vs : Array Value} (hN : Nm mg mb) (hh : A.handled = none) (hd : A.depth + 12 < recursionLimit) (hu : A.units + 10 < cLine) (hfr : A.frames = some []) (T : Tp mg mb s.heap) (D : DdAt s.heap) (F13 : FnAt s.heap 88 (stAt 13)) (hb : AllBare s.gens)
    (hl : s.heap.IsList l vs) (hi : ∀ (i : Nat) v, vs[i]? = some v → ∃ z t, v = Value.int z t) (hsz : vs.size ≤ 1000)
    (plain : ∀ a b c d, a < 4 → b < 5 → c < 4 → d < 6 → Plain (mkRing a b c d))
    (hR : ∀ h' tk gens, Keeps0 s.heap h' → AllBare gens → R (.ok (.ret (.bool true))) { s with heap := h', toks := tk, gens := gens }) :
    codeAny (model P0 w) A (.call (.ref 88) ⟨[.ref l], []⟩) R s := by
  obtain ⟨o, pm, code, doc, ho, hdat, hc⟩ := F13
  refine call_cells_ret (binds := [(Str.ofString "script", .ref l)]) (by omega) ho hdat T.nolimit hc rfl ?_ (fun h₁ tk F X => ?_) rfl rfl rfl
  · intro x hx
    rw [List.mem_singleton.mp hx]
    exact .inl (by decide +kernel : List.lookup (Str.ofString "script") (scopeOf (stAt 13)).names = some NameKind.local)
  have hc1 : h₁.IsCell (s.heap.objs.size + 1) none := X.cell (Str.ofString "ring") _ rfl
  have hc2 : h₁.IsCell (s.heap.objs.size + 2) none := X.cell (Str.ofString "place") _ rfl
  show wpAny (model P0 w) (A.deeper (lawE s.heap.objs.size code)) (execs (_ :: _ :: _ :: _ :: []) (lawE s.heap.objs.size code)) _ _ _
  refine wpAny_execs_cons (law_start (s := { s with heap := h₁, toks := tk }) hh F hc1 hc2 fun h₂ tk₂ kp wh m₂ J₂ ap hkL hwL hm₂ hk₂ => ?_)
  replace hk₂ : ∀ b o, b ≠ s.heap.objs.size → h₁.get? b = some o → h₂.get? b = some o := hk₂
  have old₂ : Keeps0 s.heap h₂ := fun b o y => hk₂ b o (Nat.ne_of_lt (Heap.lt_size y)) (F.keep b o y)
  have T₂ := T.keeps old₂
  refine wpAny_execs_cons (wpAny_For ?_)
  refine law_source (s := { s with heap := h₂, toks := tk₂ }) hN T₂ hh (by show A.depth + 1 + 8 < _; omega) hb (J₂ 0).ns ((hm₂ _ (by decide) (by decide)).trans rfl) (hl.at fun o y => old₂ _ o y) hi hsz plain fun h₃ tk₃ gens₃ rl rvs rings hb₃ hk₃ hrl hrn hlen hl9 hrv hg3 => ?_
  replace hk₃ : Keeps0 h₂ h₃ := hk₃
  have old₃ : Keeps0 s.heap h₃ := fun b o y => hk₃ b o (old₂ b o y)
  have tk1 : ∀ h', (∀ b o, b < s.heap.objs.size → h₃.get? b = some o → h'.get? b = some o) → Tp mg mb h' ∧ DdAt h' := fun h' k =>
    have kk : ∀ b o, s.heap.get? b = some o → h'.get? b = some o := fun b o y => k b o (Heap.lt_size y) (old₃ b o y)
    ⟨T.keeps kk, D.keeps kk⟩
  refine law_loop1 (s := { s with heap := h₃, toks := tk₃, gens := gens₃ }) hN tk1 hh (by show A.depth + 1 + 8 < _; omega) (by show A.units + 3 + 1 < _; omega) hb₃ ap hkL hwL (fun iv => (J₂ iv).move hk₃) hrl ((J₂ 0).off hrn) hlen hl9 (fun j y hy => ?_) fun h₄ tk₄ gens₄ m₄ iv hb₄ J₄ hk₄ => ?_
  · obtain ⟨l', vals, xs, e1, e2, e3, e4, e5, e6⟩ := hrv j y hy
    exact ⟨l', vals, xs, e1, e2, e3, e4, (J₂ 0).off e5, e6⟩
  replace hk₄ : ∀ b o, b < s.heap.objs.size → h₃.get? b = some o → h₄.get? b = some o := hk₄
  obtain ⟨kv, k1, k2⟩ := J₄.kept
  obtain ⟨wv, w1, w2, w3⟩ := J₄.whole
  refine wpAny_execs_cons (law_loop2 (s := { s with heap := h₄, toks := tk₄, gens := gens₄ }) (kv := kv) (wv := wv) hN (fun h' k => (tk1 h' fun b o hb y => k b o hb (hk₄ b o hb y)).1) hh (by show A.depth + 1 + 8 < _; omega) (Around.frames_deeper hfr) hb₄ ap.k0 ap.w0 J₄.ns J₄.nw J₄.nk ⟨k1, k2, w1, fun j y hy => ?_⟩ hg3 fun h₅ tk₅ gens₅ hb₅ hk₅ => ?_)
  · obtain ⟨q, vals, xs, e1, e2, e3, e4, e5, _⟩ := w3 j y hy
    exact ⟨q, vals, xs, e1, e2, e3, e4, e5.1⟩
  replace hk₅ : ∀ b o, b ≠ s.heap.objs.size → h₄.get? b = some o → h₅.get? b = some o := hk₅
  refine wpAny_execs_cons (wpAny_Return_some (wpAny_Constant_bool ?_))
  exact hR h₅ tk₅ gens₅ (fun b o y => hk₅ b o (Nat.ne_of_lt (Heap.lt_size y)) (hk₄ b o (Heap.lt_size y) (old₃ b o y))) hb₅
end
end Mine
end

section
open PySem PySem.W PyProof.Rows
set_option maxRecDepth 100000
set_option maxHeartbeats 4000000
namespace Mine
theorem str_beq (a b : Str) : (a == b) = (a.cps.toList == b.cps.toList) := by
  by_cases h : a = b
  · subst h; simp
  · have h2 : ¬ a.cps.toList = b.cps.toList := fun e => h (by
      obtain ⟨⟨x⟩⟩ := a
      obtain ⟨⟨y⟩⟩ := b
      replace e : x = y := e
      rw [e])
    rw [beq_eq_false_iff_ne.mpr h, beq_eq_false_iff_ne.mpr h2]
theorem one_beq (c d : Nat) : ((⟨#[c]⟩ : Str) == ⟨#[d]⟩) = (c == d) := by
  rw [str_beq]
  show ([c] == [d]) = (c == d)
  rw [List.cons_beq_cons]; simp
theorem two_beq (c d : Nat) : ((Str.ofString "\\" ++ ⟨#[c]⟩ : Str) == ⟨#[d]⟩) = false := by
  rw [str_beq]
  show ([92, c] == [d]) = false
  rw [List.cons_beq_cons]; simp
theorem s40 : Str.ofString "(" = ⟨#[40]⟩ := by decide
theorem s41 : Str.ofString ")" = ⟨#[41]⟩ := by decide
theorem s92 : Str.ofString "\\" = ⟨#[92]⟩ := by decide
/-- the scan over the signs themselves -/
def opnN (o : Int) (b : Bool) : List Nat → Option Int
  | [] => some o
  | c :: cs => if b = true then opnN o false cs else if (c == 92) = true then opnN o true cs
    else if (c == 40) = true then opnN (o + 1) false cs else if (c == 41) = true then (if o - 1 < 0 then none else opnN (o - 1) false cs) else opnN o false cs
theorem opn_esc : ∀ (l : List Nat) (o : Int) (i : Nat) (b : Bool), opn o (escL i b l) = opnN o b l
  | [], o, i, b => by
    cases b with
    | false => rfl
    | true =>
      show opn o [(i - 1, Str.ofString "\\")] = some o
      unfold opn
      rw [if_neg (by decide), if_neg (by decide)]
      rfl
  | c :: cs, o, i, true => by
    show opn o ((i, Str.ofString "\\" ++ ⟨#[c]⟩) :: escL (i + 1) false cs) = opnN o false cs
    unfold opn
    rw [s40, s41, two_beq, two_beq]
    rw [if_neg (by decide), if_neg (by decide)]
    exact opn_esc cs o (i + 1) false
  | c :: cs, o, i, false => by
    show opn o (if ((⟨#[c]⟩ : Str) == Str.ofString "\\") = true then escL (i + 1) true cs else (i, ⟨#[c]⟩) :: escL (i + 1) false cs) =
      if (c == 92) = true then opnN o true cs else if (c == 40) = true then opnN (o + 1) false cs else if (c == 41) = true then (if o - 1 < 0 then none else opnN (o - 1) false cs) else opnN o false cs
    rw [s92, one_beq]
    cases h92 : (c == 92) with
    | true =>
      rw [if_pos rfl, if_pos rfl]
      exact opn_esc cs o (i + 1) true
    | false =>
      rw [if_neg (by decide), if_neg (by decide)]
      unfold opn
      rw [s40, s41, one_beq, one_beq]
      rw [opn_esc cs (o + 1) (i + 1) false, opn_esc cs (o - 1) (i + 1) false, opn_esc cs o (i + 1) false]
def chkN (l : List Nat) : Bool := match opnN 0 false l with
  | none => false
  | some o => o == 0
theorem chk_eq (x : Str) : chk x = chkN (stripF x).cps.toList := by
  unfold chk chkN
  rw [opn_esc]
  try (cases opnN 0 false (stripF x).cps.toList <;> rfl)
theorem s34 : Str.ofString "\"" = ⟨#[34]⟩ := by decide
/-- the text without what stands in quotes, its signs -/
def stripN (x : Str) : List Nat := if (x.cps.toList.contains 34) = false then x.cps.toList else (stripF x).cps.toList
theorem stripN_eq (x : Str) : (stripF x).cps.toList = stripN x := by
  unfold stripN
  split
  · rename_i h
    unfold stripF
    rw [s34, StrLaws.found_one]
    have : decide (34 ∈ x.cps.toList) = false := by
      rw [decide_eq_false_iff_not]
      intro hm
      rw [List.contains_iff_mem.mpr hm] at h
      cases h
    rw [this, if_pos (by decide)]
  · rfl
def stqN (x : Str) (st : Nat) (op : Option Nat) (res : List Str) : List (Nat × Str) → Nat × List Str
  | [] => (st, res)
  | (p, c) :: r => if (c.cps.toList == [34]) = true then (match op with
      | none => stqN x st (some p) res r
      | some q => stqN x (p + 1) none (if st != q then res ++ [Txt.slice x (some (st : Int)) (some (q : Int))] else res) r)
    else stqN x st op res r
end Mine
end

section
open PySem PySem.W PyProof.Rows
set_option maxRecDepth 100000
set_option maxHeartbeats 4000000
namespace Mine
-- rings as lists of small signs: 0 for "(", 1 for ")", 2 for the piece that the menu gives
def insP (k : Nat) (y : Nat) (l : List Nat) : List Nat := l.take k ++ y :: l.drop k
def mkPat (a b d : Nat) : List Nat := insP d 2 (insP b 1 (insP a 1 [0, 0, 0]))
def piece (c : Nat) : Nat → Str
  | 0 => ⟨#[40]⟩
  | 1 => ⟨#[41]⟩
  | _ => match c with | 0 => ⟨#[34, 41, 34]⟩ | 1 => ⟨#[92, 40]⟩ | 2 => ⟨#[92, 34]⟩ | _ => ⟨#[97]⟩
def signs (c : Nat) (p : List Nat) : List Nat := p.flatMap fun s => (piece c s).cps.toList
def strP (c : Nat) (p : List Nat) : Str := ⟨(signs c p).toArray⟩
def cutP (p : List Nat) (k : Nat) : List Nat := p.drop k ++ p.take k
def deltaP (y : Nat) : Int := if y = 0 then 1 else if y = 1 then -1 else 0
def plcP (k : Nat) (p d lo : Int) : List Nat → Int
  | [] => p
  | y :: r => plcP (k + 1) (if d ≤ lo then (k : Int) else p) (d + deltaP y) (if d ≤ lo then d else lo) r
def placeP (p : List Nat) : Int := plcP 0 0 0 0 p
theorem insS_map (f : Nat → Str) (k y : Nat) (l : List Nat) : insS k (f y) (l.map f) = (insP k y l).map f := by
  unfold insS insP
  rw [List.map_append, List.map_cons, List.map_take, List.map_drop]
theorem menu_piece : ∀ c < 4, (menu[c]?).getD (Str.ofString "") = piece c 2 := by decide
theorem mkRing_pat (a b c d : Nat) (hc : c < 4) : mkRing a b c d = (mkPat a b d).map (piece c) := by
  unfold mkRing mkPat
  rw [menu_piece c hc, s40, s41]
  show insS d (piece c 2) (insS b (piece c 1) (insS a (piece c 1) ([0, 0, 0].map (piece c)))) = _
  rw [insS_map, insS_map, insS_map]
theorem cutK_map (f : Nat → Str) (p : List Nat) (k : Nat) : cutK (p.map f) k = (cutP p k).map f := by
  unfold cutK cutP
  rw [List.map_append, List.map_take, List.map_drop]
theorem join_signs : ∀ l : List Str, ((Str.ofString "").join l).cps.toList = l.flatMap (·.cps.toList)
  | [] => rfl
  | [x] => by simp [Str.join]
  | x :: y :: r => by
    show (x ++ Str.ofString "" ++ (Str.ofString "").join (y :: r)).cps.toList = _
    have ih := join_signs (y :: r)
    have e : (x ++ Str.ofString "" ++ (Str.ofString "").join (y :: r)).cps.toList = x.cps.toList ++ [] ++ ((Str.ofString "").join (y :: r)).cps.toList := by
      show (x.cps ++ #[] ++ ((Str.ofString "").join (y :: r)).cps).toList = _
      simp
    rw [e, ih, List.append_nil]; rfl
theorem joinS_piece (c : Nat) (p : List Nat) : joinS (p.map (piece c)) = strP c p := by
  have e : joinS (p.map (piece c)) = (Str.ofString "").join (p.map (piece c)) := by rw [← StrLaws.glued_eq_join]; rfl
  have h := join_signs (p.map (piece c))
  rw [← e, List.flatMap_map] at h
  unfold strP signs
  generalize joinS (p.map (piece c)) = x at h
  obtain ⟨⟨l⟩⟩ := x
  replace h : l = _ := h
  rw [h]
theorem delta_piece (c s : Nat) : delta (piece c s) = deltaP s := by
  match s with
  | 0 => unfold delta; rw [s40]; rfl
  | 1 => unfold delta; rw [s40, s41]; rfl
  | s + 2 =>
    match c with
    | 0 => unfold delta; rw [s40, s41]; rfl
    | 1 => unfold delta; rw [s40, s41]; rfl
    | 2 => unfold delta; rw [s40, s41]; rfl
    | c + 3 => unfold delta; rw [s40, s41]; rfl
theorem plc_piece (c : Nat) : ∀ (l : List Nat) (k : Nat) (p d lo : Int), plc k p d lo (l.map (piece c)) = plcP k p d lo l
  | [], _, _, _, _ => rfl
  | y :: r, k, p, d, lo => by
    show plc (k + 1) _ (d + delta (piece c y)) _ (r.map (piece c)) = plcP (k + 1) _ (d + deltaP y) _ r
    rw [delta_piece, plc_piece c r]
theorem place_piece (c : Nat) (p : List Nat) : placeF (p.map (piece c)) = placeP p := plc_piece c p 0 0 0 0
theorem piece_small (c s : Nat) : (piece c s).cps.size ≤ 20 := by
  match s with
  | 0 => show (1 : Nat) ≤ 20; decide
  | 1 => show (1 : Nat) ≤ 20; decide
  | s + 2 =>
    match c with
    | 0 => show (3 : Nat) ≤ 20; decide
    | 1 => show (2 : Nat) ≤ 20; decide
    | 2 => show (2 : Nat) ≤ 20; decide
    | c + 3 => show (1 : Nat) ≤ 20; decide
/-- the question to one cut -/
def okAt (c : Nat) (p : List Nat) (k : Nat) : Bool := chkN (stripN (strP c ((cutP p k).drop 1))) == decide ((k : Int) = placeP p) && !((signs c ((cutP p k).drop 1)) == badS.cps.toList)
def okP (c : Nat) (p : List Nat) : Bool := decide (p.length = 6) && decide (0 ≤ placeP p) && decide (placeP p < 6) && okAt c p 0 && okAt c p 1 && okAt c p 2 && okAt c p 3 && okAt c p 4 && okAt c p 5
theorem keep_of {c : Nat} {p : List Nat} {k : Nat} (h : okAt c p k = true) : keepS (joinS ((cutK (p.map (piece c)) k).drop 1)) = (if (k : Int) = placeP p then strP c ((cutP p k).drop 1) else badS) ∧ strP c ((cutP p k).drop 1) ≠ badS := by
  unfold okAt at h
  rw [Bool.and_eq_true, beq_iff_eq, Bool.not_eq_true', beq_eq_false_iff_ne] at h
  refine ⟨?_, fun e => h.2 (by rw [← e]; rfl)⟩
  rw [cutK_map, ← List.map_drop, joinS_piece]
  unfold keepS
  rw [chk_eq, stripN_eq, h.1]
  by_cases e : (k : Int) = placeP p
  · rw [if_pos e, if_pos (decide_eq_true e)]
  · rw [if_neg e, if_neg (by simpa using e)]
theorem keys_of {b t0 t1 t2 t3 t4 t5 : Str} {P : Int} (h0 : 0 ≤ P) (h6 : P < 6) (n0 : t0 ≠ b) (n1 : t1 ≠ b) (n2 : t2 ≠ b) (n3 : t3 ≠ b) (n4 : t4 ≠ b) (n5 : t5 ≠ b) (l : List Str)
    (hl : l = [if ((0 : Nat) : Int) = P then t0 else b, if ((1 : Nat) : Int) = P then t1 else b, if ((2 : Nat) : Int) = P then t2 else b, if ((3 : Nat) : Int) = P then t3 else b, if ((4 : Nat) : Int) = P then t4 else b, if ((5 : Nat) : Int) = P then t5 else b]) :
    ddF [] l = [(l[0]?).getD badS, (l[(max P 1).toNat]?).getD badS] := by
  have f : ∀ {x y : Str}, x ≠ y → (x == y) = false := fun h => beq_eq_false_iff_ne.mpr h
  obtain rfl | rfl | rfl | rfl | rfl | rfl : P = 0 ∨ P = 1 ∨ P = 2 ∨ P = 3 ∨ P = 4 ∨ P = 5 := by omega
  · subst hl; simp [ddF, f n0, f (Ne.symm n0)]; rfl
  · subst hl; simp [ddF, f n1, f (Ne.symm n1)]
  · subst hl; simp [ddF, f n2, f (Ne.symm n2)]; rfl
  · subst hl; simp [ddF, f n3, f (Ne.symm n3)]; rfl
  · subst hl; simp [ddF, f n4, f (Ne.symm n4)]; rfl
  · subst hl; simp [ddF, f n5, f (Ne.symm n5)]; rfl
theorem okP_split {c : Nat} {p : List Nat} (h : okP c p = true) : p.length = 6 ∧ 0 ≤ placeP p ∧ placeP p < 6 ∧ okAt c p 0 = true ∧ okAt c p 1 = true ∧ okAt c p 2 = true ∧ okAt c p 3 = true ∧ okAt c p 4 = true ∧ okAt c p 5 = true := by
  unfold okP at h
  simp only [Bool.and_eq_true, decide_eq_true_eq] at h
  obtain ⟨⟨⟨⟨⟨⟨⟨⟨h1, h2⟩, h3⟩, a0⟩, a1⟩, a2⟩, a3⟩, a4⟩, a5⟩ := h
  exact ⟨h1, h2, h3, a0, a1, a2, a3, a4, a5⟩
theorem tolds_pat {c : Nat} {p : List Nat} (h : okP c p = true) : toldsOf (p.map (piece c)) = [if ((0 : Nat) : Int) = placeP p then strP c ((cutP p 0).drop 1) else badS, if ((1 : Nat) : Int) = placeP p then strP c ((cutP p 1).drop 1) else badS, if ((2 : Nat) : Int) = placeP p then strP c ((cutP p 2).drop 1) else badS, if ((3 : Nat) : Int) = placeP p then strP c ((cutP p 3).drop 1) else badS, if ((4 : Nat) : Int) = placeP p then strP c ((cutP p 4).drop 1) else badS, if ((5 : Nat) : Int) = placeP p then strP c ((cutP p 5).drop 1) else badS] := by
  obtain ⟨_, _, _, a0, a1, a2, a3, a4, a5⟩ := okP_split h
  show [keepS (joinS ((cutK (p.map (piece c)) 0).drop 1)), keepS (joinS ((cutK (p.map (piece c)) 1).drop 1)), keepS (joinS ((cutK (p.map (piece c)) 2).drop 1)), keepS (joinS ((cutK (p.map (piece c)) 3).drop 1)), keepS (joinS ((cutK (p.map (piece c)) 4).drop 1)), keepS (joinS ((cutK (p.map (piece c)) 5).drop 1))] = _
  rw [(keep_of a0).1, (keep_of a1).1, (keep_of a2).1, (keep_of a3).1, (keep_of a4).1, (keep_of a5).1]
theorem expect_pat (c : Nat) (p : List Nat) (k : Nat) : expectAt (placeF (p.map (piece c))) k (cutK (p.map (piece c)) k) = if (k : Int) = placeP p then strP c ((cutP p k).drop 1) else badS := by
  unfold expectAt
  rw [place_piece, cutK_map, ← List.map_drop, joinS_piece]
theorem good_pat {c : Nat} {p : List Nat} (h : okP c p = true) : Good (p.map (piece c)) := by
  obtain ⟨h1, h2, h3, a0, a1, a2, a3, a4, a5⟩ := okP_split h
  have ht := tolds_pat h
  refine ⟨⟨by rw [List.length_map]; exact h1, fun y hy => ?_⟩, by rw [place_piece]; exact h2, by rw [place_piece]; exact h3, ?_, ?_⟩
  · obtain ⟨s, _, rfl⟩ := List.mem_map.mp hy
    exact piece_small c s
  · rw [ht]
    show _ = [expectAt (placeF (p.map (piece c))) 0 (cutK (p.map (piece c)) 0), expectAt (placeF (p.map (piece c))) 1 (cutK (p.map (piece c)) 1), expectAt (placeF (p.map (piece c))) 2 (cutK (p.map (piece c)) 2), expectAt (placeF (p.map (piece c))) 3 (cutK (p.map (piece c)) 3), expectAt (placeF (p.map (piece c))) 4 (cutK (p.map (piece c)) 4), expectAt (placeF (p.map (piece c))) 5 (cutK (p.map (piece c)) 5)]
    rw [expect_pat, expect_pat, expect_pat, expect_pat, expect_pat, expect_pat]
  · rw [place_piece]
    exact keys_of h2 h3 (keep_of a0).2 (keep_of a1).2 (keep_of a2).2 (keep_of a3).2 (keep_of a4).2 (keep_of a5).2 _ ht
def keptP (p : List Nat) : List Nat := (cutP p (placeP p).toNat).drop 1
theorem kept_pat {c : Nat} {p : List Nat} (h : okP c p = true) : keptOf (p.map (piece c)) = strP c (keptP p) := by
  obtain ⟨h1, h2, h3, _⟩ := okP_split h
  unfold keptOf keptP
  rw [tolds_pat h, place_piece]
  generalize placeP p = P at h2 h3
  obtain rfl | rfl | rfl | rfl | rfl | rfl : P = 0 ∨ P = 1 ∨ P = 2 ∨ P = 3 ∨ P = 4 ∨ P = 5 := by omega
  all_goals rfl
theorem wholes_pat (c : Nat) (p : List Nat) : wholesOf (p.map (piece c)) = ([0, 1, 2, 3, 4, 5].map (cutP p)).map (strP c) := by
  show [joinS (cutK (p.map (piece c)) 0), joinS (cutK (p.map (piece c)) 1), joinS (cutK (p.map (piece c)) 2), joinS (cutK (p.map (piece c)) 3), joinS (cutK (p.map (piece c)) 4), joinS (cutK (p.map (piece c)) 5)] = _
  rw [cutK_map, cutK_map, cutK_map, cutK_map, cutK_map, cutK_map, joinS_piece, joinS_piece, joinS_piece, joinS_piece, joinS_piece, joinS_piece]
  rfl
end Mine
end

section
open PySem PySem.W PyProof.Rows
set_option maxRecDepth 100000
set_option maxHeartbeats 4000000
namespace Mine
-- the comparison over lists of signs
def ddG (acc : List (List Nat)) : List (List Nat) → List (List Nat)
  | [] => acc
  | y :: r => ddG (if (!(acc.any (· == y))) = true then acc ++ [y] else acc) r
def rmvG (y : List Nat) : List (List Nat) → Option (List (List Nat))
  | [] => none
  | z :: r => if (z == y) = true then some r else (rmvG y r).map (z :: ·)
def rmAllG (t : List (List Nat)) : List (List Nat) → Option (List (List Nat))
  | [] => some t
  | y :: r => match rmvG y t with
    | none => none
    | some t' => rmAllG t' r
def cmpG (a b : List (List Nat)) : Bool := match rmAllG (ddG [] b) (ddG [] a) with
  | none => false
  | some t => t.isEmpty
section
variable {f : List Nat → Str} {V : List Nat → Prop} (hf : ∀ a b, V a → V b → (f a == f b) = (a == b))
include hf
theorem any_map {acc : List (List Nat)} {y : List Nat} (ha : ∀ x ∈ acc, V x) (hy : V y) : (acc.map f).any (· == f y) = acc.any (· == y) := by
  induction acc with
  | nil => rfl
  | cons x r ih =>
    rw [List.map_cons, List.any_cons, List.any_cons, hf x y (ha x (.head _)) hy, ih fun z hz => ha z (.tail _ hz)]
theorem dd_map : ∀ (l acc : List (List Nat)), (∀ x ∈ acc, V x) → (∀ x ∈ l, V x) → ddF (acc.map f) (l.map f) = (ddG acc l).map f ∧ ∀ x ∈ ddG acc l, V x
  | [], acc, ha, _ => ⟨rfl, ha⟩
  | y :: r, acc, ha, hl => by
    have hy := hl y (.head _)
    have hr := fun z hz => hl z (.tail _ hz)
    show ddF (if (!((acc.map f).any (· == f y))) = true then acc.map f ++ [f y] else acc.map f) (r.map f) = (ddG (if (!(acc.any (· == y))) = true then acc ++ [y] else acc) r).map f ∧ ∀ x ∈ ddG (if (!(acc.any (· == y))) = true then acc ++ [y] else acc) r, V x
    rw [any_map hf ha hy]
    split
    · have := dd_map r (acc ++ [y]) (fun x hx => by
        rcases List.mem_append.mp hx with hx | hx
        · exact ha x hx
        · rw [List.mem_singleton.mp hx]; exact hy) hr
      rw [List.map_append] at this
      exact this
    · exact dd_map r acc ha hr
theorem rmv_map {y : List Nat} (hy : V y) : ∀ (l : List (List Nat)), (∀ x ∈ l, V x) → rmv (f y) (l.map f) = (rmvG y l).map (List.map f) ∧ ∀ l', rmvG y l = some l' → ∀ x ∈ l', V x
  | [], _ => ⟨rfl, fun _ h => nomatch h⟩
  | z :: r, hl => by
    have hz := hl z (.head _)
    have hr := fun x hx => hl x (.tail _ hx)
    obtain ⟨i1, i2⟩ := rmv_map hy r hr
    show (if (f z == f y) = true then some (r.map f) else (rmv (f y) (r.map f)).map (f z :: ·)) = (if (z == y) = true then some r else (rmvG y r).map (z :: ·)).map (List.map f) ∧ ∀ l', (if (z == y) = true then some r else (rmvG y r).map (z :: ·)) = some l' → ∀ x ∈ l', V x
    rw [hf z y hz hy]
    split
    · exact ⟨rfl, fun l' h => by cases h; exact hr⟩
    · rw [i1]
      refine ⟨?_, fun l' h => ?_⟩
      · cases rmvG y r <;> rfl
      · cases q : rmvG y r with
        | none => rw [q] at h; cases h
        | some t =>
          rw [q] at h
          cases h
          intro x hx
          rcases List.mem_cons.mp hx with rfl | hx
          · exact hz
          · exact i2 t q x hx
theorem rmAll_map : ∀ (l t : List (List Nat)), (∀ x ∈ t, V x) → (∀ x ∈ l, V x) → rmAll (t.map f) (l.map f) = (rmAllG t l).map (List.map f)
  | [], t, _, _ => rfl
  | y :: r, t, ht, hl => by
    have hy := hl y (.head _)
    have hr := fun x hx => hl x (.tail _ hx)
    obtain ⟨i1, i2⟩ := rmv_map hf hy t ht
    show (match rmv (f y) (t.map f) with | none => none | some t' => rmAll t' (r.map f)) = (match rmvG y t with | none => none | some t' => rmAllG t' r).map (List.map f)
    rw [i1]
    cases q : rmvG y t with
    | none => rfl
    | some t' => exact rmAll_map r t' (i2 t' q) hr
theorem cmp_map (a b : List (List Nat)) (ha : ∀ x ∈ a, V x) (hb : ∀ x ∈ b, V x) : cmpF (a.map f) (b.map f) = cmpG a b := by
  obtain ⟨a1, a2⟩ := dd_map hf a [] (fun _ h => nomatch h) ha
  obtain ⟨b1, b2⟩ := dd_map hf b [] (fun _ h => nomatch h) hb
  unfold cmpF cmpG
  rw [List.map_nil] at a1 b1
  rw [a1, b1, rmAll_map hf _ _ b2 a2]
  cases rmAllG (ddG [] b) (ddG [] a) with
  | none => rfl
  | some t => show (t.map f).isEmpty = t.isEmpty; cases t <;> rfl
end
-- the texts of the signs are told apart
def Vp (p : List Nat) : Prop := ∀ s ∈ p, s ≤ 2
theorem signs_cons (c s : Nat) (r : List Nat) : signs c (s :: r) = (piece c s).cps.toList ++ signs c r := rfl
theorem head2 (c : Nat) : ∃ x l, (piece c 2).cps.toList = x :: l ∧ x ≠ 40 ∧ x ≠ 41 := by
  match c with
  | 0 => exact ⟨_, _, rfl, by decide, by decide⟩
  | 1 => exact ⟨_, _, rfl, by decide, by decide⟩
  | 2 => exact ⟨_, _, rfl, by decide, by decide⟩
  | c + 3 => exact ⟨_, _, rfl, by decide, by decide⟩
theorem signs_inj (c : Nat) : ∀ (p q : List Nat), Vp p → Vp q → signs c p = signs c q → p = q
  | [], [], _, _, _ => rfl
  | [], s :: r, _, hq, h => by
    exfalso
    obtain ⟨x, l, e, _⟩ := head2 c
    have hs := hq s (.head _)
    rw [signs_cons] at h
    obtain rfl | rfl | rfl : s = 0 ∨ s = 1 ∨ s = 2 := by omega
    · exact absurd h (by show [] ≠ 40 :: _; simp)
    · exact absurd h (by show [] ≠ 41 :: _; simp)
    · rw [e] at h; exact absurd h (by show [] ≠ x :: _; simp)
  | s :: r, [], hp, _, h => by
    exfalso
    obtain ⟨x, l, e, _⟩ := head2 c
    have hs := hp s (.head _)
    rw [signs_cons] at h
    obtain rfl | rfl | rfl : s = 0 ∨ s = 1 ∨ s = 2 := by omega
    · exact absurd h (by show 40 :: _ ≠ []; simp)
    · exact absurd h (by show 41 :: _ ≠ []; simp)
    · rw [e] at h; exact absurd h (by show x :: _ ≠ []; simp)
  | s :: r, s' :: r', hp, hq, h => by
    obtain ⟨x, l, e, n1, n2⟩ := head2 c
    have hs := hp s (.head _)
    have hs' := hq s' (.head _)
    have tl : signs c r = signs c r' → r = r' := signs_inj c r r' (fun z hz => hp z (.tail _ hz)) (fun z hz => hq z (.tail _ hz))
    rw [signs_cons, signs_cons] at h
    obtain rfl | rfl | rfl : s = 0 ∨ s = 1 ∨ s = 2 := by omega
    · obtain rfl | rfl | rfl : s' = 0 ∨ s' = 1 ∨ s' = 2 := by omega
      · rw [tl (List.append_cancel_left h)]
      · exact absurd (List.cons.inj h).1 (by decide)
      · rw [e] at h; exact absurd (List.cons.inj h).1.symm n1
    · obtain rfl | rfl | rfl : s' = 0 ∨ s' = 1 ∨ s' = 2 := by omega
      · exact absurd (List.cons.inj h).1 (by decide)
      · rw [tl (List.append_cancel_left h)]
      · rw [e] at h; exact absurd (List.cons.inj h).1.symm n2
    · obtain rfl | rfl | rfl : s' = 0 ∨ s' = 1 ∨ s' = 2 := by omega
      · rw [e] at h; exact absurd (List.cons.inj h).1 n1
      · rw [e] at h; exact absurd (List.cons.inj h).1 n2
      · rw [tl (List.append_cancel_left h)]
theorem strP_beq (c : Nat) (p q : List Nat) (hp : Vp p) (hq : Vp q) : (strP c p == strP c q) = (p == q) := by
  rw [str_beq]
  show (signs c p == signs c q) = (p == q)
  by_cases e : p = q
  · subst e; simp
  · rw [beq_eq_false_iff_ne.mpr e, beq_eq_false_iff_ne.mpr fun h => e (signs_inj c p q hp hq h)]
theorem Vp.cut {p : List Nat} (h : Vp p) (k : Nat) : Vp (cutP p k) := fun s hs => by
  rcases List.mem_append.mp hs with hs | hs
  · exact h s (List.mem_of_mem_drop hs)
  · exact h s (List.mem_of_mem_take hs)
theorem Vp.kept {p : List Nat} (h : Vp p) : Vp (keptP p) := fun s hs => h.cut _ s (List.mem_of_mem_drop hs)
def rotsP (p : List Nat) : List (List Nat) := [0, 1, 2, 3, 4, 5].map (cutP p)
def ok3 (p q : List Nat) : Bool := cmpG (rotsP p) (rotsP q) == (keptP p == keptP q)
theorem three_pat {c : Nat} {p q : List Nat} (hp : Vp p) (hq : Vp q) (o1 : okP c p = true) (o2 : okP c q = true) (h : ok3 p q = true) :
    cmpF (wholesOf (p.map (piece c))) (wholesOf (q.map (piece c))) = (keptOf (p.map (piece c)) == keptOf (q.map (piece c))) := by
  have rot : ∀ {p : List Nat}, Vp p → ∀ x ∈ rotsP p, Vp x := fun {p} hp x hx => by
    obtain ⟨k, _, rfl⟩ := List.mem_map.mp hx
    exact hp.cut k
  rw [kept_pat o1, kept_pat o2, wholes_pat, wholes_pat, strP_beq c _ _ hp.kept hq.kept]
  exact (cmp_map (V := Vp) (strP_beq c) _ _ (rot hp) (rot hq)).trans (beq_iff_eq.mp h)
-- all the rings
def row (a b : Nat) : List (List Nat) := [0, 1, 2, 3, 4, 5].map fun d => mkPat a b d
def pats : List (List Nat) := row 0 0 ++ (row 1 0 ++ (row 1 1 ++ (row 2 0 ++ (row 2 1 ++ (row 2 2 ++ (row 3 0 ++ (row 3 1 ++ (row 3 2 ++ (row 3 3)))))))))
def varsP : List Nat → List (List Nat)
  | [v0, v1, v2, v3, v4, v5] => [[v0, v1, v2, v3, v4, v5], [v1, v2, v3, v4, v5, v0], [v1, v0, v2, v3, v4, v5], [v0, v1, v3, v2, v4, v5]]
  | _ => []
theorem vars_map (f : Nat → Str) : ∀ (p : List Nat), p.length = 6 → varsOf (p.map f) = (varsP p).map (List.map f)
  | [v0, v1, v2, v3, v4, v5], _ => rfl
theorem pats_all : ∀ a < 4, ∀ b < 5, ∀ d < 6, pats.contains (mkPat a b d) = true := by decide +kernel
theorem pats_vars : (pats.all fun p => (varsP p).all fun q => pats.contains q) = true := by decide +kernel
theorem pats_six : (pats.all fun p => p.length == 6 && p.all (· ≤ 2)) = true := by decide +kernel
theorem pats_ok3 : (pats.all fun p => (varsP p).all fun q => (varsP p).all fun r => ok3 q r) = true := by decide +kernel
theorem ok_0_0_0 : ((row 0 0).all (okP 0)) = true := by decide +kernel
theorem ok_0_1_0 : ((row 1 0).all (okP 0)) = true := by decide +kernel
theorem ok_0_1_1 : ((row 1 1).all (okP 0)) = true := by decide +kernel
theorem ok_0_2_0 : ((row 2 0).all (okP 0)) = true := by decide +kernel
theorem ok_0_2_1 : ((row 2 1).all (okP 0)) = true := by decide +kernel
theorem ok_0_2_2 : ((row 2 2).all (okP 0)) = true := by decide +kernel
theorem ok_0_3_0 : ((row 3 0).all (okP 0)) = true := by decide +kernel
theorem ok_0_3_1 : ((row 3 1).all (okP 0)) = true := by decide +kernel
theorem ok_0_3_2 : ((row 3 2).all (okP 0)) = true := by decide +kernel
theorem ok_0_3_3 : ((row 3 3).all (okP 0)) = true := by decide +kernel
theorem ok_1_0_0 : ((row 0 0).all (okP 1)) = true := by decide +kernel
theorem ok_1_1_0 : ((row 1 0).all (okP 1)) = true := by decide +kernel
theorem ok_1_1_1 : ((row 1 1).all (okP 1)) = true := by decide +kernel
theorem ok_1_2_0 : ((row 2 0).all (okP 1)) = true := by decide +kernel
theorem ok_1_2_1 : ((row 2 1).all (okP 1)) = true := by decide +kernel
theorem ok_1_2_2 : ((row 2 2).all (okP 1)) = true := by decide +kernel
theorem ok_1_3_0 : ((row 3 0).all (okP 1)) = true := by decide +kernel
theorem ok_1_3_1 : ((row 3 1).all (okP 1)) = true := by decide +kernel
theorem ok_1_3_2 : ((row 3 2).all (okP 1)) = true := by decide +kernel
theorem ok_1_3_3 : ((row 3 3).all (okP 1)) = true := by decide +kernel
theorem ok_2_0_0 : ((row 0 0).all (okP 2)) = true := by decide +kernel
theorem ok_2_1_0 : ((row 1 0).all (okP 2)) = true := by decide +kernel
theorem ok_2_1_1 : ((row 1 1).all (okP 2)) = true := by decide +kernel
theorem ok_2_2_0 : ((row 2 0).all (okP 2)) = true := by decide +kernel
theorem ok_2_2_1 : ((row 2 1).all (okP 2)) = true := by decide +kernel
theorem ok_2_2_2 : ((row 2 2).all (okP 2)) = true := by decide +kernel
theorem ok_2_3_0 : ((row 3 0).all (okP 2)) = true := by decide +kernel
theorem ok_2_3_1 : ((row 3 1).all (okP 2)) = true := by decide +kernel
theorem ok_2_3_2 : ((row 3 2).all (okP 2)) = true := by decide +kernel
theorem ok_2_3_3 : ((row 3 3).all (okP 2)) = true := by decide +kernel
theorem ok_3_0_0 : ((row 0 0).all (okP 3)) = true := by decide +kernel
theorem ok_3_1_0 : ((row 1 0).all (okP 3)) = true := by decide +kernel
theorem ok_3_1_1 : ((row 1 1).all (okP 3)) = true := by decide +kernel
theorem ok_3_2_0 : ((row 2 0).all (okP 3)) = true := by decide +kernel
theorem ok_3_2_1 : ((row 2 1).all (okP 3)) = true := by decide +kernel
theorem ok_3_2_2 : ((row 2 2).all (okP 3)) = true := by decide +kernel
theorem ok_3_3_0 : ((row 3 0).all (okP 3)) = true := by decide +kernel
theorem ok_3_3_1 : ((row 3 1).all (okP 3)) = true := by decide +kernel
theorem ok_3_3_2 : ((row 3 2).all (okP 3)) = true := by decide +kernel
theorem ok_3_3_3 : ((row 3 3).all (okP 3)) = true := by decide +kernel
theorem ok_c0 : (pats.all (okP 0)) = true := by
  unfold pats
  rw [List.all_append, List.all_append, List.all_append, List.all_append, List.all_append, List.all_append, List.all_append, List.all_append, List.all_append]
  rw [ok_0_0_0, ok_0_1_0, ok_0_1_1, ok_0_2_0, ok_0_2_1, ok_0_2_2, ok_0_3_0, ok_0_3_1, ok_0_3_2, ok_0_3_3]
  rfl
theorem ok_c1 : (pats.all (okP 1)) = true := by
  unfold pats
  rw [List.all_append, List.all_append, List.all_append, List.all_append, List.all_append, List.all_append, List.all_append, List.all_append, List.all_append]
  rw [ok_1_0_0, ok_1_1_0, ok_1_1_1, ok_1_2_0, ok_1_2_1, ok_1_2_2, ok_1_3_0, ok_1_3_1, ok_1_3_2, ok_1_3_3]
  rfl
theorem ok_c2 : (pats.all (okP 2)) = true := by
  unfold pats
  rw [List.all_append, List.all_append, List.all_append, List.all_append, List.all_append, List.all_append, List.all_append, List.all_append, List.all_append]
  rw [ok_2_0_0, ok_2_1_0, ok_2_1_1, ok_2_2_0, ok_2_2_1, ok_2_2_2, ok_2_3_0, ok_2_3_1, ok_2_3_2, ok_2_3_3]
  rfl
theorem ok_c3 : (pats.all (okP 3)) = true := by
  unfold pats
  rw [List.all_append, List.all_append, List.all_append, List.all_append, List.all_append, List.all_append, List.all_append, List.all_append, List.all_append]
  rw [ok_3_0_0, ok_3_1_0, ok_3_1_1, ok_3_2_0, ok_3_2_1, ok_3_2_2, ok_3_3_0, ok_3_3_1, ok_3_3_2, ok_3_3_3]
  rfl
theorem ok_all : ∀ c < 4, ∀ p ∈ pats, okP c p = true := by
  intro c hc p hp
  obtain rfl | rfl | rfl | rfl : c = 0 ∨ c = 1 ∨ c = 2 ∨ c = 3 := by omega
  · exact List.all_eq_true.mp ok_c0 p hp
  · exact List.all_eq_true.mp ok_c1 p hp
  · exact List.all_eq_true.mp ok_c2 p hp
  · exact List.all_eq_true.mp ok_c3 p hp
theorem plain_all (a b c d : Nat) (ha : a < 4) (hb : b < 5) (hc : c < 4) (hd : d < 6) : Plain (mkRing a b c d) := by
  rw [mkRing_pat a b c d hc]
  have hp : mkPat a b d ∈ pats := List.contains_iff_mem.mp (pats_all a ha b hb d hd)
  generalize mkPat a b d = p at hp
  have h6 := List.all_eq_true.mp pats_six p hp
  rw [Bool.and_eq_true] at h6
  have hl : p.length = 6 := beq_iff_eq.mp h6.1
  have hv : ∀ q ∈ varsP p, q ∈ pats := fun q hq => List.contains_iff_mem.mp (List.all_eq_true.mp (List.all_eq_true.mp pats_vars p hp) q hq)
  have hV : ∀ q ∈ pats, Vp q := fun q hq s hs => by
    have h := List.all_eq_true.mp pats_six q hq
    rw [Bool.and_eq_true] at h
    exact of_decide_eq_true (List.all_eq_true.mp h.2 s hs)
  refine ⟨by rw [List.length_map]; exact hl, ?_, ?_⟩
  · rw [vars_map _ p hl]
    intro x hx
    obtain ⟨q, hq, rfl⟩ := List.mem_map.mp hx
    exact good_pat (ok_all c hc q (hv q hq))
  · rw [vars_map _ p hl]
    intro x hx z hz
    obtain ⟨q, hq, rfl⟩ := List.mem_map.mp hx
    obtain ⟨r, hr, rfl⟩ := List.mem_map.mp hz
    exact three_pat (hV q (hv q hq)) (hV r (hv r hr)) (ok_all c hc q (hv q hq)) (ok_all c hc r (hv r hr)) (List.all_eq_true.mp (List.all_eq_true.mp (List.all_eq_true.mp pats_ok3 p hp) q hq) r hr)
end Mine
end

section
open PySem PySem.W PySem.SeqAt PyProof.Rows
set_option maxRecDepth 100000
set_option maxHeartbeats 4000000
namespace Mine
theorem ints_int {vs : List Value} {zs : List Int} (h : IntsAre vs zs) : ∀ (i : Nat) v, vs[i]? = some v → ∃ z t, v = Value.int z t := by
  induction h with
  | nil => intro i v hv; simp at hv
  | cons z t _ ih =>
    intro i v hv
    cases i with
    | zero => cases hv; exact ⟨_, _, rfl⟩
    | succ i => exact ih i v hv
theorem ints_len {vs : List Value} {zs : List Int} (h : IntsAre vs zs) : vs.length = zs.length := by
  induction h with
  | nil => rfl
  | cons z t _ ih => rw [List.length_cons, List.length_cons, ih]
theorem ns_val {K : Frag} {h : Heap} {N : Addr} {m : Str → Option Value} {n : Str} {v : Value} {o : Obj} {es : Array DictEntry} {ep : Nat} (X : K.In h) (G : h.Ns N m) (hl : K.lookup N = some o) (hd : o.data = .dict es ep) (e : nsFind es n = some v) : m n = some v := by
  obtain ⟨o', es', ep', ho, hd', _, hf⟩ := G
  have := X _ _ hl
  rw [ho] at this
  cases this
  rw [hd] at hd'
  cases hd'
  rw [← hf]
  exact e
end Mine
end

open PySem PySem.W PySem.SeqAt PyProof.Rows Mine
set_option maxRecDepth 100000 in
set_option maxHeartbeats 8000000 in
theorem PySem.Challenge.cw_ny0072_01_holds : PySem.Challenge.rw_ny0072_01.Holds := by
  w_on
  o_law
  k_head
  (case hw => w_witness2)
  k_fill
  intro w s₀ s₁ mg mb G Y fa o pm cd doc dV kV ho hd hcd hD hmg hg args vals as hpre hlay hrd hwl hlo
  have KX := kIn_of Y
  refine Ground.open G ?_
  intro T B D TE TW
  wrow_args hpre hlay hrd hwl hlo
  all_goals (refine enter_call ?_)
  clear hd Y B D TE TW hcd hD
  rename_i zs _ _ _ _ _ _ _ l vsl _ hl _ _ _ hI _ hlen _
  have e88 := mg_of (n := Str.ofString "law") (v := .ref 88) KX T.g (by kernel_rfl)
  have efa : fa = 88 := by
    have := hmg.symm.trans e88
    exact Value.ref.inj (Option.some.inj this)
  subst efa
  have f1 : FnAt s₁.heap 21 (stAt 1) := ⟨_, _, _, _, KX 21 _ rfl, rfl, codeRec_of KX (by kernel_rfl)⟩
  have f2 : FnAt s₁.heap 28 (stAt 2) := ⟨_, _, _, _, KX 28 _ rfl, rfl, codeRec_of KX (by kernel_rfl)⟩
  have f3 : FnAt s₁.heap 35 (stAt 3) := ⟨_, _, _, _, KX 35 _ rfl, rfl, codeRec_of KX (by kernel_rfl)⟩
  have f4 : FnAt s₁.heap 42 (stAt 4) := ⟨_, _, _, _, KX 42 _ rfl, rfl, codeRec_of KX (by kernel_rfl)⟩
  have f7 : FnAt s₁.heap 57 (stAt 7) := ⟨_, _, _, _, KX 57 _ rfl, rfl, codeRec_of KX (by kernel_rfl)⟩
  have f8 : FnAt s₁.heap 64 (stAt 8) := ⟨_, _, _, _, KX 64 _ rfl, rfl, codeRec_of KX (by kernel_rfl)⟩
  have f10 : FnAt s₁.heap 69 (stAt 10) := ⟨_, _, _, _, KX 69 _ rfl, rfl, codeRec_of KX (by kernel_rfl)⟩
  have f11 : FnAt s₁.heap 76 (stAt 11) := ⟨_, _, _, _, KX 76 _ rfl, rfl, codeRec_of KX (by kernel_rfl)⟩
  have f12 : FnAt s₁.heap 83 (stAt 12) := ⟨_, _, _, _, KX 83 _ rfl, rfl, codeRec_of KX (by kernel_rfl)⟩
  have f13 : FnAt s₁.heap 88 (stAt 13) := ⟨_, _, _, _, KX 88 _ rfl, rfl, codeRec_of KX (by kernel_rfl)⟩
  have d6 : DdAt s₁.heap := by
    refine ⟨_, _, _, _, _, s₁.heap.nsMap 43, KX 50 _ rfl, rfl, codeRec_of KX (by kernel_rfl), .of_isNs (isNs_of_in KX (by kernel_rfl)), ?_⟩
    exact ns_val KX (.of_isNs (isNs_of_in KX (by kernel_rfl))) rfl rfl (by kernel_rfl)
  have hN : Nm mg mb := by
    refine ⟨⟨mg_none_of KX T.g (by kernel_rfl), (T.builtins _ (by decide)).trans (by kernel_rfl)⟩, ⟨mg_none_of KX T.g (by kernel_rfl), (T.builtins _ (by decide)).trans (by kernel_rfl)⟩, ⟨mg_none_of KX T.g (by kernel_rfl), (T.builtins _ (by decide)).trans (by kernel_rfl)⟩, ⟨mg_none_of KX T.g (by kernel_rfl), (T.builtins _ (by decide)).trans (by kernel_rfl)⟩, ⟨mg_none_of KX T.g (by kernel_rfl), (T.builtins _ (by decide)).trans (by kernel_rfl)⟩, ⟨mg_none_of KX T.g (by kernel_rfl), (T.builtins _ (by decide)).trans (by kernel_rfl)⟩, ⟨mg_none_of KX T.g (by kernel_rfl), (T.builtins _ (by decide)).trans (by kernel_rfl)⟩, ⟨mg_none_of KX T.g (by kernel_rfl), (T.builtins _ (by decide)).trans (by kernel_rfl)⟩, ⟨mg_none_of KX T.g (by kernel_rfl), (T.builtins _ (by decide)).trans (by kernel_rfl)⟩,
      mg_of KX T.g (by kernel_rfl), mg_of KX T.g (by kernel_rfl), mg_of KX T.g (by kernel_rfl), mg_of KX T.g (by kernel_rfl), mg_of KX T.g (by kernel_rfl), mg_of KX T.g (by kernel_rfl), mg_of KX T.g (by kernel_rfl), mg_of KX T.g (by kernel_rfl), mg_of KX T.g (by kernel_rfl), mg_of KX T.g (by kernel_rfl)⟩
  have hT : Tp mg mb s₁.heap := ⟨T.g, T.b, T.nolimit, f1, f2, f3, f4, f7, f8, f10, f11, f12⟩
  have hlen' : zs.length ≤ 63 := by omega
  have hb : AllBare s₁.gens := .of_eq hg
  refine law_spec (s := s₁) (A := callerA) hN rfl (by decide) (by decide) rfl hT d6 f13 hb hl (fun i v hv => ints_int hI i v (by simpa using hv)) (by have := ints_len hI; simp; omega) plain_all fun h' tk gens hk hbg => ?_
  refine ⟨.inl ⟨_, _, _, rfl, ?_, .bool true, ?_, ?_⟩, .of_keep hk, rfl, hbg⟩
  · intro cls; rfl
  · first | rfl | kernel_rfl
  · exact fun _ => ⟨List.nodup_nil, fun a ha => nomatch ha⟩
