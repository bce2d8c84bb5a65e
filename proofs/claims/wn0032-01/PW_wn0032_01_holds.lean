import PyProof.Rows.All
import Wide.All
import OpenK.AllK
import Wide.FinOn
import PySem.Challenge.RW_wn0032_01
set_option Elab.async false
set_option maxRecDepth 100000
set_option maxHeartbeats 8000000
namespace Mine
section
open PySem PySem.W PyProof.Rows
open_top hd for PySem.Challenge.rw_wn0032_01
end
end Mine

/-! part: Base -/
namespace Mine
section
open PySem PySem.W PySem.Calls PySem.Spec PyProof.Rows
def Keeps (h h' : Heap) : Prop := ∀ b o, h.get? b = some o → h'.get? b = some o
theorem Keeps.trans {a b c : Heap} (x : Keeps a b) (y : Keeps b c) : Keeps a c := fun _ _ e => y _ _ (x _ _ e)
theorem Keeps.refl {a : Heap} : Keeps a a := fun _ _ e => e

theorem frOn {h₀ h h' : Heap} {L : Addr} {m : Str → Option Value} (F : Fr h₀ L h m) (k : Keeps h h') : Fr h₀ L h' m :=
  let ⟨oL, es, ep, a, b, c, d⟩ := F.ns
  ⟨⟨oL, es, ep, k _ _ a, b, c, d⟩, fun b o e => k _ _ (F.keep b o e), F.above⟩
theorem newsOn {h₀ h h' : Heap} {L : Addr} {news : List (Addr × Obj)} (N : News h₀ L h news) (k : Keeps h h') : News h₀ L h' news :=
  fun p hp => ⟨k _ _ (N p hp).1, (N p hp).2⟩
theorem listOn {h h' : Heap} {l : Addr} {vs : Array Value} (N : h.IsList l vs) (k : Keeps h h') : h'.IsList l vs :=
  let ⟨o, a, b⟩ := N; ⟨o, k _ _ a, b⟩

/-- a place in the run from which the text's functions may be called -/
structure Site (w : World) (cs : Scope) (outer : List Env) (L : Addr) (h : Heap) : Prop where
  ex : ∃ (p : Program) (loose : List Str) (mean : ExcName → Option Value) (mg mb : Str → Option Value) (A₀ : Around) (base h₀ : Heap) (m : Str → Option Value),
    Below A₀ base outer h₀ ∧ Fr h₀ L h m ∧ (hd.heap_39 w.params).In h₀ ∧ Top p loose mean mg mb h₀
  fn : cs.kind = .function

theorem Site.on {w : World} {cs : Scope} {outer : List Env} {L : Addr} {h h' : Heap} (S : Site w cs outer L h) (k : Keeps h h') : Site w cs outer L h' :=
  let ⟨p, loose, mean, mg, mb, A₀, base, h₀, m, B, F, X, T⟩ := S.ex
  ⟨⟨p, loose, mean, mg, mb, A₀, base, h₀, m, B, frOn F k, X, T⟩, S.fn⟩

theorem Site.of {w : World} {cs : Scope} {outer : List Env} {L : Addr} {h h₀ base : Heap} {A₀ : Around} {m mg mb : Str → Option Value} {p : Program} {loose : List Str} {mean : ExcName → Option Value}
    (B : Below A₀ base outer h₀) (F : Fr h₀ L h m) (X : (hd.heap_39 w.params).In h₀) (T : Top p loose mean mg mb h₀) (hk : cs.kind = .function) : Site w cs outer L h :=
  ⟨⟨p, loose, mean, mg, mb, A₀, base, h₀, m, B, F, X, T⟩, hk⟩

theorem fillK : PySem.Challenge.rw_wn0032_01.prog = PySem.Challenge.rw_wn0032_01.prog ∧ hd.heap_39 = hd.heap_39 := by
  k_fill
  exact ⟨rfl, rfl⟩

section
variable {w : World} {A A₀ : Around} {E : Value → Shared → Prop} {s : Shared} {L : Addr} {h₀ base : Heap} {m mg mb : Str → Option Value} {news : List (Addr × Obj)} {p : Program} {loose : List Str} {mean : ExcName → Option Value} {Q : Value → Shared → Prop} {prog : Program} {K : Frag} {env : Env} {outer : List Env}

/-- what a pure call leaves behind -/
def Ret (s : Shared) (Q : Value → Shared → Prop) (v : Tok → Value) : Prop :=
  ∀ (t : Tok) (h' : Heap) (tk' : Nat), Keeps s.heap h' → Q (v t) { s with heap := h', toks := tk' }
theorem Ret.now {s s' : Shared} {Q : Value → Shared → Prop} {v : Tok → Value} {u : Value} {t : Tok} {L : Addr} {m : Str → Option Value} (R : Ret s Q v) (F : Fr s.heap L s'.heap m) (e : u = v t) (hs : s' = { s with heap := s'.heap, toks := s'.toks }) : Q u s' := by
  rw [e, hs]; exact R t _ _ F.keep

/-- what is asked of a def's names before its frame is laid: no cells, no generator, its arguments are its own -/
def plainDef (sc : Scope) (bs : List (Str × Value)) : Bool :=
  (!sc.isCoroutine && !sc.isGenerator) && ((sc.kind == .function && sc.names.all fun y => !(y.2 == .cell)) && bs.all fun y => sc.names.lookup y.1 == some .local)

/-- a plain def called from a site: its body runs over the caller's heap, which stands whole beneath the new frame -/
theorem Site.enter {dp un : Nat} {gd : Option (List Code)} {cn : Str} {cs : Scope} {a : Addr} {ccd : Value} {cl : List (Str × Addr)} {R : Result → Shared → Prop} {fname qual : Str} {ps : Arguments} {body : List Stmt} {sc : Scope} {dV kV doc pm cd ct oc : Value} {an od : Option Addr} {osl : Array (Option Value)} {f : Addr} {args : Args} {bs : List (Str × Value)}
    (S : Site w cs outer L s.heap) (isFn : (hd.heap_39 w.params).lookup f = some ⟨oc, od, .func (fnOf fname qual ps body sc dV kV doc pm an cd ct), osl⟩)
    (isCode : codeIn (hd.heap_39 w.params) cd qual = true) (room : dp < recursionLimit) (takes : BindsTo s (fnOf fname qual ps body sc dV kV doc pm an cd ct) args bs) (plain : plainDef sc bs = true)
    (go : ∀ p loose mean mg mb base M h', Fr s.heap M h' (fun y => bs.reverse.lookup y) → News s.heap M h' [] → Below (ktrTop dp un gd cn cs L a ccd cl outer) base (envX cn cs L a ccd cl :: outer) s.heap → (hd.heap_39 w.params).In s.heap → Top p loose mean mg mb s.heap →
      wpAny (model prog w) ((ktrTop dp un gd cn cs L a ccd cl outer).deeper (envOf qual sc M f cd)) (execs body (envOf qual sc M f cd))
        (fun o s₁ => R (.ok (.ret (match o with | .ret v => v | _ => .none))) s₁)
        (fun x s₁ => wpAny (model prog w) ((ktrTop dp un gd cn cs L a ccd cl outer).deeper (envOf qual sc M f cd)) (leaving (envOf qual sc M f cd) x) (fun _ s₂ => R (.error x) s₂) (fun y s₂ => R (.error y) s₂) s₁)
        { s with heap := h', toks := s.toks + bs.length }) :
    codeAny (model prog w) (ktrTop dp un gd cn cs L a ccd cl outer) (.call (.ref f) args) R s := by
  obtain ⟨⟨p, loose, mean, mg, mb, A₁, base, g, m', B, F, X, T⟩, kind⟩ := S
  unfold plainDef at plain
  simp only [Bool.and_eq_true, Bool.not_eq_true', List.all_eq_true, beq_iff_eq] at plain
  have In' := X.keeps F.keep
  have Top' := T.keeps F.keep
  have deep := pushX (env := envX cn cs L a ccd cl) B F rfl kind
  apply codeAny_call_def room (In' _ _ isFn) rfl Top'.nolimit (codeRec_of In' isCode) rfl takes _ plain.2.2 _ plain.1.1 plain.1.2 plain.2.1.1
  · intro y hy e
    have := plain.2.1.2 y hy
    rw [e] at this
    cases this
  · intro h' ns kept
    exact go p loose mean mg mb base s.heap.objs.size h' { ns := ns, keep := kept, above := Nat.le_refl _ } (fun _ no => nomatch no) { stack := rfl, stays := deep.stays, frames := deep.frames } In' Top'
end
end
end Mine

/-! part: Txt1 -/
namespace Mine
section
open PySem PySem.W PySem.Calls PySem.Spec PyProof.Rows
open PySem.Builtin.Str PySem.StrLaws
/-! texts as lists of numbers -/
def tx (l : List Nat) : Str := ⟨l.toArray⟩
theorem tx_cps (l : List Nat) : (tx l).cps.toList = l := rfl
theorem tx_len (l : List Nat) : (tx l).length = l.length := by simp [tx, Str.length]
theorem tx_eta (x : Str) : tx x.cps.toList = x := by cases x; rfl
theorem tx_app (a b : List Nat) : tx a ++ tx b = tx (a ++ b) := by
  apply Str.ext'; apply Array.toList_inj.mp; rw [Str.cps_append, Array.toList_append]; rfl
theorem tx_inj {a b : List Nat} (h : tx a = tx b) : a = b := by
  have := congrArg (fun s : Str => s.cps.toList) h
  exact this

/-- cut a list at each c -/
def spl (c : Nat) : List Nat → List (List Nat)
  | [] => [[]]
  | d :: r => if d = c then [] :: spl c r else match spl c r with
    | p :: q => (d :: p) :: q
    | [] => [[d]]
theorem spl_free {c : Nat} {a : List Nat} (free : c ∉ a) : spl c a = [a] := by
  induction a with
  | nil => rfl
  | cons d r ih =>
    simp only [List.mem_cons, not_or] at free
    simp only [spl, if_neg (Ne.symm free.1), ih free.2]
theorem spl_cut {c : Nat} {a b : List Nat} (free : c ∉ a) : spl c (a ++ c :: b) = a :: spl c b := by
  induction a with
  | nil => simp [spl]
  | cons d r ih =>
    simp only [List.mem_cons, not_or] at free
    simp only [List.cons_append, spl, if_neg (Ne.symm free.1), ih free.2]
theorem spl_join (c : Nat) : ∀ (p : Str) (ps : List Str), (∀ q ∈ p :: ps, c ∉ q.cps.toList) → spl c (Str.join ⟨#[c]⟩ (p :: ps)).cps.toList = (p :: ps).map (·.cps.toList)
  | p, [], h => by
    show spl c p.cps.toList = _
    rw [spl_free (h p List.mem_cons_self)]; rfl
  | p, q :: r, h => by
    have ih := spl_join c q r fun a ha => h a (List.mem_cons_of_mem _ ha)
    show spl c (p ++ ⟨#[c]⟩ ++ Str.join ⟨#[c]⟩ (q :: r)).cps.toList = _
    simp only [Str.cps_append, Array.toList_append]
    show spl c (p.cps.toList ++ [c] ++ _) = _
    rw [List.append_assoc, List.singleton_append, spl_cut (h p List.mem_cons_self), ih]; rfl
theorem split_ne (x y : Str) : Txt.split x y ≠ [] := by
  unfold Txt.split
  split
  · simp
  · split
    · simp
    · rw [partsBetween_eq]
      obtain ⟨p, r, e⟩ := partsFrom_ne x y.length 0 (occurrences x y 0 x.length (x.length + 1))
      rw [e]; simp
theorem split_spl (x : Str) (c : Nat) : (Txt.split x ⟨#[c]⟩).map (·.cps.toList) = spl c x.cps.toList := by
  have h1 := join_split x ⟨#[c]⟩
  have h2 := split_free x c
  cases e : Txt.split x ⟨#[c]⟩ with
  | nil => exact absurd e (split_ne _ _)
  | cons p ps =>
    rw [e] at h1 h2
    rw [← spl_join c p ps h2, h1]
theorem split_tx (l : List Nat) (c : Nat) : Txt.split (tx l) ⟨#[c]⟩ = (spl c l).map tx := by
  have h := split_spl (tx l) c
  rw [tx_cps] at h
  rw [← h, List.map_map]
  conv => lhs; rw [← List.map_id (Txt.split (tx l) ⟨#[c]⟩)]
  apply List.map_congr_left
  intro a _
  exact (tx_eta a).symm

/-- put z for each c -/
def sub1 (c : Nat) (z : List Nat) (l : List Nat) : List Nat := l.flatMap fun d => if d = c then z else [d]
theorem sub1_free {c : Nat} {z l : List Nat} (free : c ∉ l) : sub1 c z l = l := by
  unfold sub1
  rw [List.flatMap_def, List.map_congr_left (g := fun d => [d]) fun d hd => if_neg fun (e : d = c) => free (e ▸ hd)]
  clear free
  induction l with
  | nil => rfl
  | cons d r ih => rw [List.map_cons, List.flatten_cons, ih]; rfl
theorem sub1_app (c : Nat) (z a b : List Nat) : sub1 c z (a ++ b) = sub1 c z a ++ sub1 c z b := by simp [sub1]
theorem sub1_join (c : Nat) (z : Str) (ps : List Str) (free : ∀ q, q ∈ ps → c ∉ q.cps.toList) : sub1 c z.cps.toList (Str.join ⟨#[c]⟩ ps).cps.toList = (Str.join z ps).cps.toList := by
  induction ps with
  | nil => rfl
  | cons p rest ih =>
    have first := sub1_free (z := z.cps.toList) (free p (by simp))
    cases rest with
    | nil => exact first
    | cons q r =>
      have opened : ∀ sep : Str, (Str.join sep (p :: q :: r)).cps.toList = p.cps.toList ++ (sep.cps.toList ++ (Str.join sep (q :: r)).cps.toList) := fun sep => by
        show (p ++ sep ++ Str.join sep (q :: r)).cps.toList = _
        simp [Str.cps_append]
      have one : sub1 c z.cps.toList [c] = z.cps.toList := by simp [sub1]
      rw [opened, opened, sub1_app, sub1_app, first, ih fun a ha => free a (.tail _ ha)]
      exact congrArg (fun y => _ ++ (y ++ _)) one
theorem replace_sub1 (x : Str) (c : Nat) (z : Str) : Txt.replace x ⟨#[c]⟩ z = tx (sub1 c z.cps.toList x.cps.toList) := by
  rw [replace_one, ← tx_eta (Str.join z _), ← sub1_join c z _ (split_free x c), join_split]
theorem replace_tx (l z : List Nat) (c : Nat) : Txt.replace (tx l) ⟨#[c]⟩ (tx z) = tx (sub1 c z l) := replace_sub1 _ _ _
theorem in_tx (l : List Nat) (c : Nat) : (occurrences (tx l) ⟨#[c]⟩ 0 (tx l).length 1).isEmpty = !decide (c ∈ l) := by
  have := found_one (tx l) c
  rw [tx_cps] at this
  rw [← this, Bool.not_not]
theorem sub1_len (c : Nat) (z l : List Nat) (hz : 1 ≤ z.length) : (sub1 c z l).length ≤ l.length * z.length := by
  induction l with
  | nil => simp [sub1]
  | cons d r ih =>
    have : sub1 c z (d :: r) = (if d = c then z else [d]) ++ sub1 c z r := by simp [sub1]
    rw [this, List.length_append, List.length_cons, Nat.succ_mul]
    split
    · omega
    · simp only [List.length_cons, List.length_nil]; omega

/-- the escape of a text -/
def escOne (d : Nat) : List Nat := if d = 38 then [38, 97, 109, 112, 59] else if d = 60 then [38, 108, 116, 59] else if d = 62 then [38, 103, 116, 59] else if d = 13 then [38, 35, 120, 68, 59] else [d]
def escL (l : List Nat) : List Nat := l.flatMap escOne
theorem escL_eq (l : List Nat) : sub1 13 [38, 35, 120, 68, 59] (sub1 62 [38, 103, 116, 59] (sub1 60 [38, 108, 116, 59] (sub1 38 [38, 97, 109, 112, 59] l))) = escL l := by
  unfold escL
  induction l with
  | nil => rfl
  | cons d r ih =>
    have e : sub1 38 [38, 97, 109, 112, 59] (d :: r) = (if d = 38 then [38, 97, 109, 112, 59] else [d]) ++ sub1 38 [38, 97, 109, 112, 59] r := by simp [sub1]
    rw [e, sub1_app, sub1_app, sub1_app, ih, List.flatMap_cons]
    congr 1
    unfold escOne
    by_cases h1 : d = 38
    · subst h1; decide
    · simp only [h1, if_false]
      by_cases h2 : d = 60
      · subst h2; decide
      · by_cases h3 : d = 62
        · subst h3; decide
        · by_cases h4 : d = 13
          · subst h4; decide
          · simp [sub1, h2, h3, h4]
theorem escL_app (a b : List Nat) : escL (a ++ b) = escL a ++ escL b := by simp [escL]
theorem escL_len (l : List Nat) : (escL l).length ≤ 5 * l.length := by
  induction l with
  | nil => simp [escL]
  | cons d r ih =>
    have : escL (d :: r) = escOne d ++ escL r := by simp [escL]
    rw [this, List.length_append, List.length_cons]
    have h : (escOne d).length ≤ 5 := by unfold escOne; (repeat' split) <;> simp
    omega
end
end Mine

/-! part: Comp -/
namespace Mine
section
open PySem PySem.W PySem.Calls PySem.Spec PyProof.Rows
/-- values that bear texts, ints -/
def TextV (x : List Nat) (v : Value) : Prop := ∃ t : Tok, v = .str (tx x) t
def IntV (n : Int) (v : Value) : Prop := ∃ t : Tok, v = .int n t
/-- a list of values, item by item -/
inductive All2 {α : Type} (R : α → Value → Prop) : List α → List Value → Prop
  | nil : All2 R [] []
  | cons {a v as vs} : R a v → All2 R as vs → All2 R (a :: as) (v :: vs)
theorem All2.len {α : Type} {R : α → Value → Prop} {as : List α} {vs : List Value} (h : All2 R as vs) : vs.length = as.length := by
  induction h with
  | nil => rfl
  | cons _ _ ih => simp [ih]
theorem All2.at {α : Type} {R : α → Value → Prop} {as : List α} {vs : List Value} (h : All2 R as vs) : ∀ {i : Nat} {v : Value}, vs[i]? = some v → ∃ a, as[i]? = some a ∧ R a v := by
  induction h with
  | nil => intro i v e; simp at e
  | cons h1 _ ih =>
    intro i v e
    cases i with
    | zero => simp at e; subst e; exact ⟨_, rfl, h1⟩
    | succ i => simpa using ih (by simpa using e)
theorem All2.snoc {α : Type} {R : α → Value → Prop} {as : List α} {vs : List Value} {a : α} {v : Value} (h : All2 R as vs) (h1 : R a v) : All2 R (as ++ [a]) (vs ++ [v]) := by
  induction h with
  | nil => exact .cons h1 .nil
  | cons h2 _ ih => exact .cons h2 ih
theorem All2.drop {α : Type} {R : α → Value → Prop} {as : List α} {vs : List Value} (h : All2 R as vs) : ∀ n, All2 R (as.drop n) (vs.drop n) := by
  induction h with
  | nil => intro n; simp; exact .nil
  | cons h2 h3 ih =>
    intro n
    cases n with
    | zero => exact .cons h2 h3
    | succ n => simpa using ih n
theorem All2.take {α : Type} {R : α → Value → Prop} {as : List α} {vs : List Value} (h : All2 R as vs) : ∀ n, All2 R (as.take n) (vs.take n) := by
  induction h with
  | nil => intro n; simp; exact .nil
  | cons h2 h3 ih =>
    intro n
    cases n with
    | zero => simp; exact .nil
    | succ n => simpa using .cons h2 (ih n)
theorem All2.ints {ns : List Int} {vs : List Value} (h : All2 IntV ns vs) : IntsAre vs ns := by
  induction h with
  | nil => exact .nil
  | cons h _ ih => obtain ⟨t, rfl⟩ := h; exact .cons _ _ ih
theorem All2.of_ints {ns : List Int} {vs : List Value} (h : IntsAre vs ns) : All2 IntV ns vs := by
  induction h with
  | nil => exact .nil
  | cons k t _ ih => exact .cons ⟨t, rfl⟩ ih
theorem All2.texts : ∀ {l : List (Str × Tok)}, All2 TextV (l.map fun p => p.1.cps.toList) (strValues l)
  | [] => .nil
  | p :: r => .cons ⟨p.2, by rw [tx_eta]⟩ (All2.texts (l := r))
theorem All2.mono {α : Type} {R R' : α → Value → Prop} {as : List α} {vs : List Value} (h : All2 R as vs) (k : ∀ a v, R a v → R' a v) : All2 R' as vs := by
  induction h with
  | nil => exact .nil
  | cons h _ ih => exact .cons (k _ _ h) ih
theorem All2.map {α β : Type} {R : β → Value → Prop} {g : α → β} {as : List α} {vs : List Value} (h : All2 (fun a v => R (g a) v) as vs) : All2 R (as.map g) vs := by
  induction h with
  | nil => exact .nil
  | cons h _ ih => exact .cons h ih
theorem All2.unmap {α β : Type} {R : β → Value → Prop} {g : α → β} : ∀ {as : List α} {vs : List Value}, All2 R (as.map g) vs → All2 (fun a v => R (g a) v) as vs
  | [], _, h => by cases h; exact .nil
  | _ :: _, _, h => by cases h with | cons h h' => exact .cons h (All2.unmap h')

section
variable {prog : Program} {w : World} {A : Around} {h₀ : Heap} {L : Addr} {m : Str → Option Value} {env : Env} {elt : Expr} {x : Str} {scope : Scope} {cl : List (Str × Addr)} {s : Shared} {S : List (Addr × Obj) → Prop} {P : Nat → Value → Prop} {Fin : List Value → List (Addr × Obj) → Prop} {news : List (Addr × Obj)}
/-- one item's turn, told as a comprehension of one turn: from any value that bears the item the ledger stays, and the list made has one more value, as is wanted -/
def Turn1 (prog : Program) (w : World) (A : Around) (h₀ : Heap) (L : Addr) (m : Str → Option Value) (env : Env) (elt : Expr) (x : Str) (scope : Scope) (cl : List (Str × Addr)) (s : Shared) (S : List (Addr × Obj) → Prop) (news : List (Addr × Obj)) (bears wanted : Value → Prop) : Prop :=
  ∀ i ys, LCg.CompRest prog w A h₀ L m env elt x scope cl s S (fun _ => bears) (fun zs nw => nw = news ∧ ∃ y, zs = ys ++ [y] ∧ wanted y) 1 i ys news

/-- the turns from item i on, item by item: what has been made so far bears bs -/
theorem comp_from {α β : Type} {isV : α → Value → Prop} {res : β → Value → Prop} {g : α → β} : ∀ (todo : List α) (i : Nat) (bs : List β) (ys : List Value), All2 res bs ys → (∀ j v, P (i + j) v → ∃ a, todo[j]? = some a ∧ isV a v) →
    (∀ a, a ∈ todo → Turn1 prog w A h₀ L m env elt x scope cl s S news (isV a) (res (g a))) → (∀ zs, All2 res (bs ++ todo.map g) zs → Fin zs news) → LCg.CompRest prog w A h₀ L m env elt x scope cl s S P Fin todo.length i ys news
  | [], _, _, ys, made, _, _, fin => fin ys (by simpa using made)
  | a :: todo, i, bs, ys, made, src, turn, fin => by
    intro v I oI C oC D m₂ h tk E' at_i ns bound F N off apart
    obtain ⟨_, e, is⟩ := src 0 v at_i
    cases e
    refine wpAny_mono (turn a (.head _) i ys v I oI C oC D m₂ h tk E' is ns bound F N off apart) ?_ (fun _ _ z => z)
    rintro y s₁ ⟨h', tk', nw, ends, F', N', off', inS, same, y', more, made_y⟩
    rw [← List.singleton_inj.mp (List.append_cancel_left more)] at made_y
    rw [same] at N' off' inS
    refine ⟨h', tk', news, ends, F', N', off', inS, comp_from todo (i + 1) (bs ++ [g a]) (ys ++ [y]) (made.snoc made_y) (fun j v hv => ?_) (fun b hb => turn b (.tail _ hb)) fun zs hz => fin zs ?_⟩
    · rw [Nat.add_right_comm] at hv
      exact src (j + 1) v hv
    · rw [List.append_assoc] at hz
      exact hz

/-- a comprehension over a list whose items are borne by its values -/
theorem comp_list {α β : Type} {vs : List Value} {xs : List α} (isV : α → Value → Prop) (res : β → Value → Prop) (g : α → β) (items : All2 isV xs vs) (turn : ∀ a, a ∈ xs → Turn1 prog w A h₀ L m env elt x scope cl s S news (isV a) (res (g a)))
    (fin : ∀ zs, All2 res (xs.map g) zs → Fin zs news) : LCg.CompRest prog w A h₀ L m env elt x scope cl s S (fun i v => vs.toArray[i]? = some v) Fin vs.toArray.size 0 [] news := by
  rw [List.size_toArray, items.len]
  exact comp_from xs 0 [] [] .nil (fun j v hv => items.at (by simpa using hv)) turn fin

theorem comp_end {wanted : Value → Prop} {I C D : Addr} {oI oC oD : Obj} {i : Nat} {ys : List Value} {y : Value} {h' : Heap} {tk : Nat} {s' : Shared} (F : Fr h₀ L h' m) (N : News h₀ L h' ((I, oI) :: (C, oC) :: (D, oD) :: news)) (off : LCg.Off3 I C D news) (hS : S news) (made : wanted y) :
    LCg.CompEnd h₀ L m s' I oI C oC D oD S (fun y nw => LCg.CompRest prog w A h₀ L m env elt x scope cl s S P (fun zs nw => nw = news ∧ ∃ y, zs = ys ++ [y] ∧ wanted y) 0 i (ys ++ [y]) nw) y { s' with heap := h', toks := tk } :=
  LCg.CompEnd.intro F N news (fun _ z => z) off hS (LCg.CompRest.zero ⟨rfl, y, rfl, made⟩)
end
end
end Mine

/-! part: Steps -/
namespace Mine
section
open PySem PySem.W PySem.Calls PySem.Spec PyProof.Rows
section
variable {prog : Program} {w : World} {A : Around} {E : Value → Shared → Prop} {s : Shared} {h₀ : Heap} {L : Addr} {m : Str → Option Value} {news : List (Addr × Obj)} {x : List Nat} {c : Nat} {t u : Tok} {y : Str} {Q : Value → Shared → Prop} {n : Nat}
theorem split_step (hy : y = ⟨#[c]⟩) (hx : x.length ≤ n) (F : Fr h₀ L s.heap m) (N : News h₀ L s.heap news) (hn : n ≤ 1000000)
    (h : ∀ ws h' k, All2 TextV (spl c x) ws → Fr h₀ L h' m → News h₀ L h' ((s.heap.objs.size, { cls := .type "list", data := .seq ws.toArray }) :: news) → Q (.ref s.heap.objs.size) { s with heap := h', toks := k }) :
    wpAny (model prog w) A (call (.builtin "str.split") [.str (tx x) t, .str y u]) Q E s := by
  subst hy
  refine splitN1 F N rfl (fun l h' k e F' N' => h _ h' k ?_ F' N') (by rw [tx_len, PySem.sizeLine_eq]; omega)
  have := All2.texts (l := l)
  have e2 : l.map (fun p => p.1.cps.toList) = spl c x := by
    rw [show (fun p : Str × Tok => p.1.cps.toList) = (fun a : Str => a.cps.toList) ∘ (·.1) from rfl, ← List.map_map, e, split_spl, tx_cps]
  rw [e2] at this
  exact this

section
variable {α : Type} {R : α → Value → Prop} {as bs : List α} {vs : List Value} {k : Int} {lo hi : Option Int} {l : Addr} {vl vu : Value} {value slice : PySem.Expr}
/-- what a slice takes from a list of values, it takes from what they bear -/
theorem All2.pick (h : All2 R as vs) (lo hi : Option Int) : All2 R ((as.drop (kms_lo lo as.length)).take (kms_hi hi as.length - kms_lo lo as.length)) (kms_pick vs lo hi) := by
  unfold kms_pick
  rw [h.len]
  exact (h.drop _).take _
theorem slice_from (h : All2 R as vs) (h0 : 0 ≤ k) : All2 R (as.drop k.toNat) (kms_pick vs (some k) none) := by
  have e : (as.drop (kms_lo (some k) as.length)).take (kms_hi none as.length - kms_lo (some k) as.length) = as.drop k.toNat := by
    have nonneg : ¬ k < 0 := by omega
    simp only [kms_lo, kms_hi, nonneg, if_false]
    rcases Nat.le_total k.toNat as.length with le | ge
    · rw [Nat.min_eq_left le, ← List.length_drop, List.take_length]
    · rw [Nat.min_eq_right ge, Nat.sub_self, List.take_zero, List.drop_eq_nil_of_le ge]
  exact e ▸ h.pick (some k) none
theorem slice_upto (h : All2 R as vs) (h0 : 0 ≤ k) : All2 R (as.take k.toNat) (kms_pick vs none (some k)) := by
  have e : (as.drop (kms_lo none as.length)).take (kms_hi (some k) as.length - kms_lo none as.length) = as.take k.toNat := by
    have nonneg : ¬ k < 0 := by omega
    simp only [kms_lo, kms_hi, nonneg, if_false, List.drop_zero, Nat.sub_zero]
    exact List.take_eq_take_iff.mpr (by omega)
  exact e ▸ h.pick none (some k)
theorem slice_upto_neg (h : All2 R as vs) (h0 : k < 0) : All2 R (as.take (as.length - (-k).toNat)) (kms_pick vs none (some k)) := by
  have e : (as.drop (kms_lo none as.length)).take (kms_hi (some k) as.length - kms_lo none as.length) = as.take (as.length - (-k).toNat) := by
    simp only [kms_lo, kms_hi, h0, if_true, List.drop_zero, Nat.sub_zero]
  exact e ▸ h.pick none (some k)
/-- the library's slice, its answer told by what it bears alone -/
theorem slice_step (F : Fr h₀ L s.heap m) (N : News h₀ L s.heap news) (hl : s.heap.IsList l vs.toArray) (pl : IsPart vl lo) (pu : IsPart vu hi) (bears : All2 R bs (kms_pick vs lo hi))
    (sub : subscripted slice false (.ref l) (.ref s.heap.objs.size) = operate [.ref s.heap.objs.size, .ref l] (getItem (.ref l) (.ref s.heap.objs.size))) (tmp : ∀ r, letTemporaryGo value (.ref l) r = pure ()) (small : vs.length ≤ 1000000)
    (go : ∀ D ws h', Fr h₀ L h' m → News h₀ L h' ((D, listOf (List.toArray ws) 0) :: news) → (∀ p ∈ news, p.1 < D) → All2 R bs ws → Q (.ref D) { s with heap := h' }) :
    wpAny (model prog w) A (subscriptTail value slice (.ref l) (.ref s.heap.objs.size)) Q E { s with heap := s.heap.push { cls := .type "slice", data := .fields #[vl, vu, .none] } } :=
  kms_slice_lit F N hl pl pu rfl (fun D h' F' N' above => go D _ h' F' N' above bears) sub tmp (by rw [List.size_toArray, PySem.sizeLine_eq]; omega)
end
end
end
end Mine

/-! part: Sre1 -/
namespace Mine
section
open PySem PySem.Sre
def code1 : Array Nat := #[14, 4, 0, 1, 1, 6, 1, 16, 46, 1]
def code2 : Array Nat := #[14, 9, 4, 1, 2, 16, 10, 16, 13, 0, 7, 7, 16, 13, 16, 10, 15, 18, 5, 16, 10, 15, 13, 11, 16, 13, 5, 5, 0, 16, 10, 1, 15, 2, 0, 1]

theorem runFor_add (a : Nat) : ∀ (b : Nat) (m : M), M.runFor (a + b) m = M.runFor b (M.runFor a m) := by
  induction a with
  | zero => intro b m; simp [M.runFor]
  | succ a ih =>
    intro b m
    rw [show a + 1 + b = (a + b) + 1 by omega]
    simp only [M.runFor]
    split
    · rename_i h
      cases b with
      | zero => rfl
      | succ b => simp [M.runFor, h]
    · exact ih b m.step
theorem runFor_done {b : Nat} {m : M} (h : m.outcome.isSome = true) : M.runFor b m = m := by
  cases b with
  | zero => rfl
  | succ b => simp [M.runFor, h]
theorem runFor_step {b : Nat} {m : M} (h : m.outcome = none) : M.runFor (b + 1) m = M.runFor b m.step := by simp [M.runFor, h]

/-- the machine at a place of its run -/
def mk (code text : Array Nat) (lim start lastStart pc pos handed weight : Nat) (outermost : Bool) (frames : List Sre.Frame) (answer : Option Bool) (seen : Seen) : M :=
  { code, text, lim, start, lastStart, pc, pos, handed, outermost, marks := #[], frames, weight, answer, seen }

section
variable {text : Array Nat} {lim start lastStart pos handed weight : Nat} {o : Bool} {fr : List Sre.Frame} {seen : Seen}
theorem s1_at (h : (pos == 0 || text.getD (pos - 1) 0 == 10) = true) : (mk code1 text lim start lastStart 5 pos handed weight o fr none seen).step = mk code1 text lim start lastStart 7 pos handed weight o fr none ((seen.add 6).add 44) := by
  show (if (pos == 0 || text.getD (pos - 1) 0 == 10) = true then (_ : M) else _) = _
  rw [if_pos h]
  rfl
theorem s1_not (h : (pos == 0 || text.getD (pos - 1) 0 == 10) = false) : (mk code1 text lim start lastStart 5 pos handed weight o fr none seen).step = mk code1 text lim start lastStart 5 pos handed weight o fr (some false) ((seen.add 6).add 44) := by
  show (if (pos == 0 || text.getD (pos - 1) 0 == 10) = true then (_ : M) else _) = _
  rw [if_neg (by rw [h]; exact Bool.false_ne_true)]
  rfl
theorem s1_end (h : lim ≤ pos) : (mk code1 text lim start lastStart 7 pos handed weight o fr none seen).step = mk code1 text lim start lastStart 7 pos handed weight o fr (some false) (seen.add 16) := by
  show (if pos ≥ lim then (_ : M) else _) = _
  rw [if_pos h]
  rfl
theorem s1_dot (h : pos < lim) (hc : text.getD pos 0 = 46) : (mk code1 text lim start lastStart 7 pos handed weight o fr none seen).step = mk code1 text lim start lastStart 9 (pos + 1) handed weight o fr none (seen.add 16) := by
  show (if pos ≥ lim then (_ : M) else match (Except.ok (text.getD pos 0 == 46, seen.add 16) : Except String (Bool × Seen)) with | .error why => _ | .ok (false, seen) => _ | .ok (true, seen) => _) = _
  rw [if_neg (by omega), hc]
  rfl
def fs (pc s : Nat) (o : Bool) : Sre.Frame := { wait := .nextStart, pc := pc, pos := s, outermost := o }
theorem s1_next {pc : Nat} {s : Nat} {o' : Bool} (h : s < lastStart) : (mk code1 text lim start lastStart pc pos handed 1 o [fs 5 s o'] (some false) seen).step = mk code1 text lim (s + 1) lastStart 5 (s + 1) (s + 1) 1 false [fs 5 (s + 1) false] none seen := by
  show (if s < lastStart then (_ : M) else _) = _
  rw [if_pos h]
  rfl
theorem s1_last {pc : Nat} {s : Nat} {o' : Bool} (h : ¬ s < lastStart) : (mk code1 text lim start lastStart pc pos handed 1 o [fs 5 s o'] (some false) seen).step = mk code1 text lim start lastStart 5 s handed 0 o' [] (some false) seen := by
  show (if s < lastStart then (_ : M) else _) = _
  rw [if_neg h]
  rfl
theorem s_yes {code : Array Nat} {pc w : Nat} {s : Nat} {o' : Bool} : (mk code text lim start lastStart pc pos handed 1 o [fs w s o'] (some true) seen).step = mk code text lim start lastStart w s handed 0 o' [] (some true) seen := rfl
theorem s_over {code : Array Nat} {pc w : Nat} {yes : Bool} : (mk code text lim start lastStart pc pos handed w o [] (some yes) seen).step.outcome = some (if yes then .matched else .failed) ∧ (mk code text lim start lastStart pc pos handed w o [] (some yes) seen).step.start = start ∧ (mk code text lim start lastStart pc pos handed w o [] (some yes) seen).step.handed = handed := ⟨rfl, rfl, rfl⟩
theorem s1_success : (mk code1 text lim start lastStart 9 pos handed weight o fr none seen).step = mk code1 text lim start lastStart 9 pos pos weight o fr (some true) (seen.add 1) := by
  show (if (o && ((false && pos != lim) || (false && pos == start))) = true then (_ : M) else _) = _
  rw [if_neg (by simp)]
  rfl
end
/-- how a search ends -/
def Fails (m : M) (N : Nat) : Prop := ∃ n, n ≤ N ∧ (M.runFor n m).outcome = some .failed
def Finds (m : M) (N b e : Nat) : Prop := ∃ n, n ≤ N ∧ (M.runFor n m).outcome = some .matched ∧ (M.runFor n m).start = b ∧ (M.runFor n m).handed = e
theorem Fails.step {m : M} {N : Nat} (h0 : m.outcome = none) (h : Fails m.step N) : Fails m (N + 1) := by
  obtain ⟨n, h1, h2⟩ := h
  exact ⟨n + 1, by omega, by rw [runFor_step h0]; exact h2⟩
theorem Finds.step {m : M} {N b e : Nat} (h0 : m.outcome = none) (h : Finds m.step N b e) : Finds m (N + 1) b e := by
  obtain ⟨n, h1, h2⟩ := h
  exact ⟨n + 1, by omega, by rw [runFor_step h0]; exact h2⟩
theorem Fails.mono {m : M} {N N' : Nat} (h : Fails m N) (k : N ≤ N') : Fails m N' := let ⟨n, a, b⟩ := h; ⟨n, Nat.le_trans a k, b⟩
theorem Fails.here {m : M} {N : Nat} (h : m.outcome = some .failed) : Fails m N := ⟨0, Nat.zero_le _, h⟩
theorem Finds.here {m : M} {N b e : Nat} (h : m.outcome = some .matched ∧ m.start = b ∧ m.handed = e) : Finds m N b e := ⟨0, Nat.zero_le _, h⟩

section
variable {text : Array Nat} {lim : Nat}
theorem run1_fail : ∀ (k s : Nat) (seen : Seen) (o : Bool), s + k = lim → 1 ≤ s → (∀ i, s ≤ i → i < lim → text.getD (i - 1) 0 ≠ 10) → Fails (mk code1 text lim s lim 5 s s 1 o [fs 5 s o] none seen) (2 * k + 4)
  | 0, s, seen, o, hk, hs, hf => by
    refine Fails.step rfl ?_
    cases h : (s == 0 || text.getD (s - 1) 0 == 10) with
    | true =>
      rw [s1_at h]
      refine Fails.step rfl ?_
      rw [s1_end (by omega)]
      refine Fails.step rfl ?_
      rw [s1_last (by omega)]
      refine Fails.step rfl ?_
      exact Fails.here rfl
    | false =>
      rw [s1_not h]
      refine Fails.step rfl ?_
      rw [s1_last (by omega)]
      refine Fails.mono (N := 0 + 1) (Fails.step rfl ?_) (by omega)
      exact Fails.here rfl
  | k + 1, s, seen, o, hk, hs, hf => by
    have h : (s == 0 || text.getD (s - 1) 0 == 10) = false := by
      rw [Bool.or_eq_false_iff]
      exact ⟨beq_eq_false_iff_ne.mpr (by omega), beq_eq_false_iff_ne.mpr (hf s (Nat.le_refl _) (by omega))⟩
    refine Fails.step rfl ?_
    rw [s1_not h]
    refine Fails.step rfl ?_
    rw [s1_next (by omega)]
    exact (run1_fail k (s + 1) _ false (by omega) (by omega) fun i h1 h2 => hf i (by omega) h2).mono (by omega)
theorem find1 (hl : 1 ≤ lim) (hc : text.getD 0 0 = 46) : Finds (forSearch code1 text 0 0 lim false) 8 0 1 := by
  have e : forSearch code1 text 0 0 lim false = mk code1 text lim 0 lim 5 0 0 1 true [fs 5 0 true] none (({} : Seen).add 14) := by
    show (if (decide (0 > lim) || decide (lim - 0 < 1)) = true then (_ : M) else _) = _
    rw [if_neg (by simp; omega)]
    rfl
  rw [e]
  refine Finds.step rfl ?_
  rw [s1_at rfl]
  refine Finds.step rfl ?_
  rw [s1_dot (by omega) hc]
  refine Finds.step rfl ?_
  rw [s1_success]
  refine Finds.step rfl ?_
  rw [s_yes]
  refine Finds.step rfl ?_
  exact Finds.here s_over
theorem fail1 (hl : 1 ≤ lim) (hf : ∀ i, 1 ≤ i → i < lim → text.getD (i - 1) 0 ≠ 10) : Fails (forSearch code1 text 0 1 lim false) (2 * lim + 4) := by
  by_cases h2 : 2 ≤ lim
  · have e : forSearch code1 text 0 1 lim false = mk code1 text lim 1 lim 5 1 1 1 true [fs 5 1 true] none (({} : Seen).add 14) := by
      show (if (decide (1 > lim) || decide (lim - 1 < 1)) = true then (_ : M) else _) = _
      rw [if_neg (by simp; omega)]
      rfl
    rw [e]
    exact (run1_fail (lim - 1) 1 _ true (by omega) (Nat.le_refl _) hf).mono (by omega)
  · have e : forSearch code1 text 0 1 lim false = mk code1 text lim 1 0 5 1 1 0 true [] (some false) (({} : Seen).add 14) := by
      show (if (decide (1 > lim) || decide (lim - 1 < 1)) = true then (_ : M) else _) = _
      rw [if_pos (by simp; omega)]
      rfl
    rw [e]
    refine Fails.mono (N := 0 + 1) (Fails.step rfl ?_) (by omega)
    exact Fails.here rfl
end

def fb (pc s : Nat) : Sre.Frame := { wait := .nextBranch, pc := pc, pos := s, outermost := true }
section
variable {text : Array Nat} {lim start lastStart pos handed weight : Nat} {fr : List Sre.Frame} {seen : Seen}
theorem s2_branch : (mk code2 text lim start lastStart 10 pos handed 1 true fr none seen).step = mk code2 text lim start lastStart 12 pos pos 2 true (fb 11 pos :: fr) none (seen.add 7) := rfl
theorem s2_lit13 (h : pos < lim) (hc : text.getD pos 0 = 10) : (mk code2 text lim start lastStart 12 pos handed weight true fr none seen).step = mk code2 text lim start lastStart 12 pos handed weight true fr (some false) (seen.add 16) := by
  show (if pos ≥ lim then (_ : M) else match (Except.ok (text.getD pos 0 == 13, seen.add 16) : Except String (Bool × Seen)) with | .error why => _ | .ok (false, seen) => _ | .ok (true, seen) => _) = _
  rw [if_neg (by omega), hc]
  rfl
theorem s2_again {pc : Nat} {s : Nat} : (mk code2 text lim start lastStart pc pos handed 2 true (fb 11 s :: fr) (some false) seen).step = mk code2 text lim start lastStart 19 s s 2 true (fb 18 s :: fr) none seen := rfl
theorem s2_lit10 (h : pos < lim) (hc : text.getD pos 0 = 10) : (mk code2 text lim start lastStart 19 pos handed weight true fr none seen).step = mk code2 text lim start lastStart 21 (pos + 1) handed weight true fr none (seen.add 16) := by
  show (if pos ≥ lim then (_ : M) else match (Except.ok (text.getD pos 0 == 10, seen.add 16) : Except String (Bool × Seen)) with | .error why => _ | .ok (false, seen) => _ | .ok (true, seen) => _) = _
  rw [if_neg (by omega), hc]
  rfl
theorem s2_jump : (mk code2 text lim start lastStart 21 pos handed weight true fr none seen).step = mk code2 text lim start lastStart 35 pos handed weight true fr none (seen.add 15) := rfl
theorem s2_success : (mk code2 text lim start lastStart 35 pos handed weight true fr none seen).step = mk code2 text lim start lastStart 35 pos pos weight true fr (some true) (seen.add 1) := by
  show (if (true && ((false && pos != lim) || (false && pos == start))) = true then (_ : M) else _) = _
  rw [if_neg (by simp)]
  rfl
theorem s2_yes {pc s : Nat} : (mk code2 text lim start lastStart pc pos handed 2 true (fb 18 s :: fr) (some true) seen).step = mk code2 text lim start lastStart 18 s handed 1 true fr (some true) seen := rfl
theorem adm_no {m : M} {s fuel : Nat} {seen : Seen} (hm : m.code = code2) (h : s < m.lim) (h1 : m.text.getD s 0 ≠ 10) (h2 : m.text.getD s 0 ≠ 13) : ∃ seen', m.admitted (fuel + 1) s seen = m.admitted fuel (s + 1) seen' := by
  generalize hc : m.text.getD s 0 = c at h1 h2
  refine ⟨((seen.add 16).add 16).add 0, ?_⟩
  rw [M.admitted, if_neg (by omega), hc, hm]
  have e : inSet code2 c code2.size 5 true seen = .ok (false, ((seen.add 16).add 16).add 0) := by
    show (if (c == 10) = true then (_ : Except String (Bool × Seen)) else _) = _
    rw [if_neg (by simpa using h1)]
    show (if (c == 13) = true then (_ : Except String (Bool × Seen)) else _) = _
    rw [if_neg (by simpa using h2)]
    rfl
  rw [e]
theorem adm_yes {m : M} {s fuel : Nat} {seen : Seen} (hm : m.code = code2) (h : s < m.lim) (h1 : m.text.getD s 0 = 10) : ∃ seen', m.admitted (fuel + 1) s seen = .ok (some s, seen') := by
  refine ⟨seen.add 16, ?_⟩
  rw [M.admitted, if_neg (by omega), h1, hm]
  rfl
theorem adm_to {m : M} {n : Nat} (hm : m.code = code2) (hn : n < m.lim) (hc : m.text.getD n 0 = 10) (hf : ∀ i, i < n → m.text.getD i 0 ≠ 10 ∧ m.text.getD i 0 ≠ 13) : ∀ (k s fuel : Nat) (seen : Seen), s + k = n → k < fuel → ∃ seen', m.admitted fuel s seen = .ok (some n, seen')
  | 0, s, fuel, seen, hk, hfu => by
    obtain ⟨f, rfl⟩ : ∃ f, fuel = f + 1 := ⟨fuel - 1, by omega⟩
    have : s = n := by omega
    subst this
    exact adm_yes hm hn hc
  | k + 1, s, fuel, seen, hk, hfu => by
    obtain ⟨f, rfl⟩ : ∃ f, fuel = f + 1 := ⟨fuel - 1, by omega⟩
    obtain ⟨h1, h2⟩ := hf s (by omega)
    obtain ⟨seen', e⟩ := adm_no (fuel := f) (seen := seen) hm (by omega : s < m.lim) h1 h2
    rw [e]
    exact adm_to hm hn hc hf k (s + 1) f seen' (by omega) (by omega)
theorem find2 {n : Nat} (hl : lim = n + 1) (hc : text.getD n 0 = 10) (hf : ∀ i, i < n → text.getD i 0 ≠ 10 ∧ text.getD i 0 ≠ 13) : Finds (forSearch code2 text 0 0 lim false) 12 n (n + 1) := by
  have e : ∃ seen, forSearch code2 text 0 0 lim false = mk code2 text lim n lim 10 n n 1 true [fs 10 n true] none seen := by
    obtain ⟨seen', e⟩ := adm_to (m := mk code2 text lim 0 lim 10 0 0 0 true [] none (({} : Seen).add 14)) rfl (by show n < lim; omega) hc hf n 0 (lim + 1 - 0) (({} : Seen).add 14) (by omega) (by omega)
    refine ⟨seen', ?_⟩
    show (if (decide (0 > lim) || decide (lim - 0 < 1)) = true then (_ : M) else M.attemptFrom (mk code2 text lim 0 lim 10 0 0 0 true [] none (({} : Seen).add 14)) 0 true) = _
    rw [if_neg (by simp; omega)]
    show (match M.admitted (mk code2 text lim 0 lim 10 0 0 0 true [] none (({} : Seen).add 14)) (lim + 1 - 0) 0 (({} : Seen).add 14) with | .ok (some s, seen) => _ | .ok (none, seen) => _ | .error why => _) = _
    rw [e]
    rfl
  obtain ⟨seen, e⟩ := e
  rw [e]
  refine Finds.step rfl ?_
  rw [s2_branch]
  refine Finds.step rfl ?_
  rw [s2_lit13 (by omega) hc]
  refine Finds.step rfl ?_
  rw [s2_again]
  refine Finds.step rfl ?_
  rw [s2_lit10 (by omega) hc]
  refine Finds.step rfl ?_
  rw [s2_jump]
  refine Finds.step rfl ?_
  rw [s2_success]
  refine Finds.step rfl ?_
  rw [s2_yes]
  refine Finds.step rfl ?_
  rw [s_yes]
  refine Finds.step rfl ?_
  exact Finds.here s_over
theorem fail2 : Fails (forSearch code2 text 0 lim lim false) 4 := by
  have e : forSearch code2 text 0 lim lim false = mk code2 text lim lim 0 10 lim lim 0 true [] (some false) (({} : Seen).add 14) := by
    show (if (decide (lim > lim) || decide (lim - lim < 1)) = true then (_ : M) else _) = _
    rw [if_pos (by simp)]
    rfl
  rw [e]
  refine Fails.mono (N := 0 + 1) (Fails.step rfl ?_) (by omega)
  exact Fails.here rfl
end
end
end Mine

/-! part: Re -/
namespace Mine
section
open PySem PySem.W PySem.Calls PySem.Spec PyProof.Rows PySem.Builtin PySem.Builtin.Re PySem.Sre
section
variable {Mo : Model} {A : Around} {E : Value → Shared → Prop} {s : Shared}
theorem drive_to {Q : Sre.M → Shared → Prop} : ∀ (k fuel : Nat) (m : Sre.M), k < fuel → (M.runFor (4 * k) m).outcome.isSome = true → Q (M.runFor (4 * k) m) s → wpAny Mo A (reDrive fuel m) Q E s
  | k, 0, m, h, _, _ => absurd h (Nat.not_lt_zero _)
  | 0, f + 1, m, _, ho, hq => by
    have ho' : m.outcome.isSome = true := ho
    have e : M.runFor 4 m = m := runFor_done ho'
    show wpAny Mo A (if (M.runFor 4 m).outcome.isSome = true then pure (M.runFor 4 m) else do rule "sre.turn"; reDrive f (M.runFor 4 m)) Q E s
    rw [e, if_pos ho']
    exact wpAny_pure hq
  | k + 1, f + 1, m, h, ho, hq => by
    show wpAny Mo A (if (M.runFor 4 m).outcome.isSome = true then pure (M.runFor 4 m) else do rule "sre.turn"; reDrive f (M.runFor 4 m)) Q E s
    have e : M.runFor (4 * (k + 1)) m = M.runFor (4 * k) (M.runFor 4 m) := by rw [← runFor_add]; congr 1; omega
    rw [e] at ho hq
    by_cases h1 : (M.runFor 4 m).outcome.isSome = true
    · rw [if_pos h1]
      rw [runFor_done h1] at hq
      exact wpAny_pure hq
    · rw [if_neg h1]
      exact wpAny_bind (wpAny_rule (drive_to k f _ (by omega) ho hq))
theorem tell_ops {m : Sre.M} {Q : PUnit → Shared → Prop} : ∀ (l : List Nat), Q PUnit.unit s → wpAny Mo A (forIn l PUnit.unit fun i _ => if m.seen.has i = true then do rule (Sre.names.getD i ""); pure (ForInStep.yield PUnit.unit) else pure (ForInStep.yield PUnit.unit)) Q E s
  | [], h => wpAny_pure h
  | i :: r, h => by
    rw [List.forIn_cons]
    refine wpAny_bind ?_
    by_cases hc : m.seen.has i = true
    · rw [if_pos hc]
      exact wpAny_bind (wpAny_rule (wpAny_pure (tell_ops r h)))
    · rw [if_neg hc]
      exact wpAny_pure (tell_ops r h)
theorem run_end {m : Sre.M} {n : Nat} {Q : Option Sre.M → Shared → Prop} (ho : (M.runFor n m).outcome.isSome = true) (hn : n ≤ 1000000000)
    (hq : wpAny Mo A (match (M.runFor n m).outcome with
        | some .matched => pure (some (M.runFor n m))
        | some .failed => pure none
        | some (.stuck why) => unsupported s!"_sre:{why}"
        | none => unsupported "internal:sre:no-outcome") Q E s) : wpAny Mo A (reRunToEnd m) Q E s := by
  have e : M.runFor (4 * n) m = M.runFor n m := by
    rw [show 4 * n = n + 3 * n by omega, runFor_add, runFor_done ho]
  unfold reRunToEnd
  refine wpAny_bind (drive_to n _ _ (by omega) (by rw [e]; exact ho) ?_)
  rw [e]
  exact wpAny_bind (tell_ops _ hq)
theorem run_fails {m : Sre.M} {N : Nat} {Q : Option Sre.M → Shared → Prop} (h : Fails m N) (hN : N ≤ 1000000000) (hq : Q none s) : wpAny Mo A (reRunToEnd m) Q E s := by
  obtain ⟨n, h1, h2⟩ := h
  refine run_end (by rw [h2]; rfl) (Nat.le_trans h1 hN) ?_
  rw [h2]
  exact wpAny_pure hq
theorem run_finds {m : Sre.M} {N b e : Nat} {Q : Option Sre.M → Shared → Prop} (h : Finds m N b e) (hN : N ≤ 1000000000) (hq : ∀ m' : Sre.M, m'.start = b → m'.handed = e → Q (some m') s) : wpAny Mo A (reRunToEnd m) Q E s := by
  obtain ⟨n, h1, h2, h3, h4⟩ := h
  refine run_end (by rw [h2]; rfl) (Nat.le_trans h1 hN) ?_
  rw [h2]
  exact wpAny_pure (hq _ h3 h4)
end
namespace R
theorem plainAttrs_re : PlainAttrs "re.Pattern" :=
  ⟨⟨"object.__getattribute__", by rw [typeLookup_type, builtinLookup_eq_fast]; kernel_rfl, by decide +kernel⟩, by rw [typeLookup_type, builtinLookup_eq_fast]; kernel_rfl⟩
theorem slot_re_sub : Slot "re.Pattern" "sub" "re.Pattern.sub" :=
  .of (owner := "re.Pattern") (n := "sub") (by rw [typeLookup_type, builtinLookup_eq_fast]; kernel_rfl) (by decide +kernel) (by decide +kernel) (by decide +kernel)
    (by first | exact .inl (by decide +kernel) | exact .inr (by decide +kernel)) (by rw [isSubtype_type]; kernel_rfl)
theorem type_re_sub : typeOf (.builtin "re.Pattern.sub") = pure (.type "method_descriptor") := by show builtinType _ = _; rw [builtinType_eq_fast]; kernel_rfl
theorem entry_re_sub : entryFor table "re.Pattern.sub" = some Builtin.«re.Pattern.sub» := entryFor_of_tree (by kernel_rfl)
theorem entry_re_loop : entryFor table "re.Pattern.sub.loop" = some Builtin.«re.Pattern.sub.loop» := entryFor_of_tree (by kernel_rfl)
theorem args_re_sub (a b c : Value) : argsOk "re.Pattern.sub" ⟨[a, b, c], []⟩ := by
  unfold argsOk; kernel_rfl
end R
end
end Mine

/-! part: Re2 -/
namespace Mine
section
open PySem PySem.W PySem.Calls PySem.Spec PyProof.Rows PySem.Builtin PySem.Builtin.Re PySem.Sre
def codeV (code : List Nat) : List Value := code.map fun (n : Nat) => Value.int (n : Int) 0
def patF (p : Str) (tp : Tok) (fl : Int) (ct : Addr) (tf : Tok) : Array Value := #[.str p tp, .int fl tf, .int 0 0, .none, .none, .ref ct, .int 0 0]
structure IsPat (h : Heap) (pa : Addr) (code : List Nat) : Prop where
  pat : ∃ p tp fl tf ct, h.get? pa = some { cls := .type "re.Pattern", data := .fields (patF p tp fl ct tf) } ∧ h.get? ct = some { cls := .type "tuple", data := .seq (codeV code).toArray }
section
variable {prog : Program} {w : World} {A : Around} {E : Value → Shared → Prop} {s : Shared} {x : List Nat} {t u : Tok} {pa : Addr} {code : List Nat}
def target (pa : Addr) (v : Value) (code : List Nat) (x : List Nat) : ReTarget := { pattern := .ref pa, string := v, code := code.toArray, text := x.toArray, kind := 0, groups := 0, pos := 0, lim := x.length }
theorem whole_target {M : Model} {Q : ReTarget → Shared → Prop} (P : IsPat s.heap pa code) (hq : Q (target pa (.str (tx x) t) code x) s) : wpAny M A (reWholeTarget (.ref pa) (.str (tx x) t)) Q E s := by
  obtain ⟨p, tp, fl, tf, ct, h1, h2⟩ := P.pat
  unfold reWholeTarget
  refine wpAny_bind ?_
  unfold fieldsOf
  refine wpAny_bind (wpAny_load h1 (wpAny_pure ?_))
  refine wpAny_bind (wpAny_pure ?_)
  show wpAny M A (do
      let items ← reRawItems (.ref ct)
      pure { pattern := .ref pa, string := .str (tx x) t, code := Array.map (fun x => x.toNat) items, text := (tx x).cps, kind := 0, groups := 0, pos := 0, lim := (tx x).cps.size : ReTarget }) Q E s
  unfold reRawItems
  refine wpAny_bind (wpAny_bind ?_)
  unfold seqItems?
  refine wpAny_bind (wpAny_load h2 (wpAny_pure (wpAny_pure (wpAny_pure ?_))))
  have e : ({ pattern := .ref pa, string := .str (tx x) t, code := Array.map (fun x => x.toNat) (Array.map reRawOf ((some (codeV code).toArray).getD #[])), text := (tx x).cps, kind := 0, groups := 0, pos := 0, lim := (tx x).cps.size } : ReTarget) = target pa (.str (tx x) t) code x := by
    unfold target
    congr 1
    show Array.map (fun x => x.toNat) (Array.map reRawOf (codeV code).toArray) = code.toArray
    unfold codeV
    simp [Function.comp_def, reRawOf]
  rw [e]
  exact hq
end
end
end Mine

/-! part: Re3 -/
namespace Mine
section
open PySem PySem.W PySem.Calls PySem.Spec PyProof.Rows PySem.Builtin PySem.Builtin.Re PySem.Sre
section
variable {prog : Program} {w : World} {A : Around} {E : Value → Shared → Prop} {s : Shared} {x r : List Nat} {t u : Tok} {pa : Addr} {code : List Nat}
abbrev loopArgs (pa : Addr) (v r : Value) (n done start : Int) (must : Bool) (l : Addr) : Args := ⟨[.ref pa, v, r, rawInt 0, rawInt 0, rawInt n, rawInt done, rawInt start, .bool must, .ref l, .bool false], []⟩
theorem re_sub_call {Q : Value → Shared → Prop} (P : IsPat s.heap pa code) (h92 : 92 ∉ r)
    (h : codeAny (model prog w) A (.builtin "re.Pattern.sub.loop" (loopArgs pa (.str (tx x) u) (.str (tx r) t) 0 0 0 false s.heap.objs.size)) (fun r s' => match r with | .ok (.ret v) => Q v s' | .ok _ => False | .error e => E e s') { s with heap := s.heap.push { cls := .type "list", data := .seq #[] } }) :
    wpAny (model prog w) A (call (.builtin "re.Pattern.sub") [.ref pa, .str (tx r) t, .str (tx x) u]) Q E s := by
  obtain ⟨p, tp, fl, tf, ct, h1, h2⟩ := P.pat
  refine wpAny_call (codeAny_call_builtin R.slot_re_sub.plain R.entry_re_sub (R.slot_re_sub.check _ _ _ _ _ _ _ _ ⟨_, h1, rfl⟩ (R.args_re_sub _ _ _) ?_))
  unfold Builtin.«re.Pattern.sub» reSubstitute
  refine wpAny_bind (wpAny_pure ?_)
  refine wpAny_bind (wpAny_pure ?_)
  try dsimp only
  refine wpAny_bind (wpAny_specialOf (r := none) (typeIs_str _ _ _) (by rw [typeLookup_type, builtinLookup_eq_fast]; kernel_rfl) ?_)
  rw [if_neg (by exact Bool.false_ne_true)]
  refine wpAny_bind (wpAny_pure ?_)
  have hl : (!(tx r).cps.contains 92) = true := by
    rw [Bool.not_eq_true', ← Bool.not_eq_true, Array.contains_iff_mem]
    show ¬ 92 ∈ r.toArray
    simpa using h92
  try dsimp only
  refine wpAny_bind (wpAny_pure ?_)
  rw [hl, if_neg (by exact Bool.false_ne_true), if_pos rfl]
  refine wpAny_bind (wpAny_pure ?_)
  try dsimp only
  refine wpAny_bind (wpAny_holding (whole_target P ?_))
  rw [if_neg (by decide)]
  refine wpAny_bind (wpAny_newObj_type ?_ ?_)
  · refine wpAny_pure ?_
    refine ⟨?_, h⟩
    exact plainId_quiet (by decide +kernel) _
  · exact Nat.zero_le _
end
end
end Mine

/-! part: Re4 -/
namespace Mine
section
open PySem PySem.W PySem.Calls PySem.Spec PyProof.Rows PySem.Builtin PySem.Builtin.Re PySem.Sre
section
variable {prog : Program} {w : World} {A : Around} {E : Value → Shared → Prop} {s : Shared} {x r : List Nat} {t u : Tok} {pa l : Addr} {code : List Nat} {n done start b e : Nat} {must : Bool} {ps : List (Str × Tok)} {k N : Nat}
abbrev slist (ps : List (Str × Tok)) (k : Nat) : Obj := { cls := .type "list", data := .seq (strValues ps).toArray k }
theorem IsPat.same {h h' : Heap} {ps : List (Str × Tok)} {k : Nat} (P : IsPat h pa code) (hl : h.get? l = some (slist ps k)) (hs : Heap.SameBut l h h') : IsPat h' pa code := by
  obtain ⟨p, tp, fl, tf, ct, h1, h2⟩ := P.pat
  refine ⟨p, tp, fl, tf, ct, ?_, ?_⟩
  · rw [hs.2 pa ?_]; exact h1
    intro e; rw [e, hl] at h1; exact absurd (congrArg Obj.cls (Option.some.inj h1)) (by simp)
  · rw [hs.2 ct ?_]; exact h2
    intro e; rw [e, hl] at h2; exact absurd (congrArg Obj.cls (Option.some.inj h2)) (by simp)
theorem push_text {M : Model} {Q : Unit → Shared → Prop} {v : Str} {t : Tok} (hl : s.heap.get? l = some (slist ps k)) (hz : ps.length ≤ 1000)
    (h : ∀ h', Heap.SameBut l s.heap h' → h'.get? l = some (slist (ps ++ [(v, t)]) (k + 1)) → Q () { s with heap := h' }) :
    wpAny M A (updateSeq l (·.push (.str v t))) Q E s := by
  have hsz : ((strValues ps).toArray).size = ps.length := by simp [strValues]
  refine wpAny_updateSeq hl rfl (h _ (Heap.SameBut.update ..) ?_) (by rw [hsz, PySem.sizeLine_eq]; omega) (by rw [Array.size_push, hsz, PySem.sizeLine_eq]; omega)
  rw [Heap.get?_update_self _ hl (by rw [mapSeq_push]; rfl), mapSeq_push]
  simp [strValues]
theorem loop_turn {Re : Result → Shared → Prop} (P : IsPat s.heap pa code) (hl : s.heap.get? l = some (slist ps k)) (hz : ps.length ≤ 100)
    (F : Finds (forSearch code.toArray x.toArray 0 start x.length must) N b e) (hN : N ≤ 1000000) (hx : x.length ≤ 1000000)
    (h : ∀ h' tk', Heap.SameBut l s.heap h' → (∃ t' k', h'.get? l = some (slist (ps ++ (if done < b then [(⟨x.toArray.extract done b⟩, t')] else []) ++ [(tx r, t)]) k')) →
      codeAny (model prog w) A (.builtin "re.Pattern.sub.loop" (loopArgs pa (.str (tx x) u) (.str (tx r) t) ((n : Int) + 1) e e (e == b) l)) Re { s with heap := h', toks := tk' }) :
    codeAny (model prog w) A (.builtin "re.Pattern.sub.loop" (loopArgs pa (.str (tx x) u) (.str (tx r) t) n done start must l)) Re s := by
  refine codeAny_builtin R.entry_re_loop ?_
  rw [Around.under_plainId (by decide +kernel)]
  unfold Builtin.«re.Pattern.sub.loop»
  refine wpAny_bind (whole_target P ?_)
  dsimp only
  rw [if_pos (show ((0 : Int) == 0) = true from rfl)]
  refine wpAny_bind (wpAny_pure ?_)
  refine wpAny_bind ?_
  rw [if_neg (show ¬ (((0 : Int) != 0 && decide ((n : Int) ≥ 0)) = true) by simp)]
  show wpAny _ _ (reRunToEnd (forSearch code.toArray x.toArray 0 start x.length must)) _ _ _
  refine run_finds F (by omega) fun m' hb he => ?_
  subst hb he
  dsimp only
  have last : ∀ (s₁ : Shared) (k₁ : Nat), (∃ h₁ tk₁, s₁ = { s with heap := h₁, toks := tk₁ }) → Heap.SameBut l s.heap s₁.heap → (∃ t', s₁.heap.get? l = some (slist (ps ++ (if done < m'.start then [(⟨x.toArray.extract done m'.start⟩, t')] else [])) k₁)) →
      wpAny (model prog w) A.in1 (do
        let item ← pure (Value.str (tx r) t)
        if (item != Value.none) = true then do
            let __r ← updateSeq l fun x => x.push item
            again (Code.builtin "re.Pattern.sub.loop" { pos := [Value.ref pa, Value.str (tx x) u, Value.str (tx r) t, rawInt 0, rawInt 0, rawInt (↑n + 1), rawInt ↑m'.handed, rawInt ↑m'.handed, Value.bool (m'.handed == m'.start), Value.ref l, Value.bool false] })
          else again (Code.builtin "re.Pattern.sub.loop" { pos := [Value.ref pa, Value.str (tx x) u, Value.str (tx r) t, rawInt 0, rawInt 0, rawInt (↑n + 1), rawInt ↑m'.handed, rawInt ↑m'.handed, Value.bool (m'.handed == m'.start), Value.ref l, Value.bool false] }))
        (fun fin s' => match fin with | Fin.done f => Re (Except.ok f) s' | Fin.again c' => c'.quiet = true ∧ codeAny (model prog w) A c' Re s')
        (fun e s' => Re (Except.error e) s') s₁ := by
    intro s₁ k₁ ⟨h₁, tk₁, e₁⟩ hs₁ ⟨t', hl₁⟩
    refine wpAny_bind (wpAny_pure ?_)
    rw [if_pos (by rfl)]
    refine wpAny_bind (push_text hl₁ ?_ fun h₂ hs₂ hl₂ => ?_)
    · rw [List.length_append]; split <;> simp <;> omega
    · refine wpAny_pure ⟨plainId_quiet (by decide +kernel) _, ?_⟩
      subst e₁
      exact h h₂ tk₁ (hs₁.trans hs₂) ⟨t', _, hl₂⟩
  by_cases hd : done < m'.start
  · rw [if_pos (by exact hd)]
    refine wpAny_bind ?_
    show wpAny _ _ (mkStr ⟨x.toArray.extract done m'.start⟩) _ _ _
    refine wpAny_mkStr ?_ ?_
    · refine wpAny_bind (push_text hl (by omega) fun h₂ hs₂ hl₂ => ?_)
      rw [if_pos (show ((0 : Int) == 0) = true from rfl)]
      refine last _ (k + 1) ⟨h₂, s.toks + 1, rfl⟩ hs₂ ⟨s.toks, ?_⟩
      rw [if_pos hd]
      exact hl₂
    · have : (x.toArray.extract done m'.start).size ≤ x.length := by simp; omega
      exact Nat.le_trans this (by rw [PySem.sizeLine_eq]; omega)
  · rw [if_neg (by exact hd)]
    rw [if_pos (show ((0 : Int) == 0) = true from rfl)]
    refine last s k ⟨s.heap, s.toks, rfl⟩ (Heap.SameBut.refl _ _) ⟨0, ?_⟩
    rw [if_neg hd, List.append_nil]
    exact hl
theorem strValues_app (a b : List (Str × Tok)) : strValues (a ++ b) = strValues a ++ strValues b := by simp [strValues]
theorem loop_over {Re : Result → Shared → Prop} (P : IsPat s.heap pa code) (hl : s.heap.get? l = some (slist ps k)) (hz : ps.length ≤ 100) (hne : ps ≠ [])
    (F : Fails (forSearch code.toArray x.toArray 0 start x.length must) N) (hN : N ≤ 1000000) (hx : x.length ≤ 1000000) (hj : JoinOk Str.empty (ps.map (·.1) ++ (if done < x.length then [⟨x.toArray.extract done x.length⟩] else [])) = true)
    (h : ∀ h' tk' t', Heap.SameBut l s.heap h' → Re (.ok (.ret (.str (Txt.join Str.empty (ps.map (·.1) ++ (if done < x.length then [⟨x.toArray.extract done x.length⟩] else []))) t'))) { s with heap := h', toks := tk' }) :
    codeAny (model prog w) A (.builtin "re.Pattern.sub.loop" (loopArgs pa (.str (tx x) u) (.str (tx r) t) n done start must l)) Re s := by
  refine codeAny_builtin R.entry_re_loop ?_
  rw [Around.under_plainId (by decide +kernel)]
  unfold Builtin.«re.Pattern.sub.loop»
  refine wpAny_bind (whole_target P ?_)
  dsimp only
  rw [if_pos (show ((0 : Int) == 0) = true from rfl)]
  refine wpAny_bind (wpAny_pure ?_)
  refine wpAny_bind ?_
  rw [if_neg (show ¬ (((0 : Int) != 0 && decide ((n : Int) ≥ 0)) = true) by simp)]
  show wpAny _ _ (reRunToEnd (forSearch code.toArray x.toArray 0 start x.length must)) _ _ _
  refine run_fails F (by omega) ?_
  dsimp only
  by_cases hd : done < x.length
  · rw [if_pos (by exact hd)]
    rw [if_pos hd] at hj h
    refine wpAny_bind ?_
    show wpAny _ _ (mkStr ⟨x.toArray.extract done x.length⟩) _ _ _
    refine wpAny_mkStr ?_ ?_
    · refine wpAny_bind (push_text hl (by omega) fun h₂ hs₂ hl₂ => ?_)
      refine wpAny_bind ?_
      show wpAny _ _ (mkStr ⟨x.toArray.extract 0 0⟩) _ _ _
      refine wpAny_mkStr ?_ ?_
      · refine wpAny_bind ?_
        unfold seqItems?
        refine wpAny_bind (wpAny_load hl₂ (wpAny_pure ?_))
        rw [if_neg (show ¬ (((some (strValues (ps ++ [((⟨x.toArray.extract done x.length⟩ : Str), s.toks)])).toArray).getD #[]).isEmpty = true) by
          rw [strValues_app]
          simp [strValues])]
        refine wpAny_bind ?_
        have e0 : (⟨x.toArray.extract 0 0⟩ : Str) = Str.empty := by
          unfold Str.empty
          congr 1
          simp
        rw [e0]
        refine SC.join (l := ps ++ [(⟨x.toArray.extract done x.length⟩, s.toks)]) (texts := ps.map (·.1) ++ [⟨x.toArray.extract done x.length⟩]) ⟨_, hl₂, rfl, _, rfl⟩ (by rw [List.map_append]; rfl) hj fun t' k' => ?_
        rw [if_neg Bool.false_ne_true]
        exact wpAny_pure (h _ _ _ hs₂)
      · simp [Str.length]
    · have : (x.toArray.extract done x.length).size ≤ x.length := by simp
      exact Nat.le_trans this (by rw [PySem.sizeLine_eq]; omega)
  · rw [if_neg (by exact hd)]
    rw [if_neg hd, List.append_nil] at hj h
    refine wpAny_bind ?_
    show wpAny _ _ (mkStr ⟨x.toArray.extract 0 0⟩) _ _ _
    refine wpAny_mkStr ?_ ?_
    · refine wpAny_bind ?_
      unfold seqItems?
      refine wpAny_bind (wpAny_load hl (wpAny_pure ?_))
      rw [if_neg (show ¬ (((some (strValues ps).toArray).getD #[]).isEmpty = true) by
        cases ps with
        | nil => exact absurd rfl hne
        | cons p q => simp [strValues])]
      refine wpAny_bind ?_
      have e0 : (⟨x.toArray.extract 0 0⟩ : Str) = Str.empty := by
        unfold Str.empty
        congr 1
        simp
      rw [e0]
      refine SC.join (l := ps) (texts := ps.map (·.1)) ⟨_, hl, rfl, _, rfl⟩ rfl hj fun t' k' => ?_
      rw [if_neg Bool.false_ne_true]
      exact wpAny_pure (h _ _ _ (Heap.SameBut.refl _ _))
    · simp [Str.length]
end
end
end Mine

/-! part: Re5 -/
namespace Mine
section
open PySem PySem.W PySem.Calls PySem.Spec PyProof.Rows PySem.Builtin PySem.Builtin.Re PySem.Sre
def codeL1 : List Nat := [14, 4, 0, 1, 1, 6, 1, 16, 46, 1]
def codeL2 : List Nat := [14, 9, 4, 1, 2, 16, 10, 16, 13, 0, 7, 7, 16, 13, 16, 10, 15, 18, 5, 16, 10, 15, 13, 11, 16, 13, 5, 5, 0, 16, 10, 1, 15, 2, 0, 1]
theorem join_tx2 (a b : List Nat) : Txt.join Str.empty [tx a, tx b] = tx (a ++ b) := by
  show Builtin.Str.glued Str.empty [tx a, tx b] = _
  rw [StrLaws.glued_eq_join]
  show tx a ++ Str.empty ++ tx b = _
  rw [Str.append_empty, tx_app]
theorem joinOk2 (a b : List Nat) (h : a.length + b.length ≤ 1000000) : JoinOk Str.empty [tx a, tx b] = true := by
  unfold JoinOk
  have e : Str.empty.length = 0 := rfl
  rw [StrLaws.joinTotal, e]
  simp only [List.map_cons, List.map_nil, List.sum_cons, List.sum_nil, tx_len, Nat.mul_zero, Nat.add_zero]
  unfold Builtin.Str.tooLong
  rw [PySem.sizeLine_eq]
  simp
  omega
theorem ext_tx (l : List Nat) (a b : Nat) : (⟨l.toArray.extract a b⟩ : Str) = tx ((l.take b).drop a) := by
  unfold tx
  congr 1
  simp [List.drop_take]
section
variable {prog : Program} {w : World} {A : Around} {E : Value → Shared → Prop} {s : Shared} {x r : List Nat} {t u : Tok} {pa l : Addr}
theorem IsPat.keeps {h h' : Heap} {code : List Nat} (P : IsPat h pa code) (k : Keeps h h') : IsPat h' pa code := by
  obtain ⟨p, tp, fl, tf, ct, h1, h2⟩ := P.pat
  exact ⟨p, tp, fl, tf, ct, k _ _ h1, k _ _ h2⟩
theorem keeps_push_same {h h' : Heap} {o : Obj} (e : Heap.SameBut h.objs.size (h.push o) h') : Keeps h h' := fun b o' hb => by
  rw [e.2 b (Nat.ne_of_lt (Heap.lt_size hb))]
  exact Heap.get?_push_of_some _ hb
theorem re_crlf {Q : Value → Shared → Prop} (P : IsPat s.heap pa codeL2) (hx : x.length ≤ 100000) (hne : x ≠ []) (hf : 10 ∉ x ∧ 13 ∉ x)
    (h : ∀ h' tk' t', Keeps s.heap h' → Q (.str (tx (x ++ [13, 10])) t') { s with heap := h', toks := tk' }) :
    wpAny (model prog w) A (call (.builtin "re.Pattern.sub") [.ref pa, .str (tx [13, 10]) t, .str (tx (x ++ [10])) u]) Q E s := by
  refine re_sub_call P (by decide) ?_
  have hlen : (x ++ [10]).length = x.length + 1 := by simp
  have P' : IsPat (s.heap.push { cls := .type "list", data := .seq #[] }) pa codeL2 := P.keeps fun _ _ e => Heap.get?_push_of_some _ e
  have hl : (s.heap.push { cls := .type "list", data := .seq #[] }).get? s.heap.objs.size = some (slist [] 0) := Heap.get?_push_size _ rfl
  have hfd : Finds (forSearch codeL2.toArray (x ++ [10]).toArray 0 0 (x ++ [10]).length false) 12 x.length (x.length + 1) := by
    refine find2 hlen ?_ fun i hi => ?_
    · simp
    · have e : (x ++ [10]).toArray.getD i 0 = x[i] := by
        have := List.getElem?_append_left (l₂ := [10]) hi
        simp [this, hi]
      rw [e]
      exact ⟨fun q => hf.1 (q ▸ List.getElem_mem _), fun q => hf.2 (q ▸ List.getElem_mem _)⟩
  have hpos : 0 < x.length := List.length_pos_iff.mpr hne
  refine loop_turn (s := { s with heap := _ }) (n := 0) (done := 0) (start := 0) P' hl (by simp) hfd (by omega) (by omega) fun h₁ tk₁ hs₁ ⟨t', k', hl₁⟩ => ?_
  have kp : Keeps s.heap h₁ := keeps_push_same hs₁
  rw [if_pos hpos] at hl₁
  have hfl : Fails (forSearch codeL2.toArray (x ++ [10]).toArray 0 (x.length + 1) (x ++ [10]).length (x.length + 1 == x.length)) 4 := by
    rw [hlen, show (x.length + 1 == x.length) = false from beq_eq_false_iff_ne.mpr (by omega)]
    exact fail2
  have hd : ¬ (x.length + 1 < (x ++ [10]).length) := by rw [hlen]; omega
  have e1 : (⟨(x ++ [10]).toArray.extract 0 x.length⟩ : Str) = tx x := by
    rw [ext_tx]; simp
  refine loop_over (s := { s with heap := h₁, toks := tk₁ }) (n := 0 + 1) (done := x.length + 1) (start := x.length + 1) (P.keeps kp) hl₁ (by simp) (by simp) hfl (by omega) (by omega) ?_ fun h₂ tk₂ t₂ hs₂ => ?_
  · rw [if_neg hd]
    simp only [List.nil_append, List.cons_append, List.map_cons, List.map_nil, List.append_nil, e1]
    exact joinOk2 _ _ (by simp; omega)
  · rw [if_neg hd]
    simp only [List.nil_append, List.cons_append, List.map_cons, List.map_nil, List.append_nil, e1]
    rw [join_tx2]
    refine h _ _ _ fun b o hb => ?_
    rw [hs₂.2 b (Nat.ne_of_lt (Heap.lt_size hb))]
    exact kp b o hb
theorem re_dots {Q : Value → Shared → Prop} (P : IsPat s.heap pa codeL1) (hx : x.length ≤ 100000) (hf : 10 ∉ x)
    (h : ∀ h' tk' t', Keeps s.heap h' → Q (.str (tx (46 :: 46 :: x ++ [10])) t') { s with heap := h', toks := tk' }) :
    wpAny (model prog w) A (call (.builtin "re.Pattern.sub") [.ref pa, .str (tx [46, 46]) t, .str (tx (46 :: x ++ [10])) u]) Q E s := by
  refine re_sub_call P (by decide) ?_
  have hlen : (46 :: x ++ [10]).length = x.length + 2 := by simp
  have P' : IsPat (s.heap.push { cls := .type "list", data := .seq #[] }) pa codeL1 := P.keeps fun _ _ e => Heap.get?_push_of_some _ e
  have hl : (s.heap.push { cls := .type "list", data := .seq #[] }).get? s.heap.objs.size = some (slist [] 0) := Heap.get?_push_size _ rfl
  have hfd : Finds (forSearch codeL1.toArray (46 :: x ++ [10]).toArray 0 0 (46 :: x ++ [10]).length false) 8 0 1 := find1 (by omega) (by simp)
  refine loop_turn (s := { s with heap := _ }) (n := 0) (done := 0) (start := 0) P' hl (by simp) hfd (by omega) (by omega) fun h₁ tk₁ hs₁ ⟨t', k', hl₁⟩ => ?_
  have kp : Keeps s.heap h₁ := keeps_push_same hs₁
  rw [if_neg (Nat.lt_irrefl 0)] at hl₁
  have hfl : Fails (forSearch codeL1.toArray (46 :: x ++ [10]).toArray 0 1 (46 :: x ++ [10]).length ((1 : Nat) == 0)) (2 * (46 :: x ++ [10]).length + 4) := by
    refine fail1 (by omega) fun i h1 h2 => ?_
    rw [hlen] at h2
    have e : (46 :: x ++ [10]).toArray.getD (i - 1) 0 = (46 :: x)[i - 1]'(by simp; omega) := by
      have : i - 1 < (46 :: x).length := by simp; omega
      rw [← Array.getElem_eq_getD (h := by simp; omega)]
      exact List.getElem_append_left this
    rw [e]
    intro q
    have : (46 :: x)[i - 1]'(by simp; omega) ∈ 46 :: x := List.getElem_mem _
    rw [q] at this
    simp at this
    exact hf this
  have hd : 1 < (46 :: x ++ [10]).length := by rw [hlen]; omega
  have e1 : (⟨(46 :: x ++ [10]).toArray.extract 1 (46 :: x ++ [10]).length⟩ : Str) = tx (x ++ [10]) := by
    rw [ext_tx, List.take_of_length_le (Nat.le_refl _)]; simp
  refine loop_over (s := { s with heap := h₁, toks := tk₁ }) (n := 0 + 1) (done := 1) (start := 1) (P.keeps kp) hl₁ (by simp) (by simp) hfl (by omega) (by omega) ?_ fun h₂ tk₂ t₂ hs₂ => ?_
  · rw [if_pos hd]
    simp only [List.nil_append, List.cons_append, List.map_cons, List.map_nil, List.append_nil]
    have e2 := e1
    simp only [List.cons_append] at e2
    rw [e2]
    exact joinOk2 _ _ (by simp; omega)
  · rw [if_pos hd]
    simp only [List.nil_append, List.cons_append, List.map_cons, List.map_nil, List.append_nil]
    have e2 := e1
    simp only [List.cons_append] at e2
    rw [e2, join_tx2]
    refine h _ _ _ fun b o hb => ?_
    rw [hs₂.2 b (Nat.ne_of_lt (Heap.lt_size hb))]
    exact kp b o hb
end
end
end Mine

/-! part: Re6 -/
namespace Mine
section
open PySem PySem.W PySem.Calls PySem.Spec PyProof.Rows PySem.Builtin PySem.Builtin.Re PySem.Sre
theorem pat1_K (P : Params) : (hd.heap_39 P).lookup 68 = some { cls := .type "re.Pattern", data := .fields (patF (Str.ofString "(?m)^\\.") 330 40 67 343) } := by rfl
theorem pat1c_K (P : Params) : (hd.heap_39 P).lookup 67 = some { cls := .type "tuple", data := .seq (codeV codeL1).toArray } := by rfl
theorem pat2_K (P : Params) : (hd.heap_39 P).lookup 73 = some { cls := .type "re.Pattern", data := .fields (patF (Str.ofString "(?:\\r\\n|\\n|\\r(?!\\n))") 346 32 72 385) } := by rfl
theorem pat2c_K (P : Params) : (hd.heap_39 P).lookup 72 = some { cls := .type "tuple", data := .seq (codeV codeL2).toArray } := by rfl
section
variable {w : World} {M : Model} {A : Around} {E : Value → Shared → Prop} {s : Shared} {h₀ : Heap} {L : Addr} {m : Str → Option Value}
theorem pat1 (F : Fr h₀ L s.heap m) (X : (hd.heap_39 w.params).In h₀) : IsPat s.heap 68 codeL1 := ⟨_, _, _, _, _, (X.keeps F.keep) _ _ (pat1_K _), (X.keeps F.keep) _ _ (pat1c_K _)⟩
theorem pat2 (F : Fr h₀ L s.heap m) (X : (hd.heap_39 w.params).In h₀) : IsPat s.heap 73 codeL2 := ⟨_, _, _, _, _, (X.keeps F.keep) _ _ (pat2_K _), (X.keeps F.keep) _ _ (pat2c_K _)⟩
theorem re_getMethod {a : Addr} {code : List Nat} {pl : Sem Bool} {Q : Value × List Value → Shared → Prop} (P : IsPat s.heap a code) (h : Q (.builtin "re.Pattern.sub", [.ref a]) s) : wpAny M A (getMethod (.ref a) (Str.ofString "sub") pl) Q E s := by
  obtain ⟨p, tp, fl, tf, ct, h1, h2⟩ := P.pat
  exact getMethod_builtin ⟨_, h1, rfl⟩ R.plainAttrs_re R.slot_re_sub R.type_re_sub (fun b e => by cases e; exact ⟨_, h1, rfl⟩) h
end
end
end Mine

/-! part: Pre -/
namespace Mine
section
open PySem PySem.W PySem.Calls PySem.Spec PyProof.Rows
def stopped {α : Type} (t : Sem α) : Sem α := t
theorem stop_here {α : Type} {M : Model} {A : Around} {t : Sem α} {Q : α → Shared → Prop} {E : Value → Shared → Prop} {s : Shared} (h : wpAny M A (stopped t) Q E s) : wpAny M A t Q E s := h
def StopP (p : Prop) : Prop := p
theorem stop_p {p : Prop} (h : StopP p) : p := h
theorem str_amp : Str.ofString "&" = ⟨#[38]⟩ := by decide +kernel
theorem str_lt : Str.ofString "<" = ⟨#[60]⟩ := by decide +kernel
theorem str_gt : Str.ofString ">" = ⟨#[62]⟩ := by decide +kernel
theorem str_cr : Str.ofString "\u000d" = ⟨#[13]⟩ := by decide +kernel
theorem str_amp2 : Str.ofString "&amp;" = tx [38, 97, 109, 112, 59] := by decide +kernel
theorem str_lt2 : Str.ofString "&lt;" = tx [38, 108, 116, 59] := by decide +kernel
theorem str_gt2 : Str.ofString "&gt;" = tx [38, 103, 116, 59] := by decide +kernel
theorem str_cr2 : Str.ofString "&#xD;" = tx [38, 35, 120, 68, 59] := by decide +kernel
theorem str_dots : Str.ofString ".." = tx [46, 46] := by decide +kernel
theorem str_crlf : Str.ofString "\u000d\n" = tx [13, 10] := by decide +kernel
theorem str_nl : Str.ofString "\n" = ⟨#[10]⟩ := by decide +kernel
theorem spl_len (c : Nat) : ∀ l : List Nat, (spl c l).length ≤ l.length + 1
  | [] => by simp [spl]
  | d :: r => by
    have := spl_len c r
    unfold spl
    split
    · simp; omega
    · split
      · rename_i h; rw [h] at this; simp at this ⊢; omega
      · simp
theorem execs_pos {M : Model} {A : Around} {E : Value → Shared → Prop} {s : Shared} {st : Stmt} {rest : List Stmt} {env : Env} {Q : Flow → Shared → Prop} {k : Nat} (h : ∀ tk, 0 < tk → wpAny M A (execs (st :: rest) env) Q E { s with toks := tk }) :
    wpAny M A (execs (st :: rest) env) Q E { s with toks := k + 1 } := h (k + 1) (Nat.succ_pos k)
theorem repl_step {prog : Program} {w : World} {A : Around} {E : Value → Shared → Prop} {s : Shared} {x z : List Nat} {c : Nat} {t u v : Tok} {o r : Str} {Q : Value → Shared → Prop} {n : Nat} (ho : o = ⟨#[c]⟩) (hr : r = tx z) (hz : 1 ≤ z.length ∧ z.length ≤ 5 ∧ ([c] == z) = false) (hx : x.length ≤ n) (hu : @LT.lt Nat _ 0 u) (hv : @LT.lt Nat _ 0 v) (huv : @Ne Nat u v) (hn : n ≤ 1000000)
    (hq : ∀ t' k, (sub1 c z x).length ≤ n * 5 → Q (.str (tx (sub1 c z x)) t') { s with toks := k }) : wpAny (model prog w) A (call (.builtin "str.replace") [.str (tx x) t, .str o u, .str r v]) Q E s := by
  subst ho hr
  obtain ⟨h1, h2, h3⟩ := hz
  refine SC.replace (Nat.ne_of_gt hu) (Nat.ne_of_gt hv) huv ?_ ?_ fun t' k => ?_
  · have : ((⟨#[c]⟩ : Str) == tx z) = ([c] == z) := by
      rw [Bool.eq_iff_iff, beq_iff_eq, beq_iff_eq]
      exact ⟨fun e => tx_inj (a := [c]) e, fun e => by rw [← e]; rfl⟩
    rw [this]; exact h3
  · rw [tx_len, tx_len]
    have : (x.length + 1) * z.length ≤ (x.length + 1) * 5 := Nat.mul_le_mul_left _ h2
    omega
  · rw [replace_tx]
    refine hq t' k ?_
    have := sub1_len c z x h1
    have h4 : x.length * z.length ≤ n * 5 := Nat.mul_le_mul hx h2
    omega
theorem absent {l z : List Nat} {c : Nat} {o : Str} (ho : o = ⟨#[c]⟩) (h : (Builtin.Str.occurrences (tx l) o 0 (tx l).length 1).isEmpty = true) : sub1 c z l = l := by
  subst ho
  rw [in_tx] at h
  exact sub1_free (by simpa using h)
theorem binds_peek {s : Shared} {K : Frag} {fd : FuncData} {args : Args} {binds : List (Str × Value)} (X : K.In s.heap) (e : ∀ S, peek K S (bindArgs fd args) = some binds) : BindsTo s fd args binds :=
  fun _ _ _ _ hq _ _ _ => wp_of_peek X hq _ (e _)
/-- a sorted list with one more item -/
def insR (x : Int) : List Int → List Int
  | [] => [x]
  | b :: r => if x < b then x :: b :: r else b :: insR x r
theorem insR_at (x : Int) : ∀ (ns : List Int) (k : Nat), k ≤ ns.length → (∀ i, i < k → ns.getD i 0 ≤ x) → (∀ i, k ≤ i → i < ns.length → x < ns.getD i 0) → ns.take k ++ x :: ns.drop k = insR x ns
  | [], k, hk, _, _ => by
    have : k = 0 := by simpa using hk
    subst this; rfl
  | b :: r, 0, hk, _, h2 => by
    have := h2 0 (Nat.le_refl _) (by simp)
    simp only [List.getD_cons_zero] at this
    simp [insR, this]
  | b :: r, k + 1, hk, h1, h2 => by
    have h0 := h1 0 (by omega)
    simp only [List.getD_cons_zero] at h0
    have ih := insR_at x r k (by simpa using hk) (fun i hi => by simpa using h1 (i + 1) (by omega)) (fun i hi hl => by simpa using h2 (i + 1) (by omega) (by simpa using hl))
    simp only [List.take_succ_cons, List.drop_succ_cons, List.cons_append, insR, if_neg (Int.not_lt.mpr h0), ih]
theorem sorted_getD {ns : List Int} (hs : ns.Pairwise (· ≤ ·)) {i j : Nat} (h : i ≤ j) (hj : j < ns.length) : ns.getD i 0 ≤ ns.getD j 0 := by
  rw [List.getD_eq_getElem?_getD, List.getD_eq_getElem?_getD, List.getElem?_eq_getElem hj, List.getElem?_eq_getElem (by omega)]
  simp only [Option.getD_some]
  rcases Nat.lt_or_eq_of_le h with h | h
  · exact List.pairwise_iff_getElem.mp hs i j (by omega) hj h
  · subst h; exact Int.le_refl _
theorem insR_sorted (x : Int) : ∀ {ns : List Int}, ns.Pairwise (· ≤ ·) → (insR x ns).Pairwise (· ≤ ·)
  | [], _ => by simp [insR]
  | b :: r, h => by
    have h1 := List.pairwise_cons.mp h
    unfold insR
    split
    · rename_i hx
      refine List.pairwise_cons.mpr ⟨fun a ha => ?_, h⟩
      rcases List.mem_cons.mp ha with rfl | ha
      · omega
      · have := h1.1 a ha; omega
    · rename_i hx
      refine List.pairwise_cons.mpr ⟨fun a ha => ?_, insR_sorted x h1.2⟩
      have key : ∀ {l : List Int}, a ∈ insR x l → a = x ∨ a ∈ l := by
        intro l
        induction l with
        | nil => intro h; simpa [insR] using h
        | cons c l ih =>
          intro h
          unfold insR at h
          split at h
          · simpa using h
          · rcases List.mem_cons.mp h with rfl | h
            · exact .inr List.mem_cons_self
            · exact (ih h).imp id (List.mem_cons_of_mem _)
      rcases key ha with rfl | ha
      · omega
      · exact h1.1 a ha
end
end Mine

/-! part: Esc -/
namespace Mine
section
open PySem PySem.W PySem.Calls PySem.Spec PyProof.Rows
section
variable {w : World} {prog : Program} {dp un : Nat} {gd : Option (List Code)} {cn : Str} {cs : Scope} {a : Addr} {ccd : Value} {cl : List (Str × Addr)} {outer : List Env} {L : Addr} {s : Shared} {Q E : Value → Shared → Prop} {t1 t2 t3 t4 t5 : Tok}
local macro_rules | `(tactic| walk_at "MINE enter") => `(tactic| (k_dflt (refine' Site.enter ?kS ?k6 ?k7 ?k8 ?k9 ?kB ?_; (case kS => assumption); (case k6 => k_is); (case k7 => k_is); (case k8 => ktr_room); (case k9 => first | exact BindsTo.of_eq rfl | exact binds_K (by k_in) rfl (by k_is) rfl rfl rfl); (case kB => exact rfl); k_whole; intro p' loose' mean' mg' mb' base' L' h' F' N' B' X' T'; (try dsimp only))))
local macro_rules | `(tactic| walk_at "execs cons") => `(tactic| ((with_reducible refine execs_pos ?_); intro tkp hkp; (try dsimp only)))
local macro_rules | `(tactic| walk_at "call builtin:str.replace") => `(tactic| ((first
  | refine repl_step str_amp str_amp2 (by decide) (by assumption) (by omega) (by omega) (by omega) (by omega) ?_
  | refine repl_step str_lt str_lt2 (by decide) (by assumption) (by omega) (by omega) (by omega) (by omega) ?_
  | refine repl_step str_gt str_gt2 (by decide) (by assumption) (by omega) (by omega) (by omega) (by omega) ?_
  | refine repl_step str_cr str_cr2 (by decide) (by assumption) (by omega) (by omega) (by omega) (by omega) ?_); intro tr kr hxr; (try dsimp only)))
theorem esc_con {x : List Nat} (S : Site w cs (outer) L s.heap) (hd : dp + 4 < recursionLimit) (hu : un + 30 < cLine) (hx : x.length ≤ 8000)
    (ret : Ret s Q (fun t => .str (tx (escL x)) t)) :
    wpAny (model prog w) (ktrTop dp un gd cn cs L a ccd cl outer) (call (.ref 45) [.str (tx x) t1]) Q E s := by
  obtain ⟨⟨p, loose, mean, mg, mb, A₀, base, h₀, m, B, F, X, T⟩, hk⟩ := id S
  refine wpAny_call ?_
  walk_at "MINE enter"
  k_steps
  all_goals (
    dsimp only
    refine Ret.now ret (by assumption) (congrArg (fun z => Value.str (tx z) _) ?_) rfl
    rw [← escL_eq]
    try rw [absent str_amp (by assumption)]
    try rw [absent str_lt (by assumption)]
    try rw [absent str_gt (by assumption)]
    try rw [absent str_cr (by assumption)])
end
end
end Mine

/-! part: Hours -/
namespace Mine
section
open PySem PySem.W PySem.Calls PySem.Spec PyProof.Rows
section
variable {w : World} {prog : Program} {dp un : Nat} {gd : Option (List Code)} {cn : Str} {cs : Scope} {a : Addr} {ccd : Value} {cl : List (Str × Addr)} {outer : List Env} {L : Addr} {s : Shared} {Q E : Value → Shared → Prop} {t1 t2 t3 t4 t5 : Tok}
local macro_rules | `(tactic| walk_at "MINE enter") => `(tactic| (k_dflt (refine' Site.enter ?kS ?k6 ?k7 ?k8 ?k9 ?kB ?_; (case kS => assumption); (case k6 => k_is); (case k7 => k_is); (case k8 => ktr_room); (case k9 => first | exact BindsTo.of_eq rfl | exact binds_K (by k_in) rfl (by k_is) rfl rfl rfl); (case kB => exact rfl); k_whole; intro p' loose' mean' mg' mb' base' L' h' F' N' B' X' T'; (try dsimp only))))
local macro_rules | `(tactic| walk_at "eval ListComp") => `(tactic| (k_here; k_dflt (refine LCg.ListComp_U (F₀ := by k_asm) (by with_unfolding_all rfl) (by decide) (by rfl) (by decide) (by rfl) ?_)))
local macro_rules | `(tactic| walk_at "call builtin:str.split") => `(tactic| (k_here; (first | refine split_step str_amp (by assumption) (by k_asm) (by k_asm) (by omega) ?_); intro ws' h' tk' hW' F' N'; (try dsimp only)))
local macro_rules | `(tactic| walk_at "subscriptTail Name Slice ref ref") => `(tactic| (k_here; (with_reducible rename All2 _ _ _ => hW'); k_dflt (refine' slice_step ?sF ?sN ?sl ?sp ?sq ?sb ?ss ?st ?sz ?_; (case sF => k_asm); (case sN => k_asm); (case sl => kmk_list); (case sp => kmk_part); (case sq => kmk_part); (case sb => exact slice_from hW' (by decide)); (case ss => with_unfolding_all rfl); (case st => kmk_pure); (case sz => (rw [All2.len hW']; refine Nat.le_trans (spl_len _ _) (by omega)))); intro D' ws' h' F' N' l1 hW'; (try k_lt l1); (try k_sweep)))
local macro_rules | `(tactic| walk_at "CompEnd") => `(tactic| (k_dflt (refine' comp_end ?eF ?eN ?eo ?eS ⟨_, rfl⟩; (case eF => k_asm); (case eN => k_asm); (case eo => assumption); (case eS => first | exact True.intro | exact Or.inl (by assumption) | exact Or.inr ⟨_, by k_mem, rfl, _, rfl⟩))))
local macro_rules | `(tactic| walk_at "CompSrc") => `(tactic| (k_here; (with_reducible rename All2 _ _ _ => hW'); k_dflt (refine' LCg.CompSrc.ledger (by rfl) ?sF ?sN ?sm ?sz ?_; (case sF => k_asm); (case sN => k_asm); (case sm => k_mem); (case sz => (rw [List.size_toArray, All2.len hW', PySem.sizeLine_eq, List.length_drop]; exact Nat.le_trans (Nat.le_trans (Nat.sub_le _ _) (spl_len _ _)) (by omega))); intro g'; (refine comp_list TextV IntV (fun p : List Nat => Txt.count (tx p) (Str.ofString "amp;") + 1) hW' (fun k' hk' i' ys' v' I' oI' C' oC' D' m' h' tk' E' hv' hC' hx' F' N' off' ne' => ?_) ?_); (focus (obtain ⟨tv', ev'⟩ := hv'; subst ev')))))
theorem hours_con {x : List Nat} (S : Site w cs (outer) L s.heap) (hd : dp + 4 < recursionLimit) (hu : un + 30 < cLine) (hx : x.length ≤ 8000)
    (ret : ∀ l ys h' tk', Keeps s.heap h' → s.heap.get? l = none → h'.get? l = some (LCg.lst ys) → All2 IntV (((spl 38 x).drop 2).map fun p => Txt.count (tx p) (Str.ofString "amp;") + 1) ys → Q (.ref l) { s with heap := h', toks := tk' }) :
    wpAny (model prog w) (ktrTop dp un gd cn cs L a ccd cl outer) (call (.ref 85) [.str (tx x) t1]) Q E s := by
  obtain ⟨⟨p, loose, mean, mg, mb, A₀, base, h₀, m, B, F, X, T⟩, hk⟩ := id S
  refine wpAny_call ?_
  walk_at "MINE enter"
  k_steps
  exact ret _ _ _ _ (Fr.keep (by assumption)) ((by assumption : News _ _ _ _) _ List.mem_cons_self).2.2 ((by assumption : News _ _ _ _) _ List.mem_cons_self).1 (by assumption)
end
end
end Mine

/-! part: Fits -/
namespace Mine
section
open PySem PySem.W PySem.Calls PySem.Spec PyProof.Rows
section
variable {w : World} {prog : Program} {dp un : Nat} {gd : Option (List Code)} {cn : Str} {cs : Scope} {a : Addr} {ccd : Value} {cl : List (Str × Addr)} {outer : List Env} {L : Addr} {s : Shared} {Q E : Value → Shared → Prop} {t1 t2 t3 t4 t5 : Tok}
local macro_rules | `(tactic| walk_at "MINE enter") => `(tactic| (k_dflt (refine' Site.enter ?kS ?k6 ?k7 ?k8 ?k9 ?kB ?_; (case kS => assumption); (case k6 => k_is); (case k7 => k_is); (case k8 => ktr_room); (case k9 => first | exact BindsTo.of_eq rfl | exact binds_K (by k_in) rfl (by k_is) rfl rfl rfl); (case kB => exact rfl); k_whole; intro p' loose' mean' mg' mb' base' L' h' F' N' B' X' T'; (try dsimp only))))
def fitsB (ns : List Int) (hour bs lo gr : Int) : Bool :=
  if hour.fmod bs = (lo + gr).fmod bs then decide (lo + gr ≤ hour) && (!decide (0 < ns.length) || decide (bs < ns.getD (-1 + (ns.length : Int)).toNat 0 - hour))
  else (hour.fmod bs == lo || hour.fmod bs == gr) && (!decide (0 < ns.length) || decide (bs ≤ ns.getD (-1 + (ns.length : Int)).toNat 0 - hour))
theorem fits_con {lh : Addr} {vs : List Value} {ns : List Int} {hour bs lo gr : Int}
    (S : Site w cs (outer) L s.heap) (hd : dp + 4 < recursionLimit) (hu : un + 30 < cLine)
    (hl : s.heap.IsList lh vs.toArray) (hi : IntsAre vs ns) (hn : ns.length < 100) (hb : 3 ≤ bs ∧ bs ≤ 6)
    (ret : Ret s Q fun _ => .bool (fitsB ns hour bs lo gr)) :
    wpAny (model prog w) (ktrTop dp un gd cn cs L a ccd cl outer) (call (.ref 92) [.ref lh, .int hour t1, .int bs t2, .int lo t3, .int gr t4]) Q E s := by
  obtain ⟨⟨p, loose, mean, mg, mb, A₀, base, h₀, m, B, F, X, T⟩, hk⟩ := id S
  refine wpAny_call ?_
  walk_at "MINE enter"
  k_steps

  all_goals ((try dsimp only); refine Ret.now (t := (0 : Nat)) ret (by assumption) ?_ rfl; clear ret)
  all_goals (refine congrArg Value.bool ?_; unfold fitsB)
  · rw [if_pos (by assumption), decide_eq_true (by assumption : _ ≤ _), decide_eq_true (by assumption : 0 < _)]; rfl
  · rw [if_pos (by assumption), decide_eq_true (by assumption : _ ≤ _), decide_eq_false (by assumption : ¬ 0 < _)]; rfl
  · rw [if_pos (by assumption), decide_eq_false (by assumption : ¬ _ ≤ _)]; rfl
  · rw [if_neg (by assumption), beq_iff_eq.mpr (by assumption : Int.fmod hour bs = lo), decide_eq_true (by assumption : 0 < _)]; rfl
  · rw [if_neg (by assumption), beq_iff_eq.mpr (by assumption : Int.fmod hour bs = lo), decide_eq_false (by assumption : ¬ 0 < _)]; rfl
  · exact absurd (by assumption : Int.fmod hour bs = lo) (by assumption)
  · rw [if_neg (by assumption), beq_iff_eq.mpr (by assumption : Int.fmod hour bs = gr), decide_eq_true (by assumption : 0 < _), Bool.or_true]; rfl
  · rw [if_neg (by assumption), beq_iff_eq.mpr (by assumption : Int.fmod hour bs = gr), decide_eq_false (by assumption : ¬ 0 < _), Bool.or_true]; rfl
  · rw [if_neg (by assumption), beq_eq_false_iff_ne.mpr (by assumption : Int.fmod hour bs ≠ lo), beq_eq_false_iff_ne.mpr (by assumption : Int.fmod hour bs ≠ gr)]; rfl
end
end
end Mine

/-! part: Quote -/
namespace Mine
section
open PySem PySem.W PySem.Calls PySem.Spec PyProof.Rows
section
variable {w : World} {prog : Program} {dp un : Nat} {gd : Option (List Code)} {cn : Str} {cs : Scope} {a : Addr} {ccd : Value} {cl : List (Str × Addr)} {outer : List Env} {L : Addr} {s : Shared} {Q E : Value → Shared → Prop} {t1 t2 t3 t4 t5 : Tok}
local macro_rules | `(tactic| walk_at "MINE enter") => `(tactic| (k_dflt (refine' Site.enter ?kS ?k6 ?k7 ?k8 ?k9 ?kB ?_; (case kS => assumption); (case k6 => k_is); (case k7 => k_is); (case k8 => ktr_room); (case k9 => first | exact BindsTo.of_eq rfl | exact binds_K (by k_in) rfl (by k_is) rfl rfl rfl); (case kB => exact rfl); k_whole; intro p' loose' mean' mg' mb' base' L' h' F' N' B' X' T'; (try dsimp only))))
local macro_rules | `(tactic| walk_at "getMethod ref") => `(tactic| (k_here; (first | refine re_getMethod (pat1 (by k_asm) (by k_asm)) ?_ | refine re_getMethod (pat2 (by k_asm) (by k_asm)) ?_); (try dsimp only)))
theorem quote_con {x : List Nat} (S : Site w cs (outer) L s.heap) (hd : dp + 4 < recursionLimit) (hu : un + 30 < cLine) (hx : x.length ≤ 5000) (hf : 10 ∉ x ∧ 13 ∉ x)
    (ret : Ret s Q fun t => .str (tx (46 :: 46 :: x ++ [13, 10])) t) :
    wpAny (model prog w) (ktrTop dp un gd cn cs L a ccd cl outer) (call (.ref 80) [.str (tx (46 :: x ++ [10])) t1]) Q E s := by
  obtain ⟨⟨p, loose, mean, mg, mb, A₀, base, h₀, m, B, F, X, T⟩, hk⟩ := id S
  refine wpAny_call ?_
  walk_at "MINE enter"
  k_steps
  rw [str_crlf]
  refine re_crlf (x := 46 :: x) (pat2 (by k_asm) (by k_asm)) (by simp; omega) (by simp) (by simp; exact hf) fun h₁ tk₁ t₁ k₁ => ?_
  have F₁ := frOn (by assumption : Fr s.heap _ _ _) k₁
  k_steps
  rw [str_dots]
  first
    | rw [show 46 :: (x ++ [13, 10]) = 46 :: (x ++ [13]) ++ [10] by simp]
    | rw [show (46 :: x) ++ [13, 10] = 46 :: (x ++ [13]) ++ [10] by simp]
  refine re_dots (x := x ++ [13]) (pat1 F₁ (by k_asm)) (by simp; omega) (by simp; exact hf.1) fun h₂ tk₂ t₂ k₂ => ?_
  have F₂ := frOn F₁ k₂
  try dsimp only
  exact Ret.now (t := t₂) ret F₂ (by simp) rfl
end
end
end Mine

/-! part: Bisect -/
namespace Mine
section
open PySem PySem.W PySem.Calls PySem.Spec PyProof.Rows
section
variable {w : World} {prog : Program} {dp un : Nat} {gd : Option (List Code)} {cn : Str} {cs : Scope} {a : Addr} {ccd : Value} {cl : List (Str × Addr)} {outer : List Env} {L : Addr} {s : Shared} {Q E : Value → Shared → Prop} {t1 t2 t3 t4 t5 : Tok}
local macro_rules | `(tactic| walk_at "MINE enter") => `(tactic| (k_dflt (refine' Site.enter ?kS ?k6 ?k7 ?k8 ?k9 ?kB ?_; (case kS => assumption); (case k6 => k_is); (case k7 => k_is); (case k8 => ktr_room); (case k9 => first | exact BindsTo.of_eq rfl | exact binds_K (by k_in) rfl (by k_is) rfl rfl rfl); (case kB => exact rfl); k_whole; intro p' loose' mean' mg' mb' base' L' h' F' N' B' X' T'; (try dsimp only))))
local macro_rules | `(tactic| walk_at "MINE enter") => `(tactic| (k_dflt (refine' Site.enter ?kS ?k6 ?k7 ?k8 ?k9 ?kB ?_; (case kS => assumption); (case k6 => k_is); (case k7 => k_is); (case k8 => ktr_room); (case k9 => exact binds_peek (by k_in) (fun _ => rfl)); (case kB => exact rfl); k_whole; intro p' loose' mean' mg' mb' base' L' h' F' N' B' X' T'; (try dsimp only))))
local macro_rules | `(tactic| walk_at "exec While") => `(tactic| refine stop_here ?_)
def bm (m₀ : Str → Option Value) (lo hi : Int) (tl th : Tok) (u : Option Value) : Str → Option Value := fun y => if y = Str.ofString "lo" then some (.int lo tl) else if y = Str.ofString "hi" then some (.int hi th) else if y = Str.ofString "mid" then u else m₀ y
theorem bm_of {m₀ : Str → Option Value} {lo hi : Int} {tl th : Tok} (h1 : m₀ (Str.ofString "lo") = some (.int lo tl)) (h2 : m₀ (Str.ofString "hi") = some (.int hi th)) : m₀ = bm m₀ lo hi tl th (m₀ (Str.ofString "mid")) := by
  funext y
  unfold bm
  split
  · rename_i h; rw [h, h1]
  · split
    · rename_i h; rw [h, h2]
    · split
      · rename_i h; rw [h]
      · rfl
theorem bm_lo {m₀ : Str → Option Value} {lo hi lo' : Int} {tl th tl' : Tok} {u v : Option Value} : (fun y => if y = Str.ofString "lo" then some (.int lo' tl') else if y = Str.ofString "mid" then v else bm m₀ lo hi tl th u y) = bm m₀ lo' hi tl' th v := by
  funext y
  unfold bm
  have : ¬ Str.ofString "hi" = Str.ofString "mid" := by decide +kernel
  repeat' split
  all_goals simp_all
theorem bm_hi {m₀ : Str → Option Value} {lo hi hi' : Int} {tl th th' : Tok} {u v : Option Value} : (fun y => if y = Str.ofString "hi" then some (.int hi' th') else if y = Str.ofString "mid" then v else bm m₀ lo hi tl th u y) = bm m₀ lo hi' tl th' v := by
  funext y
  unfold bm
  have : ¬ Str.ofString "lo" = Str.ofString "mid" := by decide +kernel
  have : ¬ Str.ofString "lo" = Str.ofString "hi" := by decide +kernel
  repeat' split
  all_goals simp_all
theorem fr_bm {h₀ h : Heap} {L : Addr} {m₀ : Str → Option Value} {lo hi : Int} {tl th : Tok} (F : Fr h₀ L h m₀) (h1 : m₀ (Str.ofString "lo") = some (.int lo tl)) (h2 : m₀ (Str.ofString "hi") = some (.int hi th)) : Fr h₀ L h (bm m₀ lo hi tl th (m₀ (Str.ofString "mid"))) := by
  rw [← bm_of h1 h2]; exact F
def BInv (ns : List Int) (x : Int) (m₀ : Str → Option Value) (n : Nat) (m₁ : Str → Option Value) (news₁ : List (Addr × Obj)) : Prop :=
  news₁ = [] ∧ ∃ (lo hi : Int) (tl th : Tok) (u : Option Value), m₁ = bm m₀ lo hi tl th u ∧ 0 ≤ lo ∧ lo ≤ hi ∧ hi ≤ (ns.length : Int) ∧ (∀ i : Nat, (i : Int) < lo → ns.getD i 0 ≤ x) ∧ (∀ i : Nat, hi ≤ (i : Int) → i < ns.length → x < ns.getD i 0) ∧ n = (hi - lo).toNat
theorem bis_con {lh : Addr} {vs : List Value} {ns : List Int} {x : Int} (S : Site w cs (outer) L s.heap) (hd : dp + 4 < recursionLimit) (hu : un + 30 < cLine) 
    (hl : s.heap.IsList lh vs.toArray) (hi : IntsAre vs ns) (hn : ns.length < 1000) (hs : ns.Pairwise (· ≤ ·))
    (ret : ∀ k : Nat, k ≤ ns.length → ns.take k ++ x :: ns.drop k = insR x ns → Ret s Q fun t => .int (k : Int) t) :
    wpAny (model prog w) (ktrTop dp un gd cn cs L a ccd cl outer) (call (.ref 63) [.ref lh, .int x t1, .int 0 t2, .none]) Q E s := by
  obtain ⟨⟨p, loose, mean, mg, mb, A₀, base, h₀, m, B, F, X, T⟩, hk⟩ := id S
  refine wpAny_call ?_
  walk_at "MINE enter"
  k_steps
  unfold stopped
  (rename Fr s.heap _ _ _ => F1); (rename News s.heap _ _ _ => N1)
  have hlen := hi.length
  have e1 : ((vs.toArray.size : Nat) : Int) = (ns.length : Int) := by rw [List.size_toArray, hlen]
  have F2 := fr_bm F1 rfl rfl
  refine While_inv (BInv ns x _) F2 N1 ⟨rfl, 0, _, _, _, _, rfl, Int.le_refl _, ?_, ?_, ?_, ?_, rfl⟩ ?_
  · omega
  · omega
  · intro i h; omega
  · intro i h1 h2; omega
  clear F2 F1 N1
  rintro n m₁ news₁ h₁ tk₁ F2 N2 ⟨rfl, lo, hh, tl, th, u, rfl, i1, i2, i3, i4, i5, i6⟩
  k_steps
  · have hlt : lo < hh := by assumption
    have hm : lo ≤ (lo + hh).fdiv 2 ∧ (lo + hh).fdiv 2 < hh := by rw [Int.fdiv_eq_ediv_of_nonneg _ (by decide)]; omega
    (rename Fr s.heap _ _ _ => F3)
    rw [bm_hi] at F3
    have hx : x < ns.getD ((lo + hh).fdiv 2).toNat 0 := by assumption
    refine WhileStep.intro (n' := ((lo + hh).fdiv 2 - lo).toNat) F3 (by assumption) ?_ ⟨rfl, lo, _, _, _, _, rfl, i1, hm.1, ?_, i4, ?_, rfl⟩
    · omega
    · omega
    · intro i h1 h2
      exact Int.lt_of_lt_of_le hx (sorted_getD hs (by omega) h2)
  · have hlt : lo < hh := by assumption
    have hm : lo ≤ (lo + hh).fdiv 2 ∧ (lo + hh).fdiv 2 < hh := by rw [Int.fdiv_eq_ediv_of_nonneg _ (by decide)]; omega
    (rename Fr s.heap _ _ _ => F3)
    rw [bm_lo] at F3
    have hx : ¬ x < ns.getD ((lo + hh).fdiv 2).toNat 0 := by assumption
    refine WhileStep.intro (n' := (hh - ((lo + hh).fdiv 2 + 1)).toNat) F3 (by assumption) ?_ ⟨rfl, _, hh, _, _, _, rfl, ?_, ?_, i3, ?_, i5, rfl⟩
    · omega
    · omega
    · omega
    · intro i h1
      exact Int.le_trans (sorted_getD hs (by omega : i ≤ ((lo + hh).fdiv 2).toNat) (by omega)) (Int.not_lt.mp hx)
  · have hge : ¬ lo < hh := by assumption
    have e2 : lo = ((lo.toNat : Nat) : Int) := by omega
    dsimp only
    refine Ret.now (t := tl) (ret lo.toNat (by omega) (insR_at x ns lo.toNat (by omega) (fun i hi => i4 i (by omega)) (fun i h1 h2 => i5 i (by omega) h2))) F2 (by rw [← e2]) rfl
end
end
end Mine

/-! part: Insort -/
namespace Mine
section
open PySem PySem.W PySem.Calls PySem.Spec PyProof.Rows
section
variable {w : World} {prog : Program} {dp un : Nat} {gd : Option (List Code)} {cn : Str} {cs : Scope} {a : Addr} {ccd : Value} {cl : List (Str × Addr)} {outer : List Env} {L : Addr} {s : Shared} {Q E : Value → Shared → Prop} {t1 t2 t3 t4 t5 : Tok}
local macro_rules | `(tactic| walk_at "MINE enter") => `(tactic| (k_dflt (refine' Site.enter ?kS ?k6 ?k7 ?k8 ?k9 ?kB ?_; (case kS => assumption); (case k6 => k_is); (case k7 => k_is); (case k8 => ktr_room); (case k9 => first | exact BindsTo.of_eq rfl | exact binds_K (by k_in) rfl (by k_is) rfl rfl rfl); (case kB => exact rfl); k_whole; intro p' loose' mean' mg' mb' base' L' h' F' N' B' X' T'; (try dsimp only))))
local macro_rules | `(tactic| walk_at "MINE enter") => `(tactic| (k_dflt (refine' code_defG ?k1 ?k2 ?k3 ?k4 ?k5 ?kA ?kF ?kK ?k6 ?k7 ?k8 ?k9 ?kB ?_ ?c2 ?c3 ?c4 ?c5; (case kA => exact rfl); (case kF => exact rfl); (case kK => assumption); (case k1 => k_asm); (case k2 => k_asm); (case k3 => k_asm); (case k4 => k_asm); (case k5 => k_asm); (case k6 => k_is); (case k7 => k_is); (case k8 => ktr_room); (case k9 => exact binds_peek (by k_in) (fun _ => rfl)); (case c5 => decide); (case kB => exact locs rfl); (case c2 => exact rfl); (case c3 => exact rfl); (case c4 => exact rfl); k_whole; intro g' L' h' FG' F' N' B' X' T' G'; (try dsimp only))))
local macro_rules | `(tactic| walk_at "LeaveK") => `(tactic| refine stop_p ?_)
local macro_rules | `(tactic| walk_at "call ref") => `(tactic| refine stop_here ?_)
local macro_rules | `(tactic| walk_at "call builtin:list.insert") => `(tactic| refine stop_here ?_)
theorem insort_con {lh : Addr} {vs : List Value} {ns : List Int} {x : Int} {n0 : Nat} {p : Program} {loose : List Str} {mean : ExcName → Option Value} {mg mb : Str → Option Value} {A₀ : Around} {base h₀ : Heap} {m : Str → Option Value}
    (B : Below A₀ base outer h₀) (F : Fr h₀ L s.heap m) (X : (hd.heap_39 w.params).In h₀) (T : Top p loose mean mg mb h₀) (hk : cs.kind = .function) (hd : dp + 8 < recursionLimit) (hu : un + 60 < cLine)
    (N : News h₀ L s.heap [(lh, listOf vs.toArray n0)]) (hi : IntsAre vs ns) (hn : ns.length < 900) (hs : ns.Pairwise (· ≤ ·))
    (ret : ∀ (h' : Heap) (tk' n' : Nat) (vs' : List Value), (∀ b o, b ≠ lh → s.heap.get? b = some o → h'.get? b = some o) → h'.get? lh = some (listOf vs'.toArray n') → IntsAre vs' (insR x ns) → Q .none { s with heap := h', toks := tk' }) :
    wpAny (model prog w) (ktrTop dp un gd cn cs L a ccd cl outer) (call (.ref 54) [.ref lh, .int x t1]) Q E s := by
  refine wpAny_call ?_
  walk_at "MINE enter"
  k_steps
  unfold stopped
  (rename Fr _ _ _ _ => F1); (rename News _ _ _ _ => N1); (rename Below _ _ _ _ => B1); (rename Top _ _ _ _ _ _ => T1); (rename Frag.In _ _ => X1); (rename GSub _ _ _ => G1)
  refine bis_con (Site.of B1 F1 X1 T1 rfl) (by dsimp only; omega) (by dsimp only; omega) (News.isList N1 (.head _)) hi (by omega) hs fun k hk1 hk2 => fun t₁ h₁ tk₁ k₁ => ?_
  have F2 := frOn F1 k₁
  have N2 := newsOn N1 k₁
  clear F1 N1
  k_steps
  unfold stopped
  (rename Fr _ _ _ _ => F3); (rename News _ _ _ _ => N3)
  have hlen := hi.length
  refine kl_insert F3 N3 (by simp only [Builtin.List.listFitsIndex, Bool.and_eq_true, decide_eq_true_eq, ge_iff_le]; omega) rfl (Upd.head fun p hp => nomatch hp) (by show vs.length ≤ _; rw [PySem.sizeLine_eq]; omega) fun h₂ F4 N4 => ?_
  k_steps
  have hk3 : kl_ins vs.toArray.toList (k : Int) (.int x t1) = vs.take k ++ .int x t1 :: vs.drop k := by
    show kl_ins vs (k : Int) (.int x t1) = _
    unfold kl_ins
    rw [if_neg (by omega), show min ((k : Int)).toNat vs.length = k by omega]
  have hI : IntsAre (vs.take k ++ .int x t1 :: vs.drop k) (insR x ns) := by
    rw [← hk2]
    exact IntsAre.append (hi.take k) (.cons _ _ (hi.drop k))
  rw [hk3] at N4
  unfold StopP
  refine leaveK_ F4 N4 fun _ _ => ?_
  refine ret h₂ _ _ _ (fun b o hb e => F4.keep b o (G1 b o e (by simpa using hb))) (N4 _ (.head _)).1 hI
end
end
end Mine

/-! part: EnterC -/
namespace Mine
section
open PySem PySem.W PySem.Calls PySem.Spec PyProof.Rows
/-- what is asked of the names of a def that lays cells for its inner blocks -/
def cellDef (sc : Scope) (bs : List (Str × Value)) : Bool :=
  (!sc.isCoroutine && !sc.isGenerator) && (sc.kind == .function && bs.all fun y => sc.names.lookup y.1 == some .local || sc.names.lookup y.1 == some .cell)
/-- a def with cells called from a site: the cells are all that is new beside the frame -/
theorem Site.enterC {w : World} {prog : Program} {s : Shared} {outer : List Env} {L : Addr} {dp un : Nat} {gd : Option (List Code)} {cn : Str} {cs : Scope} {a : Addr} {ccd : Value} {cl : List (Str × Addr)} {R : Result → Shared → Prop} {fname qual : Str} {ps : Arguments} {body : List Stmt} {sc : Scope} {dV kV doc pm cd ct oc : Value} {an od : Option Addr} {osl : Array (Option Value)} {f : Addr} {args : Args} {bs : List (Str × Value)}
    (S : Site w cs outer L s.heap) (isFn : (hd.heap_39 w.params).lookup f = some ⟨oc, od, .func (fnOf fname qual ps body sc dV kV doc pm an cd ct), osl⟩)
    (isCode : codeIn (hd.heap_39 w.params) cd qual = true) (room : dp < recursionLimit) (takes : BindsTo s (fnOf fname qual ps body sc dV kV doc pm an cd ct) args bs) (plain : cellDef sc bs = true) (once : ((cellsFrom 0 sc.names []).map Prod.fst).Nodup)
    (go : ∀ p loose mean mg mb base M h' tk cells, Fr s.heap M h' (bindL (envOfC qual sc M f cd).kindOf bs fun _ => none) → News s.heap M h' cells → CellsAre (bindC (envOfC qual sc M f cd).kindOf bs fun _ => none) (cellsFrom (M + 1) sc.names []) cells →
      Below (ktrTop dp un gd cn cs L a ccd cl outer) base (envX cn cs L a ccd cl :: outer) s.heap → (hd.heap_39 w.params).In s.heap → Top p loose mean mg mb s.heap →
      wpAny (model prog w) ((ktrTop dp un gd cn cs L a ccd cl outer).deeper (envOfC qual sc M f cd)) (execs body (envOfC qual sc M f cd))
        (fun o s₁ => R (.ok (.ret (match o with | .ret v => v | _ => .none))) s₁)
        (fun x s₁ => wpAny (model prog w) ((ktrTop dp un gd cn cs L a ccd cl outer).deeper (envOfC qual sc M f cd)) (leaving (envOfC qual sc M f cd) x) (fun _ s₂ => R (.error x) s₂) (fun y s₂ => R (.error y) s₂) s₁)
        { s with heap := h', toks := tk }) :
    codeAny (model prog w) (ktrTop dp un gd cn cs L a ccd cl outer) (.call (.ref f) args) R s := by
  obtain ⟨⟨p, loose, mean, mg, mb, A₁, base, g, m', B, F, X, T⟩, kind⟩ := S
  unfold cellDef at plain
  rw [Bool.and_eq_true, Bool.and_eq_true, Bool.and_eq_true, Bool.not_eq_true', Bool.not_eq_true', beq_iff_eq] at plain
  obtain ⟨⟨noCo, noGen⟩, isDef, kinds⟩ := plain
  have In' := X.keeps F.keep
  have Top' := T.keeps F.keep
  have deep := pushX (env := envX cn cs L a ccd cl) B F rfl kind
  apply codeAny_call_function room (In' _ _ isFn) rfl noCo noGen rfl (codeRec_of In' isCode)
  apply takes
  apply wpAny_newFunctionEnv_cells isDef (kindsX kinds _)
  rintro _ rfl s' laid
  have once' : ((cellsFrom (s.heap.objs.size + 1) sc.names []).map Prod.fst).Nodup := by
    rw [cellsFrom_names sc.names (s.heap.objs.size + 1) 0 [] [] rfl]; exact once
  have fresh := Cl.news (h₀ := s.heap) (cs := cellsFrom (s.heap.objs.size + 1) sc.names []) (Nat.le_refl _) fun n c hm => And.intro (laid.cell n c (lookup_of_mem_nodup once' hm)) (laid.above n c hm)
  obtain ⟨cells, new, are⟩ := fresh
  have keep := laid.toInCall.keep
  have ns := laid.toInCall.ns
  obtain ⟨h', tk, same⟩ := laid.toInCall.same
  subst same
  refine And.intro (Top'.nolimit.keeps keep) (codeAny_func ?_)
  exact go p loose mean mg mb base s.heap.objs.size h' tk cells { ns := ns, keep := keep, above := Nat.le_refl _ } new are { stack := rfl, stays := deep.stays, frames := deep.frames } In' Top'
end
end Mine

/-! part: CompT -/
namespace Mine
section
open PySem PySem.W PySem.Calls PySem.Spec PyProof.Rows
section
variable {prog : Program} {w : World} {A : Around} {h₀ : Heap} {L : Addr} {m : Str → Option Value} {env : Env} {ct elt : Expr} {x : Str} {scope : Scope} {cl : List (Str × Addr)} {s : Shared} {S : List (Addr × Obj) → Prop} {P : Nat → Value → Prop} {Fin : List Value → List (Addr × Obj) → Prop} {news : List (Addr × Obj)}
/-- one item's turn where the comprehension asks first, told as a comprehension of one turn: what it asks comes out as ask, and only then there is one more value -/
def Turn2 (prog : Program) (w : World) (A : Around) (h₀ : Heap) (L : Addr) (m : Str → Option Value) (env : Env) (ct elt : Expr) (x : Str) (scope : Scope) (cl : List (Str × Addr)) (s : Shared) (S : List (Addr × Obj) → Prop) (news : List (Addr × Obj)) (bears wanted : Value → Prop) (ask : Bool) : Prop :=
  ∀ i ys, LCt.CompRestT prog w A h₀ L m env ct elt x scope cl s S (fun _ => bears) (fun zs nw => nw = news ∧ ((ask = true ∧ ∃ y, zs = ys ++ [y] ∧ wanted y) ∨ (ask = false ∧ zs = ys))) 1 i ys news
theorem comp_fromT {α β : Type} {isV : α → Value → Prop} {res : β → Value → Prop} {q : α → Bool} {g : α → β} : ∀ (todo : List α) (i : Nat) (bs : List β) (ys : List Value), All2 res bs ys → (∀ j v, P (i + j) v → ∃ a, todo[j]? = some a ∧ isV a v) →
    (∀ a, a ∈ todo → Turn2 prog w A h₀ L m env ct elt x scope cl s S news (isV a) (res (g a)) (q a)) → (∀ zs, All2 res (bs ++ (todo.filter q).map g) zs → Fin zs news) → LCt.CompRestT prog w A h₀ L m env ct elt x scope cl s S P Fin todo.length i ys news
  | [], _, _, ys, made, _, _, fin => fin ys (by simpa using made)
  | a :: todo, i, bs, ys, made, src, turn, fin => by
    have onward : ∀ cs zs, All2 res (bs ++ cs) zs → (q a = true → cs = [g a]) → (q a = false → cs = []) → LCt.CompRestT prog w A h₀ L m env ct elt x scope cl s S P Fin todo.length (i + 1) zs news := by
      intro cs zs made' yes no
      refine comp_fromT todo (i + 1) (bs ++ cs) zs made' (fun j v hv => ?_) (fun b hb => turn b (.tail _ hb)) fun us hu => fin us ?_
      · rw [Nat.add_right_comm] at hv
        exact src (j + 1) v hv
      · rw [List.append_assoc] at hu
        cases ask : q a with
        | true => rw [List.filter_cons_of_pos ask, List.map_cons]; rw [yes ask] at hu; exact hu
        | false => rw [List.filter_cons_of_neg (by simp [ask])]; rw [no ask] at hu; exact hu
    intro v I oI C oC D m₂ h tk E' at_i ns bound F N off apart
    obtain ⟨_, e, is⟩ := src 0 v at_i
    cases e
    refine wpAny_mono (turn a (.head _) i ys v I oI C oC D m₂ h tk E' is ns bound F N off apart) ?_ (fun _ _ z => z)
    intro ok s₁ told
    have further : ∀ zs, (q a = true ∧ ∃ y, zs = ys ++ [y] ∧ res (g a) y) ∨ (q a = false ∧ zs = ys) → LCt.CompRestT prog w A h₀ L m env ct elt x scope cl s S P Fin todo.length (i + 1) zs news := by
      rintro _ (⟨ask, y, rfl, made_y⟩ | ⟨ask, rfl⟩)
      · exact onward [g a] _ (made.snoc made_y) (fun _ => rfl) fun no => by rw [ask] at no; cases no
      · exact onward [] _ (by rwa [List.append_nil]) (fun yes => by rw [ask] at yes; cases yes) fun _ => rfl
    cases ok with
    | false =>
      obtain ⟨h', tk', nw, ends, F', N', off', inS, same, how⟩ := told
      rw [same] at N' off' inS
      exact ⟨h', tk', news, ends, F', N', off', inS, further _ how⟩
    | true =>
      refine wpAny_mono (show wpAny _ _ _ _ _ _ from told) ?_ (fun _ _ z => z)
      rintro y s₂ ⟨h', tk', nw, ends, F', N', off', inS, same, how⟩
      rw [same] at N' off' inS
      exact ⟨h', tk', news, ends, F', N', off', inS, further _ how⟩
theorem comp_listT {α β : Type} {vs : List Value} {xs : List α} (isV : α → Value → Prop) (res : β → Value → Prop) (q : α → Bool) (g : α → β) (items : All2 isV xs vs)
    (turn : ∀ a, a ∈ xs → Turn2 prog w A h₀ L m env ct elt x scope cl s S news (isV a) (res (g a)) (q a))
    (fin : ∀ zs, All2 res ((xs.filter q).map g) zs → Fin zs news) : LCt.CompRestT prog w A h₀ L m env ct elt x scope cl s S (fun i v => vs.toArray[i]? = some v) Fin vs.toArray.size 0 [] news := by
  rw [List.size_toArray, items.len]
  exact comp_fromT xs 0 [] [] .nil (fun j v hv => items.at (by simpa using hv)) turn fin
theorem comp_endT {wanted : Value → Prop} {ask : Bool} {I C D : Addr} {oI oC oD : Obj} {i : Nat} {ys : List Value} {y : Value} {h' : Heap} {tk : Nat} {s' : Shared} (F : Fr h₀ L h' m) (N : News h₀ L h' ((I, oI) :: (C, oC) :: (D, oD) :: news)) (off : LCg.Off3 I C D news) (hS : S news) (made : wanted y) (yes : ask = true) :
    LCg.CompEnd h₀ L m s' I oI C oC D oD S (fun y nw => LCt.CompRestT prog w A h₀ L m env ct elt x scope cl s S P (fun zs nw => nw = news ∧ ((ask = true ∧ ∃ y, zs = ys ++ [y] ∧ wanted y) ∨ (ask = false ∧ zs = ys))) 0 i (ys ++ [y]) nw) y { s' with heap := h', toks := tk } :=
  LCg.CompEnd.intro F N news (fun _ z => z) off hS (LCt.CompRestT.zero ⟨rfl, .inl ⟨yes, y, rfl, made⟩⟩)
theorem comp_endF {wanted : Value → Prop} {ask : Bool} {I C D : Addr} {oI oC oD : Obj} {i : Nat} {ys : List Value} {y : Value} {h' : Heap} {tk : Nat} {s' : Shared} (F : Fr h₀ L h' m) (N : News h₀ L h' ((I, oI) :: (C, oC) :: (D, oD) :: news)) (off : LCg.Off3 I C D news) (hS : S news) (no : ask = false) :
    LCg.CompEnd h₀ L m s' I oI C oC D oD S (fun _ nw => LCt.CompRestT prog w A h₀ L m env ct elt x scope cl s S P (fun zs nw => nw = news ∧ ((ask = true ∧ ∃ y, zs = ys ++ [y] ∧ wanted y) ∨ (ask = false ∧ zs = ys))) 0 i ys nw) y { s' with heap := h', toks := tk } :=
  LCg.CompEnd.intro F N news (fun _ z => z) off hS (LCt.CompRestT.zero ⟨rfl, .inr ⟨no, rfl⟩⟩)
end
end
end Mine

/-! part: TStep -/
namespace Mine
section
open PySem PySem.W PySem.Calls PySem.Spec PyProof.Rows
def rep (n : Nat) (a : List Nat) : List Nat := (List.replicate n a).flatten
theorem rep_succ (n : Nat) (a : List Nat) : rep (n + 1) a = a ++ rep n a := by simp [rep, List.replicate_succ]
theorem rep_zero (a : List Nat) : rep 0 a = [] := rfl
theorem rep_len (n : Nat) (a : List Nat) : (rep n a).length = n * a.length := by simp [rep]
theorem foldl_app (l : List (Array Nat)) (b : Array Nat) : (l.foldl (· ++ ·) b).toList = b.toList ++ (l.map (·.toList)).flatten := by
  induction l generalizing b with
  | nil => simp
  | cons c r ih => simp [ih]
theorem mul_tx_eq (a : List Nat) (n : Nat) : Txt.mul (tx a) (n : Int) = tx (rep n a) := by
  unfold Txt.mul
  have e0 : (⟨(List.replicate n (tx a).cps).foldl (· ++ ·) #[]⟩ : Str) = tx (rep n a) := by
    apply Str.ext'; apply Array.toList_inj.mp
    rw [foldl_app]
    simp [rep, tx]
  by_cases h1 : (n : Int) < 1
  · rw [if_pos h1]
    have : n = 0 := by omega
    subst this; rfl
  · rw [if_neg h1]
    split
    · rename_i h2
      rcases Bool.or_eq_true_iff.mp h2 with h2 | h2
      · have : n = 1 := by have := beq_iff_eq.mp h2; omega
        subst this
        simp [rep]
      · have : a = [] := by
          have := beq_iff_eq.mp h2
          rw [tx_len] at this
          exact List.length_eq_zero_iff.mp this
        subst this
        simp [rep]
    · rw [Int.toNat_natCast, e0]
section
variable {prog : Program} {w : World} {A : Around} {E : Value → Shared → Prop} {s : Shared} {x y : Str} {a b : List Nat} {t u : Tok} {Q : Value → Shared → Prop}
theorem add_tx (hx : x = tx a) (hy : y = tx b) (hn : a.length + b.length ≤ 1000000) (h : ∀ t' tk, Q (.str (tx (a ++ b)) t') { s with toks := tk }) : wpAny (model prog w) A (binaryOp .Add (.str x t) (.str y u)) Q E s := by
  subst hx hy
  refine add_str (fun t' tk => ?_) (by rw [tx_len, tx_len, PySem.sizeLine_eq]; omega)
  rw [tx_app]; exact h t' tk
theorem mul_tx {k : Int} {n : Nat} (hx : x = tx a) (hk : k = (n : Int)) (ha : a.length ≤ 16) (hn : n ≤ 1048576) (h : ∀ t' tk, Q (.str (tx (rep n a)) t') { s with toks := tk }) : wpAny (model prog w) A (binaryOp .Mult (.str x t) (.int k u)) Q E s := by
  subst hx hk
  refine SB.mul (mulOk_of 16 1048576 (by rw [tx_len]; exact ha) (by omega) (by omega) (by decide) (by decide)) fun t' tk => ?_
  rw [mul_tx_eq]; exact h t' tk
theorem texts_of {xs : List (List Nat)} {ws : List Value} (h : All2 TextV xs ws) : ∃ l : List (Str × Tok), ws = strValues l ∧ l.map (·.1) = xs.map tx := by
  induction h with
  | nil => exact ⟨[], rfl, rfl⟩
  | cons h _ ih =>
    obtain ⟨t, rfl⟩ := h
    obtain ⟨l, rfl, e⟩ := ih
    exact ⟨(tx _, t) :: l, rfl, by simp only [List.map_cons, e]⟩
theorem join_tx_eq : ∀ xs : List (List Nat), Txt.join Str.empty (xs.map tx) = tx xs.flatten
  | [] => rfl
  | [x] => by
    show Builtin.Str.glued Str.empty [tx x] = _
    rw [StrLaws.glued_eq_join]
    simp [Str.join]
  | x :: y :: r => by
    have ih := join_tx_eq (y :: r)
    show Builtin.Str.glued Str.empty _ = _
    have ih' : Builtin.Str.glued Str.empty ((y :: r).map tx) = tx (y :: r).flatten := ih
    rw [StrLaws.glued_eq_join] at ih' ⊢
    show tx x ++ Str.empty ++ Str.join Str.empty ((y :: r).map tx) = _
    rw [ih', Str.append_empty, tx_app]
    rfl
theorem join_tx {D : Addr} {xs : List (List Nat)} {ws : List Value} (hx : x = tx []) (hl : s.heap.IsList D ws.toArray) (hA : All2 TextV xs ws) (hn : xs.flatten.length ≤ 1000000) (h : ∀ t' tk, Q (.str (tx xs.flatten) t') { s with toks := tk }) :
    wpAny (model prog w) A (call (.builtin "str.join") [.str x t, .ref D]) Q E s := by
  obtain ⟨l, rfl, e⟩ := texts_of hA
  subst hx
  refine SC.join hl e ?_ fun t' k => ?_
  · unfold JoinOk
    rw [StrLaws.joinTotal]
    have : (tx []).length = 0 := rfl
    rw [this, List.map_map]
    have e2 : (xs.map ((fun s : Str => s.length) ∘ tx)).sum = xs.flatten.length := by
      simp [Function.comp_def, tx_len]
    unfold Builtin.Str.tooLong
    rw [PySem.sizeLine_eq, Bool.not_eq_true', decide_eq_false_iff_not, e2]
    omega
  · have := join_tx_eq xs
    have e0 : tx [] = Str.empty := rfl
    rw [e0, this]
    exact h t' k
end
/-- the text of one sending, n writings ago -/
def pc (n : Int) : List Nat := [38] ++ rep (n - 1).toNat [97, 109, 112, 59] ++ [35, 120, 68, 59]
theorem pc_len {n : Int} (h : n ≤ 20) : (pc n).length ≤ 81 := by simp only [pc, List.length_append, rep_len, List.length_cons, List.length_nil]; omega
theorem pcs_len : ∀ {hs : List Int}, (∀ h ∈ hs, 1 ≤ h ∧ h ≤ 20) → ((hs.map pc).flatten).length ≤ 81 * hs.length
  | [], _ => by simp
  | h :: r, H => by
    have := pc_len (H h List.mem_cons_self).2
    have := pcs_len (hs := r) fun a ha => H a (List.mem_cons_of_mem _ ha)
    simp only [List.map_cons, List.flatten_cons, List.length_append, List.length_cons]
    omega
theorem newsAdd {h₀ h h' : Heap} {L l : Addr} {o : Obj} {m : Str → Option Value} {news : List (Addr × Obj)} (F : Fr h₀ L h m) (N : News h₀ L h news) (k : Keeps h h') (hn : h.get? l = none) (hl : h'.get? l = some o) : News h₀ L h' ((l, o) :: news) := by
  intro p hp
  rcases List.mem_cons.mp hp with rfl | hp
  · refine ⟨hl, fun e => ?_, ?_⟩
    · obtain ⟨oL, es, ep, hL, _⟩ := F.ns
      have e' : l = L := e
      rw [← e', hn] at hL
      cases hL
    · cases q : h₀.get? l with
      | none => rfl
      | some o' => have := F.keep _ _ q; rw [hn] at this; cases this
  · exact ⟨k _ _ (N p hp).1, (N p hp).2⟩
theorem newsNe {h₀ h : Heap} {L l : Addr} {news : List (Addr × Obj)} (N : News h₀ L h news) (hn : h.get? l = none) : ∀ p ∈ news, p.1 ≠ l := fun p hp e => by
  have := (N p hp).1
  rw [e, hn] at this
  cases this
theorem str_dot : Str.ofString "." = tx [46] := by decide +kernel
theorem str_nil : Str.ofString "" = tx [] := by decide +kernel
theorem str_ampT : Str.ofString "&" = tx [38] := by decide +kernel
theorem str_amps : Str.ofString "amp;" = tx [97, 109, 112, 59] := by decide +kernel
theorem str_xd : Str.ofString "#xD;" = tx [35, 120, 68, 59] := by decide +kernel
theorem str_nlT : Str.ofString "\n" = tx [10] := by decide +kernel
theorem str_ltT : Str.ofString "lt;" = tx [108, 116, 59] := by decide +kernel
theorem str_gtT : Str.ofString "gt;" = tx [103, 116, 59] := by decide +kernel
theorem nat_of_int {k : Int} (h : 0 ≤ k) : k = ((k.toNat : Nat) : Int) := (Int.toNat_of_nonneg h).symm
end
end Mine

/-! part: Told -/
namespace Mine
section
open PySem PySem.W PySem.Calls PySem.Spec PyProof.Rows
section
variable {w : World} {prog : Program} {dp un : Nat} {gd : Option (List Code)} {cn : Str} {cs : Scope} {a : Addr} {ccd : Value} {cl : List (Str × Addr)} {outer : List Env} {L : Addr} {s : Shared} {Q E : Value → Shared → Prop} {t1 t2 t3 t4 t5 : Tok}
local macro_rules | `(tactic| walk_at "MINE enter") => `(tactic| (k_dflt (refine' Site.enter ?kS ?k6 ?k7 ?k8 ?k9 ?kB ?_; (case kS => assumption); (case k6 => k_is); (case k7 => k_is); (case k8 => ktr_room); (case k9 => first | exact BindsTo.of_eq rfl | exact binds_K (by k_in) rfl (by k_is) rfl rfl rfl); (case kB => exact rfl); k_whole; intro p' loose' mean' mg' mb' base' L' h' F' N' B' X' T'; (try dsimp only))))
local macro_rules | `(tactic| walk_at "MINE enter") => `(tactic| (k_dflt (refine' Site.enterC ?kS ?k6 ?k7 ?k8 ?k9 ?kB ?kD ?_; (case kS => assumption); (case k6 => k_is); (case k7 => k_is); (case k8 => ktr_room); (case k9 => first | exact BindsTo.of_eq rfl | exact binds_peek (by k_in) (fun _ => rfl)); (case kB => exact rfl); (case kD => decide +kernel); k_whole; intro p' loose' mean' mg' mb' base' L' h' tk' cells' F' N' Y' B' X' T'; k_cells Y'; (try simp only [List.cons_append, List.nil_append] at N'); (try dsimp only))))
local macro_rules | `(tactic| walk_at "call ref") => `(tactic| refine stop_here ?_)
local macro_rules | `(tactic| walk_at "eval ListComp") => `(tactic| (k_here; (with_reducible show wpAny _ _ (eval (PySem.Expr.ListComp _ [⟨_, _, [], _⟩] _ _) _) _ _ _); k_dflt (refine LCg.ListComp_U (F₀ := by k_asm) (by with_unfolding_all rfl) (by decide) (by rfl) (by decide) (by rfl) ?_)))
local macro_rules | `(tactic| walk_at "eval ListComp") => `(tactic| (k_here; (with_reducible show wpAny _ _ (eval (PySem.Expr.ListComp _ [⟨_, _, [_], _⟩] _ _) _) _ _ _); k_dflt (refine LCt.ListComp_T (F₀ := by k_asm) (by with_unfolding_all rfl) (by decide) (by rfl) (by decide) (by rfl) ?_)))
local macro_rules | `(tactic| walk_at "CompSrc") => `(tactic| refine stop_p ?_)
local macro_rules | `(tactic| walk_at "CompSrcT") => `(tactic| refine stop_p ?_)
local macro_rules | `(tactic| walk_at "CompEnd") => `(tactic| (k_dflt (refine' comp_end ?eF ?eN ?eo ?eS ⟨_, rfl⟩; (case eF => k_asm); (case eN => k_asm); (case eo => assumption); (case eS => first | exact True.intro | exact Or.inl (by assumption) | exact Or.inr ⟨_, by k_mem, rfl, _, rfl⟩))))
local macro_rules | `(tactic| walk_at "CompEnd") => `(tactic| (k_dflt (refine' comp_endT ?eF ?eN ?eo ?eS ⟨_, rfl⟩ ?_; (case eF => k_asm); (case eN => k_asm); (case eo => assumption); (case eS => first | exact True.intro | exact Or.inl (by assumption) | exact Or.inr ⟨_, by k_mem, rfl, _, rfl⟩))))
local macro_rules | `(tactic| walk_at "CompEnd") => `(tactic| (k_dflt (refine' comp_endF ?eF ?eN ?eo ?eS ?_; (case eF => k_asm); (case eN => k_asm); (case eo => assumption); (case eS => first | exact True.intro | exact Or.inl (by assumption) | exact Or.inr ⟨_, by k_mem, rfl, _, rfl⟩))))
local macro_rules | `(tactic| walk_at "binaryOp Mult str int") => `(tactic| (k_here; (refine mul_tx (by first | exact rfl | exact str_dot | exact str_amps) (nat_of_int (by omega)) (by decide) (by omega) ?_); intro tm km; (try dsimp only)))
local macro_rules | `(tactic| walk_at "binaryOp Add str str") => `(tactic| (k_here; (refine add_tx (by first | exact rfl | exact str_ampT | exact str_xd) (by first | exact rfl | exact str_ampT | exact str_xd) (by (simp only [List.length_append, rep_len, List.length_cons, List.length_nil]; omega)) ?_); intro tm km; (try dsimp only)))
theorem told_con {x wr : List Nat} {hs : List Int} {bs lo gr : Int} (S : Site w cs (outer) L s.heap) (hd : dp + 12 < recursionLimit) (hu : un + 100 < cLine) (hx : x.length ≤ 5000) (hw : wr.length ≤ 5000)
    (hh : (((spl 38 x).drop 2).map fun p => Txt.count (tx p) (Str.ofString "amp;") + 1) = hs) (hr : ∀ h ∈ hs, 1 ≤ h ∧ h ≤ 20) (hlen : hs.length ≤ 20)
    (hb : 3 ≤ bs ∧ bs ≤ 6) (hq : x = rep (hs.length + 1) [46] ++ wr ++ (hs.map pc).flatten)
    (ret : Ret s Q fun t => .int (10000 * hs.sum + 100 * ((hs.filter fun h => h.fmod bs != gr).map fun _ => (1 : Int)).sum + ((hs.filter fun h => h.fmod bs != lo).map fun _ => (1 : Int)).sum) t) :
    wpAny (model prog w) (ktrTop dp un gd cn cs L a ccd cl outer) (call (.ref 102) [.str (tx x) t1, .str (tx wr) t2, .int bs t3, .int lo t4, .int gr t5]) Q E s := by
  obtain ⟨⟨p, loose, mean, mg, mb, A₀, base, h₀, m, B, F, X, T⟩, hk⟩ := id S
  refine wpAny_call ?_
  walk_at "MINE enter"
  k_steps
  unfold stopped
  (rename Fr _ _ _ _ => F1); (rename News _ _ _ _ => N1); (rename Below _ _ _ _ => B1); (rename Top _ _ _ _ _ _ => T1); (rename Frag.In _ _ => X1)
  refine hours_con (Site.of B1 F1 X1 T1 rfl) (by dsimp only; omega) (by dsimp only; omega) (by omega) fun l ys h₁ tk₁ k₁ hn₁ hl₁ hA => ?_
  rw [hh] at hA
  have hI := hA.ints
  have hyl := hA.len
  have N2 := newsAdd F1 N1 k₁ hn₁ hl₁
  have F2 := frOn F1 k₁
  clear F1 N1
  k_steps
  unfold StopP
  refine LCg.CompSrc.ledger (by rfl) (by k_asm) (by k_asm) (by k_mem) (by rw [List.size_toArray, hyl, PySem.sizeLine_eq]; omega) ?_
  intro g'
  refine comp_list IntV TextV pc hA (fun k' hk' i' ys' v' I' oI' C' oC' D' m' h' tk' E' hv' hC' hx' F' N' off' ne' => ?_) (fun ys2 hA2 => ?_)
  · obtain ⟨tv', ev'⟩ := hv'; subst ev'
    have hb := hr _ hk'
    k_steps
  have hpl := pcs_len hr
  k_steps
  refine join_tx str_nil (by kmk_list) hA2 (by omega) fun tj kj => ?_
  try dsimp only
  k_steps
  · rename (_ != _) = _ => hne
    exfalso
    rw [show ((hs.length : Int) + 1).toNat = hs.length + 1 by omega, ← hq] at hne
    simp at hne
  unfold StopP
  refine LCt.CompSrcT.ledger (by rfl) (by k_asm) (by k_asm) (by k_mem) (by rw [List.size_toArray, hyl, PySem.sizeLine_eq]; omega) ?_
  intro g2'
  refine comp_listT IntV IntV (fun h => h.fmod bs != gr) (fun _ => 1) hA (fun k' hk' i' ys' v' I' oI' C' oC' D' m' h' tk' E' hv' hC' hx' F' N' off' ne' => ?_) (fun ys3 hA3 => ?_)
  · obtain ⟨tv', ev'⟩ := hv'; subst ev'
    k_steps
    all_goals simpa using (by assumption)
  have hI3 := hA3.ints
  k_steps
  unfold StopP
  refine LCt.CompSrcT.ledger (by rfl) (by k_asm) (by k_asm) (by k_mem) (by rw [List.size_toArray, hyl, PySem.sizeLine_eq]; omega) ?_
  intro g3'
  refine comp_listT IntV IntV (fun h => h.fmod bs != lo) (fun _ => 1) hA (fun k' hk' i' ys' v' I' oI' C' oC' D' m' h' tk' E' hv' hC' hx' F' N' off' ne' => ?_) (fun ys4 hA4 => ?_)
  · obtain ⟨tv', ev'⟩ := hv'; subst ev'
    k_steps
    all_goals simpa using (by assumption)
  have hI4 := hA4.ints
  k_steps
  exact Ret.now ret (by assumption) rfl rfl
end
end
end Mine

/-! part: Loop -/
namespace Mine
section
open PySem PySem.W PySem.Calls PySem.Spec PyProof.Rows
/-- the next address is apart from all that a frame and its ledger stand on -/
structure Apart (h₀ h : Heap) (L : Addr) (news : List (Addr × Obj)) : Prop where
  loc : (@Ne Nat L h.objs.size)
  old : h₀.get? h.objs.size = none
  led : ∀ q, q ∈ news → (@Ne Nat q.1 h.objs.size)
theorem Apart.of {h₀ h : Heap} {L : Addr} {m : Str → Option Value} {news : List (Addr × Obj)} (F : Fr h₀ L h m) (N : News h₀ L h news) : Apart h₀ h L news :=
  { loc := Nat.ne_of_lt F.ns.lt, old := next_is_new F, led := fun q hq => Nat.ne_of_lt (Heap.lt_size (N.get hq)) }
section
variable {prog : Program} {w : World} {A : Around} {E : Value → Shared → Prop} {s : Shared} {env : Env} {h₀ : Heap} {x : Str} {body : List Stmt} {Q : Flow → Shared → Prop}
/-- a turn that falls through its end: the iterator stands, the ledger beside it may be another one -/
def Turned (h₀ : Heap) (L I : Addr) (oI : Obj) (J : (Str → Option Value) → List (Addr × Obj) → Prop) (s₁ : Shared) (f : Flow) (s₂ : Shared) : Prop :=
  f = .next ∧ ∃ h' tk m' nx, s₂ = { s₁ with heap := h', toks := tk } ∧ Fr h₀ L h' m' ∧ News h₀ L h' ((I, oI) :: nx) ∧ (∀ q ∈ nx, (@Ne Nat q.1 I)) ∧ J m' nx
/-- a loop over any range whose target need not be a local (a cell is one): the invariant names the ledger anew at each turn -/
theorem range_turns {target : Expr} {r : Addr} {a₀ b₀ c : Int} {t₀ u₀ v₀ : Tok} {n : Nat} {m₀ : Str → Option Value} {news : List (Addr × Obj)} (J : Nat → (Str → Option Value) → List (Addr × Obj) → Prop)
    (free : A.handled = none) (src : IsRange s.heap r a₀ b₀ c t₀ u₀ v₀) (small : Builtin.Range.small a₀ b₀ c = true) (size : Builtin.Range.rangeSize a₀ b₀ c = (n : Int)) (F : Fr h₀ env.locals s.heap m₀) (N : News h₀ env.locals s.heap news) (start : J 0 m₀ news)
    (goes : ∀ I v (s : Shared) (Q : Unit → Shared → Prop) (E : Value → Shared → Prop), Q () s → wpAny (model prog w) A (letOwnedTupleGo target (.ref I) v) Q E s)
    (turn : ∀ i t m₁ nx h tk I oI, i < n → J i m₁ nx → (∀ q ∈ nx, (@Ne Nat q.1 I)) → Fr h₀ env.locals h m₁ → News h₀ env.locals h ((I, oI) :: nx) →
      wpAny (model prog w) A (assign target env (.int (a₀ + i * c) t)) (fun _ s₃ => wpAny (model prog w) A (execs body env) (Turned h₀ env.locals I oI (J (i + 1)) { s with heap := h, toks := tk }) E s₃) E { s with heap := h, toks := tk })
    (done : ∀ m₁ nx h tk, J n m₁ nx → Fr h₀ env.locals h m₁ → News h₀ env.locals h nx → Q .next { s with heap := h, toks := tk }) :
    wpAny (model prog w) A (pyIter (.ref r)) (fun it s₂ => TurnsAt prog w A h₀ env target body Q E it s₂) E s := by
  have P := Apart.of F N
  have at0 : IsRangeIter (s.heap.push { cls := .type "range_iterator", data := .fields #[rawInt a₀, rawInt (Builtin.Range.rangeSize a₀ b₀ c), rawInt c] }) s.heap.objs.size (a₀ + (0 : Nat) * c) ((n : Int) - (0 : Nat)) c := by
    rw [size, show a₀ + ((0 : Nat) : Int) * c = a₀ by simp, show (n : Int) - ((0 : Nat) : Int) = n by simp]
    exact Heap.get?_push_size _ rfl
  have W := KTurns.ofWalks (target := target) (Walks.range (prog := prog) (w := w) free s.heap.objs.size a₀ c n) fun _ v s Q E _ q => goes _ v s Q E q
  apply wpAny_pyIter_range src small
  refine ⟨s.heap.objs.size, [s.heap.objs.size], [s.heap.objs.size], n, _, _, _, m₀, news, J, rfl, W, by simpa using P.loc, by simpa using P.old, by simpa using fun a b hm => P.led (a, b) hm, at0, F.push _, N.grown fun _ _ e => Heap.get?_push_of_some _ e, start, ?step, fun h' tk m' nx F' N' _ last => done m' nx h' tk last F' N'⟩
  intro i v m₁ nx h tk own hi item now off mine stand all after F' N'
  obtain ⟨t, rfl⟩ := item
  obtain ⟨oI, stands⟩ : ∃ oI, h.get? s.heap.objs.size = some oI := ⟨_, after⟩
  have self := all _ (List.mem_singleton_self _) P.old oI stands
  have only : ∀ q ∈ own, q = (s.heap.objs.size, oI) := fun q hq => by
    have e₁ := List.mem_singleton.mp (mine q hq)
    have e₂ := stand q hq
    rw [e₁] at e₂
    exact Prod.ext e₁ (Option.some.inj (e₂.symm.trans stands))
  have away : ∀ q ∈ nx, (@Ne Nat q.1 s.heap.objs.size) := fun q hq e => off q hq (List.mem_singleton.mpr e)
  have N₂ : News h₀ env.locals h ((s.heap.objs.size, oI) :: nx) := fun q hq => N' q <| by
    cases hq with
    | head => exact List.mem_append_left _ self
    | tail _ hq => exact List.mem_append_right _ hq
  refine wpAny_mono (turn i t m₁ nx h tk _ oI hi now away F' N₂) (fun _ s₂ body => wpAny_mono body ?_ fun _ _ z => z) fun _ _ z => z
  rintro f s₃ ⟨rfl, h₃, tk₃, m₃, ny, ends, F₃, N₃, away₃, next⟩
  refine .next ⟨rfl, h₃, tk₃, m₃, ny, ends, F₃, fun q hq => N₃ q ?_, fun q hq e => away₃ q hq (List.mem_singleton.mp e), next⟩
  rcases List.mem_append.mp hq with hq | hq
  · exact only q hq ▸ .head _
  · exact .tail _ hq
/-- a loop over a list that stands beside the ledger and is left alone -/
theorem list_loop {l : Addr} {vs : List Value} {nn : Nat} {m₀ : Str → Option Value} {news : List (Addr × Obj)} (J : Nat → (Str → Option Value) → List (Addr × Obj) → Prop)
    (free : A.handled = none) (src : News h₀ env.locals s.heap [(l, listOf vs.toArray nn)]) (beside : ∀ q ∈ news, (@Ne Nat q.1 l)) (F : Fr h₀ env.locals s.heap m₀) (N : News h₀ env.locals s.heap news) (start : J 0 m₀ news)
    (turn : ∀ i v m₁ nx h tk own, vs[i]? = some v → OwnOff own (news.map (·.1)) → J i m₁ nx → Fr h₀ env.locals h (fun y => if y = x then some v else m₁ y) → News h₀ env.locals h (nx ++ own) →
      wpAny (model prog w) A (execs body env) (InvPostN h₀ env.locals (J (i + 1)) own (news.map (·.1)) { s with heap := h, toks := tk } Q) E { s with heap := h, toks := tk })
    (done : ∀ m₁ nx h tk, J vs.length m₁ nx → Fr h₀ env.locals h m₁ → News h₀ env.locals h nx → Q .next { s with heap := h, toks := tk }) :
    wpAny (model prog w) A (pyIter (.ref l)) (fun it s₂ => LoopAtV prog w A h₀ env x body Q E it s₂) E s := by
  have P := Apart.of F N
  obtain ⟨at_l, notL, -⟩ := src _ (.head _)
  have isL : s.heap.IsList l vs.toArray := ⟨_, at_l, rfl, nn, rfl⟩
  have lNew := (Apart.of F src).led _ (.head _)
  have both : ∀ q ∈ news, q.1 ∉ [s.heap.objs.size, l] := fun q hq hm => by
    rcases List.mem_cons.mp hm with e | e
    · exact P.led q hq e
    · exact beside q hq (List.mem_singleton.mp e)
  have W := Walks.list (prog := prog) (w := w) free s.heap.objs.size l lNew vs.toArray
  rw [List.size_toArray] at W
  apply wpAny_pyIter_list isL
  apply loop_invN J W _ (by simpa using P.old) (by simpa using fun a b hm => P.led (a, b) hm) both _ (F.push _) (N.grown fun _ _ e => Heap.get?_push_of_some _ e) start
  · rintro i v m₁ nx h tk own _ e _ off now F' N'
    exact turn i v m₁ nx h tk own (by simpa using e) off now F' N'
  · exact done
  · intro hm
    rcases List.mem_cons.mp hm with e | e
    · exact P.loc e
    · exact notL (List.mem_singleton.mp e).symm
  · exact ⟨⟨_, Heap.get?_push_size _ rfl, rfl, rfl⟩, isL.push _⟩
end
end
end Mine

/-! part: Rows -/
namespace Mine
section
open PySem PySem.W PySem.Calls PySem.Spec PyProof.Rows
def sgn (k : Bool) : Nat := if k then 62 else 60
def sgT (k : Bool) : List Nat := if k then [103, 116, 59] else [108, 116, 59]
def wrT (k : Bool) : Nat → List Nat
  | 0 => [sgn k]
  | n + 1 => [38] ++ rep n [97, 109, 112, 59] ++ sgT k
/-- a row behind its first dot -/
def rowR (k : Bool) (n : Nat) (h : Int) (hs : List Int) : List Nat := rep hs.length [46] ++ wrT k n ++ (hs.map fun x => pc (x - h)).flatten
def rowL (k : Bool) (n : Nat) (h : Int) (hs : List Int) : List Nat := 46 :: rowR k n h hs
theorem rowL_eq (k : Bool) (n : Nat) (h : Int) (hs : List Int) : rowL k n h hs = rep (hs.length + 1) [46] ++ wrT k n ++ (hs.map fun x => pc (x - h)).flatten := by
  rw [rep_succ]; simp [rowL, rowR]
theorem esc_rep {a : List Nat} (ha : escL a = a) : ∀ n, escL (rep n a) = rep n a
  | 0 => rfl
  | n + 1 => by rw [rep_succ, escL_app, ha, esc_rep ha n]
theorem esc_pc {k : Int} (h : 1 ≤ k) : escL (pc k) = pc (k + 1) := by
  unfold pc
  rw [escL_app, escL_app, esc_rep (by decide), show (k + 1 - 1).toNat = (k - 1).toNat + 1 by omega, rep_succ]
  have e1 : escL [38] = [38] ++ [97, 109, 112, 59] := by decide
  have e2 : escL [35, 120, 68, 59] = [35, 120, 68, 59] := by decide
  rw [e1, e2]
  simp only [List.append_assoc]
theorem esc_wr (k : Bool) : ∀ n, escL (wrT k n) = wrT k (n + 1)
  | 0 => by cases k <;> decide
  | n + 1 => by
    show escL ([38] ++ rep n [97, 109, 112, 59] ++ sgT k) = [38] ++ rep (n + 1) [97, 109, 112, 59] ++ sgT k
    rw [escL_app, escL_app, esc_rep (by decide), rep_succ]
    have e1 : escL [38] = [38] ++ [97, 109, 112, 59] := by decide
    have e2 : escL (sgT k) = sgT k := by cases k <;> decide
    rw [e1, e2]
    simp only [List.append_assoc]
theorem esc_pcs {h : Int} : ∀ {hs : List Int}, (∀ x ∈ hs, h < x) → escL ((hs.map fun x => pc (x - h)).flatten) = (hs.map fun x => pc (x - (h - 1))).flatten
  | [], _ => rfl
  | x :: r, H => by
    have h1 := H x List.mem_cons_self
    have ih := esc_pcs (hs := r) fun a ha => H a (List.mem_cons_of_mem _ ha)
    rw [List.map_cons, List.flatten_cons, escL_app, ih, esc_pc (by omega), List.map_cons, List.flatten_cons]
    rw [show x - h + 1 = x - (h - 1) by omega]
theorem esc_row {k : Bool} {n : Nat} {h : Int} {hs : List Int} (H : ∀ x ∈ hs, h < x) : escL (rowL k n h hs) = rowL k (n + 1) (h - 1) hs := by
  rw [rowL_eq, escL_app, escL_app, esc_rep (by decide), esc_wr, esc_pcs H, ← rowL_eq]
theorem esc_sent {k : Bool} {n : Nat} {h : Int} {hs : List Int} (H : ∀ x ∈ hs, h < x) : escL (46 :: rowL k n h hs ++ [13, 10]) = rowL k (n + 1) (h - 1) (hs ++ [h]) ++ [10] := by
  have e0 : ∀ z, escL (46 :: z) = 46 :: escL z := fun z => by simp [escL, escOne]
  have e1 : escL [13, 10] = pc 1 ++ [10] := by decide
  rw [List.cons_append, e0, escL_app, esc_row H, e1, rowL_eq, rowL_eq, List.length_append, List.length_singleton, rep_succ (hs.length + 1)]
  simp only [List.map_append, List.flatten_append, List.map_cons, List.map_nil, List.flatten_cons, List.flatten_nil, List.append_nil]
  rw [show h - (h - 1) = 1 by omega]
  simp only [List.append_assoc, List.singleton_append, List.cons_append, List.nil_append]
theorem mem_rep {c : Nat} {a : List Nat} : ∀ {n : Nat}, c ∈ rep n a → c ∈ a
  | 0, h => by simp [rep] at h
  | n + 1, h => by
    rw [rep_succ] at h
    exact (List.mem_append.mp h).elim id mem_rep
theorem free_pc {k : Int} : 10 ∉ pc k ∧ 13 ∉ pc k := by
  refine ⟨fun h => ?_, fun h => ?_⟩ <;>
  · unfold pc at h
    rcases List.mem_append.mp h with h | h
    · rcases List.mem_append.mp h with h | h
      · revert h; decide
      · exact absurd (mem_rep h) (by decide)
    · revert h; decide
theorem free_wr {k : Bool} {n : Nat} : 10 ∉ wrT k n ∧ 13 ∉ wrT k n := by
  cases n with
  | zero => cases k <;> decide
  | succ n =>
    refine ⟨fun h => ?_, fun h => ?_⟩ <;>
    · unfold wrT at h
      rcases List.mem_append.mp h with h | h
      · rcases List.mem_append.mp h with h | h
        · revert h; decide
        · exact absurd (mem_rep h) (by decide)
      · revert h; cases k <;> decide
theorem free_rowR {k : Bool} {n : Nat} {h : Int} {hs : List Int} : 10 ∉ rowR k n h hs ∧ 13 ∉ rowR k n h hs := by
  refine ⟨fun m => ?_, fun m => ?_⟩ <;>
  · unfold rowR at m
    rcases List.mem_append.mp m with m | m
    · rcases List.mem_append.mp m with m | m
      · exact absurd (mem_rep m) (by decide)
      · first | exact free_wr.1 m | exact free_wr.2 m
    · obtain ⟨l, hl, m⟩ := List.mem_flatten.mp m
      obtain ⟨x, _, rfl⟩ := List.mem_map.mp hl
      first | exact free_pc.1 m | exact free_pc.2 m
theorem free_rowL {k : Bool} {n : Nat} {h : Int} {hs : List Int} : 10 ∉ rowL k n h hs := fun m => by
  rcases List.mem_cons.mp m with e | m
  · cases e
  · exact free_rowR.1 m
/-- the mail -/
def mailL (k : Bool) (n : Nat) (h : Int) (rows : List (List Int)) : List Nat := rows.flatMap fun hs => rowL k n h hs ++ [10]
theorem spl_mail (k : Bool) (n : Nat) (h : Int) : ∀ rows, spl 10 (mailL k n h rows) = rows.map (rowL k n h) ++ [[]]
  | [] => rfl
  | r :: rs => by
    have := spl_mail k n h rs
    unfold mailL at this ⊢
    rw [List.flatMap_cons, List.append_assoc, List.singleton_append, spl_cut free_rowL, this]
    rfl
theorem spl_parts {α : Type} (q : α → List Nat) : ∀ {xs : List α} {a : List Nat}, 38 ∉ a → (∀ x ∈ xs, 38 ∉ q x) → spl 38 (a ++ (xs.map fun x => 38 :: q x).flatten) = a :: xs.map q
  | [], a, ha, _ => by simp only [List.map_nil, List.flatten_nil, List.append_nil]; exact spl_free ha
  | x :: r, a, ha, H => by
    simp only [List.map_cons, List.flatten_cons, List.cons_append]
    rw [spl_cut ha, spl_parts q (H x List.mem_cons_self) fun y hy => H y (List.mem_cons_of_mem _ hy)]
theorem count_xd : ∀ k, k < 18 → Txt.count (tx (rep k [97, 109, 112, 59] ++ [35, 120, 68, 59])) (Str.ofString "amp;") = (k : Int) := by decide +kernel
theorem no38 {k : Nat} {z : List Nat} (hz : 38 ∉ z) : 38 ∉ rep k [97, 109, 112, 59] ++ z := fun h => by
  rcases List.mem_append.mp h with h | h
  · exact absurd (mem_rep h) (by decide)
  · exact hz h
theorem hours_row {k : Bool} {n : Nat} {h : Int} {hs : List Int} (h0 : n = 0 → hs = []) (H : ∀ x ∈ hs, h < x ∧ x - h ≤ 18) :
    (((spl 38 (rowL k n h hs)).drop 2).map fun p => Txt.count (tx p) (Str.ofString "amp;") + 1) = hs.map fun x => x - h := by
  cases n with
  | zero =>
    obtain rfl := h0 rfl
    have e : ∀ k, (spl 38 (rowL k 0 0 [])).drop 2 = [] := by decide
    have e2 := e k
    have e3 : rowL k 0 h [] = rowL k 0 0 [] := rfl
    rw [e3, e2]
    rfl
  | succ n =>
    rw [rowL_eq]
    have e : rep (hs.length + 1) [46] ++ wrT k (n + 1) ++ (hs.map fun x => pc (x - h)).flatten = rep (hs.length + 1) [46] ++ 38 :: ((rep n [97, 109, 112, 59] ++ sgT k) ++ (hs.map fun x => 38 :: (rep (x - h - 1).toNat [97, 109, 112, 59] ++ [35, 120, 68, 59])).flatten) := by
      unfold wrT pc
      simp only [List.append_assoc, List.singleton_append, List.cons_append, List.nil_append]
    rw [e, spl_cut (fun h => absurd (mem_rep h) (by decide)), spl_parts _ (no38 (by cases k <;> decide)) fun x _ => no38 (by decide)]
    simp only [List.drop_succ_cons, List.drop_zero, List.map_map]
    refine List.map_congr_left fun x hx => ?_
    have := H x hx
    show Txt.count (tx (rep (x - h - 1).toNat [97, 109, 112, 59] ++ [35, 120, 68, 59])) (Str.ofString "amp;") + 1 = x - h
    rw [count_xd _ (by omega)]
    omega
/-- who is sent at this hour -/
def sent (bs lo gr lim h : Int) (hs : List Int) : Bool := decide (hs.sum + h ≤ lim) && fitsB hs h bs lo gr
def step1 (bs lo gr lim h : Int) (hs : List Int) : List (List Int) := if sent bs lo gr lim h hs then [hs, hs ++ [h]] else [hs]
def rowsAt (bs lo gr lim : Int) : Nat → List (List Int)
  | 0 => [[]]
  | n + 1 => (rowsAt bs lo gr lim n).flatMap (step1 bs lo gr lim (lim - n))
def piece1 (k : Bool) (n : Nat) (bs lo gr lim h : Int) (hs : List Int) : List (List Nat) := if sent bs lo gr lim h hs then [rowL k n h hs ++ [10], 46 :: rowL k n h hs ++ [13, 10]] else [rowL k n h hs ++ [10]]
theorem esc_pieces {k : Bool} {n : Nat} {bs lo gr lim h : Int} : ∀ {rows : List (List Int)}, (∀ hs ∈ rows, ∀ x ∈ hs, h < x) →
    escL ((rows.flatMap (piece1 k n bs lo gr lim h)).flatten) = mailL k (n + 1) (h - 1) (rows.flatMap (step1 bs lo gr lim h))
  | [], _ => rfl
  | r :: rs, H => by
    have ih := esc_pieces (k := k) (n := n) (bs := bs) (lo := lo) (gr := gr) (lim := lim) (rows := rs) fun a ha => H a (List.mem_cons_of_mem _ ha)
    have h1 := H r List.mem_cons_self
    rw [List.flatMap_cons, List.flatten_append, escL_app, ih, List.flatMap_cons]
    unfold mailL
    rw [List.flatMap_append]
    congr 1
    have e10 : escL [10] = [10] := by decide
    unfold piece1 step1
    split
    · simp only [List.flatten_cons, List.flatten_nil, List.append_nil, List.flatMap_cons, List.flatMap_nil]
      rw [escL_app, escL_app, esc_row h1, esc_sent h1, e10]
    · simp only [List.flatten_cons, List.flatten_nil, List.append_nil, List.flatMap_cons, List.flatMap_nil]
      rw [escL_app, esc_row h1, e10]
end
end Mine

/-! part: Fin1 -/
namespace Mine
section
open PySem PySem.W PySem.Calls PySem.Spec PyProof.Rows
/-- the drawn numbers -/
structure Par (bs lo gr lim : Int) : Prop where
  b : 3 ≤ bs ∧ bs ≤ 6
  g : 2 ≤ gr ∧ gr < bs
  l : 1 ≤ lo ∧ lo < gr
  m : 7 + bs ≤ lim ∧ lim ≤ 9 + bs
def allPar (p : Int → Int → Int → Int → Bool) : Bool :=
  [3, 4, 5, 6].all fun b => [2, 3, 4, 5].all fun g => [1, 2, 3, 4].all fun l => [0, 1, 2].all fun d => !(decide (g < b) && decide (l < g)) || p b l g (7 + b + d)
theorem Par.all {bs lo gr lim : Int} (P : Par bs lo gr lim) {p : Int → Int → Int → Int → Bool} (h : allPar p = true) : p bs lo gr lim = true := by
  obtain ⟨b, g, l, m⟩ := P
  unfold allPar at h
  have h1 := List.all_eq_true.mp h bs (by simp; omega)
  have h2 := List.all_eq_true.mp h1 gr (by simp; omega)
  have h3 := List.all_eq_true.mp h2 lo (by simp; omega)
  have h4 := List.all_eq_true.mp h3 (lim - 7 - bs) (by simp; omega)
  simp only [Bool.or_eq_true, Bool.not_eq_true', Bool.and_eq_false_iff, decide_eq_false_iff_not] at h4
  rcases h4 with h4 | h4
  · omega
  · rwa [show 7 + bs + (lim - 7 - bs) = lim by omega] at h4
def wrN : Nat → Nat
  | 0 => 1
  | n + 1 => 4 * n + 4
def lenR (n : Nat) (h : Int) (hs : List Int) : Nat := hs.length + 1 + wrN n + (hs.map fun x => 4 * (x - h - 1).toNat + 5).sum
def lenP (bs lo gr lim : Int) (n : Nat) (h : Int) (hs : List Int) : Nat := if sent bs lo gr lim h hs then 2 * lenR n h hs + 4 else lenR n h hs + 1
def good1 (lim : Int) (n : Nat) (hs : List Int) : Bool := hs.all (fun x => decide (lim - n < x) && decide (x ≤ lim)) && decide (hs.length ≤ 5) && decide (lenR n (lim - n) hs ≤ 400)
def goodAt (bs lo gr lim : Int) (n : Nat) : Bool :=
  let R := rowsAt bs lo gr lim n
  R.all (good1 lim n) && decide (R.length ≤ 40) && decide ((R.map (lenP bs lo gr lim n (lim - n))).sum ≤ 4000)
def goodAll (bs lo gr lim : Int) : Bool := (List.range (lim.toNat + 1)).all (goodAt bs lo gr lim)
set_option maxRecDepth 1000000 in
theorem good_all : allPar goodAll = true := by decide +kernel
theorem wr_len (k : Bool) : ∀ n, (wrT k n).length = wrN n
  | 0 => rfl
  | n + 1 => by
    unfold wrT wrN
    rw [List.length_append, List.length_append, rep_len]
    have : (sgT k).length = 3 := by cases k <;> rfl
    rw [this]
    simp only [List.length_cons, List.length_nil]
    omega
theorem pcs_lenN (h : Int) : ∀ hs : List Int, ((hs.map fun x => pc (x - h)).flatten).length = (hs.map fun x => 4 * (x - h - 1).toNat + 5).sum
  | [] => rfl
  | x :: r => by
    have := pcs_lenN h r
    simp only [List.map_cons, List.flatten_cons, List.length_append, List.sum_cons, this]
    congr 1
    simp only [pc, List.length_append, rep_len, List.length_cons, List.length_nil]
    omega
theorem rowL_len (k : Bool) (n : Nat) (h : Int) (hs : List Int) : (rowL k n h hs).length = lenR n h hs := by
  rw [rowL_eq, List.length_append, List.length_append, rep_len, wr_len, pcs_lenN]
  simp only [lenR, List.length_cons, List.length_nil]
  omega
theorem pieces_len {k : Bool} {n : Nat} {bs lo gr lim h : Int} : ∀ rows : List (List Int), ((rows.flatMap (piece1 k n bs lo gr lim h)).flatten).length = (rows.map (lenP bs lo gr lim n h)).sum
  | [] => rfl
  | r :: rs => by
    have := pieces_len (k := k) (n := n) (bs := bs) (lo := lo) (gr := gr) (lim := lim) (h := h) rs
    rw [List.flatMap_cons, List.flatten_append, List.length_append, this, List.map_cons, List.sum_cons]
    congr 1
    unfold piece1 lenP
    split
    · simp only [List.flatten_cons, List.flatten_nil, List.append_nil, List.length_append, List.length_cons, List.length_nil, rowL_len]
      omega
    · simp only [List.flatten_cons, List.flatten_nil, List.append_nil, List.length_append, List.length_cons, List.length_nil, rowL_len]
theorem mail_len {k : Bool} {n : Nat} {bs lo gr lim h : Int} : ∀ rows : List (List Int), (mailL k n h rows).length ≤ (rows.map (lenP bs lo gr lim n h)).sum
  | [] => Nat.zero_le _
  | r :: rs => by
    have := mail_len (k := k) (n := n) (bs := bs) (lo := lo) (gr := gr) (lim := lim) (h := h) rs
    unfold mailL at this ⊢
    rw [List.flatMap_cons, List.length_append, List.map_cons, List.sum_cons]
    have h1 : (rowL k n h r ++ [10]).length ≤ lenP bs lo gr lim n h r := by
      unfold lenP
      rw [List.length_append, rowL_len, List.length_singleton]
      split <;> omega
    omega
structure Good (bs lo gr lim : Int) (n : Nat) : Prop where
  row : ∀ hs ∈ rowsAt bs lo gr lim n, (∀ x ∈ hs, lim - n < x ∧ x ≤ lim) ∧ hs.length ≤ 5 ∧ lenR n (lim - n) hs ≤ 400
  num : (rowsAt bs lo gr lim n).length ≤ 40
  len : ((rowsAt bs lo gr lim n).map (lenP bs lo gr lim n (lim - n))).sum ≤ 4000
theorem Par.good {bs lo gr lim : Int} (P : Par bs lo gr lim) {n : Nat} (hn : (n : Int) ≤ lim) : Good bs lo gr lim n := by
  have h := P.all good_all
  have h1 := List.all_eq_true.mp h n (List.mem_range.mpr (by omega))
  unfold goodAt at h1
  simp only [Bool.and_eq_true, decide_eq_true_eq] at h1
  refine ⟨fun hs hm => ?_, h1.1.2, h1.2⟩
  have h2 := List.all_eq_true.mp h1.1.1 hs hm
  unfold good1 at h2
  simp only [Bool.and_eq_true, decide_eq_true_eq] at h2
  refine ⟨fun x hx => ?_, h2.1.2, h2.2⟩
  have := List.all_eq_true.mp h2.1.1 x hx
  simpa using this
end
end Mine

/-! part: Mail -/
namespace Mine
section
open PySem PySem.W PySem.Calls PySem.Spec PyProof.Rows
section
variable {w : World} {prog : Program} {dp un : Nat} {gd : Option (List Code)} {cn : Str} {cs : Scope} {a : Addr} {ccd : Value} {cl : List (Str × Addr)} {outer : List Env} {L : Addr} {s : Shared} {Q E : Value → Shared → Prop} {t1 t2 t3 t4 t5 : Tok}
local macro_rules | `(tactic| walk_at "MINE enter") => `(tactic| (k_dflt (refine' Site.enter ?kS ?k6 ?k7 ?k8 ?k9 ?kB ?_; (case kS => assumption); (case k6 => k_is); (case k7 => k_is); (case k8 => ktr_room); (case k9 => first | exact BindsTo.of_eq rfl | exact binds_K (by k_in) rfl (by k_is) rfl rfl rfl); (case kB => exact rfl); k_whole; intro p' loose' mean' mg' mb' base' L' h' F' N' B' X' T'; (try dsimp only))))
local macro_rules | `(tactic| walk_at "MINE enter") => `(tactic| (k_dflt (refine' Site.enterC ?kS ?k6 ?k7 ?k8 ?k9 ?kB ?kD ?_; (case kS => assumption); (case k6 => k_is); (case k7 => k_is); (case k8 => ktr_room); (case k9 => first | exact BindsTo.of_eq rfl | exact binds_peek (by k_in) (fun _ => rfl)); (case kB => exact rfl); (case kD => decide +kernel); k_whole; intro p' loose' mean' mg' mb' base' L' h' tk' cells' F' N' Y' B' X' T'; k_cells Y'; (try simp only [List.cons_append, List.nil_append] at N'); (try dsimp only))))
local macro_rules | `(tactic| walk_at "call ref") => `(tactic| refine stop_here ?_)
local macro_rules | `(tactic| walk_at "eval ListComp") => `(tactic| (k_here; (with_reducible show wpAny _ _ (eval (PySem.Expr.ListComp _ [⟨_, _, [], _⟩] _ _) _) _ _ _); k_dflt (refine LCg.ListComp_U (F₀ := by k_asm) (by with_unfolding_all rfl) (by decide) (by rfl) (by decide) (by rfl) ?_)))
local macro_rules | `(tactic| walk_at "eval ListComp") => `(tactic| (k_here; (with_reducible show wpAny _ _ (eval (PySem.Expr.ListComp _ [⟨_, _, [_], _⟩] _ _) _) _ _ _); k_dflt (refine LCt.ListComp_T (F₀ := by k_asm) (by with_unfolding_all rfl) (by decide) (by rfl) (by decide) (by rfl) ?_)))
local macro_rules | `(tactic| walk_at "CompSrc") => `(tactic| refine stop_p ?_)
local macro_rules | `(tactic| walk_at "CompSrcT") => `(tactic| refine stop_p ?_)
local macro_rules | `(tactic| walk_at "CompEnd") => `(tactic| (k_dflt (refine' comp_end ?eF ?eN ?eo ?eS ⟨_, rfl⟩; (case eF => k_asm); (case eN => k_asm); (case eo => assumption); (case eS => first | exact True.intro | exact Or.inl (by assumption) | exact Or.inr ⟨_, by k_mem, rfl, _, rfl⟩))))
local macro_rules | `(tactic| walk_at "CompEnd") => `(tactic| (k_dflt (refine' comp_endT ?eF ?eN ?eo ?eS ⟨_, rfl⟩ ?_; (case eF => k_asm); (case eN => k_asm); (case eo => assumption); (case eS => first | exact True.intro | exact Or.inl (by assumption) | exact Or.inr ⟨_, by k_mem, rfl, _, rfl⟩))))
local macro_rules | `(tactic| walk_at "CompEnd") => `(tactic| (k_dflt (refine' comp_endF ?eF ?eN ?eo ?eS ?_; (case eF => k_asm); (case eN => k_asm); (case eo => assumption); (case eS => first | exact True.intro | exact Or.inl (by assumption) | exact Or.inr ⟨_, by k_mem, rfl, _, rfl⟩))))
local macro_rules | `(tactic| walk_at "binaryOp Mult str int") => `(tactic| (k_here; (refine mul_tx (by first | exact rfl | exact str_dot | exact str_amps) (nat_of_int (by omega)) (by decide) (by omega) ?_); intro tm km; (try dsimp only)))
local macro_rules | `(tactic| walk_at "binaryOp Add str str") => `(tactic| (k_here; (refine add_tx (by first | exact rfl | exact str_ampT | exact str_xd | exact str_dot | exact str_nlT) (by first | exact rfl | exact str_ampT | exact str_xd | exact str_dot | exact str_nlT) (by (simp only [List.length_append, rep_len, List.length_cons, List.length_nil]; omega)) ?_); intro tm km; (try dsimp only)))
local macro_rules | `(tactic| walk_at "call builtin:str.split") => `(tactic| (k_here; (first | refine split_step str_nl (by assumption) (by k_asm) (by k_asm) (by omega) ?_); intro ws' h' tk' hW' F' N'; (try dsimp only)))
local macro_rules | `(tactic| walk_at "subscriptTail Name Slice ref ref") => `(tactic| refine stop_here ?_)
local macro_rules | `(tactic| walk_at "exec Assign cons ListComp") => `(tactic| (k_here; (with_reducible show wpAny _ _ (exec (PySem.Stmt.Assign _ (PySem.Expr.ListComp _ [⟨_, _, [], _⟩] _ _) _) _) _ _ _); k_dflt (refine LCg.Assign_ListComp_U (F₀ := by k_asm) (by rfl) (by with_unfolding_all rfl) (by with_unfolding_all rfl) (by decide) (by rfl) (by decide) (by rfl) (by rfl) (by rfl) ?_)))
local macro_rules | `(tactic| walk_at "call builtin:list.append") => `(tactic| refine stop_here ?_)
local macro_rules | `(tactic| walk_at "InvPostN") => `(tactic| refine stop_p ?_)
local macro_rules | `(tactic| walk_at "Turned") => `(tactic| refine stop_p ?_)
local macro_rules | `(tactic| walk_at "exec For Name Call cons nil") => `(tactic| (k_here; k_dflt (refine For_turns (by k_asm) ?_)))
local macro_rules | `(tactic| walk_at "exec For Name Subscript cons nil") => `(tactic| (k_here; (with_unfolding_all refine' For_invVF ?kF ?kx ?kp ?_; (case kF => k_asm); (case kx => exact rfl); (case kp => exact rfl); k_whole)))
local macro_rules | `(tactic| walk_at "pyIter ref") => `(tactic| refine stop_here ?_)

def mm (m₀ : Str → Option Value) (v : Value) (u : Str → Option Value) : Str → Option Value := fun y => if y = Str.ofString "mail" then some v else if y = Str.ofString "pieces" then u y else if y = Str.ofString "row" then u y else if y = Str.ofString "hours" then u y else m₀ y
theorem mm_of {m₀ m₁ : Str → Option Value} {v : Value} (h1 : m₁ (Str.ofString "mail") = some v) (h2 : ∀ y, y ≠ Str.ofString "mail" → y ≠ Str.ofString "pieces" → y ≠ Str.ofString "row" → y ≠ Str.ofString "hours" → m₁ y = m₀ y) : m₁ = mm m₀ v m₁ := by
  funext y
  unfold mm
  by_cases a : y = Str.ofString "mail"
  · rw [if_pos a, a, h1]
  by_cases b : y = Str.ofString "pieces"
  · rw [if_neg a, if_pos b]
  by_cases c : y = Str.ofString "row"
  · rw [if_neg a, if_neg b, if_pos c]
  by_cases d : y = Str.ofString "hours"
  · rw [if_neg a, if_neg b, if_neg c, if_pos d]
  rw [if_neg a, if_neg b, if_neg c, if_neg d, h2 y a b c d]
def MInv (C : Addr) (m₀ : Str → Option Value) (k : Bool) (bs lo gr lim : Int) (i : Nat) (m₁ : Str → Option Value) (news₁ : List (Addr × Obj)) : Prop :=
  (∃ o v, news₁ = [(C, o)] ∧ o.data = .cell v) ∧ ∃ t u, m₁ = mm m₀ (.str (tx (mailL k i (lim - i) (rowsAt bs lo gr lim i))) t) u
def im (m₀ : Str → Option Value) (u : Str → Option Value) : Str → Option Value := fun y => if y = Str.ofString "row" then u y else if y = Str.ofString "hours" then u y else m₀ y
theorem im_of {m₀ m₁ : Str → Option Value} (h2 : ∀ y, y ≠ Str.ofString "row" → y ≠ Str.ofString "hours" → m₁ y = m₀ y) : m₁ = im m₀ m₁ := by
  funext y
  unfold im
  by_cases c : y = Str.ofString "row"
  · rw [if_pos c]
  by_cases d : y = Str.ofString "hours"
  · rw [if_neg c, if_pos d]
  rw [if_neg c, if_neg d, h2 y c d]
def JInv (pl C : Addr) (oc : Obj) (own : List (Addr × Obj)) (mI : Str → Option Value) (k : Bool) (bs lo gr lim : Int) (i : Nat) (j : Nat) (m₂ : Str → Option Value) (news₂ : List (Addr × Obj)) : Prop :=
  (∃ (vs : List Value) (nn : Nat), news₂ = (pl, listOf vs.toArray nn) :: (C, oc) :: own ∧ All2 TextV (((rowsAt bs lo gr lim i).take j).flatMap (piece1 k i bs lo gr lim (lim - i))) vs) ∧ ∃ u, m₂ = im mI u
theorem offs {C l : Addr} {o : Obj} {own own2 : List (Addr × Obj)} {adr : List Addr} (h : (@LT.lt Nat _ C l) ∧ AllLt l own) (h2 : OwnOff own2 adr) (hm : l ∈ adr) : ∀ p ∈ (C, o) :: own ++ own2, p.1 ≠ l := by
  intro p hp
  rcases List.mem_append.mp hp with hp | hp
  · rcases List.mem_cons.mp hp with rfl | hp
    · exact Nat.ne_of_lt h.1
    · exact Nat.ne_of_lt (kst_ltOf h.2 p hp)
  · exact h2 p hp l hm
theorem pieces_num {k : Bool} {n : Nat} {bs lo gr lim h : Int} : ∀ rows : List (List Int), (rows.flatMap (piece1 k n bs lo gr lim h)).length ≤ 2 * rows.length
  | [] => Nat.le_refl _
  | r :: rs => by
    have := pieces_num (k := k) (n := n) (bs := bs) (lo := lo) (gr := gr) (lim := lim) (h := h) rs
    rw [List.flatMap_cons, List.length_append, List.length_cons]
    have h1 : (piece1 k n bs lo gr lim h r).length ≤ 2 := by unfold piece1; split <;> simp
    omega
theorem piece_no {k : Bool} {n : Nat} {bs lo gr lim h : Int} {hs : List Int} (e : sent bs lo gr lim h hs = false) : piece1 k n bs lo gr lim h hs = [rowL k n h hs ++ [10]] := by unfold piece1; rw [e]; rfl
theorem piece_yes {k : Bool} {n : Nat} {bs lo gr lim h : Int} {hs : List Int} (e : sent bs lo gr lim h hs = true) : piece1 k n bs lo gr lim h hs = [rowL k n h hs ++ [10], 46 :: rowL k n h hs ++ [13, 10]] := by unfold piece1; rw [e]; rfl
theorem inv_endJ {h₀ : Heap} {L pl C : Addr} {oc o0 : Obj} {own own2 front : List (Addr × Obj)} {mI m' : Str → Option Value} {k : Bool} {bs lo gr lim : Int} {i j : Nat} {s₁ s₂ : Shared} {Q : Flow → Shared → Prop} {vs : List Value} {nn : Nat}
    (F : Fr h₀ L s₂.heap m') (N : News h₀ L s₂.heap (front ++ (pl, listOf vs.toArray nn) :: (C, oc) :: (own ++ own2))) (hA : All2 TextV (((rowsAt bs lo gr lim i).take j).flatMap (piece1 k i bs lo gr lim (lim - i))) vs) (hm : ∀ y, y ≠ Str.ofString "row" → y ≠ Str.ofString "hours" → m' y = mI y)
    (e : s₂ = { s₁ with heap := s₂.heap, toks := s₂.toks }) : InvPostN h₀ L (JInv pl C oc own mI k bs lo gr lim i j) own2 (((pl, o0) :: (C, oc) :: own).map (·.1)) s₁ Q .next s₂ :=
  ⟨s₂.heap, s₂.toks, m', _, (pl, listOf vs.toArray nn) :: (C, oc) :: own, e, F, N, fun p hp => List.mem_append_right _ (show p ∈ ((pl, listOf vs.toArray nn) :: (C, oc) :: own) ++ own2 from List.mem_append_left _ hp),
    fun p hp => List.mem_append_right _ (show p ∈ ((pl, listOf vs.toArray nn) :: (C, oc) :: own) ++ own2 from List.mem_append_right _ hp), rfl, ⟨vs, nn, rfl, hA⟩, _, im_of hm⟩
theorem two_app {α : Type} (z : List α) (a b : α) : z ++ [a, b] = z ++ [a] ++ [b] := by simp
theorem own_of {h₀ h : Heap} {L C I : Addr} {o oI : Obj} (N : News h₀ L h [(I, oI), (C, o)]) (apart : (@Ne Nat C I)) : ∃ own, (I, oI) ∈ own ∧ OwnOff own ([(C, o)].map (·.1)) ∧ News h₀ L h ([(C, o)] ++ own) :=
  ⟨[(I, oI)], .head _, fun q hq b hb => by rw [List.mem_singleton.mp hq, List.mem_singleton.mp hb]; exact Ne.symm apart, fun q hq => N q (by
    rcases List.mem_cons.mp hq with rfl | hq
    · exact .tail _ (.head _)
    · exact List.mem_singleton.mp hq ▸ .head _)⟩
theorem inv_endM {h₀ : Heap} {L C I : Addr} {o oI : Obj} {v : Option Value} {own front : List (Addr × Obj)} {m₀ m' : Str → Option Value} {k : Bool} {bs lo gr lim : Int} {i : Nat} {t : Tok} {s₁ s₂ : Shared}
    (F : Fr h₀ L s₂.heap m') (N : News h₀ L s₂.heap (front ++ (C, o) :: own)) (mine : (I, oI) ∈ own) (apart : (@Ne Nat C I)) (d : o.data = .cell v) (h1 : m' (Str.ofString "mail") = some (.str (tx (mailL k i (lim - i) (rowsAt bs lo gr lim i))) t))
    (hm : ∀ y, y ≠ Str.ofString "mail" → y ≠ Str.ofString "pieces" → y ≠ Str.ofString "row" → y ≠ Str.ofString "hours" → m' y = m₀ y)
    (e : s₂ = { s₁ with heap := s₂.heap, toks := s₂.toks }) : Turned h₀ L I oI (MInv C m₀ k bs lo gr lim i) s₁ .next s₂ := by
  refine ⟨rfl, s₂.heap, s₂.toks, m', [(C, o)], e, F, fun q hq => N q (List.mem_append_right _ ?_), fun q hq => ?_, ⟨o, v, rfl, d⟩, t, _, mm_of h1 hm⟩
  · rcases List.mem_cons.mp hq with rfl | hq
    · exact .tail _ mine
    · exact List.mem_singleton.mp hq ▸ .head _
  · rw [List.mem_singleton.mp hq]; exact apart
theorem slice_rows {k : Bool} {n : Nat} {h : Int} {rows : List (List Int)} {ws : List Value} (hW : All2 TextV (spl 10 (mailL k n h rows)) ws) : All2 TextV (rows.map (rowL k n h)) (kms_pick ws none (some (-1))) := by
  have := slice_upto_neg (k := -1) hW (by decide)
  rw [spl_mail] at this
  simpa using this
theorem mail_con {bs lo gr lim : Int} {k : Bool} (S : Site w cs (outer) L s.heap) (hd : dp + 12 < recursionLimit) (hu : un + 100 < cLine) (P : Par bs lo gr lim)
    (ret : Ret s Q fun t => .str (tx (mailL k lim.toNat 0 (rowsAt bs lo gr lim lim.toNat))) t) :
    wpAny (model prog w) (ktrTop dp un gd cn cs L a ccd cl outer) (call (.ref 97) [.str (tx [sgn k]) t1, .int bs t2, .int lo t3, .int gr t4, .int lim t5]) Q E s := by
  obtain ⟨⟨p, loose, mean, mg, mb, A₀, base, h₀, m, B, F, X, T⟩, hk⟩ := id S
  refine wpAny_call ?_
  walk_at "MINE enter"
  k_steps
  unfold stopped
  (rename Fr s.heap _ _ _ => F1); (rename News s.heap _ _ _ => N1)
  have hlim := P.m
  have hbs := P.b
  have e0 : ([46] ++ [sgn k] ++ [10] : List Nat) = mailL k 0 (lim - (0 : Nat)) (rowsAt bs lo gr lim 0) := rfl
  rw [e0] at F1
  refine range_turns (n := lim.toNat) (MInv _ _ k bs lo gr lim) rfl (by assumption) (small_down (by omega) (by omega) (by omega) (by omega)) (by rw [rangeSize_downNat]; congr 1; omega) F1 N1 ⟨⟨_, _, rfl, by assumption⟩, _, _, mm_of rfl fun _ _ _ _ _ => rfl⟩ (fun I v s Q E q => wpAny_pure q) ?_ ?_
  · clear F1 N1
    rintro i t m₁ news₁ h tk It oI hi ⟨⟨o1, v1, rfl, d1⟩, tm, u, rfl⟩ away F₁ N₀
    have apart := away _ (.head _)
    clear away
    obtain ⟨own, mine, hoff, N₁⟩ := own_of N₀ apart
    clear N₀
    have hG := P.good (n := i) (by omega)
    have hml : (mailL k i (lim - i) (rowsAt bs lo gr lim i)).length ≤ 4000 := Nat.le_trans (mail_len _) hG.len
    rw [show lim + (i : Int) * -1 = lim - i by omega]
    k_steps
    unfold stopped
    (rename _ ∧ AllLt _ _ => hl1); (rename Fr s.heap _ _ _ => F3); (rename News s.heap _ _ _ => N3); (rename All2 TextV (spl _ _) _ => hW)
    refine slice_step F3 N3 (by kmk_list) (by kmk_part) (by kmk_part) (slice_rows hW) (by with_unfolding_all rfl) (by kmk_pure) (by rw [All2.len hW]; refine Nat.le_trans (spl_len _ _) (by omega)) fun D ws3 h3 F4 N4 l4 hW3 => ?_
    refine list_loop (nn := 0) (JInv _ _ _ _ _ k bs lo gr lim i) rfl (fun p hp => N4 p (by rw [List.mem_singleton.mp hp]; exact List.mem_cons_self)) (fun p hp => Nat.ne_of_lt (l4 p (.tail _ hp))) F4 (fun p hp => N4 p (.tail _ (.tail _ hp))) ⟨⟨[], 0, rfl, .nil⟩, _, im_of fun _ _ _ => rfl⟩ ?_ ?_
    · clear F3 N3 F4 N4 F₁ N₁ l4
      rintro j v m₂ news₂ h2 tk2 own2 hv hoff2 ⟨⟨vs, nn, rfl, hA⟩, u2, rfl⟩ F2 N2
      obtain ⟨x, hx, tv, rfl⟩ := hW3.at hv
      obtain ⟨hs, hrow, rfl⟩ : ∃ hs, (rowsAt bs lo gr lim i)[j]? = some hs ∧ x = rowL k i (lim - i) hs := by
        rw [List.getElem?_map] at hx
        cases e : (rowsAt bs lo gr lim i)[j]? with
        | none => rw [e] at hx; cases hx
        | some hs => rw [e] at hx; exact ⟨hs, rfl, (Option.some.inj hx).symm⟩
      have hR := hG.row hs (List.mem_of_getElem? hrow)
      have hxl : (rowL k i (lim - i) hs).length ≤ 400 := by rw [rowL_len]; exact hR.2.2
      have hvl : vs.length ≤ 100 := by
        rw [hA.len]
        refine Nat.le_trans (pieces_num _) ?_
        have := List.length_take_le' j (rowsAt bs lo gr lim i)
        have := hG.num
        omega
      k_steps
      unfold stopped
      (rename Fr s.heap _ _ _ => F5); (rename News s.heap _ _ _ => N5)
      refine append_K F5 N5 (Upd.head (offs hl1 hoff2 (by exact List.mem_cons_self))) (fun h6 F6 N6 => ?_) (by rw [List.size_toArray, PySem.sizeLine_eq]; omega)
      rw [List.push_toArray] at N6
      have N7 : News s.heap _ h6 ((_, listOf (vs ++ [_]).toArray (nn + 1)) :: _ :: (own ++ own2)) := N6
      clear F5 N5 N6
      k_steps
      unfold stopped
      (rename Fr s.heap _ _ _ => F1); (rename News s.heap _ _ _ => N1); (rename Below _ _ _ _ => B1); (rename Top _ _ _ _ _ _ => T1); (rename (Mine.hd.heap_39 _).In s.heap => X1)
      refine hours_con (Site.of B1 F1 X1 T1 rfl) (by dsimp only; omega) (by dsimp only; omega) (by omega) fun l ys h₁ tk₁ k₁ hn₁ hl₁ hAy => ?_
      rw [hours_row (by rintro rfl; simpa [rowsAt] using List.mem_of_getElem? hrow) fun x hx => by have := hR.1 x hx; omega] at hAy
      have hyl := hAy.len
      rw [List.length_map] at hyl
      have N2 := newsAdd F1 N1 k₁ hn₁ hl₁
      have F2 := frOn F1 k₁
      clear F1 N1
      k_steps
      unfold StopP
      refine LCg.CompSrc.ledger (by rfl) (by k_asm) (by k_asm) (by k_mem) (by rw [List.size_toArray, hyl, PySem.sizeLine_eq]; omega) ?_
      intro g'
      refine comp_list IntV IntV (fun z : Int => z + (lim - i)) hAy (fun k' hk' i' ys' v' I' oI' C' oC' D' m' h' tk' E' hv' hC' hx' F' N' off' ne' => ?_) (fun ys2 hA2 => ?_)
      · obtain ⟨tv', ev'⟩ := hv'; subst ev'
        k_steps
      rw [List.map_map, show List.map ((fun z : Int => z + (lim - i)) ∘ fun x => x - (lim - i)) hs = hs by (conv => rhs; rw [← List.map_id hs]); exact List.map_congr_left fun x _ => Int.sub_add_cancel x _] at hA2
      have hI2 := hA2.ints
      have hyl2 := hA2.len
      have hT : ((rowsAt bs lo gr lim i).take (j + 1)).flatMap (piece1 k i bs lo gr lim (lim - i)) = ((rowsAt bs lo gr lim i).take j).flatMap (piece1 k i bs lo gr lim (lim - i)) ++ piece1 k i bs lo gr lim (lim - i) hs := by
        rw [List.take_add_one, hrow]
        simp
      k_steps
      rotate_left
      · unfold StopP
        rename ¬ _ ≤ lim => hbig
        (rename Fr s.heap _ _ _ => F1); (rename News s.heap _ _ _ => N1)
        refine inv_endJ (front := [_, _]) F1 N1 (by rw [hT, piece_no (by simp [sent, hbig])]; exact hA.snoc ⟨_, rfl⟩) (fun y a b => by simp [a, b, im]) rfl
      unfold stopped
      rename _ ≤ lim => hsm
      (rename Fr s.heap _ _ _ => F1); (rename News s.heap _ _ _ => N1); (rename Below _ _ _ _ => B1); (rename Top _ _ _ _ _ _ => T1); (rename (Mine.hd.heap_39 _).In s.heap => X1)
      refine fits_con (Site.of B1 F1 X1 T1 rfl) (by dsimp only; omega) (by dsimp only; omega) (by exact News.isList N1 List.mem_cons_self) hI2 (by omega) hbs fun _ h7 tk7 k7 => ?_
      have N2 : News s.heap _ h7 ((_, listOf (vs ++ [_]).toArray (nn + 1)) :: _ :: (own ++ own2)) := fun p hp => newsOn N1 k7 p (.tail _ (.tail _ hp))
      have F2 := frOn F1 k7
      clear F1 N1
      k_steps
      rotate_left
      · unfold StopP
        rename fitsB _ _ _ _ _ = false => hfit
        refine inv_endJ (front := []) F2 N2 (by rw [hT, piece_no (by simp [sent, hfit])]; exact hA.snoc ⟨_, rfl⟩) (fun y a b => by simp [a, b, im]) rfl
      unfold stopped
      rename fitsB _ _ _ _ _ = true => hfit
      have hrl : (rowR k i (lim - i) hs).length + 1 = (rowL k i (lim - i) hs).length := rfl
      refine quote_con (x := rowR k i (lim - i) hs) (Site.of B1 F2 X1 T1 rfl) (by dsimp only; omega) (by dsimp only; omega) (by omega) free_rowR fun tq h8 tk8 k8 => ?_
      have N3 := newsOn N2 k8
      have F3 := frOn F2 k8
      clear F2 N2
      k_steps
      unfold stopped
      (rename Fr s.heap _ _ _ => F5); (rename News s.heap _ _ _ => N5)
      refine append_K F5 N5 (Upd.head (offs hl1 hoff2 (by exact List.mem_cons_self))) (fun h9 F9 N9 => ?_) (by rw [List.size_toArray, List.length_append, List.length_singleton, PySem.sizeLine_eq]; omega)
      rw [List.push_toArray] at N9
      have N10 : News s.heap _ h9 ((_, listOf ((vs ++ [_]) ++ [_]).toArray (nn + 1 + 1)) :: _ :: (own ++ own2)) := N9
      clear F5 N5 N9
      k_steps
      unfold StopP
      refine inv_endJ (front := []) F9 N10 (by rw [hT, piece_yes (by simp [sent, hfit, hsm]), two_app]; exact (hA.snoc ⟨_, rfl⟩).snoc ⟨_, rfl⟩) (fun y a b => by simp [a, b, im]) rfl
    · clear F3 N3 F4 N4 F₁ N₁ l4
      rintro m₂ news₂ h2 tk2 ⟨⟨vs, nn, rfl, hA⟩, u2, rfl⟩ F2 N2
      rw [List.take_of_length_le (by rw [hW3.len, List.length_map]; exact Nat.le_refl _)] at hA
      have hpl : (((rowsAt bs lo gr lim i).flatMap (piece1 k i bs lo gr lim (lim - i))).flatten).length ≤ 4000 := by rw [pieces_len]; exact hG.len
      k_steps
      refine join_tx str_nil (by kmk_list) hA (by omega) fun tj kj => ?_
      try dsimp only
      k_steps
      unfold stopped
      (rename Fr s.heap _ _ _ => F1); (rename News s.heap _ _ _ => N1); (rename Below _ _ _ _ => B1); (rename Top _ _ _ _ _ _ => T1); (rename (Mine.hd.heap_39 _).In s.heap => X1)
      refine esc_con (Site.of B1 F1 X1 T1 rfl) (by dsimp only; omega) (by dsimp only; omega) (by omega) fun te h8 tk8 k8 => ?_
      rw [esc_pieces fun hs hm x hx => ((hG.row hs hm).1 x hx).1]
      have N3 := newsOn N1 k8
      have F3 := frOn F1 k8
      clear F1 N1
      k_steps
      unfold StopP
      (rename Fr s.heap _ _ _ => F9); (rename News s.heap _ _ _ => N9)
      refine inv_endM (front := [_]) (t := te) F9 N9 mine apart (by assumption) ?_ (fun y a b c d => by simp [a, b, c, d, im, mm]) rfl
      rw [show lim - ((i + 1 : Nat) : Int) = lim - i - 1 by omega]
      rfl
  · rintro m₁ news₁ h tk ⟨⟨o1, v1, rfl, d1⟩, tm, u, rfl⟩ F₁ N₁
    k_steps
    dsimp only
    rw [show lim - (lim.toNat : Int) = 0 by omega]
    exact Ret.now (t := tm) ret F₁ rfl rfl
end
end
end Mine

/-! part: Enum -/
namespace Mine
section
open PySem PySem.W PySem.Calls PySem.Spec PyProof.Rows
/-- all stands but what is named -/
def Kept (bad : List Addr) (h h' : Heap) : Prop := ∀ b o, b ∉ bad → h.get? b = some o → h'.get? b = some o
section
variable {bad more : List Addr} {h h' h'' h₀ : Heap} {L : Addr} {m : Str → Option Value} {news : List (Addr × Obj)}
theorem Kept.on (x : Kept bad h h') (y : Kept bad h' h'') : Kept bad h h'' := fun b o away e => y b o away (x b o away e)
theorem Kept.wide (x : Kept bad h h') (sub : ∀ b, b ∈ bad → b ∈ more) : Kept more h h' := fun b o away e => x b o (fun hb => away (sub b hb)) e
theorem Kept.fr (k : Kept bad h h') (F : Fr h₀ L h m) (loc : L ∉ bad) (old : ∀ b, b ∈ bad → h₀.get? b = none) : Fr h₀ L h' m where
  ns := F.ns.at' fun o e => k L o loc e
  keep := fun b o e => k b o (fun hb => by rw [old b hb] at e; cases e) (F.keep b o e)
  above := F.above
theorem Kept.led (k : Kept bad h h') (N : News h₀ L h news) (off : ∀ q, q ∈ news → q.1 ∉ bad) : News h₀ L h' news := fun q hq => ⟨k _ _ (off q hq) (N q hq).1, (N q hq).2⟩
end
/-- the four objects of a comprehension over enumerate (the enumerate, its iterator, the block's names, the list made) are apart from all else -/
structure Spot (h₀ : Heap) (L e it C D : Addr) (news : List (Addr × Obj)) : Prop where
  nodup : [e, it, C, D].Nodup
  loc : L ∉ [e, it, C, D]
  old : ∀ b, b ∈ [e, it, C, D] → h₀.get? b = none
  led : ∀ q, q ∈ news → q.1 ∉ [e, it, C, D]
/-- the end of an element: nothing but time has passed for what is in front -/
def EnEnd (h₀ : Heap) (L : Addr) (m : Str → Option Value) (s₁ : Shared) (front : List (Addr × Obj)) (J : Nat → List Value → Prop) (i : Nat) (ys : List Value) (y : Value) (s₂ : Shared) : Prop :=
  ∃ h' tk, s₂ = { s₁ with heap := h', toks := tk } ∧ Fr h₀ L h' m ∧ News h₀ L h' front ∧ J (i + 1) (ys ++ [y])
/-- what an element's tree has to show -/
def EnTurn (prog : Program) (w : World) (A : Around) (h₀ : Heap) (L : Addr) (m : Str → Option Value) (env : Env) (elt : PySem.Expr) (a b : Str) (scope : Scope) (cl : List (Str × Addr)) (s : Shared) (items : List Value) (news : List (Addr × Obj)) (J : Nat → List Value → Prop) (e it C D : Addr) : Prop :=
  ∀ i x t oE oI oC m₂ ys h tk (E' : Value → Shared → Prop), items[i]? = some x → ys.length = i → J i ys → LCg.NsObj oC m₂ → m₂ a = some (.int (i : Int) t) → m₂ b = some x → Fr h₀ L h m → News h₀ L h ((e, oE) :: (it, oI) :: (C, oC) :: (D, LCg.lst ys) :: news) →
    wpAny (model prog w) A (eval elt (compEnvC scope cl C env)) (EnEnd h₀ L m { s with heap := h, toks := tk } ((e, oE) :: (it, oI) :: (C, oC) :: (D, LCg.lst ys) :: news) J i ys) E' { s with heap := h, toks := tk }
/-- between two elements -/
structure EnAt (h₀ : Heap) (L : Addr) (m : Str → Option Value) (e it C D l : Addr) (news : List (Addr × Obj)) (J : Nat → List Value → Prop) (i : Nat) (ys : List Value) (h : Heap) : Prop where
  fr : Fr h₀ L h m
  led : News h₀ L h news
  acc : h.get? D = some (LCg.lst ys)
  ns : ∃ mC, h.Ns C mC
  en : ∃ old, IsEnum h e it (i : Nat) old
  li : h.IsListIter it l i
  len : ys.length = i
  made : J i ys
section
variable {prog : Program} {w : World} {A : Around} {E : Value → Shared → Prop} {s : Shared} {h₀ : Heap} {L : Addr} {m : Str → Option Value} {env : Env} {elt iter : PySem.Expr} {a b : Str} {pa pb tp : Pos} {kk : Nat} {scope : Scope} {cl : List (Str × Addr)} {pos : Pos} {e it C D l : Addr} {lo : Obj} {items : List Value} {nn : Nat} {news : List (Addr × Obj)} {J : Nat → List Value → Prop}
/-- the elements one by one -/
theorem enum_loop {R : Result → Shared → Prop} (spot : Spot h₀ L e it C D news) (free : A.handled = none) (src : (l, listOf items.toArray nn) ∈ news) (small : items.length ≤ sizeLine)
    (isA : scope.names.lookup a = some .local) (isB : scope.names.lookup b = some .local) (ab : ¬ a = b) (isDef : scope.kind = .function) (turn : EnTurn prog w A h₀ L m env elt a b scope cl s items news J e it C D)
    (ends : ∀ h tk ys, Fr h₀ L h m → News h₀ L h news → h.get? D = some (LCg.lst ys) → (∃ mC, h.Ns C mC) → J items.length ys → R (.ok .next) { s with heap := h, toks := tk })
    {h : Heap} {tk : Nat} (start : EnAt h₀ L m e it C D l news J 0 [] h) :
    codeAny (model prog w) A (.compLoop (.ListComp elt [⟨.Tuple [.Name a pa, .Name b pb] kk tp, iter, [], 0⟩] scope pos) 0 (.ref e) (.ref D) (compEnvC scope cl C env)) R { s with heap := h, toks := tk } := by
  have nd := spot.nodup
  simp only [List.nodup_cons, List.mem_cons, List.not_mem_nil, or_false, not_or, List.nodup_nil, not_false_iff, and_true] at nd
  obtain ⟨⟨e_it, e_C, e_D⟩, ⟨it_C, it_D⟩, C_D⟩ := nd
  have off_l := spot.led _ src
  simp only [List.mem_cons, List.not_mem_nil, or_false, not_or] at off_l
  have W := (WalksT.enumerate (prog := prog) (w := w) free e it l e_it off_l.1 off_l.2.1 items.toArray).toU
  have sub2 : ∀ b, b ∈ [e, it] → b ∈ [e, it, C, D] := by simp +contextual
  have sub3 : ∀ b, b ∈ [e, it, C] → b ∈ [e, it, C, D] := by simp +contextual
  have subD : ∀ b, b ∈ [D] → b ∈ [e, it, C, D] := by simp +contextual
  have isL : ∀ {h : Heap}, News h₀ L h news → h.IsList l items.toArray := fun N => News.isList N src
  refine kcp_loop (fun k s' => ∃ h tk i ys, s' = { s with heap := h, toks := tk } ∧ k + i = items.length + 1 ∧ i ≤ items.length ∧ EnAt h₀ L m e it C D l news J i ys h) ?_ (items.length + 1) ⟨h, tk, 0, [], rfl, rfl, Nat.zero_le _, start⟩
  rintro k s' ⟨h, tk, i, ys, rfl, count, le, now⟩
  obtain ⟨mC, ns⟩ := now.ns
  rcases Nat.lt_or_eq_of_le le with more | last
  · refine W.item i _ _ _ (by simpa using more) ⟨now.en, now.li, isL now.led⟩ fun T vals h₂ tk₂ pair tup mid k₂ => ?_
    obtain ⟨t, x, at_i, rfl⟩ := pair
    refine W.go _ kk tp i T _ _ _ mid fun h₃ at₃ k₃ => ?_
    have K₃ : Kept [e, it] h h₃ := Kept.on k₂ k₃
    refine kcp_assign (env := compEnvC scope cl C env) free (tup.at fun o q => k₃ T o (W.apart i T _ mid) q) (lookup_relabel_local isA) (lookup_relabel_local isB) (by simp [compEnvC, relabel, isDef]) (ns.at' fun o q => K₃ C o (by simp; exact ⟨Ne.symm e_C, Ne.symm it_C⟩) q) fun h₄ tk₄ ns₄ k₄ => ?_
    have K₄ : Kept [e, it, C] h h₄ := Kept.on (K₃.wide (by simp +contextual)) fun c o away q => k₄ c o (fun z => away (by rw [show c = C from z]; simp)) q
    obtain ⟨⟨old, en₃⟩, li₃, -⟩ := at₃
    obtain ⟨oE, en₄, isEn⟩ : ∃ oE, h₄.get? e = some oE ∧ ∀ g : Heap, g.get? e = some oE → IsEnum g e it ((i + 1 : Nat) : Int) old := ⟨_, k₄ e _ e_C en₃, fun _ q => q⟩
    obtain ⟨oI, got_it, shape⟩ := li₃
    have li₄ := k₄ it oI it_C got_it
    obtain ⟨oC, at_C, names⟩ := LCg.ns_obj ns₄
    have F₄ := K₄.fr now.fr (fun z => spot.loc (sub3 _ z)) fun c z => spot.old c (sub3 _ z)
    have N₄ := K₄.led now.led fun q hq z => spot.led q hq (sub3 _ z)
    have front : News h₀ L h₄ ((e, oE) :: (it, oI) :: (C, oC) :: (D, LCg.lst ys) :: news) := by
      have beside : ∀ c o, h₄.get? c = some o → c ∈ [e, it, C, D] → h₄.get? c = some o ∧ c ≠ L ∧ h₀.get? c = none := fun c o q z => ⟨q, fun y => spot.loc (y ▸ z), spot.old c z⟩
      intro q hq
      simp only [List.mem_cons] at hq
      rcases hq with rfl | rfl | rfl | rfl | hq
      · exact beside _ _ en₄ (by simp)
      · exact beside _ _ li₄ (by simp)
      · exact beside _ _ at_C (by simp)
      · exact beside _ _ (K₄ D _ (by simp; exact ⟨Ne.symm e_D, Ne.symm it_D, Ne.symm C_D⟩) now.acc) (by simp)
      · exact N₄ q hq
    refine wpAny_mono (turn i x t oE oI oC _ ys h₄ tk₄ _ (by simpa using at_i) now.len now.made names (by simp [ab]) (by simp) F₄ front) ?_ (fun _ _ z => z)
    rintro y s₅ ⟨h₅, tk₅, rfl, F₅, N₅, made⟩
    refine append_at (N₅.get (show (D, LCg.lst ys) ∈ _ by simp)) (fun h₆ but got => ?_) (by rw [List.size_toArray, now.len]; omega)
    have K₆ : Kept [D] h₅ h₆ := fun c o away q => but.extBut c o (by simpa using away) q
    have up : ∀ c o, (c, o) ∈ [(e, oE), (it, oI), (C, oC)] → c ≠ D → h₆.get? c = some o := fun c o z ne => K₆ c o (by simpa using ne) (N₅.get (by simp at z ⊢; rcases z with z | z | z <;> simp [z]))
    refine ⟨k - 1, by omega, h₆, tk₅, i + 1, ys ++ [y], rfl, by omega, more, ?_⟩
    exact {
      fr := K₆.fr F₅ (fun z => spot.loc (subD _ z)) fun c z => spot.old c (subD _ z)
      led := K₆.led (fun q hq => N₅ q (by simp [hq])) fun q hq z => spot.led q hq (subD _ z)
      acc := by rw [got]; exact congrArg some (LCg.lst_snoc ys y)
      ns := ⟨_, names.ns (up C oC (by simp) C_D)⟩
      en := ⟨old, isEn h₆ (up e oE (by simp) e_D)⟩
      li := ⟨oI, up it oI (by simp) it_D, shape⟩
      len := by rw [List.length_append, now.len]; rfl
      made := made }
  · subst last
    refine W.done _ _ _ ⟨by rw [List.size_toArray]; exact now.en, by rw [List.size_toArray]; exact now.li, isL now.led⟩ fun h₂ tk₂ k₂ => ?_
    have K₂ : Kept [e, it] h h₂ := k₂
    refine ends h₂ tk₂ ys (K₂.fr now.fr (fun z => spot.loc (sub2 _ z)) fun c z => spot.old c (sub2 _ z)) (K₂.led now.led fun q hq z => spot.led q hq (sub2 _ z)) (K₂ D _ (by simp; exact ⟨Ne.symm e_D, Ne.symm it_D⟩) now.acc) ⟨mC, ns.at' fun o q => K₂ C o (by simp; exact ⟨Ne.symm e_C, Ne.symm it_C⟩) q⟩ now.made
/-- what the iterable's tree hands on: an enumerate over a list of the ledger, the turns, and what follows when the list is bound to y -/
def SrcEn (prog : Program) (w : World) (A : Around) (h₀ : Heap) (L : Addr) (m : Str → Option Value) (env : Env) (elt : PySem.Expr) (a b : Str) (scope : Scope) (cl : List (Str × Addr)) (y : Str) (Q : Flow → Shared → Prop) (xv : Value) (s₁ : Shared) : Prop :=
  ∃ (e it l : Addr) (items : List Value) (nn : Nat) (news : List (Addr × Obj)) (J : Nat → List Value → Prop), (xv = .ref e ∧ A.handled = none) ∧ (IsEnum s₁.heap e it 0 .none ∧ s₁.heap.IsListIter it l 0) ∧ ((l, listOf items.toArray nn) ∈ news ∧ items.length ≤ sizeLine) ∧
    (Fr h₀ L s₁.heap m ∧ News h₀ L s₁.heap news) ∧ ((@Ne Nat e it) ∧ L ∉ [e, it] ∧ (∀ c, c ∈ [e, it] → h₀.get? c = none) ∧ ∀ q, q ∈ news → q.1 ∉ [e, it]) ∧ J 0 [] ∧ (∀ C D, EnTurn prog w A h₀ L m env elt a b scope cl s₁ items news J e it C D) ∧
    ∀ D h tk ys, Fr h₀ L h (fun z => if z = y then some (.ref D) else m z) → News h₀ L h ((D, LCg.lst ys) :: news) → LCg.Off1 D news → J items.length ys → Q .next { s₁ with heap := h, toks := tk }
theorem off1_of {D : Addr} : ∀ {news : List (Addr × Obj)}, (∀ q, q ∈ news → (@Ne Nat q.1 D)) → LCg.Off1 D news
  | [], _ => trivial
  | q :: r, off => ⟨off q (.head _), off1_of fun p hp => off p (.tail _ hp)⟩
theorem SrcEn.intro {y : Str} {Q : Flow → Shared → Prop} {h' : Heap} (J : Nat → List Value → Prop) (free : A.handled = none) (F : Fr h₀ L s.heap m) (N : News h₀ L s.heap news) (src : (l, listOf items.toArray nn) ∈ news)
    (isE : IsEnum h' (s.heap.objs.size + 1) s.heap.objs.size 0 .none) (isI : h'.IsListIter s.heap.objs.size l 0) (keep : ∀ b o, s.heap.get? b = some o → h'.get? b = some o) (small : items.length ≤ sizeLine) (J0 : J 0 [])
    (turn : ∀ e it C D, EnTurn prog w A h₀ L m env elt a b scope cl { s with heap := h' } items news J e it C D)
    (fin : ∀ D h tk ys, Fr h₀ L h (fun z => if z = y then some (.ref D) else m z) → News h₀ L h ((D, LCg.lst ys) :: news) → LCg.Off1 D news → J items.length ys → Q .next { s with heap := h, toks := tk }) :
    SrcEn prog w A h₀ L m env elt a b scope cl y Q (.ref (s.heap.objs.size + 1)) { s with heap := h' } := by
  have two : ∀ c : Addr, c < s.heap.objs.size → c ∉ [s.heap.objs.size + 1, s.heap.objs.size] := fun c lt mem => by
    rcases List.mem_cons.mp mem with z | z
    · exact Nat.ne_of_lt (Nat.lt_succ_of_lt lt) z
    · exact Nat.ne_of_lt lt (List.mem_singleton.mp z)
  refine ⟨_, _, l, items, nn, news, J, ⟨rfl, free⟩, ⟨isE, isI⟩, ⟨src, small⟩, ⟨F.keeps keep, N.grown keep⟩, ⟨Nat.succ_ne_self _, two L F.ns.lt, fun c mem => ?_, fun q hq => two q.1 (Heap.lt_size (N q hq).1)⟩, J0, fun C D => turn _ _ C D, fin⟩
  refine ktu_new F ?_
  rcases List.mem_cons.mp mem with z | z
  · exact z ▸ Nat.le_succ _
  · exact List.mem_singleton.mp z ▸ Nat.le_refl _
/-- y = [elt for a, b in an enumerate] -/
theorem Assign_enum {y : Str} {py spos : Pos} {Q : Flow → Shared → Prop} (_F₀ : Fr h₀ L s.heap m) (isL : env.locals = L) (uses : swapsWith (.ListComp elt [⟨.Tuple [.Name a pa, .Name b pb] kk tp, iter, [], 0⟩] scope pos) (some (.Name y py)) spos.line env = pure true)
    (closes : closureFor scope env = pure cl) (noCell : ∀ z ∈ scope.names, z.2 ≠ .cell) (isDef : scope.kind = .function) (own : ∀ z ∈ scope.names, z.2 = .local → scope.names.lookup z.1 = some .local)
    (isA : scope.names.lookup a = some .local) (isB : scope.names.lookup b = some .local) (ab : ¬ a = b) (isY : env.kindOf y = some .local) (inDef : (env.scope.kind == .class || (env.scope.kind == .module && env.locals != env.globals)) = false)
    (first : wpAny (model prog w) A (eval iter env) (SrcEn prog w A h₀ L m env elt a b scope cl y Q) E s) (noFold : ∀ x, foldedSetIterable iter env x = pure x := by intro _; rfl) :
    wpAny (model prog w) A (exec (.Assign [.Name y py] (.ListComp elt [⟨.Tuple [.Name a pa, .Name b pb] kk tp, iter, [], 0⟩] scope pos) spos) env) Q E s := by
  subst isL
  rw [exec_Assign_Name_used _ _ _ _ uses]
  apply wpAny_bind
  apply wpAny_standAt
  apply wpAny_bind
  rw [evalThenUse]
  apply wpAny_bind
  refine wpAny_mono (wpAny_comprehension_free (Q := fun _ => Q .next) rfl noFold closes isDef own (wpAny_mono first ?_ fun _ _ z => z)) (fun _ _ q => wpAny_pure (wpAny_pure q)) fun _ _ z => z
  rintro _ s₁ ⟨e, it, l, items, nn, news, J, ⟨rfl, free⟩, ⟨isE, isI⟩, ⟨src, small⟩, ⟨F, N⟩, ⟨e_it, loc, old, led⟩, J0, turn, fin⟩
  apply wpAny_pyIter_enum isE
  refine wpAny_newObj_type ?_
  refine wpAny_newFunctionEnv noCell (fun z hz => nomatch hz) (fun h₁ ns₁ but₁ => ?_) isDef
  have sizeC : (s₁.heap.push { cls := .type "list", dict := none, data := .seq ([] : List Value).toArray }).objs.size = s₁.heap.objs.size + 1 := Heap.size_push ..
  revert ns₁ but₁
  dsimp only
  rw [sizeC]
  intro ns₁ but₁
  have below : ∀ {c : Addr} {o : Obj}, s₁.heap.get? c = some o → c ∉ [s₁.heap.objs.size + 1, s₁.heap.objs.size] := fun {c o} q mem => by
    have lt : c < s₁.heap.objs.size := Heap.lt_size q
    rcases List.mem_cons.mp mem with z | z
    · exact Nat.ne_of_lt (Nat.lt_succ_of_lt lt) z
    · exact Nat.ne_of_lt lt (List.mem_singleton.mp z)
  have stays : ∀ c o, s₁.heap.get? c = some o → h₁.get? c = some o := fun c o q => but₁.extBut c o (fun z => below q (z ▸ .head _)) (Heap.get?_push_of_some _ (Heap.get?_push_of_some _ q))
  have acc : h₁.get? s₁.heap.objs.size = some (LCg.lst []) := but₁.extBut _ _ (Nat.ne_of_lt (Nat.lt_succ_self _)) (Heap.get?_push_of_some _ (Heap.get?_push_size _ rfl))
  have at_e : s₁.heap.get? e = some _ := isE
  obtain ⟨oI, at_it, shape⟩ := isI
  have dead : ∀ c, c ∈ [s₁.heap.objs.size + 1, s₁.heap.objs.size] → h₀.get? c = none := fun c mem => ktu_new F (by
    rcases List.mem_cons.mp mem with z | z
    · exact z ▸ Nat.le_succ _
    · exact List.mem_singleton.mp z ▸ Nat.le_refl _)
  have spot : Spot h₀ env.locals e it (s₁.heap.objs.size + 1) s₁.heap.objs.size news := by
    have b_e := below at_e
    have b_it := below at_it
    obtain ⟨oL, _, _, at_L, _⟩ := F.ns
    have b_L := below at_L
    simp only [List.mem_cons, List.not_mem_nil, or_false, not_or] at b_e b_it b_L loc
    refine ⟨?_, ?_, ?_, ?_⟩
    · simp only [List.nodup_cons, List.mem_cons, List.not_mem_nil, or_false, not_or, List.nodup_nil, not_false_iff, and_true]
      exact ⟨⟨e_it, b_e.1, b_e.2⟩, b_it, Nat.succ_ne_self _⟩
    · simp only [List.mem_cons, List.not_mem_nil, or_false, not_or]
      exact ⟨loc.1, loc.2, b_L.1, b_L.2⟩
    · intro c mem
      rcases List.mem_append.mp (show c ∈ [e, it] ++ [s₁.heap.objs.size + 1, s₁.heap.objs.size] from mem) with z | z
      · exact old c z
      · exact dead c z
    · intro q hq mem
      rcases List.mem_append.mp (show q.1 ∈ [e, it] ++ [s₁.heap.objs.size + 1, s₁.heap.objs.size] from mem) with z | z
      · exact led q hq z
      · exact below (N q hq).1 z
  have loop := enum_loop (pos := pos) (iter := iter) (pa := pa) (pb := pb) (tp := tp) (kk := kk) (s := s₁) (tk := s₁.toks + ([] : List (Str × Value)).length) (R := compPost (model prog w) A E (some (assign (.Name y py) env)) (fun _ => Q .next) (.ref s₁.heap.objs.size) (s₁.heap.objs.size + 1)) spot free src small isA isB ab isDef (turn _ _) ?ends
    { fr := F.keeps stays, led := N.grown stays, acc := acc, ns := ⟨_, ns₁⟩, en := ⟨_, stays _ _ at_e⟩, li := ⟨oI, stays _ _ at_it, shape⟩, len := rfl, made := J0 }
  · exact codeAny_compStart_list loop (wpAny_pyIter_enum (stays _ _ at_e) loop)
  intro h tk ys F' N' got ⟨mC, ns⟩ made
  refine wpAny_assign_Name (wpAny_storeName_local isY F'.ns (fun h₂ ns₂ but₂ => ?_) inDef)
  have noL : h₀.get? env.locals = none := Heap.get?_none_of_le F'.above
  have F₂ : Fr h₀ env.locals h₂ (fun z => if z = y then some (.ref s₁.heap.objs.size) else m z) := { ns := ns₂, keep := fun c o q => but₂.extBut c o (fun z => by rw [z, noL] at q; cases q) (F'.keep c o q), above := F'.above }
  refine ⟨mC, ns.at' fun o q => but₂.extBut _ o (fun z => spot.loc (z ▸ by simp)) q, fun h₃ but₃ => ?_⟩
  have K : Kept [s₁.heap.objs.size + 1] h₂ h₃ := fun c o away q => but₃.extBut c o (fun z => away (z ▸ .head _)) q
  have sub : ∀ c, c ∈ [s₁.heap.objs.size + 1] → c ∈ [e, it, s₁.heap.objs.size + 1, s₁.heap.objs.size] := by simp +contextual
  have all : News h₀ env.locals h₂ ((s₁.heap.objs.size, LCg.lst ys) :: news) := fun q hq => by
    have here : News h₀ env.locals h ((s₁.heap.objs.size, LCg.lst ys) :: news) := fun p hp => by
      rcases List.mem_cons.mp hp with rfl | hp
      · exact ⟨got, fun z => spot.loc (z ▸ by simp), dead _ (by simp)⟩
      · exact N' p hp
    exact ⟨but₂.extBut _ _ (here q hq).2.1 (here q hq).1, (here q hq).2⟩
  refine fin s₁.heap.objs.size h₃ _ ys (K.fr F₂ (fun z => spot.loc (sub _ z)) fun c z => spot.old c (sub c z)) (K.led all fun q hq z => ?_) (off1_of fun q hq z => spot.led q hq (z ▸ by simp)) made
  rcases List.mem_cons.mp hq with rfl | hq
  · exact Nat.succ_ne_self _ (List.mem_singleton.mp z).symm
  · exact spot.led q hq (sub _ z)
end
end
end Mine

/-! part: Law0 -/
namespace Mine
section
open PySem PySem.W PySem.Calls PySem.Spec PyProof.Rows
structure MarkMod : Prop where
  one : True
def bi : Bool → Int
  | true => 1
  | false => 0
theorem bi_of {r : Int} (h1 : 0 ≤ r) (h2 : r < 2) : ∃ k : Bool, r = bi k := by
  have : r = 0 ∨ r = 1 := by omega
  rcases this with rfl | rfl
  · exact ⟨false, rfl⟩
  · exact ⟨true, rfl⟩
def MPost (h₀ : Heap) (L : Addr) (m : Str → Option Value) (news : List (Addr × Obj)) (z : Str) (s : Shared) (v : Value) (s' : Shared) : Prop := ∃ t' h' tk', v = .str z t' ∧ s' = { s with heap := h', toks := tk' } ∧ Fr h₀ L h' m ∧ News h₀ L h' news
section
variable {prog : Program} {w : World} {A : Around} {E : Value → Shared → Prop} {s : Shared} {a b : Int} {t u : Tok} {Q : Value → Shared → Prop}
theorem mod_any (hb : 0 < b) (h : ∀ r t' tk, 0 ≤ r → r < b → Q (.int r t') { s with toks := tk }) : wpAny (model prog w) A (binaryOp .Mod (.int a t) (.int b u)) Q E s :=
  mod_int (Int.ne_of_gt hb) (h _ _ _ (Int.fmod_nonneg_of_pos a hb) (Int.fmod_lt_of_pos a hb))
theorem add_any (h : ∀ r t' tk, r = a + b → Q (.int r t') { s with toks := tk }) : wpAny (model prog w) A (binaryOp .Add (.int a t) (.int b u)) Q E s :=
  add_int (h _ _ _ rfl)
theorem merge2 {t : Sem Value} {h₀ : Heap} {L : Addr} {m : Str → Option Value} {news : List (Addr × Obj)} (_F : Fr h₀ L s.heap m) (_N : News h₀ L s.heap news) (z : Str)
    (h1 : wpAny (model prog w) A t (MPost h₀ L m news z s) E s)
    (h2 : ∀ t' h' tk', Fr h₀ L h' m → News h₀ L h' news → Q (.str z t') { s with heap := h', toks := tk' }) : wpAny (model prog w) A t Q E s :=
  wpAny_mono h1 (fun _ _ ⟨t', h', tk', e1, e2, F', N'⟩ => by rw [e1, e2]; exact h2 t' h' tk' F' N') fun _ _ e => e
end
theorem item_sg (k : Bool) : Txt.item (Str.ofString "<>") (bi k) = tx [sgn k] := by cases k <;> decide +kernel
theorem wr_eq (k : Bool) {lim : Int} (h : 1 ≤ lim) : wrT k lim.toNat = [38] ++ rep (lim - 1).toNat [97, 109, 112, 59] ++ sgT k := by
  obtain ⟨n, hn⟩ : ∃ n, lim.toNat = n + 1 := ⟨lim.toNat - 1, by omega⟩
  rw [hn, show (lim - 1).toNat = n by omega]
  rfl
theorem Par.mlen {bs lo gr lim : Int} (P : Par bs lo gr lim) (k : Bool) : (mailL k lim.toNat 0 (rowsAt bs lo gr lim lim.toNat)).length ≤ 4000 := by
  have hm := P.m
  have hb := P.b
  have hG := P.good (n := lim.toNat) (by omega)
  have := Nat.le_trans (mail_len (k := k) _) hG.len
  rwa [show lim - (lim.toNat : Int) = 0 by omega] at this
theorem par_of {bs lo gr lim a b c d x : Int} (eb : bs = 3 + a) (ha0 : 0 ≤ a) (ha : a < 4) (eg : gr = 2 + b) (hb0 : 0 ≤ b) (hb : b < bs - 2) (el : lo = 1 + c) (hc0 : 0 ≤ c) (hc : c < gr - 1) (ex : x = 7 + bs) (em : lim = x + d) (hd0 : 0 ≤ d) (hd : d < 3) : Par bs lo gr lim :=
  ⟨by omega, by omega, by omega, by omega⟩
def val (bs lo gr : Int) (hs : List Int) : Int := 10000 * hs.sum + 100 * ((hs.filter fun h => h.fmod bs != gr).map fun _ => (1 : Int)).sum + ((hs.filter fun h => h.fmod bs != lo).map fun _ => (1 : Int)).sum
def insAll (bs lo gr : Int) (rows : List (List Int)) : List Int := rows.foldl (fun acc hs => insR (val bs lo gr hs) acc) []
theorem insR_len (x : Int) : ∀ ns : List Int, (insR x ns).length = ns.length + 1
  | [] => rfl
  | b :: r => by
    unfold insR
    split
    · rfl
    · simp [insR_len x r]
theorem insAll_snoc (bs lo gr : Int) (rows : List (List Int)) (hs : List Int) : insAll bs lo gr (rows ++ [hs]) = insR (val bs lo gr hs) (insAll bs lo gr rows) := by simp [insAll]
theorem insAll_ok (bs lo gr : Int) (rows : List (List Int)) : (insAll bs lo gr rows).Pairwise (· ≤ ·) ∧ (insAll bs lo gr rows).length = rows.length := by
  have key : ∀ (rows : List (List Int)) (acc : List Int), acc.Pairwise (· ≤ ·) → (rows.foldl (fun acc hs => insR (val bs lo gr hs) acc) acc).Pairwise (· ≤ ·) ∧ (rows.foldl (fun acc hs => insR (val bs lo gr hs) acc) acc).length = acc.length + rows.length := by
    intro rows
    induction rows with
    | nil => intro acc h; exact ⟨h, rfl⟩
    | cons r rs ih =>
      intro acc h
      have := ih _ (insR_sorted (val bs lo gr r) h)
      rw [insR_len] at this
      simp only [List.foldl_cons, List.length_cons]
      exact ⟨this.1, by omega⟩
  have := key rows [] .nil
  exact ⟨this.1, by have h2 := this.2; simpa [insAll] using h2⟩
def rm (m₀ : Str → Option Value) (u : Str → Option Value) : Str → Option Value := fun y => if y = Str.ofString "row" then u y else m₀ y
theorem rm_of {m₀ m₁ : Str → Option Value} (h2 : ∀ y, y ≠ Str.ofString "row" → m₁ y = m₀ y) : m₁ = rm m₀ m₁ := by
  funext y
  unfold rm
  by_cases c : y = Str.ofString "row"
  · rw [if_pos c]
  rw [if_neg c, h2 y c]
def LInv (sh : Addr) (rest : List (Addr × Obj)) (mI : Str → Option Value) (bs lo gr : Int) (rows : List (List Int)) (j : Nat) (m₂ : Str → Option Value) (news₂ : List (Addr × Obj)) : Prop :=
  (∃ (vs : List Value) (nn : Nat), news₂ = (sh, listOf vs.toArray nn) :: rest ∧ IntsAre vs (insAll bs lo gr (rows.take j))) ∧ ∃ u, m₂ = rm mI u
theorem inv_endL {h₀ : Heap} {L sh : Addr} {o0 : Obj} {rest own2 : List (Addr × Obj)} {mI m' : Str → Option Value} {bs lo gr : Int} {rows : List (List Int)} {j : Nat} {s₁ s₂ : Shared} {Q : Flow → Shared → Prop} {vs : List Value} {nn : Nat}
    (F : Fr h₀ L s₂.heap m') (N : News h₀ L s₂.heap ((sh, listOf vs.toArray nn) :: (rest ++ own2))) (hA : IntsAre vs (insAll bs lo gr (rows.take j))) (hm : ∀ y, y ≠ Str.ofString "row" → m' y = mI y)
    (e : s₂ = { s₁ with heap := s₂.heap, toks := s₂.toks }) : InvPostN h₀ L (LInv sh rest mI bs lo gr rows j) own2 (((sh, o0) :: rest).map (·.1)) s₁ Q .next s₂ :=
  ⟨s₂.heap, s₂.toks, m', _, (sh, listOf vs.toArray nn) :: rest, e, F, N, fun p hp => (show p ∈ ((sh, listOf vs.toArray nn) :: rest) ++ own2 from List.mem_append_left _ hp),
    fun p hp => (show p ∈ ((sh, listOf vs.toArray nn) :: rest) ++ own2 from List.mem_append_right _ hp), rfl, ⟨vs, nn, rfl, hA⟩, _, rm_of hm⟩
theorem fr_but1 {h₀ h h' : Heap} {L sh : Addr} {o : Obj} {m : Str → Option Value} (F : Fr h₀ L h m) (N : News h₀ L h [(sh, o)]) (k : ∀ b o, b ≠ sh → h.get? b = some o → h'.get? b = some o) : Fr h₀ L h' m :=
  have z := N _ (.head _)
  ⟨F.ns.at' fun o e => k _ o (Ne.symm z.2.1) e, fun b o e => k b o (fun q => by rw [q] at e; have := z.2.2; rw [e] at this; cases this) (F.keep b o e), F.above⟩
theorem news_but1 {h₀ h h' : Heap} {L sh : Addr} {o o' : Obj} {rest : List (Addr × Obj)} (N : News h₀ L h ((sh, o) :: rest)) (off : ∀ p ∈ rest, p.1 ≠ sh) (k : ∀ b o, b ≠ sh → h.get? b = some o → h'.get? b = some o) (e : h'.get? sh = some o') : News h₀ L h' ((sh, o') :: rest) := fun p hp => by
  rcases List.mem_cons.mp hp with rfl | hp
  · exact ⟨e, (N _ (.head _)).2⟩
  · exact ⟨k _ _ (off p hp) (N p (.tail _ hp)).1, (N p (.tail _ hp)).2⟩
end
end Mine

/-! part: Law00 -/
namespace Mine
section
open PySem PySem.W PySem.Calls PySem.Spec PyProof.Rows
structure RowOk (k : Bool) (lim : Int) (hs : List Int) : Prop where
  hh : (((spl 38 (rowL k lim.toNat 0 hs)).drop 2).map fun p => Txt.count (tx p) (Str.ofString "amp;") + 1) = hs
  hr : ∀ h ∈ hs, 1 ≤ h ∧ h ≤ 20
  hlen : hs.length ≤ 20
  hx : (rowL k lim.toNat 0 hs).length ≤ 5000
  hw : ([38] ++ rep (lim - 1).toNat [97, 109, 112, 59] ++ sgT k).length ≤ 5000
  hq : rowL k lim.toNat 0 hs = rep (hs.length + 1) [46] ++ ([38] ++ rep (lim - 1).toNat [97, 109, 112, 59] ++ sgT k) ++ (hs.map pc).flatten
theorem Par.rowOk {bs lo gr lim : Int} (P : Par bs lo gr lim) (k : Bool) {hs : List Int} (hm : hs ∈ rowsAt bs lo gr lim lim.toNat) : RowOk k lim hs := by
  have hl := P.m
  have hb := P.b
  have hG := (P.good (n := lim.toNat) (by omega)).row hs hm
  rw [show lim - (lim.toNat : Int) = 0 by omega] at hG
  refine ⟨?_, fun h hh => ?_, by omega, by rw [rowL_len]; omega, ?_, ?_⟩
  · rw [hours_row (fun h => by omega) fun x hx => by have := hG.1 x hx; omega]
    simp
  · have := hG.1 h hh; omega
  · simp only [List.length_append, rep_len, List.length_cons, List.length_nil]
    have : (sgT k).length = 3 := by cases k <;> rfl
    omega
  · rw [rowL_eq, wr_eq k (by omega)]
    simp
theorem insAll_take {bs lo gr : Int} {rows : List (List Int)} {j : Nat} {hs : List Int} (h : rows[j]? = some hs) : insAll bs lo gr (rows.take (j + 1)) = insR (val bs lo gr hs) (insAll bs lo gr (rows.take j)) := by
  rw [List.take_add_one, h]
  exact insAll_snoc _ _ _ _ _
section
variable {prog : Program} {w : World} {A : Around} {E : Value → Shared → Prop} {s : Shared} {env : Env} {h₀ : Heap} {body : List Stmt} {Q : Flow → Shared → Prop}
theorem list_rows {l sh : Addr} {vs : List Value} {nn : Nat} {m₀ : Str → Option Value} {rest : List (Addr × Obj)} {k : Bool} {bs lo gr lim : Int} (P : Par bs lo gr lim)
    (hW : All2 TextV ((rowsAt bs lo gr lim lim.toNat).map (rowL k lim.toNat 0)) vs)
    (hh : A.handled = none) (hl : News h₀ env.locals s.heap [(l, listOf vs.toArray nn)]) (hlf : ∀ p ∈ (sh, listOf ([] : List Value).toArray 0) :: rest, (@Ne Nat p.1 l)) (F : Fr h₀ env.locals s.heap m₀) (N : News h₀ env.locals s.heap ((sh, listOf ([] : List Value).toArray 0) :: rest))
    (turn : ∀ j hs tv us n2 u h tk own, (rowsAt bs lo gr lim lim.toNat)[j]? = some hs → RowOk k lim hs → OwnOff own (((sh, listOf ([] : List Value).toArray 0) :: rest).map (·.1)) → IntsAre us (insAll bs lo gr ((rowsAt bs lo gr lim lim.toNat).take j)) → us.length < 100 → (insAll bs lo gr ((rowsAt bs lo gr lim lim.toNat).take j)).Pairwise (· ≤ ·) →
      Fr h₀ env.locals h (fun y => if y = Str.ofString "row" then some (.str (tx (rowL k lim.toNat 0 hs)) tv) else rm m₀ u y) → News h₀ env.locals h ((sh, listOf us.toArray n2) :: (rest ++ own)) →
      wpAny (model prog w) A (execs body env) (InvPostN h₀ env.locals (LInv sh rest m₀ bs lo gr (rowsAt bs lo gr lim lim.toNat) (j + 1)) own (((sh, listOf ([] : List Value).toArray 0) :: rest).map (·.1)) { s with heap := h, toks := tk } Q) E { s with heap := h, toks := tk })
    (done : ∀ us n2 u h tk, IntsAre us (insAll bs lo gr (rowsAt bs lo gr lim lim.toNat)) → us.length < 100 → Fr h₀ env.locals h (rm m₀ u) → News h₀ env.locals h ((sh, listOf us.toArray n2) :: rest) → Q .next { s with heap := h, toks := tk }) :
    wpAny (model prog w) A (pyIter (.ref l)) (fun it s₂ => LoopAtV prog w A h₀ env (Str.ofString "row") body Q E it s₂) E s := by
  have hlm := P.m
  have hb := P.b
  have hG := P.good (n := lim.toNat) (by omega)
  have hnum : ∀ j us, IntsAre us (insAll bs lo gr ((rowsAt bs lo gr lim lim.toNat).take j)) → us.length < 100 := fun j us h => by
    rw [h.length, (insAll_ok _ _ _ _).2]
    have := List.length_take_le' j (rowsAt bs lo gr lim lim.toNat)
    have := hG.num
    omega
  refine list_loop (nn := nn) (LInv sh rest m₀ bs lo gr (rowsAt bs lo gr lim lim.toNat)) hh hl hlf F N ⟨⟨[], 0, rfl, .nil⟩, _, rm_of fun _ _ => rfl⟩ ?_ ?_
  · rintro j v m₂ news₂ h tk own hv hoff ⟨⟨us, n2, rfl, hI⟩, u, rfl⟩ F₂ N₂
    obtain ⟨x, hx, tv, rfl⟩ := hW.at hv
    obtain ⟨hs, hrow, rfl⟩ : ∃ hs, (rowsAt bs lo gr lim lim.toNat)[j]? = some hs ∧ x = rowL k lim.toNat 0 hs := by
      rw [List.getElem?_map] at hx
      cases e : (rowsAt bs lo gr lim lim.toNat)[j]? with
      | none => rw [e] at hx; cases hx
      | some hs => rw [e] at hx; exact ⟨hs, rfl, (Option.some.inj hx).symm⟩
    exact turn j hs tv us n2 u h tk own hrow (P.rowOk k (List.mem_of_getElem? hrow)) hoff hI (hnum j us hI) (insAll_ok _ _ _ _).1 F₂ N₂
  · rintro m₂ news₂ h tk ⟨⟨us, n2, rfl, hI⟩, u, rfl⟩ F₂ N₂
    have hlen := hnum _ _ hI
    rw [List.take_of_length_le (by rw [hW.len, List.length_map]; exact Nat.le_refl _)] at hI
    exact done us n2 u h tk hI hlen F₂ N₂
end
end
end Mine

/-! part: Law000 -/
namespace Mine
section
open PySem PySem.W PySem.Calls PySem.Spec PyProof.Rows
theorem news_tail {h₀ h : Heap} {L : Addr} {a : Addr × Obj} {r : List (Addr × Obj)} (N : News h₀ L h (a :: r)) : News h₀ L h r := fun p hp => N p (.tail _ hp)
theorem news_two {h₀ h : Heap} {L : Addr} {a b : Addr × Obj} {r : List (Addr × Obj)} (N : News h₀ L h (a :: b :: r)) : News h₀ L h (a :: r) := fun p hp => N p (by
  rcases List.mem_cons.mp hp with rfl | hp
  · exact .head _
  · exact .tail _ (.tail _ hp))
theorem news_no6 {h₀ h : Heap} {L : Addr} {a b c d e f : Addr × Obj} (N : News h₀ L h [a, b, c, d, e, f]) : News h₀ L h [a, b, c, d, e] := fun p hp => N p (by
  simp only [List.mem_cons, List.not_mem_nil, or_false] at hp ⊢
  rcases hp with hp | hp | hp | hp | hp <;> simp [hp])
theorem lt_two {D : Addr} {a b : Addr × Obj} {r : List (Addr × Obj)} (N : ∀ p ∈ a :: b :: r, p.1 < D) : ∀ p ∈ a :: r, p.1 < D := fun p hp => N p (by
  rcases List.mem_cons.mp hp with rfl | hp
  · exact .head _
  · exact .tail _ (.tail _ hp))
theorem off4 {sh c1 c2 c3 c4 : Addr} {o1 o2 o3 o4 : Obj} {own : List (Addr × Obj)} {adr : List Addr} (h1 : (@LT.lt Nat _ c1 sh)) (h2 : (@LT.lt Nat _ c2 sh)) (h3 : (@LT.lt Nat _ c3 sh)) (h4 : (@LT.lt Nat _ c4 sh)) (ho : OwnOff own (sh :: adr)) : ∀ p ∈ [(c1, o1), (c2, o2), (c3, o3), (c4, o4)] ++ own, p.1 ≠ sh := by
  intro p hp
  rcases List.mem_append.mp hp with hp | hp
  · simp only [List.mem_cons, List.not_mem_nil, or_false] at hp
    rcases hp with rfl | rfl | rfl | rfl
    · exact Nat.ne_of_lt h1
    · exact Nat.ne_of_lt h2
    · exact Nat.ne_of_lt h3
    · exact Nat.ne_of_lt h4
  · exact ho p hp sh (.head _)
/-- the choices -/
def chTest (bs lo gr num : Int) : Bool := num.fmod bs == lo || num.fmod bs == gr
def chMore (bs lo num : Int) : Int := 10000 * num + if num.fmod bs = lo then 100 else 1
def chAt (bs lo gr lim : Int) : Nat → List Int
  | 0 => [0]
  | n + 1 => if chTest bs lo gr (1 + n) then chAt bs lo gr lim n ++ ((chAt bs lo gr lim n).filter fun x => decide (x.fdiv 10000 + (1 + n) ≤ lim)).map (· + chMore bs lo (1 + n)) else chAt bs lo gr lim n
def chGood (bs lo gr lim : Int) : Bool := (List.range (lim.toNat + 1)).all fun n => decide ((chAt bs lo gr lim n).length ≤ 60)
set_option maxRecDepth 1000000 in
theorem ch_good : allPar chGood = true := by decide +kernel
theorem Par.chLen {bs lo gr lim : Int} (P : Par bs lo gr lim) {n : Nat} (hn : n ≤ lim.toNat) : (chAt bs lo gr lim n).length ≤ 60 := by
  have h1 := List.all_eq_true.mp (P.all ch_good) n (List.mem_range.mpr (by omega))
  simpa using h1
/-- the two rows of numbers are one -/
def sortI (ns : List Int) : List Int := ns.foldl (fun acc x => insR x acc) []
def sameB (bs lo gr lim : Int) : Bool := insAll bs lo gr (rowsAt bs lo gr lim lim.toNat) == sortI (chAt bs lo gr lim lim.toNat)
set_option maxRecDepth 1000000 in
theorem same_all : allPar sameB = true := by decide +kernel
theorem insR_perm (x : Int) : ∀ ns : List Int, (insR x ns).Perm (x :: ns)
  | [] => .refl _
  | b :: r => by
    unfold insR
    split
    · exact .refl _
    · exact ((insR_perm x r).cons b).trans (.swap x b r)
theorem sortI_perm (ns : List Int) : (sortI ns).Perm ns := by
  have key : ∀ (ns acc : List Int), (ns.foldl (fun acc x => insR x acc) acc).Perm (ns ++ acc) := by
    intro ns
    induction ns with
    | nil => intro acc; exact .refl _
    | cons x r ih =>
      intro acc
      refine (ih (insR x acc)).trans ?_
      refine ((insR_perm x acc).append_left r).trans ?_
      exact List.perm_middle
  have := key ns []
  rwa [List.append_nil] at this
theorem sorted_eq {bs lo gr lim : Int} (P : Par bs lo gr lim) {ns' : List Int} (hp : ns'.Perm (chAt bs lo gr lim lim.toNat)) (hs : ns'.Pairwise (· ≤ ·)) : ns' = insAll bs lo gr (rowsAt bs lo gr lim lim.toNat) := by
  have h := P.all same_all
  have h' : insAll bs lo gr (rowsAt bs lo gr lim lim.toNat) = sortI (chAt bs lo gr lim lim.toNat) := by
    unfold sameB at h
    exact beq_iff_eq.mp h
  refine lks_uniq (hp.trans ?_) hs (insAll_ok _ _ _ _).1
  rw [h']
  exact (sortI_perm _).symm
abbrev pM {bs lo gr lim : Int} (_ : Par bs lo gr lim) : Int := lim
theorem chAt_lo {bs lo gr lim : Int} {i : Nat} (h : (1 + (i : Int)).fmod bs = lo) : chAt bs lo gr lim (i + 1) = chAt bs lo gr lim i ++ ((chAt bs lo gr lim i).filter fun x => decide (x.fdiv 10000 + (1 + (i : Int)) ≤ lim)).map (fun x => x + (10000 * (1 + (i : Int)) + 100)) := by
  simp [chAt, chTest, chMore, h]
theorem chAt_gr {bs lo gr lim : Int} {i : Nat} (h : (1 + (i : Int)).fmod bs ≠ lo) (h2 : (1 + (i : Int)).fmod bs = gr) : chAt bs lo gr lim (i + 1) = chAt bs lo gr lim i ++ ((chAt bs lo gr lim i).filter fun x => decide (x.fdiv 10000 + (1 + (i : Int)) ≤ lim)).map (fun x => x + (10000 * (1 + (i : Int)) + 1)) := by
  have h3 : ¬ gr = lo := fun e => h (h2.trans e)
  simp [chAt, chTest, chMore, h2, h3]
theorem chAt_no {bs lo gr lim : Int} {i : Nat} (h : (1 + (i : Int)).fmod bs ≠ lo) (h2 : (1 + (i : Int)).fmod bs ≠ gr) : chAt bs lo gr lim (i + 1) = chAt bs lo gr lim i := by
  simp [chAt, chTest, h, h2]
theorem news_pick {h₀ h : Heap} {L : Addr} {a b c d e f g i : Addr × Obj} (N : News h₀ L h [a, b, c, d, e, f, g, i]) : News h₀ L h [c, a, e, f, g, i] := fun p hp => N p (by
  simp only [List.mem_cons, List.not_mem_nil, or_false] at hp ⊢
  rcases hp with hp | hp | hp | hp | hp | hp <;> simp [hp])
def cm (m₀ : Str → Option Value) (v : Value) (u : Option Value) : Str → Option Value := fun y => if y = Str.ofString "choices" then some v else m₀ y
theorem cm_of {m₀ m₁ : Str → Option Value} {v : Value} {u : Option Value} (h1 : m₁ (Str.ofString "choices") = some v) (h2 : ∀ y, y ≠ Str.ofString "choices" → m₁ y = m₀ y) : m₁ = cm m₀ v u := by
  funext y
  unfold cm
  by_cases a : y = Str.ofString "choices"
  · rw [if_pos a, a, h1]
  rw [if_neg a, h2 y a]
def CInv (sh cM cN cL : Addr) (oS oL : Obj) (m₀ : Str → Option Value) (bs lo gr lim : Int) (i : Nat) (m₁ : Str → Option Value) (news₁ : List (Addr × Obj)) : Prop :=
  ∃ (X : Addr) (cs : List Value) (nn : Nat) (oM oN : Obj) (vM vN : Option Value), news₁ = [(X, { cls := .type "list", data := .seq cs.toArray nn }), (sh, oS), (cM, oM), (cN, oN), (cL, oL)] ∧ IntsAre cs (chAt bs lo gr lim i) ∧ oM.data = .cell vM ∧ oN.data = .cell vN ∧ (@Ne Nat X cM) ∧ (@Ne Nat X cN) ∧ m₁ = cm m₀ (.ref X) none
section
variable {prog : Program} {w : World} {A : Around} {E : Value → Shared → Prop} {s : Shared} {env : Env} {h₀ : Heap} {target : PySem.Expr} {body : List Stmt} {Q : Flow → Shared → Prop}
theorem range_choices {sh cM cN cL X0 r : Addr} {oS oL oM0 oN0 : Obj} {t0 t₀ u₀ v₀ : Tok} {nn0 : Nat} {vM0 vN0 : Option Value} {m₀ : Str → Option Value} {bs lo gr lim : Int} (P : Par bs lo gr lim)
    (hh : A.handled = none) (hr : IsRange s.heap r 1 (lim + 1) 1 t₀ u₀ v₀) (F : Fr h₀ env.locals s.heap m₀) (N : News h₀ env.locals s.heap [(X0, listOf ([Value.int 0 t0] : List Value).toArray nn0), (sh, oS), (cM, oM0), (cN, oN0), (cL, oL)]) (hM : oM0.data = .cell vM0) (hN : oN0.data = .cell vN0) (hX : (@Ne Nat X0 cM) ∧ (@Ne Nat X0 cN)) (hv : m₀ (Str.ofString "choices") = some (.ref X0))
    (hgo : ∀ I v (s : Shared) (Q : Unit → Shared → Prop) (E : Value → Shared → Prop), Q () s → wpAny (model prog w) A (letOwnedTupleGo target (.ref I) v) Q E s)
    (turn : ∀ i t X cs nn oM oN vM vN h tk I oI, i < lim.toNat → IntsAre cs (chAt bs lo gr lim i) → cs.length ≤ 100 → oM.data = .cell vM → oN.data = .cell vN → ((@Ne Nat X cM) ∧ (@Ne Nat X cN)) → ((@Ne Nat X I) ∧ (@Ne Nat sh I) ∧ (@Ne Nat cM I) ∧ (@Ne Nat cN I) ∧ (@Ne Nat cL I)) →
      Fr h₀ env.locals h (cm m₀ (.ref X) none) → News h₀ env.locals h [(I, oI), (X, { cls := .type "list", data := .seq cs.toArray nn }), (sh, oS), (cM, oM), (cN, oN), (cL, oL)] →
      wpAny (model prog w) A (assign target env (.int (1 + (i : Int)) t)) (fun _ s₃ => wpAny (model prog w) A (execs body env) (Turned h₀ env.locals I oI (CInv sh cM cN cL oS oL m₀ bs lo gr lim (i + 1)) { s with heap := h, toks := tk }) E s₃) E { s with heap := h, toks := tk })
    (done : ∀ X cs nn oM oN h tk, IntsAre cs (chAt bs lo gr lim lim.toNat) → cs.length ≤ 100 → Fr h₀ env.locals h (cm m₀ (.ref X) none) → News h₀ env.locals h [(X, { cls := .type "list", data := .seq cs.toArray nn }), (sh, oS), (cM, oM), (cN, oN), (cL, oL)] → Q .next { s with heap := h, toks := tk }) :
    wpAny (model prog w) A (pyIter (.ref r)) (fun it s₂ => TurnsAt prog w A h₀ env target body Q E it s₂) E s := by
  have hlm := P.m
  have hb := P.b
  refine range_turns (n := lim.toNat) (CInv sh cM cN cL oS oL m₀ bs lo gr lim) hh hr (small_one (by omega) (by omega) (by omega) (by omega)) ?_ F N ⟨X0, _, nn0, oM0, oN0, _, _, rfl, .cons _ _ .nil, hM, hN, hX.1, hX.2, cm_of hv fun _ _ => rfl⟩ hgo ?_ ?_
  · unfold Builtin.Range.rangeSize
    simp
    omega
  · rintro i t m₁ news₁ h tk I oI hi ⟨X, cs, nn, oM, oN, vM, vN, rfl, hI, hM, hN, hx1, hx2, rfl⟩ hoff F₁ N₁
    simp only [List.forall_mem_cons] at hoff
    have := turn i t X cs nn oM oN vM vN h tk I oI hi hI (by rw [hI.length]; exact Nat.le_trans (P.chLen (by omega)) (by decide)) hM hN ⟨hx1, hx2⟩ ⟨hoff.1, hoff.2.1, hoff.2.2.1, hoff.2.2.2.1, hoff.2.2.2.2.1⟩ F₁ N₁
    rwa [show (1 : Int) + (i : Int) * 1 = 1 + (i : Int) by omega]
  · rintro m₁ news₁ h tk ⟨X, cs, nn, oM, oN, vM, vN, rfl, hI, hM, hN, hx1, hx2, rfl⟩ F₁ N₁
    exact done X cs nn oM oN h tk hI (by rw [hI.length]; exact Nat.le_trans (P.chLen (Nat.le_refl _)) (by decide)) F₁ N₁
theorem inv_endC {h₀ : Heap} {L sh cM cN cL X I : Addr} {oS oL oM oN oI : Obj} {vM vN : Option Value} {m₀ m' : Str → Option Value} {bs lo gr lim : Int} {i nn : Nat} {cs : List Value} {s₁ s₂ : Shared}
    (F : Fr h₀ L s₂.heap m') (N : News h₀ L s₂.heap [(I, oI), (X, { cls := .type "list", data := .seq cs.toArray nn }), (sh, oS), (cM, oM), (cN, oN), (cL, oL)]) (hI : IntsAre cs (chAt bs lo gr lim i)) (hM : oM.data = .cell vM) (hN : oN.data = .cell vN) (hX : (@Ne Nat X cM) ∧ (@Ne Nat X cN)) (hX2 : (@Ne Nat X I) ∧ (@Ne Nat sh I) ∧ (@Ne Nat cM I) ∧ (@Ne Nat cN I) ∧ (@Ne Nat cL I))
    (h1 : m' (Str.ofString "choices") = some (.ref X)) (h2 : ∀ y, y ≠ Str.ofString "choices" → m' y = m₀ y) (e : s₂ = { s₁ with heap := s₂.heap, toks := s₂.toks }) : Turned h₀ L I oI (CInv sh cM cN cL oS oL m₀ bs lo gr lim i) s₁ .next s₂ :=
  ⟨rfl, s₂.heap, s₂.toks, m', _, e, F, N, by
    simp only [List.forall_mem_cons]
    exact ⟨hX2.1, hX2.2.1, hX2.2.2.1, hX2.2.2.2.1, hX2.2.2.2.2, fun _ h => nomatch h⟩, X, cs, nn, oM, oN, vM, vN, rfl, hI, hM, hN, hX.1, hX.2, cm_of h1 h2⟩
end
end
end Mine

/-! part: Law1 -/
namespace Mine
section
open PySem PySem.W PySem.Calls PySem.Spec PyProof.Rows
section
local macro_rules | `(tactic| walk_at "subscriptTail") => `(tactic| ((with_reducible rename MarkMod => hMk); (fail_if_success (with_reducible show wpAny _ _ (subscriptTail _ (PySem.Expr.Constant _ _ _) _ _) _ _ _)); (with_reducible show wpAny _ _ (subscriptTail _ _ (.ref _) (.int (_ : Int) _)) _ _ _); refine stop_here ?_))
local macro_rules | `(tactic| walk_at "subscriptTail") => `(tactic| ((with_reducible rename MarkMod => hMk); (with_reducible show wpAny _ _ (subscriptTail (PySem.Expr.Constant _ _ _) (PySem.Expr.Name _ _) _ (.int _ _)) _ _ _); refine stop_here ?_))
local macro_rules | `(tactic| walk_at "binaryOp Add int int") => `(tactic| ((with_reducible rename MarkMod => hMk); (k_dflt (refine add_any ?_)); intro r' t' tk' hr1'; (try dsimp only)))
local macro_rules | `(tactic| walk_at "binaryOp Mod int int") => `(tactic| ((with_reducible rename MarkMod => hMk); (k_dflt (refine mod_any (by omega) ?_)); intro r' t' tk' hr1' hr2'; (try dsimp only)))
local macro_rules | `(tactic| walk_at "eval ListComp") => `(tactic| (k_here; (with_reducible show wpAny _ _ (eval (PySem.Expr.ListComp _ [⟨_, _, [], _⟩] _ _) _) _ _ _); k_dflt (refine LCg.ListComp_U (F₀ := by k_asm) (by with_unfolding_all rfl) (by decide) (by rfl) (by decide) (by rfl) ?_)))
local macro_rules | `(tactic| walk_at "eval ListComp") => `(tactic| (k_here; (with_reducible show wpAny _ _ (eval (PySem.Expr.ListComp _ [⟨_, _, [_], _⟩] _ _) _) _ _ _); k_dflt (refine LCt.ListComp_T (F₀ := by k_asm) (by with_unfolding_all rfl) (by decide) (by rfl) (by decide) (by rfl) ?_)))
local macro_rules | `(tactic| walk_at "exec Assign cons ListComp") => `(tactic| (k_here; (with_reducible show wpAny _ _ (exec (PySem.Stmt.Assign _ (PySem.Expr.ListComp _ [⟨PySem.Expr.Tuple _ _ _, _, [], _⟩] _ _) _) _) _ _ _); k_dflt (refine Assign_enum (by k_asm) (by rfl) (by with_unfolding_all rfl) (by with_unfolding_all rfl) (by decide) (by rfl) (by decide) (by rfl) (by rfl) (by decide) (by rfl) (by rfl) ?_)))
local macro_rules | `(tactic| walk_at "CompSrc") => `(tactic| refine stop_p ?_)
local macro_rules | `(tactic| walk_at "CompSrcT") => `(tactic| refine stop_p ?_)
local macro_rules | `(tactic| walk_at "SrcEn") => `(tactic| refine stop_p ?_)
local macro_rules | `(tactic| walk_at "EnEnd") => `(tactic| refine stop_p ?_)
local macro_rules | `(tactic| walk_at "binaryOp Add ref ref") => `(tactic| refine stop_here ?_)
local macro_rules | `(tactic| walk_at "Turned") => `(tactic| refine stop_p ?_)
local macro_rules | `(tactic| walk_at "InvPostN") => `(tactic| refine stop_p ?_)
local macro_rules | `(tactic| walk_at "call ref") => `(tactic| refine stop_here ?_)
local macro_rules | `(tactic| walk_at "call type:enumerate") => `(tactic| refine stop_here ?_)
local macro_rules | `(tactic| walk_at "pyIter ref") => `(tactic| refine stop_here ?_)
local macro_rules | `(tactic| walk_at "subscriptTail Name Slice ref ref") => `(tactic| refine stop_here ?_)
local macro_rules | `(tactic| walk_at "CompEnd") => `(tactic| (k_dflt (refine' comp_end ?eF ?eN ?eo ?eS ⟨_, rfl⟩; (case eF => k_asm); (case eN => k_asm); (case eo => assumption); (case eS => first | exact True.intro | exact Or.inl (by assumption) | exact Or.inr ⟨_, by k_mem, rfl, _, rfl⟩))))
local macro_rules | `(tactic| walk_at "CompEnd") => `(tactic| (k_dflt (refine' comp_endT ?eF ?eN ?eo ?eS ⟨_, rfl⟩ ?_; (case eF => k_asm); (case eN => k_asm); (case eo => assumption); (case eS => first | exact True.intro | exact Or.inl (by assumption) | exact Or.inr ⟨_, by k_mem, rfl, _, rfl⟩))))
local macro_rules | `(tactic| walk_at "CompEnd") => `(tactic| (k_dflt (refine' comp_endF ?eF ?eN ?eo ?eS ?_; (case eF => k_asm); (case eN => k_asm); (case eo => assumption); (case eS => first | exact True.intro | exact Or.inl (by assumption) | exact Or.inr ⟨_, by k_mem, rfl, _, rfl⟩))))
local macro_rules | `(tactic| walk_at "binaryOp Mult str int") => `(tactic| (k_here; (refine mul_tx (by first | exact rfl | exact str_dot | exact str_amps) (nat_of_int (by omega)) (by decide) (by omega) ?_); intro tm km; (try dsimp only)))
local macro_rules | `(tactic| walk_at "binaryOp Add str str") => `(tactic| (k_here; (refine add_tx (by first | exact rfl | exact str_ampT | exact str_ltT | exact str_gtT) (by first | exact rfl | exact str_ampT | exact str_ltT | exact str_gtT) (by (simp only [List.length_append, rep_len, List.length_cons, List.length_nil]; omega)) ?_); intro tm km; (try dsimp only)))
local macro_rules | `(tactic| walk_at "call builtin:str.split") => `(tactic| (k_here; (first | refine split_step str_nl (by assumption) (by k_asm) (by k_asm) (by omega) ?_); intro ws' h' tk' hW' F' N'; (try dsimp only)))
local macro_rules | `(tactic| walk_at "exec For Name Call cons nil") => `(tactic| (k_here; k_dflt (refine For_turns (by k_asm) ?_)))
local macro_rules | `(tactic| walk_at "exec For Name Subscript cons nil") => `(tactic| (k_here; (with_unfolding_all refine' For_invVF ?kF ?kx ?kp ?_; (case kF => k_asm); (case kx => exact rfl); (case kp => exact rfl); k_whole)))
theorem t1 : PySem.Challenge.rw_wn0032_01.Holds := hd (by 
  k_go0
  k_steps
  unfold stopped
  (rename Fr _ _ _ _ => F1); (rename News _ _ _ _ => N1); (rename IntsAre _ _ => hI)
  have hlen := hI.length
  refine slice_step F1 N1 (by kmk_list) (by kmk_part) (by kmk_part) (slice_upto (All2.of_ints hI) (by decide)) (by with_unfolding_all rfl) (by kmk_pure) (by omega) fun D ws3 h3 F3 N3 l3 hW3 => ?_
  clear F1 N1
  k_lt l3
  have hl3 : ws3.length ≤ 8 := by rw [hW3.len, List.length_take]; exact Nat.min_le_left _ _
  k_steps
  unfold StopP
  refine LCg.CompSrc.ledger (by rfl) (by k_asm) (by k_asm) (by k_mem) (by rw [List.size_toArray, PySem.sizeLine_eq]; omega) ?_
  intro g'
  refine comp_list IntV IntV (fun z : Int => z.fmod 1000000) hW3 (fun k' hk' i' ys' v' I' oI' C' oC' D' m' h' tk' E' hv' hC' hx' F' N' off' ne' => ?_) (fun ys2 hA2 => ?_)
  · obtain ⟨tv', ev'⟩ := hv'; subst ev'
    k_steps
  have hl2 := hA2.len
  rw [List.length_map, List.length_take] at hl2
  have hI2 := hA2.ints
  generalize List.map (fun z : Int => z.fmod 1000000) _ = cs at hA2 hI2 hl2
  k_steps
  unfold stopped
  (rename Fr _ _ _ _ => F5); (rename News _ _ _ _ => N5)
  refine call_enumerate_list (News.isList N5 (by k_mem)) fun h6 hE hIt _ hk6 => ?_
  refine SrcEn.intro (fun i ys => ∃ ns : List Int, IntsAre ys ns ∧ ns.length = i) rfl F5 N5 (by k_mem) hE hIt hk6 (by rw [PySem.sizeLine_eq]; simp) ⟨[], .nil, rfl⟩ ?_ ?_
  · clear F5 N5 hE hIt hk6
    intro e it C D i x t oE oI oC m₂ ys h tk E' hx hyl hJ hC ha hb F N
    obtain ⟨ns, hns, hnl⟩ := hJ
    obtain ⟨k0, tk0, rfl⟩ : ∃ k t, x = .int k t := by
      rcases List.mem_cons.mp (List.mem_of_getElem? hx) with rfl | hx
      · exact ⟨_, _, rfl⟩
      rcases List.mem_cons.mp hx with rfl | hx
      · exact ⟨_, _, rfl⟩
      rcases List.mem_cons.mp hx with rfl | hx
      · exact ⟨_, _, rfl⟩
      rcases List.mem_cons.mp hx with rfl | hx
      · exact ⟨_, _, rfl⟩
      cases hx
    k_steps
    unfold stopped
    refine kmk_slice3_lit F N (by kmk_list) (by kmk_part) (by kmk_part) (by kmk_part) (by decide) rfl (fun D2 h7 F7 N7 l7 => ?_) (by with_unfolding_all rfl) (by kmk_pure) (by rw [List.size_toArray, PySem.sizeLine_eq]; omega)
    have hI7 := hI2.pick (some (i : Int)) none (some 4)
    clear F N
    k_steps
    unfold StopP
    (rename Fr _ _ _ _ => F8); (rename News _ _ _ _ => N8)
    exact ⟨_, _, rfl, F8, fun p hp => N8 p (.tail _ hp), _, IntsAre.append hns (.cons _ _ .nil), by rw [List.length_append, hnl]; rfl⟩
  clear F5 N5 hE hIt hk6
  intro D h tk ys F N o1 hJ
  obtain ⟨ns, hns, hnl⟩ := hJ
  obtain ⟨n0, n1, n2, n3, rfl⟩ : ∃ n0 n1 n2 n3, ns = [n0, n1, n2, n3] := by
    match ns, hnl with
    | [a, b, c, d], _ => exact ⟨a, b, c, d, rfl⟩
  have hMk : MarkMod := ⟨trivial⟩
  simp only [LCg.Off1, and_true] at o1
  k_steps
  unfold stopped
  rename MarkMod => hMk
  clear hMk
  rename (_ : Int) < 2 => hk2
  rename (0 : Int) ≤ _ => hk1
  obtain ⟨k, rfl⟩ := bi_of hk1 hk2
  (rename Fr _ _ _ _ => F6); (rename News _ _ _ _ => N6)
  refine merge2 F6 N6 (tx (sgT k)) ?_ fun tz hz tkz F7 N7 => ?_
  · cases k
    · change wpAny _ _ (subscriptTail _ _ _ (.int 0 _)) _ _ _
      k_steps
      exact ⟨_, _, _, by rw [str_ltT]; rfl, rfl, by assumption, by assumption⟩
    · change wpAny _ _ (subscriptTail _ _ _ (.int 1 _)) _ _ _
      k_steps
      exact ⟨_, _, _, by rw [str_gtT]; rfl, rfl, by assumption, by assumption⟩
  clear F6 N6
  have hsg : (sgT k).length = 3 := by cases k <;> rfl
  k_steps
  (rename (_ : Int) = 3 + _ => eb); (rename (_ : Int) = 2 + _ => eg); (rename (_ : Int) = 1 + _ => el); (rename (_ : Int) = 7 + _ => ex); (rename (_ : Int) = _ + _ => em)
  have P := par_of eb (by assumption) (by assumption) eg (by assumption) (by assumption) el (by assumption) (by assumption) ex em (by assumption) (by assumption)
  have hPb := P.b
  have hPm := P.m
  have hml := P.mlen k
  rw [item_sg]
  unfold stopped
  (rename Fr _ _ _ _ => F1); (rename News _ _ _ _ => N1); (rename Below _ _ _ _ => B1); (rename Top _ _ _ _ _ _ => T1); (rename (Mine.hd.heap_39 _).In _ => X1)
  refine mail_con (Site.of B1 F1 X1 T1 rfl) (by decide +kernel) (by decide +kernel) P fun tm hm tkm km => ?_
  have N2 := newsOn N1 km
  have F2 := frOn F1 km
  clear F1 N1
  k_steps
  unfold stopped
  (rename Fr _ _ _ _ => F3); (rename News _ _ _ _ => N3); (rename All2 TextV (spl _ _) _ => hW)
  refine slice_step F3 N3 (by kmk_list) (by kmk_part) (by kmk_part) (slice_rows hW) (by with_unfolding_all rfl) (by kmk_pure) (by rw [All2.len hW]; refine Nat.le_trans (spl_len _ _) (by omega)) fun D ws3 h3 F4 N4 l4 hWr => ?_
  clear F3 N3
  k_steps
  unfold stopped
  (rename _ < _ ∧ _ => hl1)
  obtain ⟨_, _, _, _, _, q1, q2, q3, q4⟩ := hl1
  refine list_rows (rest := [_, _, _, _]) P hWr rfl (fun p hp => N4 p (by rw [List.mem_singleton.mp hp]; exact List.mem_cons_self)) (fun p hp => Nat.ne_of_lt (lt_two (lt_two (lt_two (lt_two (lt_two (fun p hp => l4 p (.tail _ hp)))))) p hp)) F4 (news_two (news_two (news_two (news_two (news_two (news_tail (news_tail N4))))))) ?_ ?_
  · clear F4 N4 l4 F2 N2
    intro j hs tv us n2 u h tk own hrow hok hoff hI hlen hsort F N
    k_steps
    unfold stopped
    (rename Fr _ _ _ _ => F1); (rename News _ _ _ _ => N1)
    refine told_con (Site.of B1 F1 X1 T1 rfl) (by decide +kernel) (by decide +kernel) hok.hx hok.hw hok.hh hok.hr hok.hlen hPb hok.hq fun tt ht tkt kt => ?_
    have N2 := newsOn N1 kt
    have F2 := frOn F1 kt
    clear F1 N1
    k_steps
    unfold stopped
    (rename Fr _ _ _ _ => F3); (rename News _ _ _ _ => N3)
    refine insort_con B1 F3 X1 T1 rfl (by decide +kernel) (by decide +kernel) (fun p hp => N3 p (by rw [List.mem_singleton.mp hp]; exact List.mem_cons_self)) hI (by have := hI.length; omega) hsort fun h5 tk5 n5 us5 k5 e5 hI5 => ?_
    have F5 := fr_but1 F3 (fun p hp => N3 p (by rw [List.mem_singleton.mp hp]; exact List.mem_cons_self)) k5
    have N5 := news_but1 N3 (off4 q1 q2 q3 q4 hoff) k5 e5
    clear F3 N3
    k_steps
    unfold StopP
    refine inv_endL F5 N5 (by rw [insAll_take hrow]; exact hI5) (fun y a => by simp [a, rm]) rfl
  clear F4 N4 l4 F2 N2
  intro us n2 u h tk hIs hlens F N
  k_steps
  unfold stopped
  (rename Fr _ _ _ _ => F3); (rename News _ _ _ _ => N3); (rename _ < _ ∧ _ => hl2)
  obtain ⟨_, p1, p2, p3, p4⟩ := hl2
  refine range_choices P rfl (by assumption) F3 (news_no6 N3) (by assumption) (by assumption) ⟨Nat.ne_of_gt p1, Nat.ne_of_gt p2⟩ rfl (fun I v s Q E q => wpAny_pure q) ?_ ?_
  · clear F3 N3
    intro i t X cs nn oM oN vM vN h tk I oI hi hIc hcl hM hN hX hX2 F N
    k_steps
    · unfold StopP
      (rename Fr _ _ _ _ => F1); (rename News _ _ _ _ => N1)
      refine LCt.CompSrcT.ledger (by rfl) F1 N1 (by k_mem) (by rw [List.size_toArray, PySem.sizeLine_eq]; omega) ?_
      intro g'
      refine comp_listT IntV IntV (fun x : Int => decide (x.fdiv 10000 + (1 + (i : Int)) ≤ pM P)) (fun x : Int => x + (10000 * (1 + (i : Int)) + 100)) (All2.of_ints hIc) (fun k' hk' i' ys' v' I' oI' C' oC' D' m' h' tk' E' hv' hC' hx' F' N' off' ne' => ?_) (fun ys2 hA2 => ?_)
      · obtain ⟨tv', ev'⟩ := hv'; subst ev'
        clear F1 N1
        k_steps
        all_goals first | exact decide_eq_true (by assumption) | exact decide_eq_false (by assumption)
      have hI2 := hA2.ints
      have hy2 : ys2.length ≤ 100 := by
        rw [hA2.len, List.length_map]
        refine Nat.le_trans (List.length_filter_le _ _) ?_
        have := hIc.length
        omega
      clear F1 N1
      k_steps
      unfold stopped
      (rename Fr _ _ _ _ => F5); (rename News _ _ _ _ => N5)
      refine kmk_add_ints F5 N5 (by kmk_list) (by kmk_list) hIc hI2 (fun D us3 h7 F7 N7 l7 hI7 => ?_) (by rw [PySem.sizeLine_eq]; have := hIc.length; have := hI2.length; omega)
      clear F5 N5
      k_steps
      unfold StopP
      (rename Fr _ _ _ _ => F8); (rename News _ _ _ _ => N8)
      refine inv_endC F8 (news_pick N8) (by rw [chAt_lo (by assumption)]; exact hI7) (by assumption) (by assumption) ⟨Nat.ne_of_gt (l7 _ (.tail _ (.tail _ (.tail _ (.tail _ (.head _)))))), Nat.ne_of_gt (l7 _ (.tail _ (.tail _ (.tail _ (.tail _ (.tail _ (.head _))))))) ⟩ ⟨Nat.ne_of_gt (l7 _ (.tail _ (.head _))), hX2.2⟩ rfl (fun y a => by simp [a, cm]) rfl
    · contradiction
    · contradiction
    · unfold StopP
      (rename Fr _ _ _ _ => F1); (rename News _ _ _ _ => N1)
      refine LCt.CompSrcT.ledger (by rfl) F1 N1 (by k_mem) (by rw [List.size_toArray, PySem.sizeLine_eq]; omega) ?_
      intro g'
      refine comp_listT IntV IntV (fun x : Int => decide (x.fdiv 10000 + (1 + (i : Int)) ≤ pM P)) (fun x : Int => x + (10000 * (1 + (i : Int)) + 1)) (All2.of_ints hIc) (fun k' hk' i' ys' v' I' oI' C' oC' D' m' h' tk' E' hv' hC' hx' F' N' off' ne' => ?_) (fun ys2 hA2 => ?_)
      · obtain ⟨tv', ev'⟩ := hv'; subst ev'
        clear F1 N1
        k_steps
        all_goals first | exact decide_eq_true (by assumption) | exact decide_eq_false (by assumption)
      have hI2 := hA2.ints
      have hy2 : ys2.length ≤ 100 := by
        rw [hA2.len, List.length_map]
        refine Nat.le_trans (List.length_filter_le _ _) ?_
        have := hIc.length
        omega
      clear F1 N1
      k_steps
      unfold stopped
      (rename Fr _ _ _ _ => F5); (rename News _ _ _ _ => N5)
      refine kmk_add_ints F5 N5 (by kmk_list) (by kmk_list) hIc hI2 (fun D us3 h7 F7 N7 l7 hI7 => ?_) (by rw [PySem.sizeLine_eq]; have := hIc.length; have := hI2.length; omega)
      clear F5 N5
      k_steps
      unfold StopP
      (rename Fr _ _ _ _ => F8); (rename News _ _ _ _ => N8)
      refine inv_endC F8 (news_pick N8) (by rw [chAt_gr (by assumption) (by assumption)]; exact hI7) (by assumption) (by assumption) ⟨Nat.ne_of_gt (l7 _ (.tail _ (.tail _ (.tail _ (.tail _ (.head _)))))), Nat.ne_of_gt (l7 _ (.tail _ (.tail _ (.tail _ (.tail _ (.tail _ (.head _))))))) ⟩ ⟨Nat.ne_of_gt (l7 _ (.tail _ (.head _))), hX2.2⟩ rfl (fun y a => by simp [a, cm]) rfl
    · unfold StopP
      (rename Fr _ _ _ _ => F1); (rename News _ _ _ _ => N1)
      refine inv_endC F1 N1 (by rw [chAt_no (by assumption) (by assumption)]; exact hIc) hM (by assumption) hX hX2 rfl (fun y a => by simp [a, cm]) rfl
  clear F3 N3
  intro X cs nn oM oN h tk hIc hcl F N
  k_steps
  refine kso_sorted F N (by kmk_list) hIc (by have := P.chLen (Nat.le_refl _); omega) fun D vs' ns' c h' F2 N2 l2 hI' _ hp ho _ => ?_
  have e := sorted_eq P hp ho
  subst e
  clear F N
  k_steps
  )
end
end
end Mine

theorem PySem.Challenge.cw_wn0032_01_holds : PySem.Challenge.rw_wn0032_01.Holds := by
  exact Mine.t1
